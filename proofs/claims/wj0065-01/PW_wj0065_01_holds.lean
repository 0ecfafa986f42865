import PyProof.Rows.All
import Wide.All
import OpenK.AllK
import Wide.FinOn
import PySem.Challenge.RW_wj0065_01
open PySem PySem.W PySem.Calls PyProof.Rows
set_option Elab.async false
set_option maxRecDepth 100000
set_option linter.unusedVariables false
set_option linter.deprecated false
set_option linter.unusedSimpArgs false
set_option maxHeartbeats 8000000
set_option compiler.extract_closed false
namespace Mine
set_option hygiene false
local macro_rules | `(tactic| ktr_rel) => `(tactic| (with_reducible ((repeat (first | exact List.mem_cons_self | apply List.mem_cons_of_mem)); done)))
local macro_rules | `(tactic| tb_start) => `(tactic| (with_reducible ((repeat (first | exact Upd.hd | exact Rm.hd | apply Upd.tl | apply Rm.tl)); done)))
local macro_rules | `(tactic| tb_rel) => `(tactic| ((repeat (first | with_reducible exact Put.hd | with_reducible exact Put.nil | ((with_reducible apply Put.tl); (· decide)))); done))
local macro_rules | `(tactic| kts_caughtN) => `(tactic| ((repeat (first | with_reducible exact SubL.nil | ((with_reducible apply SubL.cons); (· ktr_rel)))); done))
local macro_rules | `(tactic| kwd_rel) => `(tactic| ((repeat (first | with_reducible exact Sel.refl | with_reducible exact Sel.nil | ((with_reducible apply Sel.cons); (· tb_start)) | with_reducible apply Sel.skip)); done))
local macro_rules | `(tactic| kwd_inv) => `(tactic| ((repeat (first | with_reducible exact Rms.nil | ((with_reducible apply Rms.cons); (· tb_start)))); done))
local macro_rules | `(tactic| ktr_room) => `(tactic| first | assumption | exact Room.le (by assumption) (by omega) | exact Room.deeper (by assumption) _ | exact Room.le (Room.deeper (by assumption) _) (by omega))
local macro_rules | `(tactic| kts_caught) => `(tactic| first
  | ((with_reducible show wpAny _ _ (eval _ _) _ _ _); first
      | ((with_reducible show wpAny _ _ (eval (Expr.Name _ _) _) _ _ _); first
        | refine x_loc (by assumption) (by ktr_rel) (by ktr_rel) ?_
        | refine x_cell (by assumption) (by rfl) (by ktr_rel) ?_
        | refine x_free (by assumption) (by rfl) (by ktr_rel) ?_
        | refine x_glob (by assumption) (by with_reducible first | exact g_and _ | exact g_lshift _ | exact g_mul _ | exact g_or _ | exact g_sub _ | exact g_ipow _ | exact g_Int2AP _ | exact g_Whitespace _ | exact g_EXACTTOKENTYPES _ | exact g_ISNONTERMINAL _ | exact g_ISEOF _ | exact g_lawdrawn _ | exact g_lawmasks _ | exact g_lawnumber _ | exact g_lawtogether _ | exact g_laworder _ | exact g_lawworths _ | exact g_lawtable _ | exact g_lawdiagonal _ | exact g_lawpaintings _ | exact g_NT _ | exact g_END _) ?_
        | refine x_bui (by assumption) (by kernel_rfl) (by with_reducible first | exact boot_sorted | exact boot_len | exact boot_ord | exact boot_range | exact boot_sum | exact boot_zip | exact boot_enumerate | exact boot_set | exact boot_tuple | exact boot_int | exact boot_abs | exact boot_divmod) (by decide) ?_)
      | ((with_reducible show wpAny _ _ (eval (Expr.Constant _ _ _) _) _ _ _); first
        | ((with_reducible refine x_int (by assumption) ?_); intro _ _ _)
        | ((with_reducible refine x_str (by assumption) ?_); intro _ _ _)
        | ((with_reducible refine x_cbytes (by assumption) ?_); intro _ _ _))
      | (((with_reducible show wpAny _ _ (eval (Expr.BinOp _ _ _ _) _) _ _ _)); refine wpAny_BinOp ?_)
      | (((with_reducible show wpAny _ _ (eval (Expr.Call (Expr.Name _ _) _ [] _) _) _ _ _)); refine x_callN ?_)
      | (((with_reducible show wpAny _ _ (eval (Expr.Call (Expr.Attribute _ (PySem.Str.ofString "append") _) [_] [] _) _) _ _ _)); refine x_app ?_)
      | (((with_reducible show wpAny _ _ (eval (Expr.Call (Expr.Attribute _ (PySem.Str.ofString "join") _) [_] [] _) _) _ _ _)); refine MethodCall_ ?_)
      | (((with_reducible show wpAny _ _ (eval (Expr.Subscript _ (Expr.Name _ _) _) _) _ _ _)); refine Subscript_ ?_)
      | (((with_reducible show wpAny _ _ (eval (Expr.Subscript _ (Expr.Constant _ _ _) _) _) _ _ _)); refine Subscript_ ?_)
      | (((with_reducible show wpAny _ _ (eval (Expr.Subscript _ (Expr.Call _ _ _ _) _) _) _ _ _)); refine Subscript_ ?_)
      | (((with_reducible show wpAny _ _ (eval (Expr.Subscript _ (Expr.BinOp _ _ _ _) _) _) _ _ _)); refine Subscript_ ?_)
      | (((with_reducible show wpAny _ _ (eval (Expr.Subscript _ (Expr.Subscript _ _ _) _) _) _ _ _)); refine Subscript_ ?_)
      | (((with_reducible show wpAny _ _ (eval (Expr.Attribute (Expr.Name _ _) _ _) _) _ _ _)); refine Attribute_name ?_)
      | (((with_reducible show wpAny _ _ (eval (Expr.List _ _) _) _ _ _)); with_reducible refine x_List ?_)
      | (((with_reducible show wpAny _ _ (eval (Expr.Tuple _ _ _) _) _ _ _)); with_reducible refine x_Tuple ?_)
      | (((with_reducible show wpAny _ _ (eval (Expr.ListComp _ _ _ _) _) _ _ _)); refine x_lc ?_)
      | (((with_reducible show wpAny _ _ (eval (Expr.DictComp _ _ _ _ _) _) _ _ _)); refine x_dc ?_)
      | (((with_reducible show wpAny _ _ (eval (Expr.IfExp _ (Expr.Constant (Const.int _) _ _) (Expr.Constant (Const.int _) _ _) _) _) _ _ _)); refine x_ifInt ?_)
      | (((with_reducible show wpAny _ _ (eval (Expr.IfExp _ _ _ _) _) _ _ _)); refine wpAny_IfExp ?_)
      | (((with_reducible show wpAny _ _ (eval (Expr.UnaryOp _ _ _) _) _ _ _)); refine wpAny_UnaryOp ?_)
      | (((with_reducible show wpAny _ _ (eval (Expr.Compare _ [_] [_] _) _) _ _ _)); refine wpAny_Compare1 ?_)
      )
  | ((with_reducible show wpAny _ _ (execs _ _) _ _ _); first
      | (((with_reducible show wpAny _ _ (execs (Stmt.Assign [Expr.Name _ _] (Expr.ListComp _ _ _ _) _ :: _) _) _ _ _)); refine x_clc ?_)
      | (((with_reducible show wpAny _ _ (execs (Stmt.Assign [Expr.Name _ _] (Expr.DictComp _ _ _ _ _) _ :: _) _) _ _ _)); refine x_cdc ?_)
      | (((with_reducible show wpAny _ _ (execs (Stmt.Assign [Expr.Name _ _] _ _ :: _) _) _ _ _)); refine x_assign ?_)
      | (((with_reducible show wpAny _ _ (execs (Stmt.AugAssign (Expr.Name _ _) _ _ _ :: _) _) _ _ _)); refine x_aug ?_)
      | (((with_reducible show wpAny _ _ (execs (Stmt.Return (some _) _ :: _) _) _ _ _)); refine x_return ?_)
      | (((with_reducible show wpAny _ _ (execs (Stmt.If _ _ _ _ :: _) _) _ _ _)); refine x_if ?_)
      | (((with_reducible show wpAny _ _ (execs (Stmt.Expr _ _ :: _) _) _ _ _)); refine x_expr ?_)
      | (((with_reducible show wpAny _ _ (execs (Stmt.For _ _ _ [] _ :: _) _) _ _ _)); refine x_for ?_)
      | (((with_reducible show wpAny _ _ (execs (Stmt.While _ _ [] _ :: _) _) _ _ _)); refine x_while ?_)
      | (((with_reducible show wpAny _ _ (execs (Stmt.Assign [Expr.Tuple _ _ _] _ _ :: _) _) _ _ _)); refine x_assignTup ?_)
      | (((with_reducible show wpAny _ _ (execs (Stmt.Assign [Expr.Subscript _ _ _] _ _ :: _) _) _ _ _)); refine x_assignSub ?_)
      | (((with_reducible show wpAny _ _ (execs (Stmt.AugAssign (Expr.Subscript _ _ _) _ _ _ :: _) _) _ _ _)); refine x_augSub ?_)
      | (((with_reducible show wpAny _ _ (execs (Stmt.Assign [Expr.Attribute _ _ _] _ _ :: _) _) _ _ _)); refine x_assignAt ?_)
      | (((with_reducible show wpAny _ _ (execs (Stmt.Assign [Expr.Name _ _, Expr.Name _ _, Expr.Name _ _] _ _ :: _) _) _ _ _)); refine x_assign3 ?_)
      | (with_reducible refine x_brk ?_)
      | (with_reducible refine x_nilK ?_)
      | (with_reducible refine x_nil ?_)
      )
  | (((with_reducible show wpAny _ _ (storeName _ _ _) _ _ _)); first | (refine x_store (by assumption) (by tb_start) (by tb_rel) ?_; intro _ _) | (refine x_storeC (by assumption) (by rfl) (by tb_start) ?_; intro _ _))
  | (((with_reducible show wpAny _ _ (spliced (backTo _ (starEach [] _))) _ _ _)); with_reducible refine wpAny_items_nil ?_)
  | (((with_reducible show wpAny _ _ (spliced (backTo _ (starEach (_ :: _) _))) _ _ _)); with_reducible refine wpAny_items_cons ?_ (by with_unfolding_all rfl))
  | ((with_reducible show wpAny _ _ (callWith _ _ [] _ []) _ _ _); first
      | (((with_reducible show wpAny _ _ (callWith _ (Value.ref _) [] _ []) _ _ _)); refine x_callD (by assumption) (by kernel_rfl) ?_)
      | (((with_reducible show wpAny _ _ (callWith _ (Value.builtin _) [] _ []) _ _ _)); refine x_callB ?_)
      | (((with_reducible show wpAny _ _ (callWith _ (Value.type _) [] _ []) _ _ _)); refine x_callT ?_))
  | ((with_reducible show wpAny _ _ (binaryOp _ (Value.int _ _) (Value.int _ _)) _ _ _); first
      | (((with_reducible show wpAny _ _ (binaryOp Operator.Add _ _) _ _ _)); (refine x_add (by assumption) ?_; intro _ _ _))
      | (((with_reducible show wpAny _ _ (binaryOp Operator.Sub _ _) _ _ _)); (refine x_sub (by assumption) ?_; intro _ _ _))
      | (((with_reducible show wpAny _ _ (binaryOp Operator.Mod _ _) _ _ _)); (refine x_mod (by assumption) (by decide) ?_; intro _ _ _)))
  | ((with_reducible show wpAny _ _ (compareOp _ (Value.int _ _) (Value.int _ _)) _ _ _); first
      | (((with_reducible show wpAny _ _ (compareOp CmpOp.Eq _ _) _ _ _)); refine eq_int ?_)
      | (((with_reducible show wpAny _ _ (compareOp CmpOp.NotEq _ _) _ _ _)); refine ne_int ?_)
      | (((with_reducible show wpAny _ _ (compareOp CmpOp.Lt _ _) _ _ _)); refine lt_int ?_)
      | (((with_reducible show wpAny _ _ (compareOp CmpOp.GtE _ _) _ _ _)); refine ge_int ?_)
      | (((with_reducible show wpAny _ _ (compareOp CmpOp.LtE _ _) _ _ _)); refine le_int ?_))
  | ((with_reducible show wpAny _ _ (isTrue _ _ _) _ _ _); first
      | (((with_reducible show wpAny _ _ (isTrue (Expr.Compare _ [_] [_] _) _ _) _ _ _)); refine wpAny_isTrue_Compare1 ?_)
      | (((with_reducible show wpAny _ _ (isTrue (Expr.BoolOp BoolOp.Or (_ :: _) _) _ _) _ _ _)); refine isTrue_or ?_)
      | (((with_reducible show wpAny _ _ (isTrue (Expr.BoolOp BoolOp.Or [] _) _ _) _ _ _)); refine isTrue_or_nil ?_)
      | (((with_reducible show wpAny _ _ (isTrue (Expr.BoolOp BoolOp.And (_ :: _) _) _ _) _ _ _)); refine isTrue_and ?_)
      | (((with_reducible show wpAny _ _ (isTrue (Expr.BoolOp BoolOp.And [] _) _ _) _ _ _)); refine isTrue_and_nil ?_)
      | refine wpAny_isTrue_value ?_)
  | (((with_reducible show wpAny _ _ (truthy (Value.bool _)) _ _ _)); refine wpAny_truthy_bool ?_)
  | (((with_reducible show wpAny _ _ (truthy (Value.int _ _)) _ _ _)); refine truthy_int ?_)
  | (((with_reducible show wpAny _ _ (loadName _ _) _ _ _)); refine x_locN (by assumption) (by ktr_rel) (by ktr_rel) ?_)
  | (((with_reducible show wpAny _ _ (assign (Expr.Name _ _) _ _) _ _ _)); refine x_assignN ?_)
  | (((with_reducible show wpAny _ _ (letOwnedTupleGo (Expr.Name _ _) _ _) _ _ _)); refine x_letgoN ?_)
  | (with_reducible refine x_fR ?_)
  | (with_reducible refine x_bKn ?_)
  | (with_reducible refine x_cRa ?_)
  | (with_reducible refine x_cRv ?_)
  | ((with_reducible show (Wf _ _ ∧ wpAny _ _ (call (Value.ref 56) _) _ _ _)); (refine c_sub (by ktr_room) (by assumption) ?_; intro _ _ _))
  | ((with_reducible show wpAny _ _ (newList []) _ _ _); ((with_reducible refine x_newList (by assumption) (Nat.zero_le _) ?_); intro _ _ _))
  | ((with_reducible show wpAny _ _ (newList (_ :: _)) _ _ _); ((with_reducible refine x_newList (by assumption) (by simp only [List.length_cons, List.length_nil]; rw [sizeLine_eq]; decide) ?_); intro _ _ _))
  | ((with_reducible show wpAny _ _ (newTuple (_ :: _)) _ _ _); ((with_reducible refine x_newTuple (by assumption) (by simp only [List.length_cons, List.length_nil]; rw [sizeLine_eq]; decide) ?_); intro _ _ _))
  | ((with_reducible show ∃ _ _, Value.ref _ = Value.ref _ ∧ Heap.PlainList _ _ _ ∧ _); refine ⟨_, _, rfl, Cx.plain (by assumption) (by ktr_rel), ?_⟩)
  | ((with_reducible show (Value.none = Value.none ∧ _)); refine ⟨rfl, ?_⟩)
  | ((with_reducible show (Wf _ _ ∧ wpAny _ _ (call (Value.ref 28) _) _ _ _)); (refine c_and (by ktr_room) (by assumption) ?_; intro _ _ _))
  | ((with_reducible show (Wf _ _ ∧ wpAny _ _ (call (Value.ref 49) _) _ _ _)); (refine c_or (by ktr_room) (by assumption) ?_; intro _ _ _))
  | (((with_reducible show wpAny _ _ (call (Value.type "int") [Value.int _ _]) _ _ _)); refine call_int_int ?_)
  | ((with_reducible show (Wf _ _ ∧ wpAny _ _ (call (Value.ref 146) _) _ _ _)); (refine c_isnt (by ktr_room) (by assumption) ?_; intro _ _))
  | ((with_reducible show (Wf _ _ ∧ wpAny _ _ (call (Value.ref 153) _) _ _ _)); (refine c_iseof (by ktr_room) (by assumption) ?_; intro _ _))
  | (((with_reducible show wpAny _ _ (compareOp CmpOp.Eq (Value.str _ _) (Value.str _ _)) _ _ _)); refine x_eqS ?_)
  | ((with_reducible show if false = true then _ else _); refine (if_neg (by decide)).mpr ?_)
  | (((with_reducible show wpAny _ _ (evalPart none _) _ _ _)); refine wpAny_evalPart_none ?_)
  | (((with_reducible show wpAny _ _ (evalPart (some _) _) _ _ _)); refine wpAny_evalPart_some ?_)
  | (((with_reducible show wpAny _ _ (assignInOrder (List.map _ (assignEach [Expr.Name _ _, Expr.Name _ _] _)) [_, _]) _ _ _)); refine x_two ?_)
  | ((with_reducible show ∃ _ _ _ _, Cx _ _ _ ((_, rLoc _) :: _) _ ∧ _); (refine ⟨_, _, _, _, by assumption, ?_⟩; intro _ _))
  | (((with_reducible show wpAny _ _ (getMethod (Value.str _ _) (PySem.Str.ofString "join") _) _ _ _)); refine PySem.GM.join ?_)
  | (((with_reducible show wpAny _ _ (callWith _ (Value.builtin _) [_] _ []) _ _ _)); refine callWith_method1 ?_)
  | (((with_reducible show wpAny _ _ (tests _ []) _ _ _)); refine x_tests0 ?_)
  | (((with_reducible show wpAny _ _ (tests _ [_]) _ _ _)); refine x_tests1 ?_)
  | ((with_reducible show if true = true then _ else _); refine (if_pos rfl).mpr ?_)
  | (((with_reducible show wpAny _ _ (inplaceOp Operator.Add (Value.int _ _) (Value.int _ _)) _ _ _)); (refine x_iadd (by assumption) ?_; intro _ _ _)))
set_option hygiene true
section
noncomputable def hd.cls (l : List Stmt) : List Stmt := match (l[11]? : Option Stmt) with
  | some (.ClassDef _ _ _ b _ _ _ _ _ _ _) => b
  | _ => []
@[reducible] noncomputable def hd.fn {i : Nat} {n : Str} {ps : Arguments} {b : List Stmt} {dl : List PySem.Expr} {rt : Option PySem.Expr} {tp : List TypeParam} {sc : Scope} {ts : Option Scope} {bd : Str} {po : Pos} (_ : PySem.Challenge.pw_wj0065_01.main.body[i]? = some (Stmt.FunctionDef n ps b dl rt tp sc ts bd po))
    (qn : Str) (g : Addr) (cl : List (Str × Addr)) (dv kv dc pm : Value) (an : Option Addr) (cd ct : Value) (bl : Addr) : FuncData :=
  { name := n, qualname := qn, params := ps, body := .stmts b, scope := sc, globals := g, closure := cl, defaults := dv, kwdefaults := kv, doc := dc, pyModule := pm, annotations := an, code := cd, closureTuple := ct, builtins := bl }
@[reducible] noncomputable def hd.mt {i : Nat} {n : Str} {ps : Arguments} {b : List Stmt} {dl : List PySem.Expr} {rt : Option PySem.Expr} {tp : List TypeParam} {sc : Scope} {ts : Option Scope} {bd : Str} {po : Pos} (_ : (hd.cls PySem.Challenge.pw_wj0065_01.main.body)[i]? = some (Stmt.FunctionDef n ps b dl rt tp sc ts bd po))
    (qn : Str) (g : Addr) (cl : List (Str × Addr)) (dv kv dc pm : Value) (an : Option Addr) (cd ct : Value) (bl : Addr) : FuncData :=
  { name := n, qualname := qn, params := ps, body := .stmts b, scope := sc, globals := g, closure := cl, defaults := dv, kwdefaults := kv, doc := dc, pyModule := pm, annotations := an, code := cd, closureTuple := ct, builtins := bl }
noncomputable def hd.o11 (P : Params) : Obj := { cls := Value.type "tuple", data := Data.seq #[] }
noncomputable def hd.o13 (P : Params) : Obj := { cls := Value.type "code", data := Data.fields #[Value.str (Str.ofString "<module>") 182, Value.str (Str.ofString "<module>") 183, Value.str (Str.ofString "/claim/cut.py") 184, Value.int 1 0, Value.int 0 0, Value.int 0 0, Value.int 0 0, Value.int 0 0, Value.ref 11, Value.bool false, Value.int 181 0, Value.ref 12, Value.none, Value.none, Value.none, Value.none, Value.int 185 0, Value.int 1 0, Value.str (Str.ofString "/claim/cut.py") 186] }
noncomputable def hd.o14 (P : Params) : Obj := { cls := Value.type "frame", slots := #[some (Value.ref 13), some (Value.ref 3), some (Value.ref 3), none, some (Value.str (Str.ofString "__main__") 164), none, some (Value.ref 0)] }
noncomputable def hd.o15 (P : Params) : Obj := { cls := Value.type "tuple", data := Data.seq #[] }
noncomputable def hd.o16 (P : Params) : Obj := { cls := Value.none, data := Data.fields #[] }
noncomputable def hd.o17 (P : Params) : Obj := { cls := Value.type "tuple", data := Data.seq #[Value.str (Str.ofString "k") 190] }
noncomputable def hd.o18 (P : Params) : Obj := { cls := Value.type "tuple", data := Data.seq #[] }
noncomputable def hd.o19 (P : Params) : Obj := { cls := Value.none, dict := none, data := Data.func (hd.fn (i := 0) rfl (Str.ofString "_wall") 0 [] (Value.none) (Value.none) (Value.none) (Value.none) (none) (Value.none) (Value.none) 0), slots := #[] }
noncomputable def hd.o20 (P : Params) : Obj := { cls := Value.type "code", data := Data.fields #[Value.str (Str.ofString "_wall") 187, Value.str (Str.ofString "_wall") 188, Value.str (Str.ofString "/claim/cut.py") 189, Value.int 1 0, Value.int 1 0, Value.int 0 0, Value.int 0 0, Value.int 3 0, Value.ref 15, Value.bool true, Value.int 181 0, Value.ref 16, Value.none, Value.ref 17, Value.ref 18, Value.ref 19, Value.int 191 0, Value.int 1 0, Value.str (Str.ofString "/claim/cut.py") 192] }
noncomputable def hd.o21 (P : Params) : Obj := { cls := Value.type "function", dict := none, data := Data.func (hd.fn (i := 0) rfl (Str.ofString "_wall") 3 [] (Value.none) (Value.none) (Value.none) (Value.str (Str.ofString "__main__") 164) (none) (Value.ref 20) (Value.none) 0), slots := #[] }
noncomputable def hd.o22 (P : Params) : Obj := { cls := Value.type "tuple", data := Data.seq #[] }
noncomputable def hd.o23 (P : Params) : Obj := { cls := Value.none, data := Data.fields #[] }
noncomputable def hd.o24 (P : Params) : Obj := { cls := Value.type "tuple", data := Data.seq #[Value.str (Str.ofString "a") 199, Value.str (Str.ofString "b") 200] }
noncomputable def hd.o25 (P : Params) : Obj := { cls := Value.type "tuple", data := Data.seq #[] }
noncomputable def hd.o26 (P : Params) : Obj := { cls := Value.none, dict := none, data := Data.func (hd.fn (i := 2) rfl (Str.ofString "and_") 0 [] (Value.none) (Value.none) (Value.none) (Value.none) (none) (Value.none) (Value.none) 0), slots := #[] }
noncomputable def hd.o27 (P : Params) : Obj := { cls := Value.type "code", data := Data.fields #[Value.str (Str.ofString "and_") 196, Value.str (Str.ofString "and_") 197, Value.str (Str.ofString "/claim/cut.py") 198, Value.int 5 0, Value.int 2 0, Value.int 0 0, Value.int 0 0, Value.int 3 0, Value.ref 22, Value.bool true, Value.int 181 0, Value.ref 23, Value.none, Value.ref 24, Value.ref 25, Value.ref 26, Value.int 201 0, Value.int 5 0, Value.str (Str.ofString "/claim/cut.py") 202] }
noncomputable def hd.o28 (P : Params) : Obj := { cls := Value.type "function", dict := none, data := Data.func (hd.fn (i := 2) rfl (Str.ofString "and_") 3 [] (Value.none) (Value.none) (Value.none) (Value.str (Str.ofString "cpy313.operator") 194) (none) (Value.ref 27) (Value.none) 0), slots := #[] }
noncomputable def hd.o29 (P : Params) : Obj := { cls := Value.type "tuple", data := Data.seq #[] }
noncomputable def hd.o30 (P : Params) : Obj := { cls := Value.none, data := Data.fields #[] }
noncomputable def hd.o31 (P : Params) : Obj := { cls := Value.type "tuple", data := Data.seq #[Value.str (Str.ofString "a") 207, Value.str (Str.ofString "b") 208] }
noncomputable def hd.o32 (P : Params) : Obj := { cls := Value.type "tuple", data := Data.seq #[] }
noncomputable def hd.o33 (P : Params) : Obj := { cls := Value.none, dict := none, data := Data.func (hd.fn (i := 3) rfl (Str.ofString "lshift") 0 [] (Value.none) (Value.none) (Value.none) (Value.none) (none) (Value.none) (Value.none) 0), slots := #[] }
noncomputable def hd.o34 (P : Params) : Obj := { cls := Value.type "code", data := Data.fields #[Value.str (Str.ofString "lshift") 204, Value.str (Str.ofString "lshift") 205, Value.str (Str.ofString "/claim/cut.py") 206, Value.int 7 0, Value.int 2 0, Value.int 0 0, Value.int 0 0, Value.int 3 0, Value.ref 29, Value.bool true, Value.int 181 0, Value.ref 30, Value.none, Value.ref 31, Value.ref 32, Value.ref 33, Value.int 209 0, Value.int 7 0, Value.str (Str.ofString "/claim/cut.py") 210] }
noncomputable def hd.o35 (P : Params) : Obj := { cls := Value.type "function", dict := none, data := Data.func (hd.fn (i := 3) rfl (Str.ofString "lshift") 3 [] (Value.none) (Value.none) (Value.none) (Value.str (Str.ofString "cpy313.operator") 194) (none) (Value.ref 34) (Value.none) 0), slots := #[] }
noncomputable def hd.o36 (P : Params) : Obj := { cls := Value.type "tuple", data := Data.seq #[] }
noncomputable def hd.o37 (P : Params) : Obj := { cls := Value.none, data := Data.fields #[] }
noncomputable def hd.o38 (P : Params) : Obj := { cls := Value.type "tuple", data := Data.seq #[Value.str (Str.ofString "a") 215, Value.str (Str.ofString "b") 216] }
noncomputable def hd.o39 (P : Params) : Obj := { cls := Value.type "tuple", data := Data.seq #[] }
noncomputable def hd.o40 (P : Params) : Obj := { cls := Value.none, dict := none, data := Data.func (hd.fn (i := 4) rfl (Str.ofString "mul") 0 [] (Value.none) (Value.none) (Value.none) (Value.none) (none) (Value.none) (Value.none) 0), slots := #[] }
noncomputable def hd.o41 (P : Params) : Obj := { cls := Value.type "code", data := Data.fields #[Value.str (Str.ofString "mul") 212, Value.str (Str.ofString "mul") 213, Value.str (Str.ofString "/claim/cut.py") 214, Value.int 9 0, Value.int 2 0, Value.int 0 0, Value.int 0 0, Value.int 3 0, Value.ref 36, Value.bool true, Value.int 181 0, Value.ref 37, Value.none, Value.ref 38, Value.ref 39, Value.ref 40, Value.int 217 0, Value.int 9 0, Value.str (Str.ofString "/claim/cut.py") 218] }
noncomputable def hd.o42 (P : Params) : Obj := { cls := Value.type "function", dict := none, data := Data.func (hd.fn (i := 4) rfl (Str.ofString "mul") 3 [] (Value.none) (Value.none) (Value.none) (Value.str (Str.ofString "cpy313.operator") 194) (none) (Value.ref 41) (Value.none) 0), slots := #[] }
noncomputable def hd.o43 (P : Params) : Obj := { cls := Value.type "tuple", data := Data.seq #[] }
noncomputable def hd.o44 (P : Params) : Obj := { cls := Value.none, data := Data.fields #[] }
noncomputable def hd.o45 (P : Params) : Obj := { cls := Value.type "tuple", data := Data.seq #[Value.str (Str.ofString "a") 223, Value.str (Str.ofString "b") 224] }
noncomputable def hd.o46 (P : Params) : Obj := { cls := Value.type "tuple", data := Data.seq #[] }
noncomputable def hd.o47 (P : Params) : Obj := { cls := Value.none, dict := none, data := Data.func (hd.fn (i := 5) rfl (Str.ofString "or_") 0 [] (Value.none) (Value.none) (Value.none) (Value.none) (none) (Value.none) (Value.none) 0), slots := #[] }
noncomputable def hd.o48 (P : Params) : Obj := { cls := Value.type "code", data := Data.fields #[Value.str (Str.ofString "or_") 220, Value.str (Str.ofString "or_") 221, Value.str (Str.ofString "/claim/cut.py") 222, Value.int 11 0, Value.int 2 0, Value.int 0 0, Value.int 0 0, Value.int 3 0, Value.ref 43, Value.bool true, Value.int 181 0, Value.ref 44, Value.none, Value.ref 45, Value.ref 46, Value.ref 47, Value.int 225 0, Value.int 11 0, Value.str (Str.ofString "/claim/cut.py") 226] }
noncomputable def hd.o49 (P : Params) : Obj := { cls := Value.type "function", dict := none, data := Data.func (hd.fn (i := 5) rfl (Str.ofString "or_") 3 [] (Value.none) (Value.none) (Value.none) (Value.str (Str.ofString "cpy313.operator") 194) (none) (Value.ref 48) (Value.none) 0), slots := #[] }
noncomputable def hd.o50 (P : Params) : Obj := { cls := Value.type "tuple", data := Data.seq #[] }
noncomputable def hd.o51 (P : Params) : Obj := { cls := Value.none, data := Data.fields #[] }
noncomputable def hd.o52 (P : Params) : Obj := { cls := Value.type "tuple", data := Data.seq #[Value.str (Str.ofString "a") 231, Value.str (Str.ofString "b") 232] }
noncomputable def hd.o53 (P : Params) : Obj := { cls := Value.type "tuple", data := Data.seq #[] }
noncomputable def hd.o54 (P : Params) : Obj := { cls := Value.none, dict := none, data := Data.func (hd.fn (i := 6) rfl (Str.ofString "sub") 0 [] (Value.none) (Value.none) (Value.none) (Value.none) (none) (Value.none) (Value.none) 0), slots := #[] }
noncomputable def hd.o55 (P : Params) : Obj := { cls := Value.type "code", data := Data.fields #[Value.str (Str.ofString "sub") 228, Value.str (Str.ofString "sub") 229, Value.str (Str.ofString "/claim/cut.py") 230, Value.int 13 0, Value.int 2 0, Value.int 0 0, Value.int 0 0, Value.int 3 0, Value.ref 50, Value.bool true, Value.int 181 0, Value.ref 51, Value.none, Value.ref 52, Value.ref 53, Value.ref 54, Value.int 233 0, Value.int 13 0, Value.str (Str.ofString "/claim/cut.py") 234] }
noncomputable def hd.o56 (P : Params) : Obj := { cls := Value.type "function", dict := none, data := Data.func (hd.fn (i := 6) rfl (Str.ofString "sub") 3 [] (Value.none) (Value.none) (Value.none) (Value.str (Str.ofString "cpy313.operator") 194) (none) (Value.ref 55) (Value.none) 0), slots := #[] }
noncomputable def hd.o57 (P : Params) : Obj := { cls := Value.type "tuple", data := Data.seq #[] }
noncomputable def hd.o58 (P : Params) : Obj := { cls := Value.none, data := Data.fields #[] }
noncomputable def hd.o59 (P : Params) : Obj := { cls := Value.type "tuple", data := Data.seq #[Value.str (Str.ofString "a") 239, Value.str (Str.ofString "b") 240] }
noncomputable def hd.o60 (P : Params) : Obj := { cls := Value.type "tuple", data := Data.seq #[] }
noncomputable def hd.o61 (P : Params) : Obj := { cls := Value.none, dict := none, data := Data.func (hd.fn (i := 7) rfl (Str.ofString "ipow") 0 [] (Value.none) (Value.none) (Value.none) (Value.none) (none) (Value.none) (Value.none) 0), slots := #[] }
noncomputable def hd.o62 (P : Params) : Obj := { cls := Value.type "code", data := Data.fields #[Value.str (Str.ofString "ipow") 236, Value.str (Str.ofString "ipow") 237, Value.str (Str.ofString "/claim/cut.py") 238, Value.int 15 0, Value.int 2 0, Value.int 0 0, Value.int 0 0, Value.int 3 0, Value.ref 57, Value.bool true, Value.int 181 0, Value.ref 58, Value.none, Value.ref 59, Value.ref 60, Value.ref 61, Value.int 241 0, Value.int 15 0, Value.str (Str.ofString "/claim/cut.py") 242] }
noncomputable def hd.o63 (P : Params) : Obj := { cls := Value.type "function", dict := none, data := Data.func (hd.fn (i := 7) rfl (Str.ofString "ipow") 3 [] (Value.none) (Value.none) (Value.none) (Value.str (Str.ofString "cpy313.operator") 194) (none) (Value.ref 62) (Value.none) 0), slots := #[] }
noncomputable def hd.o64 (P : Params) : Obj := { cls := Value.type "tuple", data := Data.seq #[] }
noncomputable def hd.o65 (P : Params) : Obj := { cls := Value.none, data := Data.fields #[] }
noncomputable def hd.o66 (P : Params) : Obj := { cls := Value.type "tuple", data := Data.seq #[Value.str (Str.ofString "num") 249, Value.str (Str.ofString "val") 250, Value.str (Str.ofString "AP") 251, Value.str (Str.ofString "mod") 252] }
noncomputable def hd.o67 (P : Params) : Obj := { cls := Value.type "tuple", data := Data.seq #[] }
noncomputable def hd.o68 (P : Params) : Obj := { cls := Value.none, dict := none, data := Data.func (hd.fn (i := 9) rfl (Str.ofString "Int2AP") 0 [] (Value.none) (Value.none) (Value.none) (Value.none) (none) (Value.none) (Value.none) 0), slots := #[] }
noncomputable def hd.o69 (P : Params) : Obj := { cls := Value.type "code", data := Data.fields #[Value.str (Str.ofString "Int2AP") 246, Value.str (Str.ofString "Int2AP") 247, Value.str (Str.ofString "/claim/cut.py") 248, Value.int 19 0, Value.int 1 0, Value.int 0 0, Value.int 0 0, Value.int 3 0, Value.ref 64, Value.bool true, Value.int 181 0, Value.ref 65, Value.none, Value.ref 66, Value.ref 67, Value.ref 68, Value.int 253 0, Value.int 19 0, Value.str (Str.ofString "/claim/cut.py") 254] }
noncomputable def hd.o70 (P : Params) : Obj := { cls := Value.type "function", dict := none, data := Data.func (hd.fn (i := 9) rfl (Str.ofString "Int2AP") 3 [] (Value.none) (Value.none) (Value.none) (Value.str (Str.ofString "cpy313.imaplib") 244) (none) (Value.ref 69) (Value.none) 0), slots := #[] }
noncomputable def hd.o71 (P : Params) : Obj := { cls := Value.type "tuple", data := Data.seq #[] }
noncomputable def hd.o72 (P : Params) : Obj := { cls := Value.type "builtin_function_or_method", data := Data.fields #[Value.builtin "type.__prepare__", Value.type "type"] }
noncomputable def hd.o73 (P : Params) : Obj := { cls := Value.type "dict", data := Data.dict #[{ hash := PyData.keyHash P (Str.ofString "__module__"), key := Value.str (Str.ofString "__module__") 265, val := Value.str (Str.ofString "cpy313.tabnanny") 256 }, { hash := PyData.keyHash P (Str.ofString "__qualname__"), key := Value.str (Str.ofString "__qualname__") 267, val := Value.str (Str.ofString "Whitespace") 266 }, { hash := PyData.keyHash P (Str.ofString "__firstlineno__"), key := Value.str (Str.ofString "__firstlineno__") 269, val := Value.int 28 268 }, { hash := PyData.keyHash P (Str.ofString "S"), key := Value.str (Str.ofString "S") 273, val := Value.str (Str.ofString " ") 271 }, { hash := PyData.keyHash P (Str.ofString "T"), key := Value.str (Str.ofString "T") 274, val := Value.str (Str.ofString "\t") 272 }, { hash := PyData.keyHash P (Str.ofString "__init__"), key := Value.str (Str.ofString "__init__") 289, val := Value.ref 87 }, { hash := PyData.keyHash P (Str.ofString "longest_run_of_spaces"), key := Value.str (Str.ofString "longest_run_of_spaces") 296, val := Value.ref 94 }, { hash := PyData.keyHash P (Str.ofString "indent_level"), key := Value.str (Str.ofString "indent_level") 304, val := Value.ref 101 }, { hash := PyData.keyHash P (Str.ofString "equal"), key := Value.str (Str.ofString "equal") 312, val := Value.ref 108 }, { hash := PyData.keyHash P (Str.ofString "not_equal_witness"), key := Value.str (Str.ofString "not_equal_witness") 320, val := Value.ref 115 }, { hash := PyData.keyHash P (Str.ofString "less"), key := Value.str (Str.ofString "less") 328, val := Value.ref 122 }, { hash := PyData.keyHash P (Str.ofString "not_less_witness"), key := Value.str (Str.ofString "not_less_witness") 336, val := Value.ref 129 }, { hash := PyData.keyHash P (Str.ofString "__static_attributes__"), key := Value.str (Str.ofString "__static_attributes__") 342, val := Value.ref 130 }] 13 }
noncomputable def hd.o74 (P : Params) : Obj := { cls := Value.type "tuple", data := Data.seq #[] }
noncomputable def hd.o75 (P : Params) : Obj := { cls := Value.none, data := Data.fields #[Value.int 31 0, Value.int 4 0, Value.ref 86, Value.int 54 0, Value.int 4 0, Value.ref 93, Value.int 57 0, Value.int 4 0, Value.ref 100, Value.int 60 0, Value.int 4 0, Value.ref 107, Value.int 63 0, Value.int 4 0, Value.ref 114, Value.int 66 0, Value.int 4 0, Value.ref 121, Value.int 69 0, Value.int 4 0, Value.ref 128] }
noncomputable def hd.o76 (P : Params) : Obj := { cls := Value.type "code", data := Data.fields #[Value.str (Str.ofString "Whitespace") 260, Value.str (Str.ofString "Whitespace") 261, Value.str (Str.ofString "/claim/cut.py") 262, Value.int 28 0, Value.int 0 0, Value.int 0 0, Value.int 0 0, Value.int 0 0, Value.ref 74, Value.bool false, Value.int 181 0, Value.ref 75, Value.none, Value.none, Value.none, Value.none, Value.int 263 0, Value.int 28 0, Value.str (Str.ofString "/claim/cut.py") 264] }
noncomputable def hd.o77 (P : Params) : Obj := { cls := Value.type "frame", slots := #[some (Value.ref 76), some (Value.ref 3), some (Value.ref 73), none, some (Value.str (Str.ofString "cpy313.tabnanny") 256), none, some (Value.ref 0)] }
noncomputable def hd.o78 (P : Params) : Obj := { cls := Value.type "str_ascii_iterator", data := Data.fields #[Value.none, Value.int 2 0] }
noncomputable def hd.o79 (P : Params) : Obj := { cls := Value.type "tuple", data := Data.seq #[] }
noncomputable def hd.o80 (P : Params) : Obj := { cls := Value.type "StopIteration", data := Data.fields #[Value.ref 79, Value.none, Value.none, Value.none, Value.bool false, Value.none] }
noncomputable def hd.o81 (P : Params) : Obj := { cls := Value.type "tuple", data := Data.seq #[] }
noncomputable def hd.o82 (P : Params) : Obj := { cls := Value.none, data := Data.fields #[] }
noncomputable def hd.o83 (P : Params) : Obj := { cls := Value.type "tuple", data := Data.seq #[Value.str (Str.ofString "self") 278, Value.str (Str.ofString "ws") 279, Value.str (Str.ofString "S") 280, Value.str (Str.ofString "T") 281, Value.str (Str.ofString "count") 282, Value.str (Str.ofString "b") 283, Value.str (Str.ofString "n") 284, Value.str (Str.ofString "nt") 285, Value.str (Str.ofString "ch") 286] }
noncomputable def hd.o84 (P : Params) : Obj := { cls := Value.type "tuple", data := Data.seq #[] }
noncomputable def hd.o85 (P : Params) : Obj := { cls := Value.none, dict := none, data := Data.func (hd.mt (i := 1) rfl (Str.ofString "Whitespace.__init__") 0 [] (Value.none) (Value.none) (Value.none) (Value.none) (none) (Value.none) (Value.none) 0), slots := #[] }
noncomputable def hd.o86 (P : Params) : Obj := { cls := Value.type "code", data := Data.fields #[Value.str (Str.ofString "__init__") 275, Value.str (Str.ofString "Whitespace.__init__") 276, Value.str (Str.ofString "/claim/cut.py") 277, Value.int 31 0, Value.int 2 0, Value.int 0 0, Value.int 0 0, Value.int 3 0, Value.ref 81, Value.bool true, Value.int 181 0, Value.ref 82, Value.none, Value.ref 83, Value.ref 84, Value.ref 85, Value.int 287 0, Value.int 31 0, Value.str (Str.ofString "/claim/cut.py") 288] }
noncomputable def hd.o87 (P : Params) : Obj := { cls := Value.type "function", dict := none, data := Data.func (hd.mt (i := 1) rfl (Str.ofString "Whitespace.__init__") 3 [] (Value.none) (Value.none) (Value.none) (Value.str (Str.ofString "cpy313.tabnanny") 256) (none) (Value.ref 86) (Value.none) 0), slots := #[] }
noncomputable def hd.o88 (P : Params) : Obj := { cls := Value.type "tuple", data := Data.seq #[] }
noncomputable def hd.o89 (P : Params) : Obj := { cls := Value.none, data := Data.fields #[] }
noncomputable def hd.o90 (P : Params) : Obj := { cls := Value.type "tuple", data := Data.seq #[Value.str (Str.ofString "self") 293] }
noncomputable def hd.o91 (P : Params) : Obj := { cls := Value.type "tuple", data := Data.seq #[] }
noncomputable def hd.o92 (P : Params) : Obj := { cls := Value.none, dict := none, data := Data.func (hd.mt (i := 2) rfl (Str.ofString "Whitespace.longest_run_of_spaces") 0 [] (Value.none) (Value.none) (Value.none) (Value.none) (none) (Value.none) (Value.none) 0), slots := #[] }
noncomputable def hd.o93 (P : Params) : Obj := { cls := Value.type "code", data := Data.fields #[Value.str (Str.ofString "longest_run_of_spaces") 290, Value.str (Str.ofString "Whitespace.longest_run_of_spaces") 291, Value.str (Str.ofString "/claim/cut.py") 292, Value.int 54 0, Value.int 1 0, Value.int 0 0, Value.int 0 0, Value.int 3 0, Value.ref 88, Value.bool true, Value.int 181 0, Value.ref 89, Value.none, Value.ref 90, Value.ref 91, Value.ref 92, Value.int 294 0, Value.int 54 0, Value.str (Str.ofString "/claim/cut.py") 295] }
noncomputable def hd.o94 (P : Params) : Obj := { cls := Value.type "function", dict := none, data := Data.func (hd.mt (i := 2) rfl (Str.ofString "Whitespace.longest_run_of_spaces") 3 [] (Value.none) (Value.none) (Value.none) (Value.str (Str.ofString "cpy313.tabnanny") 256) (none) (Value.ref 93) (Value.none) 0), slots := #[] }
noncomputable def hd.o95 (P : Params) : Obj := { cls := Value.type "tuple", data := Data.seq #[] }
noncomputable def hd.o96 (P : Params) : Obj := { cls := Value.none, data := Data.fields #[] }
noncomputable def hd.o97 (P : Params) : Obj := { cls := Value.type "tuple", data := Data.seq #[Value.str (Str.ofString "self") 300, Value.str (Str.ofString "tabsize") 301] }
noncomputable def hd.o98 (P : Params) : Obj := { cls := Value.type "tuple", data := Data.seq #[] }
noncomputable def hd.o99 (P : Params) : Obj := { cls := Value.none, dict := none, data := Data.func (hd.mt (i := 3) rfl (Str.ofString "Whitespace.indent_level") 0 [] (Value.none) (Value.none) (Value.none) (Value.none) (none) (Value.none) (Value.none) 0), slots := #[] }
noncomputable def hd.o100 (P : Params) : Obj := { cls := Value.type "code", data := Data.fields #[Value.str (Str.ofString "indent_level") 297, Value.str (Str.ofString "Whitespace.indent_level") 298, Value.str (Str.ofString "/claim/cut.py") 299, Value.int 57 0, Value.int 2 0, Value.int 0 0, Value.int 0 0, Value.int 3 0, Value.ref 95, Value.bool true, Value.int 181 0, Value.ref 96, Value.none, Value.ref 97, Value.ref 98, Value.ref 99, Value.int 302 0, Value.int 57 0, Value.str (Str.ofString "/claim/cut.py") 303] }
noncomputable def hd.o101 (P : Params) : Obj := { cls := Value.type "function", dict := none, data := Data.func (hd.mt (i := 3) rfl (Str.ofString "Whitespace.indent_level") 3 [] (Value.none) (Value.none) (Value.none) (Value.str (Str.ofString "cpy313.tabnanny") 256) (none) (Value.ref 100) (Value.none) 0), slots := #[] }
noncomputable def hd.o102 (P : Params) : Obj := { cls := Value.type "tuple", data := Data.seq #[] }
noncomputable def hd.o103 (P : Params) : Obj := { cls := Value.none, data := Data.fields #[] }
noncomputable def hd.o104 (P : Params) : Obj := { cls := Value.type "tuple", data := Data.seq #[Value.str (Str.ofString "self") 308, Value.str (Str.ofString "other") 309] }
noncomputable def hd.o105 (P : Params) : Obj := { cls := Value.type "tuple", data := Data.seq #[] }
noncomputable def hd.o106 (P : Params) : Obj := { cls := Value.none, dict := none, data := Data.func (hd.mt (i := 4) rfl (Str.ofString "Whitespace.equal") 0 [] (Value.none) (Value.none) (Value.none) (Value.none) (none) (Value.none) (Value.none) 0), slots := #[] }
noncomputable def hd.o107 (P : Params) : Obj := { cls := Value.type "code", data := Data.fields #[Value.str (Str.ofString "equal") 305, Value.str (Str.ofString "Whitespace.equal") 306, Value.str (Str.ofString "/claim/cut.py") 307, Value.int 60 0, Value.int 2 0, Value.int 0 0, Value.int 0 0, Value.int 3 0, Value.ref 102, Value.bool true, Value.int 181 0, Value.ref 103, Value.none, Value.ref 104, Value.ref 105, Value.ref 106, Value.int 310 0, Value.int 60 0, Value.str (Str.ofString "/claim/cut.py") 311] }
noncomputable def hd.o108 (P : Params) : Obj := { cls := Value.type "function", dict := none, data := Data.func (hd.mt (i := 4) rfl (Str.ofString "Whitespace.equal") 3 [] (Value.none) (Value.none) (Value.none) (Value.str (Str.ofString "cpy313.tabnanny") 256) (none) (Value.ref 107) (Value.none) 0), slots := #[] }
noncomputable def hd.o109 (P : Params) : Obj := { cls := Value.type "tuple", data := Data.seq #[] }
noncomputable def hd.o110 (P : Params) : Obj := { cls := Value.none, data := Data.fields #[] }
noncomputable def hd.o111 (P : Params) : Obj := { cls := Value.type "tuple", data := Data.seq #[Value.str (Str.ofString "self") 316, Value.str (Str.ofString "other") 317] }
noncomputable def hd.o112 (P : Params) : Obj := { cls := Value.type "tuple", data := Data.seq #[] }
noncomputable def hd.o113 (P : Params) : Obj := { cls := Value.none, dict := none, data := Data.func (hd.mt (i := 5) rfl (Str.ofString "Whitespace.not_equal_witness") 0 [] (Value.none) (Value.none) (Value.none) (Value.none) (none) (Value.none) (Value.none) 0), slots := #[] }
noncomputable def hd.o114 (P : Params) : Obj := { cls := Value.type "code", data := Data.fields #[Value.str (Str.ofString "not_equal_witness") 313, Value.str (Str.ofString "Whitespace.not_equal_witness") 314, Value.str (Str.ofString "/claim/cut.py") 315, Value.int 63 0, Value.int 2 0, Value.int 0 0, Value.int 0 0, Value.int 3 0, Value.ref 109, Value.bool true, Value.int 181 0, Value.ref 110, Value.none, Value.ref 111, Value.ref 112, Value.ref 113, Value.int 318 0, Value.int 63 0, Value.str (Str.ofString "/claim/cut.py") 319] }
noncomputable def hd.o115 (P : Params) : Obj := { cls := Value.type "function", dict := none, data := Data.func (hd.mt (i := 5) rfl (Str.ofString "Whitespace.not_equal_witness") 3 [] (Value.none) (Value.none) (Value.none) (Value.str (Str.ofString "cpy313.tabnanny") 256) (none) (Value.ref 114) (Value.none) 0), slots := #[] }
noncomputable def hd.o116 (P : Params) : Obj := { cls := Value.type "tuple", data := Data.seq #[] }
noncomputable def hd.o117 (P : Params) : Obj := { cls := Value.none, data := Data.fields #[] }
noncomputable def hd.o118 (P : Params) : Obj := { cls := Value.type "tuple", data := Data.seq #[Value.str (Str.ofString "self") 324, Value.str (Str.ofString "other") 325] }
noncomputable def hd.o119 (P : Params) : Obj := { cls := Value.type "tuple", data := Data.seq #[] }
noncomputable def hd.o120 (P : Params) : Obj := { cls := Value.none, dict := none, data := Data.func (hd.mt (i := 6) rfl (Str.ofString "Whitespace.less") 0 [] (Value.none) (Value.none) (Value.none) (Value.none) (none) (Value.none) (Value.none) 0), slots := #[] }
noncomputable def hd.o121 (P : Params) : Obj := { cls := Value.type "code", data := Data.fields #[Value.str (Str.ofString "less") 321, Value.str (Str.ofString "Whitespace.less") 322, Value.str (Str.ofString "/claim/cut.py") 323, Value.int 66 0, Value.int 2 0, Value.int 0 0, Value.int 0 0, Value.int 3 0, Value.ref 116, Value.bool true, Value.int 181 0, Value.ref 117, Value.none, Value.ref 118, Value.ref 119, Value.ref 120, Value.int 326 0, Value.int 66 0, Value.str (Str.ofString "/claim/cut.py") 327] }
noncomputable def hd.o122 (P : Params) : Obj := { cls := Value.type "function", dict := none, data := Data.func (hd.mt (i := 6) rfl (Str.ofString "Whitespace.less") 3 [] (Value.none) (Value.none) (Value.none) (Value.str (Str.ofString "cpy313.tabnanny") 256) (none) (Value.ref 121) (Value.none) 0), slots := #[] }
noncomputable def hd.o123 (P : Params) : Obj := { cls := Value.type "tuple", data := Data.seq #[] }
noncomputable def hd.o124 (P : Params) : Obj := { cls := Value.none, data := Data.fields #[] }
noncomputable def hd.o125 (P : Params) : Obj := { cls := Value.type "tuple", data := Data.seq #[Value.str (Str.ofString "self") 332, Value.str (Str.ofString "other") 333] }
noncomputable def hd.o126 (P : Params) : Obj := { cls := Value.type "tuple", data := Data.seq #[] }
noncomputable def hd.o127 (P : Params) : Obj := { cls := Value.none, dict := none, data := Data.func (hd.mt (i := 7) rfl (Str.ofString "Whitespace.not_less_witness") 0 [] (Value.none) (Value.none) (Value.none) (Value.none) (none) (Value.none) (Value.none) 0), slots := #[] }
noncomputable def hd.o128 (P : Params) : Obj := { cls := Value.type "code", data := Data.fields #[Value.str (Str.ofString "not_less_witness") 329, Value.str (Str.ofString "Whitespace.not_less_witness") 330, Value.str (Str.ofString "/claim/cut.py") 331, Value.int 69 0, Value.int 2 0, Value.int 0 0, Value.int 0 0, Value.int 3 0, Value.ref 123, Value.bool true, Value.int 181 0, Value.ref 124, Value.none, Value.ref 125, Value.ref 126, Value.ref 127, Value.int 334 0, Value.int 69 0, Value.str (Str.ofString "/claim/cut.py") 335] }
noncomputable def hd.o129 (P : Params) : Obj := { cls := Value.type "function", dict := none, data := Data.func (hd.mt (i := 7) rfl (Str.ofString "Whitespace.not_less_witness") 3 [] (Value.none) (Value.none) (Value.none) (Value.str (Str.ofString "cpy313.tabnanny") 256) (none) (Value.ref 128) (Value.none) 0), slots := #[] }
noncomputable def hd.o130 (P : Params) : Obj := { cls := Value.type "tuple", data := Data.seq #[Value.str (Str.ofString "is_simple") 337, Value.str (Str.ofString "n") 338, Value.str (Str.ofString "norm") 339, Value.str (Str.ofString "nt") 340, Value.str (Str.ofString "raw") 341] }
noncomputable def hd.o131 (P : Params) : Obj := { cls := Value.type "dict", data := Data.dict #[{ hash := PyData.keyHash P (Str.ofString "__module__"), key := Value.str (Str.ofString "__module__") 265, val := Value.str (Str.ofString "cpy313.tabnanny") 256 }, { hash := PyData.keyHash P (Str.ofString "__firstlineno__"), key := Value.str (Str.ofString "__firstlineno__") 269, val := Value.int 28 268 }, { hash := PyData.keyHash P (Str.ofString "S"), key := Value.str (Str.ofString "S") 273, val := Value.str (Str.ofString " ") 271 }, { hash := PyData.keyHash P (Str.ofString "T"), key := Value.str (Str.ofString "T") 274, val := Value.str (Str.ofString "\t") 272 }, { hash := PyData.keyHash P (Str.ofString "__init__"), key := Value.str (Str.ofString "__init__") 289, val := Value.ref 87 }, { hash := PyData.keyHash P (Str.ofString "longest_run_of_spaces"), key := Value.str (Str.ofString "longest_run_of_spaces") 296, val := Value.ref 94 }, { hash := PyData.keyHash P (Str.ofString "indent_level"), key := Value.str (Str.ofString "indent_level") 304, val := Value.ref 101 }, { hash := PyData.keyHash P (Str.ofString "equal"), key := Value.str (Str.ofString "equal") 312, val := Value.ref 108 }, { hash := PyData.keyHash P (Str.ofString "not_equal_witness"), key := Value.str (Str.ofString "not_equal_witness") 320, val := Value.ref 115 }, { hash := PyData.keyHash P (Str.ofString "less"), key := Value.str (Str.ofString "less") 328, val := Value.ref 122 }, { hash := PyData.keyHash P (Str.ofString "not_less_witness"), key := Value.str (Str.ofString "not_less_witness") 336, val := Value.ref 129 }, { hash := PyData.keyHash P (Str.ofString "__static_attributes__"), key := Value.str (Str.ofString "__static_attributes__") 342, val := Value.ref 130 }, { hash := PyData.keyHash P (Str.ofString "__dict__"), key := Value.str (Str.ofString "__dict__") 344, val := Value.ref 133 }, { hash := PyData.keyHash P (Str.ofString "__weakref__"), key := Value.str (Str.ofString "__weakref__") 346, val := Value.ref 134 }, { hash := PyData.keyHash P (Str.ofString "__doc__"), key := Value.str (Str.ofString "__doc__") 347, val := Value.none }] 4 }
noncomputable def hd.o132 (P : Params) : Obj := { cls := Value.type "type", data := Data.cls { name := Str.ofString "Whitespace", bases := [Value.type "object"], mro := [Value.ref 132, Value.type "object"], ns := 131, qualname := Str.ofString "Whitespace" }, slots := #[none, none, some (Value.str (Str.ofString "Whitespace") 258), some (Value.str (Str.ofString "Whitespace") 266), some (Value.builtin "object.__new__"), some (Value.bool true)] }
noncomputable def hd.o133 (P : Params) : Obj := { cls := Value.type "getset_descriptor", data := Data.fields #[Value.str (Str.ofString "__dict__") 343, Value.ref 132, Value.builtin "function.__dict__", Value.builtin "function.__dict__#set"] }
noncomputable def hd.o134 (P : Params) : Obj := { cls := Value.type "getset_descriptor", data := Data.fields #[Value.str (Str.ofString "__weakref__") 345, Value.ref 132, Value.builtin "ExceptionGroup.__weakref__", Value.none] }
noncomputable def hd.o135 (P : Params) : Obj := { cls := Value.type "super", data := Data.fields #[Value.ref 132, Value.ref 132, Value.ref 132] }
noncomputable def hd.o136 (P : Params) : Obj := { cls := Value.type "builtin_function_or_method", data := Data.fields #[Value.builtin "object.__init_subclass__", Value.ref 132] }
noncomputable def hd.o137 (P : Params) : Obj := { cls := Value.type "dict", data := Data.dict #[{ hash := PyData.keyHash P (Str.ofString "!"), key := Value.str (Str.ofString "!") 452, val := Value.int 54 448 }, { hash := PyData.keyHash P (Str.ofString "!="), key := Value.str (Str.ofString "!=") 454, val := Value.int 28 396 }, { hash := PyData.keyHash P (Str.ofString "%"), key := Value.str (Str.ofString "%") 456, val := Value.int 24 388 }, { hash := PyData.keyHash P (Str.ofString "%="), key := Value.str (Str.ofString "%=") 458, val := Value.int 40 420 }, { hash := PyData.keyHash P (Str.ofString "&"), key := Value.str (Str.ofString "&") 460, val := Value.int 19 378 }, { hash := PyData.keyHash P (Str.ofString "&="), key := Value.str (Str.ofString "&=") 462, val := Value.int 41 422 }, { hash := PyData.keyHash P (Str.ofString "("), key := Value.str (Str.ofString "(") 464, val := Value.int 7 354 }, { hash := PyData.keyHash P (Str.ofString ")"), key := Value.str (Str.ofString ")") 466, val := Value.int 8 356 }, { hash := PyData.keyHash P (Str.ofString "*"), key := Value.str (Str.ofString "*") 468, val := Value.int 16 372 }, { hash := PyData.keyHash P (Str.ofString "**"), key := Value.str (Str.ofString "**") 470, val := Value.int 35 410 }, { hash := PyData.keyHash P (Str.ofString "**="), key := Value.str (Str.ofString "**=") 472, val := Value.int 46 432 }, { hash := PyData.keyHash P (Str.ofString "*="), key := Value.str (Str.ofString "*=") 474, val := Value.int 38 416 }, { hash := PyData.keyHash P (Str.ofString "+"), key := Value.str (Str.ofString "+") 476, val := Value.int 14 368 }, { hash := PyData.keyHash P (Str.ofString "+="), key := Value.str (Str.ofString "+=") 478, val := Value.int 36 412 }, { hash := PyData.keyHash P (Str.ofString ","), key := Value.str (Str.ofString ",") 480, val := Value.int 12 364 }, { hash := PyData.keyHash P (Str.ofString "-"), key := Value.str (Str.ofString "-") 482, val := Value.int 15 370 }, { hash := PyData.keyHash P (Str.ofString "-="), key := Value.str (Str.ofString "-=") 484, val := Value.int 37 414 }, { hash := PyData.keyHash P (Str.ofString "->"), key := Value.str (Str.ofString "->") 486, val := Value.int 51 442 }, { hash := PyData.keyHash P (Str.ofString "."), key := Value.str (Str.ofString ".") 488, val := Value.int 23 386 }, { hash := PyData.keyHash P (Str.ofString "..."), key := Value.str (Str.ofString "...") 490, val := Value.int 52 444 }, { hash := PyData.keyHash P (Str.ofString "/"), key := Value.str (Str.ofString "/") 492, val := Value.int 17 374 }, { hash := PyData.keyHash P (Str.ofString "//"), key := Value.str (Str.ofString "//") 494, val := Value.int 47 434 }, { hash := PyData.keyHash P (Str.ofString "//="), key := Value.str (Str.ofString "//=") 496, val := Value.int 48 436 }, { hash := PyData.keyHash P (Str.ofString "/="), key := Value.str (Str.ofString "/=") 498, val := Value.int 39 418 }, { hash := PyData.keyHash P (Str.ofString ":"), key := Value.str (Str.ofString ":") 500, val := Value.int 11 362 }, { hash := PyData.keyHash P (Str.ofString ":="), key := Value.str (Str.ofString ":=") 502, val := Value.int 53 446 }, { hash := PyData.keyHash P (Str.ofString ";"), key := Value.str (Str.ofString ";") 504, val := Value.int 13 366 }, { hash := PyData.keyHash P (Str.ofString "<"), key := Value.str (Str.ofString "<") 506, val := Value.int 20 380 }, { hash := PyData.keyHash P (Str.ofString "<<"), key := Value.str (Str.ofString "<<") 508, val := Value.int 33 406 }, { hash := PyData.keyHash P (Str.ofString "<<="), key := Value.str (Str.ofString "<<=") 510, val := Value.int 44 428 }, { hash := PyData.keyHash P (Str.ofString "<="), key := Value.str (Str.ofString "<=") 512, val := Value.int 29 398 }, { hash := PyData.keyHash P (Str.ofString "="), key := Value.str (Str.ofString "=") 514, val := Value.int 22 384 }, { hash := PyData.keyHash P (Str.ofString "=="), key := Value.str (Str.ofString "==") 516, val := Value.int 27 394 }, { hash := PyData.keyHash P (Str.ofString ">"), key := Value.str (Str.ofString ">") 518, val := Value.int 21 382 }, { hash := PyData.keyHash P (Str.ofString ">="), key := Value.str (Str.ofString ">=") 520, val := Value.int 30 400 }, { hash := PyData.keyHash P (Str.ofString ">>"), key := Value.str (Str.ofString ">>") 521, val := Value.int 34 408 }, { hash := PyData.keyHash P (Str.ofString ">>="), key := Value.str (Str.ofString ">>=") 522, val := Value.int 45 430 }, { hash := PyData.keyHash P (Str.ofString "@"), key := Value.str (Str.ofString "@") 523, val := Value.int 49 438 }, { hash := PyData.keyHash P (Str.ofString "@="), key := Value.str (Str.ofString "@=") 524, val := Value.int 50 440 }, { hash := PyData.keyHash P (Str.ofString "["), key := Value.str (Str.ofString "[") 525, val := Value.int 9 358 }, { hash := PyData.keyHash P (Str.ofString "]"), key := Value.str (Str.ofString "]") 526, val := Value.int 10 360 }, { hash := PyData.keyHash P (Str.ofString "^"), key := Value.str (Str.ofString "^") 527, val := Value.int 32 404 }, { hash := PyData.keyHash P (Str.ofString "^="), key := Value.str (Str.ofString "^=") 528, val := Value.int 43 426 }, { hash := PyData.keyHash P (Str.ofString "{"), key := Value.str (Str.ofString "{") 529, val := Value.int 25 390 }, { hash := PyData.keyHash P (Str.ofString "|"), key := Value.str (Str.ofString "|") 530, val := Value.int 18 376 }, { hash := PyData.keyHash P (Str.ofString "|="), key := Value.str (Str.ofString "|=") 531, val := Value.int 42 424 }, { hash := PyData.keyHash P (Str.ofString "}"), key := Value.str (Str.ofString "}") 532, val := Value.int 26 392 }, { hash := PyData.keyHash P (Str.ofString "~"), key := Value.str (Str.ofString "~") 533, val := Value.int 31 402 }] 48 }
noncomputable def hd.o138 (P : Params) : Obj := { cls := Value.type "dict", data := Data.dict #[{ hash := PyData.keyHash P (Str.ofString "->"), key := Value.str (Str.ofString "->") 486, val := Value.int 51 442 }, { hash := PyData.keyHash P (Str.ofString "."), key := Value.str (Str.ofString ".") 488, val := Value.int 23 386 }, { hash := PyData.keyHash P (Str.ofString "..."), key := Value.str (Str.ofString "...") 490, val := Value.int 52 444 }, { hash := PyData.keyHash P (Str.ofString "/"), key := Value.str (Str.ofString "/") 492, val := Value.int 17 374 }, { hash := PyData.keyHash P (Str.ofString "//"), key := Value.str (Str.ofString "//") 494, val := Value.int 47 434 }, { hash := PyData.keyHash P (Str.ofString "//="), key := Value.str (Str.ofString "//=") 496, val := Value.int 48 436 }, { hash := PyData.keyHash P (Str.ofString "/="), key := Value.str (Str.ofString "/=") 498, val := Value.int 39 418 }, { hash := PyData.keyHash P (Str.ofString ":"), key := Value.str (Str.ofString ":") 500, val := Value.int 11 362 }, { hash := PyData.keyHash P (Str.ofString ":="), key := Value.str (Str.ofString ":=") 502, val := Value.int 53 446 }, { hash := PyData.keyHash P (Str.ofString ";"), key := Value.str (Str.ofString ";") 504, val := Value.int 13 366 }, { hash := PyData.keyHash P (Str.ofString "<"), key := Value.str (Str.ofString "<") 506, val := Value.int 20 380 }, { hash := PyData.keyHash P (Str.ofString "<<"), key := Value.str (Str.ofString "<<") 508, val := Value.int 33 406 }, { hash := PyData.keyHash P (Str.ofString "<<="), key := Value.str (Str.ofString "<<=") 510, val := Value.int 44 428 }, { hash := PyData.keyHash P (Str.ofString "<="), key := Value.str (Str.ofString "<=") 512, val := Value.int 29 398 }, { hash := PyData.keyHash P (Str.ofString "="), key := Value.str (Str.ofString "=") 514, val := Value.int 22 384 }, { hash := PyData.keyHash P (Str.ofString "=="), key := Value.str (Str.ofString "==") 516, val := Value.int 27 394 }, { hash := PyData.keyHash P (Str.ofString ">"), key := Value.str (Str.ofString ">") 518, val := Value.int 21 382 }] 17 }
noncomputable def hd.o139 (P : Params) : Obj := { cls := Value.type "dict", data := Data.dict #[{ hash := PyData.keyHash P (Str.ofString ">="), key := Value.str (Str.ofString ">=") 520, val := Value.int 30 400 }, { hash := PyData.keyHash P (Str.ofString ">>"), key := Value.str (Str.ofString ">>") 521, val := Value.int 34 408 }, { hash := PyData.keyHash P (Str.ofString ">>="), key := Value.str (Str.ofString ">>=") 522, val := Value.int 45 430 }, { hash := PyData.keyHash P (Str.ofString "@"), key := Value.str (Str.ofString "@") 523, val := Value.int 49 438 }, { hash := PyData.keyHash P (Str.ofString "@="), key := Value.str (Str.ofString "@=") 524, val := Value.int 50 440 }, { hash := PyData.keyHash P (Str.ofString "["), key := Value.str (Str.ofString "[") 525, val := Value.int 9 358 }, { hash := PyData.keyHash P (Str.ofString "]"), key := Value.str (Str.ofString "]") 526, val := Value.int 10 360 }, { hash := PyData.keyHash P (Str.ofString "^"), key := Value.str (Str.ofString "^") 527, val := Value.int 32 404 }, { hash := PyData.keyHash P (Str.ofString "^="), key := Value.str (Str.ofString "^=") 528, val := Value.int 43 426 }, { hash := PyData.keyHash P (Str.ofString "{"), key := Value.str (Str.ofString "{") 529, val := Value.int 25 390 }, { hash := PyData.keyHash P (Str.ofString "|"), key := Value.str (Str.ofString "|") 530, val := Value.int 18 376 }, { hash := PyData.keyHash P (Str.ofString "|="), key := Value.str (Str.ofString "|=") 531, val := Value.int 42 424 }, { hash := PyData.keyHash P (Str.ofString "}"), key := Value.str (Str.ofString "}") 532, val := Value.int 26 392 }, { hash := PyData.keyHash P (Str.ofString "~"), key := Value.str (Str.ofString "~") 533, val := Value.int 31 402 }] 14 }
noncomputable def hd.o140 (P : Params) : Obj := { cls := Value.type "tuple", data := Data.seq #[] }
noncomputable def hd.o141 (P : Params) : Obj := { cls := Value.none, data := Data.fields #[] }
noncomputable def hd.o142 (P : Params) : Obj := { cls := Value.type "tuple", data := Data.seq #[Value.str (Str.ofString "x") 552] }
noncomputable def hd.o143 (P : Params) : Obj := { cls := Value.type "tuple", data := Data.seq #[] }
noncomputable def hd.o144 (P : Params) : Obj := { cls := Value.none, dict := none, data := Data.func (hd.fn (i := 64) rfl (Str.ofString "ISNONTERMINAL") 0 [] (Value.none) (Value.none) (Value.none) (Value.none) (none) (Value.none) (Value.none) 0), slots := #[] }
noncomputable def hd.o145 (P : Params) : Obj := { cls := Value.type "code", data := Data.fields #[Value.str (Str.ofString "ISNONTERMINAL") 549, Value.str (Str.ofString "ISNONTERMINAL") 550, Value.str (Str.ofString "/claim/cut.py") 551, Value.int 123 0, Value.int 1 0, Value.int 0 0, Value.int 0 0, Value.int 3 0, Value.ref 140, Value.bool true, Value.int 181 0, Value.ref 141, Value.none, Value.ref 142, Value.ref 143, Value.ref 144, Value.int 553 0, Value.int 123 0, Value.str (Str.ofString "/claim/cut.py") 554] }
noncomputable def hd.o146 (P : Params) : Obj := { cls := Value.type "function", dict := none, data := Data.func (hd.fn (i := 64) rfl (Str.ofString "ISNONTERMINAL") 3 [] (Value.none) (Value.none) (Value.none) (Value.str (Str.ofString "cpy313.token") 350) (none) (Value.ref 145) (Value.none) 0), slots := #[] }
noncomputable def hd.o147 (P : Params) : Obj := { cls := Value.type "tuple", data := Data.seq #[] }
noncomputable def hd.o148 (P : Params) : Obj := { cls := Value.none, data := Data.fields #[] }
noncomputable def hd.o149 (P : Params) : Obj := { cls := Value.type "tuple", data := Data.seq #[Value.str (Str.ofString "x") 559] }
noncomputable def hd.o150 (P : Params) : Obj := { cls := Value.type "tuple", data := Data.seq #[] }
noncomputable def hd.o151 (P : Params) : Obj := { cls := Value.none, dict := none, data := Data.func (hd.fn (i := 65) rfl (Str.ofString "ISEOF") 0 [] (Value.none) (Value.none) (Value.none) (Value.none) (none) (Value.none) (Value.none) 0), slots := #[] }
noncomputable def hd.o152 (P : Params) : Obj := { cls := Value.type "code", data := Data.fields #[Value.str (Str.ofString "ISEOF") 556, Value.str (Str.ofString "ISEOF") 557, Value.str (Str.ofString "/claim/cut.py") 558, Value.int 125 0, Value.int 1 0, Value.int 0 0, Value.int 0 0, Value.int 3 0, Value.ref 147, Value.bool true, Value.int 181 0, Value.ref 148, Value.none, Value.ref 149, Value.ref 150, Value.ref 151, Value.int 560 0, Value.int 125 0, Value.str (Str.ofString "/claim/cut.py") 561] }
noncomputable def hd.o153 (P : Params) : Obj := { cls := Value.type "function", dict := none, data := Data.func (hd.fn (i := 65) rfl (Str.ofString "ISEOF") 3 [] (Value.none) (Value.none) (Value.none) (Value.str (Str.ofString "cpy313.token") 350) (none) (Value.ref 152) (Value.none) 0), slots := #[] }
noncomputable def hd.o154 (P : Params) : Obj := { cls := Value.type "tuple", data := Data.seq #[] }
noncomputable def hd.o155 (P : Params) : Obj := { cls := Value.none, data := Data.fields #[] }
noncomputable def hd.o156 (P : Params) : Obj := { cls := Value.none, dict := none, data := Data.func (hd.fn (i := 67) rfl (Str.ofString "_law_drawn") 0 [] (Value.none) (Value.none) (Value.none) (Value.none) (none) (Value.none) (Value.none) 0), slots := #[] }
noncomputable def hd.o157 (P : Params) : Obj := { cls := Value.type "code", data := Data.fields #[Value.str (Str.ofString "_law_drawn") 565, Value.str (Str.ofString "_law_drawn") 566, Value.str (Str.ofString "/claim/cut.py") 567, Value.int 128 0, Value.int 1 0, Value.int 0 0, Value.int 0 0, Value.int 3 0, Value.ref 154, Value.bool true, Value.int 181 0, Value.ref 155, Value.none, Value.none, Value.none, Value.ref 156, Value.int 568 0, Value.int 128 0, Value.str (Str.ofString "/claim/cut.py") 569] }
noncomputable def hd.o158 (P : Params) : Obj := { cls := Value.type "function", dict := none, data := Data.func (hd.fn (i := 67) rfl (Str.ofString "_law_drawn") 3 [] (Value.none) (Value.none) (Value.none) (Value.str (Str.ofString "law_wj0065_01") 563) (none) (Value.ref 157) (Value.none) 0), slots := #[] }
noncomputable def hd.o159 (P : Params) : Obj := { cls := Value.type "tuple", data := Data.seq #[] }
noncomputable def hd.o160 (P : Params) : Obj := { cls := Value.none, data := Data.fields #[] }
noncomputable def hd.o161 (P : Params) : Obj := { cls := Value.none, dict := none, data := Data.func (hd.fn (i := 68) rfl (Str.ofString "_law_masks") 0 [] (Value.none) (Value.none) (Value.none) (Value.none) (none) (Value.none) (Value.none) 0), slots := #[] }
noncomputable def hd.o162 (P : Params) : Obj := { cls := Value.type "code", data := Data.fields #[Value.str (Str.ofString "_law_masks") 571, Value.str (Str.ofString "_law_masks") 572, Value.str (Str.ofString "/claim/cut.py") 573, Value.int 136 0, Value.int 1 0, Value.int 0 0, Value.int 0 0, Value.int 3 0, Value.ref 159, Value.bool true, Value.int 181 0, Value.ref 160, Value.none, Value.none, Value.none, Value.ref 161, Value.int 574 0, Value.int 136 0, Value.str (Str.ofString "/claim/cut.py") 575] }
noncomputable def hd.o163 (P : Params) : Obj := { cls := Value.type "function", dict := none, data := Data.func (hd.fn (i := 68) rfl (Str.ofString "_law_masks") 3 [] (Value.none) (Value.none) (Value.none) (Value.str (Str.ofString "law_wj0065_01") 563) (none) (Value.ref 162) (Value.none) 0), slots := #[] }
noncomputable def hd.o164 (P : Params) : Obj := { cls := Value.type "tuple", data := Data.seq #[] }
noncomputable def hd.o165 (P : Params) : Obj := { cls := Value.none, data := Data.fields #[] }
noncomputable def hd.o166 (P : Params) : Obj := { cls := Value.type "tuple", data := Data.seq #[Value.str (Str.ofString "heaps") 580, Value.str (Str.ofString "number") 581, Value.str (Str.ofString "heap") 582] }
noncomputable def hd.o167 (P : Params) : Obj := { cls := Value.type "tuple", data := Data.seq #[] }
noncomputable def hd.o168 (P : Params) : Obj := { cls := Value.none, dict := none, data := Data.func (hd.fn (i := 69) rfl (Str.ofString "_law_number") 0 [] (Value.none) (Value.none) (Value.none) (Value.none) (none) (Value.none) (Value.none) 0), slots := #[] }
noncomputable def hd.o169 (P : Params) : Obj := { cls := Value.type "code", data := Data.fields #[Value.str (Str.ofString "_law_number") 577, Value.str (Str.ofString "_law_number") 578, Value.str (Str.ofString "/claim/cut.py") 579, Value.int 147 0, Value.int 1 0, Value.int 0 0, Value.int 0 0, Value.int 3 0, Value.ref 164, Value.bool true, Value.int 181 0, Value.ref 165, Value.none, Value.ref 166, Value.ref 167, Value.ref 168, Value.int 583 0, Value.int 147 0, Value.str (Str.ofString "/claim/cut.py") 584] }
noncomputable def hd.o170 (P : Params) : Obj := { cls := Value.type "function", dict := none, data := Data.func (hd.fn (i := 69) rfl (Str.ofString "_law_number") 3 [] (Value.none) (Value.none) (Value.none) (Value.str (Str.ofString "law_wj0065_01") 563) (none) (Value.ref 169) (Value.none) 0), slots := #[] }
noncomputable def hd.o171 (P : Params) : Obj := { cls := Value.type "tuple", data := Data.seq #[] }
noncomputable def hd.o172 (P : Params) : Obj := { cls := Value.none, data := Data.fields #[] }
noncomputable def hd.o173 (P : Params) : Obj := { cls := Value.type "tuple", data := Data.seq #[Value.str (Str.ofString "heaps") 589, Value.str (Str.ofString "others") 590, Value.str (Str.ofString "made") 591, Value.str (Str.ofString "other") 592, Value.str (Str.ofString "whole") 593, Value.str (Str.ofString "apart") 594, Value.str (Str.ofString "heap") 595] }
noncomputable def hd.o174 (P : Params) : Obj := { cls := Value.type "tuple", data := Data.seq #[] }
noncomputable def hd.o175 (P : Params) : Obj := { cls := Value.none, dict := none, data := Data.func (hd.fn (i := 70) rfl (Str.ofString "_law_together") 0 [] (Value.none) (Value.none) (Value.none) (Value.none) (none) (Value.none) (Value.none) 0), slots := #[] }
noncomputable def hd.o176 (P : Params) : Obj := { cls := Value.type "code", data := Data.fields #[Value.str (Str.ofString "_law_together") 586, Value.str (Str.ofString "_law_together") 587, Value.str (Str.ofString "/claim/cut.py") 588, Value.int 152 0, Value.int 2 0, Value.int 0 0, Value.int 0 0, Value.int 3 0, Value.ref 171, Value.bool true, Value.int 181 0, Value.ref 172, Value.none, Value.ref 173, Value.ref 174, Value.ref 175, Value.int 596 0, Value.int 152 0, Value.str (Str.ofString "/claim/cut.py") 597] }
noncomputable def hd.o177 (P : Params) : Obj := { cls := Value.type "function", dict := none, data := Data.func (hd.fn (i := 70) rfl (Str.ofString "_law_together") 3 [] (Value.none) (Value.none) (Value.none) (Value.str (Str.ofString "law_wj0065_01") 563) (none) (Value.ref 176) (Value.none) 0), slots := #[] }
noncomputable def hd.o178 (P : Params) : Obj := { cls := Value.type "tuple", data := Data.seq #[] }
noncomputable def hd.o179 (P : Params) : Obj := { cls := Value.none, data := Data.fields #[] }
noncomputable def hd.o180 (P : Params) : Obj := { cls := Value.none, dict := none, data := Data.func (hd.fn (i := 71) rfl (Str.ofString "_law_order") 0 [] (Value.none) (Value.none) (Value.none) (Value.none) (none) (Value.none) (Value.none) 0), slots := #[] }
noncomputable def hd.o181 (P : Params) : Obj := { cls := Value.type "code", data := Data.fields #[Value.str (Str.ofString "_law_order") 599, Value.str (Str.ofString "_law_order") 600, Value.str (Str.ofString "/claim/cut.py") 601, Value.int 164 0, Value.int 1 0, Value.int 0 0, Value.int 0 0, Value.int 3 0, Value.ref 178, Value.bool true, Value.int 181 0, Value.ref 179, Value.none, Value.none, Value.none, Value.ref 180, Value.int 602 0, Value.int 164 0, Value.str (Str.ofString "/claim/cut.py") 603] }
noncomputable def hd.o182 (P : Params) : Obj := { cls := Value.type "function", dict := none, data := Data.func (hd.fn (i := 71) rfl (Str.ofString "_law_order") 3 [] (Value.none) (Value.none) (Value.none) (Value.str (Str.ofString "law_wj0065_01") 563) (none) (Value.ref 181) (Value.none) 0), slots := #[] }
noncomputable def hd.o183 (P : Params) : Obj := { cls := Value.type "tuple", data := Data.seq #[] }
noncomputable def hd.o184 (P : Params) : Obj := { cls := Value.none, data := Data.fields #[] }
noncomputable def hd.o185 (P : Params) : Obj := { cls := Value.none, dict := none, data := Data.func (hd.fn (i := 72) rfl (Str.ofString "_law_worths") 0 [] (Value.none) (Value.none) (Value.none) (Value.none) (none) (Value.none) (Value.none) 0), slots := #[] }
noncomputable def hd.o186 (P : Params) : Obj := { cls := Value.type "code", data := Data.fields #[Value.str (Str.ofString "_law_worths") 605, Value.str (Str.ofString "_law_worths") 606, Value.str (Str.ofString "/claim/cut.py") 607, Value.int 175 0, Value.int 2 0, Value.int 0 0, Value.int 0 0, Value.int 3 0, Value.ref 183, Value.bool true, Value.int 181 0, Value.ref 184, Value.none, Value.none, Value.none, Value.ref 185, Value.int 608 0, Value.int 175 0, Value.str (Str.ofString "/claim/cut.py") 609] }
noncomputable def hd.o187 (P : Params) : Obj := { cls := Value.type "function", dict := none, data := Data.func (hd.fn (i := 72) rfl (Str.ofString "_law_worths") 3 [] (Value.none) (Value.none) (Value.none) (Value.str (Str.ofString "law_wj0065_01") 563) (none) (Value.ref 186) (Value.none) 0), slots := #[] }
noncomputable def hd.o188 (P : Params) : Obj := { cls := Value.type "tuple", data := Data.seq #[] }
noncomputable def hd.o189 (P : Params) : Obj := { cls := Value.none, data := Data.fields #[] }
noncomputable def hd.o190 (P : Params) : Obj := { cls := Value.none, dict := none, data := Data.func (hd.fn (i := 73) rfl (Str.ofString "_law_table") 0 [] (Value.none) (Value.none) (Value.none) (Value.none) (none) (Value.none) (Value.none) 0), slots := #[] }
noncomputable def hd.o191 (P : Params) : Obj := { cls := Value.type "code", data := Data.fields #[Value.str (Str.ofString "_law_table") 611, Value.str (Str.ofString "_law_table") 612, Value.str (Str.ofString "/claim/cut.py") 613, Value.int 189 0, Value.int 2 0, Value.int 0 0, Value.int 0 0, Value.int 3 0, Value.ref 188, Value.bool true, Value.int 181 0, Value.ref 189, Value.none, Value.none, Value.none, Value.ref 190, Value.int 614 0, Value.int 189 0, Value.str (Str.ofString "/claim/cut.py") 615] }
noncomputable def hd.o192 (P : Params) : Obj := { cls := Value.type "function", dict := none, data := Data.func (hd.fn (i := 73) rfl (Str.ofString "_law_table") 3 [] (Value.none) (Value.none) (Value.none) (Value.str (Str.ofString "law_wj0065_01") 563) (none) (Value.ref 191) (Value.none) 0), slots := #[] }
noncomputable def hd.o193 (P : Params) : Obj := { cls := Value.type "tuple", data := Data.seq #[] }
noncomputable def hd.o194 (P : Params) : Obj := { cls := Value.none, data := Data.fields #[] }
noncomputable def hd.o195 (P : Params) : Obj := { cls := Value.none, dict := none, data := Data.func (hd.fn (i := 74) rfl (Str.ofString "_law_diagonal") 0 [] (Value.none) (Value.none) (Value.none) (Value.none) (none) (Value.none) (Value.none) 0), slots := #[] }
noncomputable def hd.o196 (P : Params) : Obj := { cls := Value.type "code", data := Data.fields #[Value.str (Str.ofString "_law_diagonal") 617, Value.str (Str.ofString "_law_diagonal") 618, Value.str (Str.ofString "/claim/cut.py") 619, Value.int 200 0, Value.int 1 0, Value.int 0 0, Value.int 0 0, Value.int 3 0, Value.ref 193, Value.bool true, Value.int 181 0, Value.ref 194, Value.none, Value.none, Value.none, Value.ref 195, Value.int 620 0, Value.int 200 0, Value.str (Str.ofString "/claim/cut.py") 621] }
noncomputable def hd.o197 (P : Params) : Obj := { cls := Value.type "function", dict := none, data := Data.func (hd.fn (i := 74) rfl (Str.ofString "_law_diagonal") 3 [] (Value.none) (Value.none) (Value.none) (Value.str (Str.ofString "law_wj0065_01") 563) (none) (Value.ref 196) (Value.none) 0), slots := #[] }
noncomputable def hd.o198 (P : Params) : Obj := { cls := Value.type "tuple", data := Data.seq #[] }
noncomputable def hd.o199 (P : Params) : Obj := { cls := Value.none, data := Data.fields #[] }
noncomputable def hd.o200 (P : Params) : Obj := { cls := Value.none, dict := none, data := Data.func (hd.fn (i := 75) rfl (Str.ofString "_law_paintings") 0 [] (Value.none) (Value.none) (Value.none) (Value.none) (none) (Value.none) (Value.none) 0), slots := #[] }
noncomputable def hd.o201 (P : Params) : Obj := { cls := Value.type "code", data := Data.fields #[Value.str (Str.ofString "_law_paintings") 623, Value.str (Str.ofString "_law_paintings") 624, Value.str (Str.ofString "/claim/cut.py") 625, Value.int 210 0, Value.int 3 0, Value.int 0 0, Value.int 0 0, Value.int 3 0, Value.ref 198, Value.bool true, Value.int 181 0, Value.ref 199, Value.none, Value.none, Value.none, Value.ref 200, Value.int 626 0, Value.int 210 0, Value.str (Str.ofString "/claim/cut.py") 627] }
noncomputable def hd.o202 (P : Params) : Obj := { cls := Value.type "function", dict := none, data := Data.func (hd.fn (i := 75) rfl (Str.ofString "_law_paintings") 3 [] (Value.none) (Value.none) (Value.none) (Value.str (Str.ofString "law_wj0065_01") 563) (none) (Value.ref 201) (Value.none) 0), slots := #[] }
noncomputable def hd.o203 (P : Params) : Obj := { cls := Value.type "tuple", data := Data.seq #[] }
noncomputable def hd.o204 (P : Params) : Obj := { cls := Value.none, data := Data.fields #[] }
noncomputable def hd.o205 (P : Params) : Obj := { cls := Value.none, dict := none, data := Data.func (hd.fn (i := 76) rfl (Str.ofString "law") 0 [] (Value.none) (Value.none) (Value.none) (Value.none) (none) (Value.none) (Value.none) 0), slots := #[] }
noncomputable def hd.o206 (P : Params) : Obj := { cls := Value.type "code", data := Data.fields #[Value.str (Str.ofString "law") 629, Value.str (Str.ofString "law") 630, Value.str (Str.ofString "/claim/cut.py") 631, Value.int 226 0, Value.int 1 0, Value.int 0 0, Value.int 0 0, Value.int 3 0, Value.ref 203, Value.bool true, Value.int 181 0, Value.ref 204, Value.none, Value.none, Value.none, Value.ref 205, Value.int 632 0, Value.int 226 0, Value.str (Str.ofString "/claim/cut.py") 633] }
noncomputable def hd.o207 (P : Params) : Obj := { cls := Value.type "function", dict := none, data := Data.func (hd.fn (i := 76) rfl (Str.ofString "law") 3 [] (Value.none) (Value.none) (Value.none) (Value.str (Str.ofString "law_wj0065_01") 563) (none) (Value.ref 206) (Value.none) 0), slots := #[] }
noncomputable def hd.gblock (P : Params) : Obj := { cls := Value.type "dict", data := Data.dict #[{ hash := PyData.keyHash P (Str.ofString "__name__"), key := Value.str (Str.ofString "__name__") 165, val := Value.str (Str.ofString "__main__") 164 }, { hash := PyData.keyHash P (Str.ofString "__doc__"), key := Value.str (Str.ofString "__doc__") 166, val := Value.none }, { hash := PyData.keyHash P (Str.ofString "__package__"), key := Value.str (Str.ofString "__package__") 167, val := Value.none }, { hash := PyData.keyHash P (Str.ofString "__loader__"), key := Value.str (Str.ofString "__loader__") 168, val := Value.builtin "__main__.__loader__#opaque" }, { hash := PyData.keyHash P (Str.ofString "__spec__"), key := Value.str (Str.ofString "__spec__") 169, val := Value.none }, { hash := PyData.keyHash P (Str.ofString "__annotations__"), key := Value.str (Str.ofString "__annotations__") 170, val := Value.ref 6 }, { hash := PyData.keyHash P (Str.ofString "__builtins__"), key := Value.str (Str.ofString "__builtins__") 171, val := Value.ref 4 }, { hash := PyData.keyHash P (Str.ofString "__file__"), key := Value.str (Str.ofString "__file__") 173, val := Value.str (Str.ofString "/claim/cut.py") 172 }, { hash := PyData.keyHash P (Str.ofString "__cached__"), key := Value.str (Str.ofString "__cached__") 174, val := Value.none }] 9 }
noncomputable def hd.lblock (P : Params) : Obj := { cls := Value.none, data := Data.fields #[] }
noncomputable def hd.g12 (P : Params) : Obj := { cls := Value.type "dict", data := Data.dict #[{ hash := PyData.keyHash P (Str.ofString "__name__"), key := Value.str (Str.ofString "__name__") 165, val := Value.str (Str.ofString "cpy313.token") 350 }, { hash := PyData.keyHash P (Str.ofString "__doc__"), key := Value.str (Str.ofString "__doc__") 166, val := Value.none }, { hash := PyData.keyHash P (Str.ofString "__package__"), key := Value.str (Str.ofString "__package__") 167, val := Value.none }, { hash := PyData.keyHash P (Str.ofString "__loader__"), key := Value.str (Str.ofString "__loader__") 168, val := Value.builtin "__main__.__loader__#opaque" }, { hash := PyData.keyHash P (Str.ofString "__spec__"), key := Value.str (Str.ofString "__spec__") 169, val := Value.none }, { hash := PyData.keyHash P (Str.ofString "__annotations__"), key := Value.str (Str.ofString "__annotations__") 170, val := Value.ref 6 }, { hash := PyData.keyHash P (Str.ofString "__builtins__"), key := Value.str (Str.ofString "__builtins__") 171, val := Value.ref 4 }, { hash := PyData.keyHash P (Str.ofString "__file__"), key := Value.str (Str.ofString "__file__") 173, val := Value.str (Str.ofString "/claim/cut.py") 172 }, { hash := PyData.keyHash P (Str.ofString "__cached__"), key := Value.str (Str.ofString "__cached__") 174, val := Value.none }, { hash := PyData.keyHash P (Str.ofString "_wall"), key := Value.str (Str.ofString "_wall") 193, val := Value.ref 21 }, { hash := PyData.keyHash P (Str.ofString "and_"), key := Value.str (Str.ofString "and_") 203, val := Value.ref 28 }, { hash := PyData.keyHash P (Str.ofString "lshift"), key := Value.str (Str.ofString "lshift") 211, val := Value.ref 35 }, { hash := PyData.keyHash P (Str.ofString "mul"), key := Value.str (Str.ofString "mul") 219, val := Value.ref 42 }, { hash := PyData.keyHash P (Str.ofString "or_"), key := Value.str (Str.ofString "or_") 227, val := Value.ref 49 }, { hash := PyData.keyHash P (Str.ofString "sub"), key := Value.str (Str.ofString "sub") 235, val := Value.ref 56 }, { hash := PyData.keyHash P (Str.ofString "ipow"), key := Value.str (Str.ofString "ipow") 243, val := Value.ref 63 }, { hash := PyData.keyHash P (Str.ofString "Int2AP"), key := Value.str (Str.ofString "Int2AP") 255, val := Value.ref 70 }, { hash := PyData.keyHash P (Str.ofString "Whitespace"), key := Value.str (Str.ofString "Whitespace") 349, val := Value.ref 132 }] 18 }
noncomputable def hd.l12 (P : Params) : Obj := { cls := Value.none, data := Data.fields #[Value.int 1 0, Value.int 0 0, Value.ref 20, Value.int 5 0, Value.int 0 0, Value.ref 27, Value.int 7 0, Value.int 0 0, Value.ref 34, Value.int 9 0, Value.int 0 0, Value.ref 41, Value.int 11 0, Value.int 0 0, Value.ref 48, Value.int 13 0, Value.int 0 0, Value.ref 55, Value.int 15 0, Value.int 0 0, Value.ref 62, Value.int 19 0, Value.int 0 0, Value.ref 69, Value.int 28 0, Value.int 0 0, Value.ref 76] }
noncomputable def hd.g62 (P : Params) : Obj := { cls := Value.type "dict", data := Data.dict #[{ hash := PyData.keyHash P (Str.ofString "__name__"), key := Value.str (Str.ofString "__name__") 165, val := Value.str (Str.ofString "cpy313.token") 350 }, { hash := PyData.keyHash P (Str.ofString "__doc__"), key := Value.str (Str.ofString "__doc__") 166, val := Value.none }, { hash := PyData.keyHash P (Str.ofString "__package__"), key := Value.str (Str.ofString "__package__") 167, val := Value.none }, { hash := PyData.keyHash P (Str.ofString "__loader__"), key := Value.str (Str.ofString "__loader__") 168, val := Value.builtin "__main__.__loader__#opaque" }, { hash := PyData.keyHash P (Str.ofString "__spec__"), key := Value.str (Str.ofString "__spec__") 169, val := Value.none }, { hash := PyData.keyHash P (Str.ofString "__annotations__"), key := Value.str (Str.ofString "__annotations__") 170, val := Value.ref 6 }, { hash := PyData.keyHash P (Str.ofString "__builtins__"), key := Value.str (Str.ofString "__builtins__") 171, val := Value.ref 4 }, { hash := PyData.keyHash P (Str.ofString "__file__"), key := Value.str (Str.ofString "__file__") 173, val := Value.str (Str.ofString "/claim/cut.py") 172 }, { hash := PyData.keyHash P (Str.ofString "__cached__"), key := Value.str (Str.ofString "__cached__") 174, val := Value.none }, { hash := PyData.keyHash P (Str.ofString "_wall"), key := Value.str (Str.ofString "_wall") 193, val := Value.ref 21 }, { hash := PyData.keyHash P (Str.ofString "and_"), key := Value.str (Str.ofString "and_") 203, val := Value.ref 28 }, { hash := PyData.keyHash P (Str.ofString "lshift"), key := Value.str (Str.ofString "lshift") 211, val := Value.ref 35 }, { hash := PyData.keyHash P (Str.ofString "mul"), key := Value.str (Str.ofString "mul") 219, val := Value.ref 42 }, { hash := PyData.keyHash P (Str.ofString "or_"), key := Value.str (Str.ofString "or_") 227, val := Value.ref 49 }, { hash := PyData.keyHash P (Str.ofString "sub"), key := Value.str (Str.ofString "sub") 235, val := Value.ref 56 }, { hash := PyData.keyHash P (Str.ofString "ipow"), key := Value.str (Str.ofString "ipow") 243, val := Value.ref 63 }, { hash := PyData.keyHash P (Str.ofString "Int2AP"), key := Value.str (Str.ofString "Int2AP") 255, val := Value.ref 70 }, { hash := PyData.keyHash P (Str.ofString "Whitespace"), key := Value.str (Str.ofString "Whitespace") 349, val := Value.ref 132 }, { hash := PyData.keyHash P (Str.ofString "ENDMARKER"), key := Value.str (Str.ofString "ENDMARKER") 353, val := Value.int 0 352 }, { hash := PyData.keyHash P (Str.ofString "LPAR"), key := Value.str (Str.ofString "LPAR") 355, val := Value.int 7 354 }, { hash := PyData.keyHash P (Str.ofString "RPAR"), key := Value.str (Str.ofString "RPAR") 357, val := Value.int 8 356 }, { hash := PyData.keyHash P (Str.ofString "LSQB"), key := Value.str (Str.ofString "LSQB") 359, val := Value.int 9 358 }, { hash := PyData.keyHash P (Str.ofString "RSQB"), key := Value.str (Str.ofString "RSQB") 361, val := Value.int 10 360 }, { hash := PyData.keyHash P (Str.ofString "COLON"), key := Value.str (Str.ofString "COLON") 363, val := Value.int 11 362 }, { hash := PyData.keyHash P (Str.ofString "COMMA"), key := Value.str (Str.ofString "COMMA") 365, val := Value.int 12 364 }, { hash := PyData.keyHash P (Str.ofString "SEMI"), key := Value.str (Str.ofString "SEMI") 367, val := Value.int 13 366 }, { hash := PyData.keyHash P (Str.ofString "PLUS"), key := Value.str (Str.ofString "PLUS") 369, val := Value.int 14 368 }, { hash := PyData.keyHash P (Str.ofString "MINUS"), key := Value.str (Str.ofString "MINUS") 371, val := Value.int 15 370 }, { hash := PyData.keyHash P (Str.ofString "STAR"), key := Value.str (Str.ofString "STAR") 373, val := Value.int 16 372 }, { hash := PyData.keyHash P (Str.ofString "SLASH"), key := Value.str (Str.ofString "SLASH") 375, val := Value.int 17 374 }, { hash := PyData.keyHash P (Str.ofString "VBAR"), key := Value.str (Str.ofString "VBAR") 377, val := Value.int 18 376 }, { hash := PyData.keyHash P (Str.ofString "AMPER"), key := Value.str (Str.ofString "AMPER") 379, val := Value.int 19 378 }, { hash := PyData.keyHash P (Str.ofString "LESS"), key := Value.str (Str.ofString "LESS") 381, val := Value.int 20 380 }, { hash := PyData.keyHash P (Str.ofString "GREATER"), key := Value.str (Str.ofString "GREATER") 383, val := Value.int 21 382 }, { hash := PyData.keyHash P (Str.ofString "EQUAL"), key := Value.str (Str.ofString "EQUAL") 385, val := Value.int 22 384 }, { hash := PyData.keyHash P (Str.ofString "DOT"), key := Value.str (Str.ofString "DOT") 387, val := Value.int 23 386 }, { hash := PyData.keyHash P (Str.ofString "PERCENT"), key := Value.str (Str.ofString "PERCENT") 389, val := Value.int 24 388 }, { hash := PyData.keyHash P (Str.ofString "LBRACE"), key := Value.str (Str.ofString "LBRACE") 391, val := Value.int 25 390 }, { hash := PyData.keyHash P (Str.ofString "RBRACE"), key := Value.str (Str.ofString "RBRACE") 393, val := Value.int 26 392 }, { hash := PyData.keyHash P (Str.ofString "EQEQUAL"), key := Value.str (Str.ofString "EQEQUAL") 395, val := Value.int 27 394 }, { hash := PyData.keyHash P (Str.ofString "NOTEQUAL"), key := Value.str (Str.ofString "NOTEQUAL") 397, val := Value.int 28 396 }, { hash := PyData.keyHash P (Str.ofString "LESSEQUAL"), key := Value.str (Str.ofString "LESSEQUAL") 399, val := Value.int 29 398 }, { hash := PyData.keyHash P (Str.ofString "GREATEREQUAL"), key := Value.str (Str.ofString "GREATEREQUAL") 401, val := Value.int 30 400 }, { hash := PyData.keyHash P (Str.ofString "TILDE"), key := Value.str (Str.ofString "TILDE") 403, val := Value.int 31 402 }, { hash := PyData.keyHash P (Str.ofString "CIRCUMFLEX"), key := Value.str (Str.ofString "CIRCUMFLEX") 405, val := Value.int 32 404 }, { hash := PyData.keyHash P (Str.ofString "LEFTSHIFT"), key := Value.str (Str.ofString "LEFTSHIFT") 407, val := Value.int 33 406 }, { hash := PyData.keyHash P (Str.ofString "RIGHTSHIFT"), key := Value.str (Str.ofString "RIGHTSHIFT") 409, val := Value.int 34 408 }, { hash := PyData.keyHash P (Str.ofString "DOUBLESTAR"), key := Value.str (Str.ofString "DOUBLESTAR") 411, val := Value.int 35 410 }, { hash := PyData.keyHash P (Str.ofString "PLUSEQUAL"), key := Value.str (Str.ofString "PLUSEQUAL") 413, val := Value.int 36 412 }, { hash := PyData.keyHash P (Str.ofString "MINEQUAL"), key := Value.str (Str.ofString "MINEQUAL") 415, val := Value.int 37 414 }, { hash := PyData.keyHash P (Str.ofString "STAREQUAL"), key := Value.str (Str.ofString "STAREQUAL") 417, val := Value.int 38 416 }, { hash := PyData.keyHash P (Str.ofString "SLASHEQUAL"), key := Value.str (Str.ofString "SLASHEQUAL") 419, val := Value.int 39 418 }, { hash := PyData.keyHash P (Str.ofString "PERCENTEQUAL"), key := Value.str (Str.ofString "PERCENTEQUAL") 421, val := Value.int 40 420 }, { hash := PyData.keyHash P (Str.ofString "AMPEREQUAL"), key := Value.str (Str.ofString "AMPEREQUAL") 423, val := Value.int 41 422 }, { hash := PyData.keyHash P (Str.ofString "VBAREQUAL"), key := Value.str (Str.ofString "VBAREQUAL") 425, val := Value.int 42 424 }, { hash := PyData.keyHash P (Str.ofString "CIRCUMFLEXEQUAL"), key := Value.str (Str.ofString "CIRCUMFLEXEQUAL") 427, val := Value.int 43 426 }, { hash := PyData.keyHash P (Str.ofString "LEFTSHIFTEQUAL"), key := Value.str (Str.ofString "LEFTSHIFTEQUAL") 429, val := Value.int 44 428 }, { hash := PyData.keyHash P (Str.ofString "RIGHTSHIFTEQUAL"), key := Value.str (Str.ofString "RIGHTSHIFTEQUAL") 431, val := Value.int 45 430 }, { hash := PyData.keyHash P (Str.ofString "DOUBLESTAREQUAL"), key := Value.str (Str.ofString "DOUBLESTAREQUAL") 433, val := Value.int 46 432 }, { hash := PyData.keyHash P (Str.ofString "DOUBLESLASH"), key := Value.str (Str.ofString "DOUBLESLASH") 435, val := Value.int 47 434 }, { hash := PyData.keyHash P (Str.ofString "DOUBLESLASHEQUAL"), key := Value.str (Str.ofString "DOUBLESLASHEQUAL") 437, val := Value.int 48 436 }, { hash := PyData.keyHash P (Str.ofString "AT"), key := Value.str (Str.ofString "AT") 439, val := Value.int 49 438 }, { hash := PyData.keyHash P (Str.ofString "ATEQUAL"), key := Value.str (Str.ofString "ATEQUAL") 441, val := Value.int 50 440 }, { hash := PyData.keyHash P (Str.ofString "RARROW"), key := Value.str (Str.ofString "RARROW") 443, val := Value.int 51 442 }, { hash := PyData.keyHash P (Str.ofString "ELLIPSIS"), key := Value.str (Str.ofString "ELLIPSIS") 445, val := Value.int 52 444 }, { hash := PyData.keyHash P (Str.ofString "COLONEQUAL"), key := Value.str (Str.ofString "COLONEQUAL") 447, val := Value.int 53 446 }, { hash := PyData.keyHash P (Str.ofString "EXCLAMATION"), key := Value.str (Str.ofString "EXCLAMATION") 449, val := Value.int 54 448 }, { hash := PyData.keyHash P (Str.ofString "NT_OFFSET"), key := Value.str (Str.ofString "NT_OFFSET") 451, val := Value.int 256 450 }] 68 }
noncomputable def hd.l62 (P : Params) : Obj := { cls := Value.none, data := Data.fields #[Value.int 1 0, Value.int 0 0, Value.ref 20, Value.int 5 0, Value.int 0 0, Value.ref 27, Value.int 7 0, Value.int 0 0, Value.ref 34, Value.int 9 0, Value.int 0 0, Value.ref 41, Value.int 11 0, Value.int 0 0, Value.ref 48, Value.int 13 0, Value.int 0 0, Value.ref 55, Value.int 15 0, Value.int 0 0, Value.ref 62, Value.int 19 0, Value.int 0 0, Value.ref 69, Value.int 28 0, Value.int 0 0, Value.ref 76] }
noncomputable def hd.g63 (P : Params) : Obj := { cls := Value.type "dict", data := Data.dict #[{ hash := PyData.keyHash P (Str.ofString "__name__"), key := Value.str (Str.ofString "__name__") 165, val := Value.str (Str.ofString "cpy313.token") 350 }, { hash := PyData.keyHash P (Str.ofString "__doc__"), key := Value.str (Str.ofString "__doc__") 166, val := Value.none }, { hash := PyData.keyHash P (Str.ofString "__package__"), key := Value.str (Str.ofString "__package__") 167, val := Value.none }, { hash := PyData.keyHash P (Str.ofString "__loader__"), key := Value.str (Str.ofString "__loader__") 168, val := Value.builtin "__main__.__loader__#opaque" }, { hash := PyData.keyHash P (Str.ofString "__spec__"), key := Value.str (Str.ofString "__spec__") 169, val := Value.none }, { hash := PyData.keyHash P (Str.ofString "__annotations__"), key := Value.str (Str.ofString "__annotations__") 170, val := Value.ref 6 }, { hash := PyData.keyHash P (Str.ofString "__builtins__"), key := Value.str (Str.ofString "__builtins__") 171, val := Value.ref 4 }, { hash := PyData.keyHash P (Str.ofString "__file__"), key := Value.str (Str.ofString "__file__") 173, val := Value.str (Str.ofString "/claim/cut.py") 172 }, { hash := PyData.keyHash P (Str.ofString "__cached__"), key := Value.str (Str.ofString "__cached__") 174, val := Value.none }, { hash := PyData.keyHash P (Str.ofString "_wall"), key := Value.str (Str.ofString "_wall") 193, val := Value.ref 21 }, { hash := PyData.keyHash P (Str.ofString "and_"), key := Value.str (Str.ofString "and_") 203, val := Value.ref 28 }, { hash := PyData.keyHash P (Str.ofString "lshift"), key := Value.str (Str.ofString "lshift") 211, val := Value.ref 35 }, { hash := PyData.keyHash P (Str.ofString "mul"), key := Value.str (Str.ofString "mul") 219, val := Value.ref 42 }, { hash := PyData.keyHash P (Str.ofString "or_"), key := Value.str (Str.ofString "or_") 227, val := Value.ref 49 }, { hash := PyData.keyHash P (Str.ofString "sub"), key := Value.str (Str.ofString "sub") 235, val := Value.ref 56 }, { hash := PyData.keyHash P (Str.ofString "ipow"), key := Value.str (Str.ofString "ipow") 243, val := Value.ref 63 }, { hash := PyData.keyHash P (Str.ofString "Int2AP"), key := Value.str (Str.ofString "Int2AP") 255, val := Value.ref 70 }, { hash := PyData.keyHash P (Str.ofString "Whitespace"), key := Value.str (Str.ofString "Whitespace") 349, val := Value.ref 132 }, { hash := PyData.keyHash P (Str.ofString "ENDMARKER"), key := Value.str (Str.ofString "ENDMARKER") 353, val := Value.int 0 352 }, { hash := PyData.keyHash P (Str.ofString "LPAR"), key := Value.str (Str.ofString "LPAR") 355, val := Value.int 7 354 }, { hash := PyData.keyHash P (Str.ofString "RPAR"), key := Value.str (Str.ofString "RPAR") 357, val := Value.int 8 356 }, { hash := PyData.keyHash P (Str.ofString "LSQB"), key := Value.str (Str.ofString "LSQB") 359, val := Value.int 9 358 }, { hash := PyData.keyHash P (Str.ofString "RSQB"), key := Value.str (Str.ofString "RSQB") 361, val := Value.int 10 360 }, { hash := PyData.keyHash P (Str.ofString "COLON"), key := Value.str (Str.ofString "COLON") 363, val := Value.int 11 362 }, { hash := PyData.keyHash P (Str.ofString "COMMA"), key := Value.str (Str.ofString "COMMA") 365, val := Value.int 12 364 }, { hash := PyData.keyHash P (Str.ofString "SEMI"), key := Value.str (Str.ofString "SEMI") 367, val := Value.int 13 366 }, { hash := PyData.keyHash P (Str.ofString "PLUS"), key := Value.str (Str.ofString "PLUS") 369, val := Value.int 14 368 }, { hash := PyData.keyHash P (Str.ofString "MINUS"), key := Value.str (Str.ofString "MINUS") 371, val := Value.int 15 370 }, { hash := PyData.keyHash P (Str.ofString "STAR"), key := Value.str (Str.ofString "STAR") 373, val := Value.int 16 372 }, { hash := PyData.keyHash P (Str.ofString "SLASH"), key := Value.str (Str.ofString "SLASH") 375, val := Value.int 17 374 }, { hash := PyData.keyHash P (Str.ofString "VBAR"), key := Value.str (Str.ofString "VBAR") 377, val := Value.int 18 376 }, { hash := PyData.keyHash P (Str.ofString "AMPER"), key := Value.str (Str.ofString "AMPER") 379, val := Value.int 19 378 }, { hash := PyData.keyHash P (Str.ofString "LESS"), key := Value.str (Str.ofString "LESS") 381, val := Value.int 20 380 }, { hash := PyData.keyHash P (Str.ofString "GREATER"), key := Value.str (Str.ofString "GREATER") 383, val := Value.int 21 382 }, { hash := PyData.keyHash P (Str.ofString "EQUAL"), key := Value.str (Str.ofString "EQUAL") 385, val := Value.int 22 384 }, { hash := PyData.keyHash P (Str.ofString "DOT"), key := Value.str (Str.ofString "DOT") 387, val := Value.int 23 386 }, { hash := PyData.keyHash P (Str.ofString "PERCENT"), key := Value.str (Str.ofString "PERCENT") 389, val := Value.int 24 388 }, { hash := PyData.keyHash P (Str.ofString "LBRACE"), key := Value.str (Str.ofString "LBRACE") 391, val := Value.int 25 390 }, { hash := PyData.keyHash P (Str.ofString "RBRACE"), key := Value.str (Str.ofString "RBRACE") 393, val := Value.int 26 392 }, { hash := PyData.keyHash P (Str.ofString "EQEQUAL"), key := Value.str (Str.ofString "EQEQUAL") 395, val := Value.int 27 394 }, { hash := PyData.keyHash P (Str.ofString "NOTEQUAL"), key := Value.str (Str.ofString "NOTEQUAL") 397, val := Value.int 28 396 }, { hash := PyData.keyHash P (Str.ofString "LESSEQUAL"), key := Value.str (Str.ofString "LESSEQUAL") 399, val := Value.int 29 398 }, { hash := PyData.keyHash P (Str.ofString "GREATEREQUAL"), key := Value.str (Str.ofString "GREATEREQUAL") 401, val := Value.int 30 400 }, { hash := PyData.keyHash P (Str.ofString "TILDE"), key := Value.str (Str.ofString "TILDE") 403, val := Value.int 31 402 }, { hash := PyData.keyHash P (Str.ofString "CIRCUMFLEX"), key := Value.str (Str.ofString "CIRCUMFLEX") 405, val := Value.int 32 404 }, { hash := PyData.keyHash P (Str.ofString "LEFTSHIFT"), key := Value.str (Str.ofString "LEFTSHIFT") 407, val := Value.int 33 406 }, { hash := PyData.keyHash P (Str.ofString "RIGHTSHIFT"), key := Value.str (Str.ofString "RIGHTSHIFT") 409, val := Value.int 34 408 }, { hash := PyData.keyHash P (Str.ofString "DOUBLESTAR"), key := Value.str (Str.ofString "DOUBLESTAR") 411, val := Value.int 35 410 }, { hash := PyData.keyHash P (Str.ofString "PLUSEQUAL"), key := Value.str (Str.ofString "PLUSEQUAL") 413, val := Value.int 36 412 }, { hash := PyData.keyHash P (Str.ofString "MINEQUAL"), key := Value.str (Str.ofString "MINEQUAL") 415, val := Value.int 37 414 }, { hash := PyData.keyHash P (Str.ofString "STAREQUAL"), key := Value.str (Str.ofString "STAREQUAL") 417, val := Value.int 38 416 }, { hash := PyData.keyHash P (Str.ofString "SLASHEQUAL"), key := Value.str (Str.ofString "SLASHEQUAL") 419, val := Value.int 39 418 }, { hash := PyData.keyHash P (Str.ofString "PERCENTEQUAL"), key := Value.str (Str.ofString "PERCENTEQUAL") 421, val := Value.int 40 420 }, { hash := PyData.keyHash P (Str.ofString "AMPEREQUAL"), key := Value.str (Str.ofString "AMPEREQUAL") 423, val := Value.int 41 422 }, { hash := PyData.keyHash P (Str.ofString "VBAREQUAL"), key := Value.str (Str.ofString "VBAREQUAL") 425, val := Value.int 42 424 }, { hash := PyData.keyHash P (Str.ofString "CIRCUMFLEXEQUAL"), key := Value.str (Str.ofString "CIRCUMFLEXEQUAL") 427, val := Value.int 43 426 }, { hash := PyData.keyHash P (Str.ofString "LEFTSHIFTEQUAL"), key := Value.str (Str.ofString "LEFTSHIFTEQUAL") 429, val := Value.int 44 428 }, { hash := PyData.keyHash P (Str.ofString "RIGHTSHIFTEQUAL"), key := Value.str (Str.ofString "RIGHTSHIFTEQUAL") 431, val := Value.int 45 430 }, { hash := PyData.keyHash P (Str.ofString "DOUBLESTAREQUAL"), key := Value.str (Str.ofString "DOUBLESTAREQUAL") 433, val := Value.int 46 432 }, { hash := PyData.keyHash P (Str.ofString "DOUBLESLASH"), key := Value.str (Str.ofString "DOUBLESLASH") 435, val := Value.int 47 434 }, { hash := PyData.keyHash P (Str.ofString "DOUBLESLASHEQUAL"), key := Value.str (Str.ofString "DOUBLESLASHEQUAL") 437, val := Value.int 48 436 }, { hash := PyData.keyHash P (Str.ofString "AT"), key := Value.str (Str.ofString "AT") 439, val := Value.int 49 438 }, { hash := PyData.keyHash P (Str.ofString "ATEQUAL"), key := Value.str (Str.ofString "ATEQUAL") 441, val := Value.int 50 440 }, { hash := PyData.keyHash P (Str.ofString "RARROW"), key := Value.str (Str.ofString "RARROW") 443, val := Value.int 51 442 }, { hash := PyData.keyHash P (Str.ofString "ELLIPSIS"), key := Value.str (Str.ofString "ELLIPSIS") 445, val := Value.int 52 444 }, { hash := PyData.keyHash P (Str.ofString "COLONEQUAL"), key := Value.str (Str.ofString "COLONEQUAL") 447, val := Value.int 53 446 }, { hash := PyData.keyHash P (Str.ofString "EXCLAMATION"), key := Value.str (Str.ofString "EXCLAMATION") 449, val := Value.int 54 448 }, { hash := PyData.keyHash P (Str.ofString "NT_OFFSET"), key := Value.str (Str.ofString "NT_OFFSET") 451, val := Value.int 256 450 }, { hash := PyData.keyHash P (Str.ofString "EXACT_TOKEN_TYPES"), key := Value.str (Str.ofString "EXACT_TOKEN_TYPES") 548, val := Value.ref 137 }] 69 }
noncomputable def hd.l63 (P : Params) : Obj := { cls := Value.none, data := Data.fields #[Value.int 1 0, Value.int 0 0, Value.ref 20, Value.int 5 0, Value.int 0 0, Value.ref 27, Value.int 7 0, Value.int 0 0, Value.ref 34, Value.int 9 0, Value.int 0 0, Value.ref 41, Value.int 11 0, Value.int 0 0, Value.ref 48, Value.int 13 0, Value.int 0 0, Value.ref 55, Value.int 15 0, Value.int 0 0, Value.ref 62, Value.int 19 0, Value.int 0 0, Value.ref 69, Value.int 28 0, Value.int 0 0, Value.ref 76] }
noncomputable def hd.g76 (P : Params) : Obj := { cls := Value.type "dict", data := Data.dict #[{ hash := PyData.keyHash P (Str.ofString "__name__"), key := Value.str (Str.ofString "__name__") 165, val := Value.str (Str.ofString "law_wj0065_01") 563 }, { hash := PyData.keyHash P (Str.ofString "__doc__"), key := Value.str (Str.ofString "__doc__") 166, val := Value.none }, { hash := PyData.keyHash P (Str.ofString "__package__"), key := Value.str (Str.ofString "__package__") 167, val := Value.none }, { hash := PyData.keyHash P (Str.ofString "__loader__"), key := Value.str (Str.ofString "__loader__") 168, val := Value.builtin "__main__.__loader__#opaque" }, { hash := PyData.keyHash P (Str.ofString "__spec__"), key := Value.str (Str.ofString "__spec__") 169, val := Value.none }, { hash := PyData.keyHash P (Str.ofString "__annotations__"), key := Value.str (Str.ofString "__annotations__") 170, val := Value.ref 6 }, { hash := PyData.keyHash P (Str.ofString "__builtins__"), key := Value.str (Str.ofString "__builtins__") 171, val := Value.ref 4 }, { hash := PyData.keyHash P (Str.ofString "__file__"), key := Value.str (Str.ofString "__file__") 173, val := Value.str (Str.ofString "/claim/cut.py") 172 }, { hash := PyData.keyHash P (Str.ofString "__cached__"), key := Value.str (Str.ofString "__cached__") 174, val := Value.none }, { hash := PyData.keyHash P (Str.ofString "_wall"), key := Value.str (Str.ofString "_wall") 193, val := Value.ref 21 }, { hash := PyData.keyHash P (Str.ofString "and_"), key := Value.str (Str.ofString "and_") 203, val := Value.ref 28 }, { hash := PyData.keyHash P (Str.ofString "lshift"), key := Value.str (Str.ofString "lshift") 211, val := Value.ref 35 }, { hash := PyData.keyHash P (Str.ofString "mul"), key := Value.str (Str.ofString "mul") 219, val := Value.ref 42 }, { hash := PyData.keyHash P (Str.ofString "or_"), key := Value.str (Str.ofString "or_") 227, val := Value.ref 49 }, { hash := PyData.keyHash P (Str.ofString "sub"), key := Value.str (Str.ofString "sub") 235, val := Value.ref 56 }, { hash := PyData.keyHash P (Str.ofString "ipow"), key := Value.str (Str.ofString "ipow") 243, val := Value.ref 63 }, { hash := PyData.keyHash P (Str.ofString "Int2AP"), key := Value.str (Str.ofString "Int2AP") 255, val := Value.ref 70 }, { hash := PyData.keyHash P (Str.ofString "Whitespace"), key := Value.str (Str.ofString "Whitespace") 349, val := Value.ref 132 }, { hash := PyData.keyHash P (Str.ofString "ENDMARKER"), key := Value.str (Str.ofString "ENDMARKER") 353, val := Value.int 0 352 }, { hash := PyData.keyHash P (Str.ofString "LPAR"), key := Value.str (Str.ofString "LPAR") 355, val := Value.int 7 354 }, { hash := PyData.keyHash P (Str.ofString "RPAR"), key := Value.str (Str.ofString "RPAR") 357, val := Value.int 8 356 }, { hash := PyData.keyHash P (Str.ofString "LSQB"), key := Value.str (Str.ofString "LSQB") 359, val := Value.int 9 358 }, { hash := PyData.keyHash P (Str.ofString "RSQB"), key := Value.str (Str.ofString "RSQB") 361, val := Value.int 10 360 }, { hash := PyData.keyHash P (Str.ofString "COLON"), key := Value.str (Str.ofString "COLON") 363, val := Value.int 11 362 }, { hash := PyData.keyHash P (Str.ofString "COMMA"), key := Value.str (Str.ofString "COMMA") 365, val := Value.int 12 364 }, { hash := PyData.keyHash P (Str.ofString "SEMI"), key := Value.str (Str.ofString "SEMI") 367, val := Value.int 13 366 }, { hash := PyData.keyHash P (Str.ofString "PLUS"), key := Value.str (Str.ofString "PLUS") 369, val := Value.int 14 368 }, { hash := PyData.keyHash P (Str.ofString "MINUS"), key := Value.str (Str.ofString "MINUS") 371, val := Value.int 15 370 }, { hash := PyData.keyHash P (Str.ofString "STAR"), key := Value.str (Str.ofString "STAR") 373, val := Value.int 16 372 }, { hash := PyData.keyHash P (Str.ofString "SLASH"), key := Value.str (Str.ofString "SLASH") 375, val := Value.int 17 374 }, { hash := PyData.keyHash P (Str.ofString "VBAR"), key := Value.str (Str.ofString "VBAR") 377, val := Value.int 18 376 }, { hash := PyData.keyHash P (Str.ofString "AMPER"), key := Value.str (Str.ofString "AMPER") 379, val := Value.int 19 378 }, { hash := PyData.keyHash P (Str.ofString "LESS"), key := Value.str (Str.ofString "LESS") 381, val := Value.int 20 380 }, { hash := PyData.keyHash P (Str.ofString "GREATER"), key := Value.str (Str.ofString "GREATER") 383, val := Value.int 21 382 }, { hash := PyData.keyHash P (Str.ofString "EQUAL"), key := Value.str (Str.ofString "EQUAL") 385, val := Value.int 22 384 }, { hash := PyData.keyHash P (Str.ofString "DOT"), key := Value.str (Str.ofString "DOT") 387, val := Value.int 23 386 }, { hash := PyData.keyHash P (Str.ofString "PERCENT"), key := Value.str (Str.ofString "PERCENT") 389, val := Value.int 24 388 }, { hash := PyData.keyHash P (Str.ofString "LBRACE"), key := Value.str (Str.ofString "LBRACE") 391, val := Value.int 25 390 }, { hash := PyData.keyHash P (Str.ofString "RBRACE"), key := Value.str (Str.ofString "RBRACE") 393, val := Value.int 26 392 }, { hash := PyData.keyHash P (Str.ofString "EQEQUAL"), key := Value.str (Str.ofString "EQEQUAL") 395, val := Value.int 27 394 }, { hash := PyData.keyHash P (Str.ofString "NOTEQUAL"), key := Value.str (Str.ofString "NOTEQUAL") 397, val := Value.int 28 396 }, { hash := PyData.keyHash P (Str.ofString "LESSEQUAL"), key := Value.str (Str.ofString "LESSEQUAL") 399, val := Value.int 29 398 }, { hash := PyData.keyHash P (Str.ofString "GREATEREQUAL"), key := Value.str (Str.ofString "GREATEREQUAL") 401, val := Value.int 30 400 }, { hash := PyData.keyHash P (Str.ofString "TILDE"), key := Value.str (Str.ofString "TILDE") 403, val := Value.int 31 402 }, { hash := PyData.keyHash P (Str.ofString "CIRCUMFLEX"), key := Value.str (Str.ofString "CIRCUMFLEX") 405, val := Value.int 32 404 }, { hash := PyData.keyHash P (Str.ofString "LEFTSHIFT"), key := Value.str (Str.ofString "LEFTSHIFT") 407, val := Value.int 33 406 }, { hash := PyData.keyHash P (Str.ofString "RIGHTSHIFT"), key := Value.str (Str.ofString "RIGHTSHIFT") 409, val := Value.int 34 408 }, { hash := PyData.keyHash P (Str.ofString "DOUBLESTAR"), key := Value.str (Str.ofString "DOUBLESTAR") 411, val := Value.int 35 410 }, { hash := PyData.keyHash P (Str.ofString "PLUSEQUAL"), key := Value.str (Str.ofString "PLUSEQUAL") 413, val := Value.int 36 412 }, { hash := PyData.keyHash P (Str.ofString "MINEQUAL"), key := Value.str (Str.ofString "MINEQUAL") 415, val := Value.int 37 414 }, { hash := PyData.keyHash P (Str.ofString "STAREQUAL"), key := Value.str (Str.ofString "STAREQUAL") 417, val := Value.int 38 416 }, { hash := PyData.keyHash P (Str.ofString "SLASHEQUAL"), key := Value.str (Str.ofString "SLASHEQUAL") 419, val := Value.int 39 418 }, { hash := PyData.keyHash P (Str.ofString "PERCENTEQUAL"), key := Value.str (Str.ofString "PERCENTEQUAL") 421, val := Value.int 40 420 }, { hash := PyData.keyHash P (Str.ofString "AMPEREQUAL"), key := Value.str (Str.ofString "AMPEREQUAL") 423, val := Value.int 41 422 }, { hash := PyData.keyHash P (Str.ofString "VBAREQUAL"), key := Value.str (Str.ofString "VBAREQUAL") 425, val := Value.int 42 424 }, { hash := PyData.keyHash P (Str.ofString "CIRCUMFLEXEQUAL"), key := Value.str (Str.ofString "CIRCUMFLEXEQUAL") 427, val := Value.int 43 426 }, { hash := PyData.keyHash P (Str.ofString "LEFTSHIFTEQUAL"), key := Value.str (Str.ofString "LEFTSHIFTEQUAL") 429, val := Value.int 44 428 }, { hash := PyData.keyHash P (Str.ofString "RIGHTSHIFTEQUAL"), key := Value.str (Str.ofString "RIGHTSHIFTEQUAL") 431, val := Value.int 45 430 }, { hash := PyData.keyHash P (Str.ofString "DOUBLESTAREQUAL"), key := Value.str (Str.ofString "DOUBLESTAREQUAL") 433, val := Value.int 46 432 }, { hash := PyData.keyHash P (Str.ofString "DOUBLESLASH"), key := Value.str (Str.ofString "DOUBLESLASH") 435, val := Value.int 47 434 }, { hash := PyData.keyHash P (Str.ofString "DOUBLESLASHEQUAL"), key := Value.str (Str.ofString "DOUBLESLASHEQUAL") 437, val := Value.int 48 436 }, { hash := PyData.keyHash P (Str.ofString "AT"), key := Value.str (Str.ofString "AT") 439, val := Value.int 49 438 }, { hash := PyData.keyHash P (Str.ofString "ATEQUAL"), key := Value.str (Str.ofString "ATEQUAL") 441, val := Value.int 50 440 }, { hash := PyData.keyHash P (Str.ofString "RARROW"), key := Value.str (Str.ofString "RARROW") 443, val := Value.int 51 442 }, { hash := PyData.keyHash P (Str.ofString "ELLIPSIS"), key := Value.str (Str.ofString "ELLIPSIS") 445, val := Value.int 52 444 }, { hash := PyData.keyHash P (Str.ofString "COLONEQUAL"), key := Value.str (Str.ofString "COLONEQUAL") 447, val := Value.int 53 446 }, { hash := PyData.keyHash P (Str.ofString "EXCLAMATION"), key := Value.str (Str.ofString "EXCLAMATION") 449, val := Value.int 54 448 }, { hash := PyData.keyHash P (Str.ofString "NT_OFFSET"), key := Value.str (Str.ofString "NT_OFFSET") 451, val := Value.int 256 450 }, { hash := PyData.keyHash P (Str.ofString "EXACT_TOKEN_TYPES"), key := Value.str (Str.ofString "EXACT_TOKEN_TYPES") 548, val := Value.ref 137 }, { hash := PyData.keyHash P (Str.ofString "ISNONTERMINAL"), key := Value.str (Str.ofString "ISNONTERMINAL") 555, val := Value.ref 146 }, { hash := PyData.keyHash P (Str.ofString "ISEOF"), key := Value.str (Str.ofString "ISEOF") 562, val := Value.ref 153 }, { hash := PyData.keyHash P (Str.ofString "_law_drawn"), key := Value.str (Str.ofString "_law_drawn") 570, val := Value.ref 158 }, { hash := PyData.keyHash P (Str.ofString "_law_masks"), key := Value.str (Str.ofString "_law_masks") 576, val := Value.ref 163 }, { hash := PyData.keyHash P (Str.ofString "_law_number"), key := Value.str (Str.ofString "_law_number") 585, val := Value.ref 170 }, { hash := PyData.keyHash P (Str.ofString "_law_together"), key := Value.str (Str.ofString "_law_together") 598, val := Value.ref 177 }, { hash := PyData.keyHash P (Str.ofString "_law_order"), key := Value.str (Str.ofString "_law_order") 604, val := Value.ref 182 }, { hash := PyData.keyHash P (Str.ofString "_law_worths"), key := Value.str (Str.ofString "_law_worths") 610, val := Value.ref 187 }, { hash := PyData.keyHash P (Str.ofString "_law_table"), key := Value.str (Str.ofString "_law_table") 616, val := Value.ref 192 }, { hash := PyData.keyHash P (Str.ofString "_law_diagonal"), key := Value.str (Str.ofString "_law_diagonal") 622, val := Value.ref 197 }, { hash := PyData.keyHash P (Str.ofString "_law_paintings"), key := Value.str (Str.ofString "_law_paintings") 628, val := Value.ref 202 }, { hash := PyData.keyHash P (Str.ofString "law"), key := Value.str (Str.ofString "law") 634, val := Value.ref 207 }] 81 }
noncomputable def hd.l76 (P : Params) : Obj := { cls := Value.none, data := Data.fields #[Value.int 1 0, Value.int 0 0, Value.ref 20, Value.int 5 0, Value.int 0 0, Value.ref 27, Value.int 7 0, Value.int 0 0, Value.ref 34, Value.int 9 0, Value.int 0 0, Value.ref 41, Value.int 11 0, Value.int 0 0, Value.ref 48, Value.int 13 0, Value.int 0 0, Value.ref 55, Value.int 15 0, Value.int 0 0, Value.ref 62, Value.int 19 0, Value.int 0 0, Value.ref 69, Value.int 28 0, Value.int 0 0, Value.ref 76, Value.int 123 0, Value.int 0 0, Value.ref 145, Value.int 125 0, Value.int 0 0, Value.ref 152, Value.int 128 0, Value.int 0 0, Value.ref 157, Value.int 136 0, Value.int 0 0, Value.ref 162, Value.int 147 0, Value.int 0 0, Value.ref 169, Value.int 152 0, Value.int 0 0, Value.ref 176, Value.int 164 0, Value.int 0 0, Value.ref 181, Value.int 175 0, Value.int 0 0, Value.ref 186, Value.int 189 0, Value.int 0 0, Value.ref 191, Value.int 200 0, Value.int 0 0, Value.ref 196, Value.int 210 0, Value.int 0 0, Value.ref 201, Value.int 226 0, Value.int 0 0, Value.ref 206] }
noncomputable def hd.o2 (P : Params) : Obj := { cls := Value.none, data := Data.dict #[] }
noncomputable def hd.heap_39 : Params → Frag := fun P => [(2, hd.o2 P), (3, hd.g76 P), (15, hd.o15 P), (17, hd.o17 P), (18, hd.o18 P), (20, hd.o20 P), (21, hd.o21 P), (22, hd.o22 P), (24, hd.o24 P), (25, hd.o25 P), (27, hd.o27 P), (28, hd.o28 P), (29, hd.o29 P), (31, hd.o31 P), (32, hd.o32 P), (34, hd.o34 P), (35, hd.o35 P), (36, hd.o36 P), (38, hd.o38 P), (39, hd.o39 P), (41, hd.o41 P), (42, hd.o42 P), (43, hd.o43 P), (45, hd.o45 P), (46, hd.o46 P), (48, hd.o48 P), (49, hd.o49 P), (50, hd.o50 P), (52, hd.o52 P), (53, hd.o53 P), (55, hd.o55 P), (56, hd.o56 P), (57, hd.o57 P), (59, hd.o59 P), (60, hd.o60 P), (62, hd.o62 P), (63, hd.o63 P), (64, hd.o64 P), (66, hd.o66 P), (67, hd.o67 P), (69, hd.o69 P), (70, hd.o70 P), (81, hd.o81 P), (83, hd.o83 P), (84, hd.o84 P), (86, hd.o86 P), (87, hd.o87 P), (88, hd.o88 P), (90, hd.o90 P), (91, hd.o91 P), (93, hd.o93 P), (94, hd.o94 P), (95, hd.o95 P), (97, hd.o97 P), (98, hd.o98 P), (100, hd.o100 P), (101, hd.o101 P), (102, hd.o102 P), (104, hd.o104 P), (105, hd.o105 P), (107, hd.o107 P), (108, hd.o108 P), (109, hd.o109 P), (111, hd.o111 P), (112, hd.o112 P), (114, hd.o114 P), (115, hd.o115 P), (116, hd.o116 P), (118, hd.o118 P), (119, hd.o119 P), (121, hd.o121 P), (122, hd.o122 P), (123, hd.o123 P), (125, hd.o125 P), (126, hd.o126 P), (128, hd.o128 P), (129, hd.o129 P), (130, hd.o130 P), (131, hd.o131 P), (132, hd.o132 P), (133, hd.o133 P), (134, hd.o134 P), (137, hd.o137 P), (140, hd.o140 P), (142, hd.o142 P), (143, hd.o143 P), (145, hd.o145 P), (146, hd.o146 P), (147, hd.o147 P), (149, hd.o149 P), (150, hd.o150 P), (152, hd.o152 P), (153, hd.o153 P), (154, hd.o154 P), (157, hd.o157 P), (158, hd.o158 P), (159, hd.o159 P), (162, hd.o162 P), (163, hd.o163 P), (164, hd.o164 P), (166, hd.o166 P), (167, hd.o167 P), (169, hd.o169 P), (170, hd.o170 P), (171, hd.o171 P), (173, hd.o173 P), (174, hd.o174 P), (176, hd.o176 P), (177, hd.o177 P), (178, hd.o178 P), (181, hd.o181 P), (182, hd.o182 P), (183, hd.o183 P), (186, hd.o186 P), (187, hd.o187 P), (188, hd.o188 P), (191, hd.o191 P), (192, hd.o192 P), (193, hd.o193 P), (196, hd.o196 P), (197, hd.o197 P), (198, hd.o198 P), (201, hd.o201 P), (202, hd.o202 P), (203, hd.o203 P), (206, hd.o206 P), (207, hd.o207 P)]
@[reducible] noncomputable def hd.addrs : List Addr := [2, 3, 15, 17, 18, 20, 21, 22, 24, 25, 27, 28, 29, 31, 32, 34, 35, 36, 38, 39, 41, 42, 43, 45, 46, 48, 49, 50, 52, 53, 55, 56, 57, 59, 60, 62, 63, 64, 66, 67, 69, 70, 81, 83, 84, 86, 87, 88, 90, 91, 93, 94, 95, 97, 98, 100, 101, 102, 104, 105, 107, 108, 109, 111, 112, 114, 115, 116, 118, 119, 121, 122, 123, 125, 126, 128, 129, 130, 131, 132, 133, 134, 137, 140, 142, 143, 145, 146, 147, 149, 150, 152, 153, 154, 157, 158, 159, 162, 163, 164, 166, 167, 169, 170, 171, 173, 174, 176, 177, 178, 181, 182, 183, 186, 187, 188, 191, 192, 193, 196, 197, 198, 201, 202, 203, 206, 207]
noncomputable def hd.os (P : Params) (g l : Obj) : List Obj := [boot_o_0 P, boot_o_1 P, boot_o_2 P, g, boot_o_4 P, boot_o_5 P, boot_o_6 P, boot_o_7 P, boot_o_8 P, boot_o_9 P, boot_o_10 P, hd.o11 P, l, hd.o13 P, hd.o14 P, hd.o15 P, hd.o16 P, hd.o17 P, hd.o18 P, hd.o19 P, hd.o20 P, hd.o21 P, hd.o22 P, hd.o23 P, hd.o24 P, hd.o25 P, hd.o26 P, hd.o27 P, hd.o28 P, hd.o29 P, hd.o30 P, hd.o31 P, hd.o32 P, hd.o33 P, hd.o34 P, hd.o35 P, hd.o36 P, hd.o37 P, hd.o38 P, hd.o39 P, hd.o40 P, hd.o41 P, hd.o42 P, hd.o43 P, hd.o44 P, hd.o45 P, hd.o46 P, hd.o47 P, hd.o48 P, hd.o49 P, hd.o50 P, hd.o51 P, hd.o52 P, hd.o53 P, hd.o54 P, hd.o55 P, hd.o56 P, hd.o57 P, hd.o58 P, hd.o59 P, hd.o60 P, hd.o61 P, hd.o62 P, hd.o63 P, hd.o64 P, hd.o65 P, hd.o66 P, hd.o67 P, hd.o68 P, hd.o69 P, hd.o70 P, hd.o71 P, hd.o72 P, hd.o73 P, hd.o74 P, hd.o75 P, hd.o76 P, hd.o77 P, hd.o78 P, hd.o79 P, hd.o80 P, hd.o81 P, hd.o82 P, hd.o83 P, hd.o84 P, hd.o85 P, hd.o86 P, hd.o87 P, hd.o88 P, hd.o89 P, hd.o90 P, hd.o91 P, hd.o92 P, hd.o93 P, hd.o94 P, hd.o95 P, hd.o96 P, hd.o97 P, hd.o98 P, hd.o99 P, hd.o100 P, hd.o101 P, hd.o102 P, hd.o103 P, hd.o104 P, hd.o105 P, hd.o106 P, hd.o107 P, hd.o108 P, hd.o109 P, hd.o110 P, hd.o111 P, hd.o112 P, hd.o113 P, hd.o114 P, hd.o115 P, hd.o116 P, hd.o117 P, hd.o118 P, hd.o119 P, hd.o120 P, hd.o121 P, hd.o122 P, hd.o123 P, hd.o124 P, hd.o125 P, hd.o126 P, hd.o127 P, hd.o128 P, hd.o129 P, hd.o130 P, hd.o131 P, hd.o132 P, hd.o133 P, hd.o134 P, hd.o135 P, hd.o136 P, hd.o137 P, hd.o138 P, hd.o139 P, hd.o140 P, hd.o141 P, hd.o142 P, hd.o143 P, hd.o144 P, hd.o145 P, hd.o146 P, hd.o147 P, hd.o148 P, hd.o149 P, hd.o150 P, hd.o151 P, hd.o152 P, hd.o153 P, hd.o154 P, hd.o155 P, hd.o156 P, hd.o157 P, hd.o158 P, hd.o159 P, hd.o160 P, hd.o161 P, hd.o162 P, hd.o163 P, hd.o164 P, hd.o165 P, hd.o166 P, hd.o167 P, hd.o168 P, hd.o169 P, hd.o170 P, hd.o171 P, hd.o172 P, hd.o173 P, hd.o174 P, hd.o175 P, hd.o176 P, hd.o177 P, hd.o178 P, hd.o179 P, hd.o180 P, hd.o181 P, hd.o182 P, hd.o183 P, hd.o184 P, hd.o185 P, hd.o186 P, hd.o187 P, hd.o188 P, hd.o189 P, hd.o190 P, hd.o191 P, hd.o192 P, hd.o193 P, hd.o194 P, hd.o195 P, hd.o196 P, hd.o197 P, hd.o198 P, hd.o199 P, hd.o200 P, hd.o201 P, hd.o202 P, hd.o203 P, hd.o204 P, hd.o205 P, hd.o206 P, hd.o207 P]
noncomputable def tr (l : List Obj) : Nat → Nat → Nat → BT
  | 0, _, _ => .nil
  | f + 1, a, b => match l[b]? with
    | some o => .node o (tr l f (2 * a) (a + b)) (tr l f (2 * a) (2 * a + b))
    | none => .nil
noncomputable def hd.Sblock (w : World) (os : OsState) : SharedT := ⟨tr ((hd.os w.params (hd.gblock w.params) (hd.lblock w.params)).take 15) 9 1 0, 15, {}, #[], {}, 187, os⟩
noncomputable def hd.pblock : Pos := { line := 0, col := 0, endLine := 0, endCol := 0 }
noncomputable def hd.S12 (w : World) (os : OsState) : SharedT := ⟨tr ((hd.os w.params (hd.g12 w.params) (hd.l12 w.params)).take 137) 9 1 0, 137, {}, #[], {}, 352, os⟩
noncomputable def hd.p12 : Pos := { line := 71, col := 0, endLine := 71, endCol := 8 }
noncomputable def hd.S62 (w : World) (os : OsState) : SharedT := ⟨tr ((hd.os w.params (hd.g62 w.params) (hd.l62 w.params)).take 137) 9 1 0, 137, {}, #[], {}, 452, os⟩
noncomputable def hd.p62 : Pos := { line := 121, col := 0, endLine := 121, endCol := 9 }
noncomputable def hd.S63 (w : World) (os : OsState) : SharedT := ⟨tr ((hd.os w.params (hd.g63 w.params) (hd.l63 w.params)).take 140) 9 1 0, 140, {}, #[], {}, 549, os⟩
noncomputable def hd.p63 : Pos := { line := 122, col := 0, endLine := 122, endCol := 17 }
noncomputable def hd.S76 (w : World) (os : OsState) : SharedT := ⟨tr ((hd.os w.params (hd.g76 w.params) (hd.l76 w.params)).take 208) 9 1 0, 208, {}, #[], {}, 635, os⟩
noncomputable def hd.p76 : Pos := { line := 226, col := 0, endLine := 231, endCol := 89 }
noncomputable def hd.body (b : List Stmt) : List Stmt := b.take 1 ++ (b.drop 2).take 6 ++ (b.drop 9).take 1 ++ (b.drop 11).take 1 ++ (b.drop 13).take 53 ++ (b.drop 67).take 10
noncomputable def hd.view_39 : Program := { PySem.Challenge.pw_wj0065_01 with main := { PySem.Challenge.pw_wj0065_01.main with body := hd.body PySem.Challenge.pw_wj0065_01.main.body } }
noncomputable def hd.env : Env := { scope := PySem.Challenge.pw_wj0065_01.main.scope, locals := mainNs, globals := mainNs, cells := [], code := .ref 13, frame := some 14 }
noncomputable def hd.c : Code := Code.body (behindTheImports PySem.Challenge.pw_wj0065_01) hd.env
end
section
noncomputable abbrev hd.tb : String → Option Builtin := PySem.W.Fast.tw14364793385576792824
theorem hd.tb_eq : treeTable = hd.tb := PySem.W.Fast.te14364793385576792824
noncomputable abbrev hd.B : List Frame := [topFrame ⟨0, 0, 0, 0⟩]
noncomputable abbrev hd.A : Option Value := some (.ref 6)
noncomputable abbrev hd.sts : List Stmt := behindTheImports PySem.Challenge.pw_wj0065_01
noncomputable abbrev hd.seg (w : World) (n : Nat) (S : World → OsState → SharedT) (l : List Stmt) (p : Pos) (S' : World → OsState → SharedT) (p' : Pos) : Prop :=
  (fun os => segRunT hd.tb PySem.Challenge.pw_wj0065_01 w 11 hd.A 1 n (S w os) (piecesOf l hd.env hd.c p hd.B)) = fun os => some (Flow.next, S' w os, hd.c, p')
theorem hd.pre (w : World) : (fun os => topGo hd.tb PySem.Challenge.pw_wj0065_01 w 11 hd.A 12 ⟨boot_heap w.params, Array.mk [], boot_drawn, boot_toks, os⟩ (topStub PySem.Challenge.pw_wj0065_01)) = fun os => some ((hd.Sblock w os).abs, ⟨denote hd.tb hd.c, hd.c, ⟨0, 0, 0, 0⟩, hd.B⟩) := by kernel_rfl
theorem hd.blk (w : World) : (fun os => segRunT hd.tb PySem.Challenge.pw_wj0065_01 w 11 hd.A 1 1 (hd.Sblock w os) (blockOf hd.sts hd.env hd.c ⟨0, 0, 0, 0⟩ hd.B)) = fun os => some (Flow.next, hd.Sblock w os, hd.c, hd.pblock) := by kernel_rfl
theorem hd.seg1F (w : World) : hd.seg (w.withFollow "special-get-raises" false) 762 hd.Sblock (hd.sts.take 13) hd.pblock hd.S12 hd.p12 := by kernel_rfl
theorem hd.seg1T (w : World) : hd.seg (w.withFollow "special-get-raises" true) 762 hd.Sblock (hd.sts.take 13) hd.pblock hd.S12 hd.p12 := by kernel_rfl
theorem hd.seg2 (w : World) : hd.seg w 461 hd.S12 ((hd.sts.drop 13).take 50) hd.p12 hd.S62 hd.p62 := by kernel_rfl
theorem hd.seg3F (w : World) : hd.seg (w.withFollow "special-get-raises" false) 1100 hd.S62 (((hd.sts.drop 13).drop 50).take 1) hd.p62 hd.S63 hd.p63 := by kernel_rfl
theorem hd.seg3T (w : World) : hd.seg (w.withFollow "special-get-raises" true) 1100 hd.S62 (((hd.sts.drop 13).drop 50).take 1) hd.p62 hd.S63 hd.p63 := by kernel_rfl
theorem hd.seg4 (w : World) : hd.seg w 342 hd.S63 (((hd.sts.drop 13).drop 50).drop 1) hd.p63 hd.S76 hd.p76 := by kernel_rfl
theorem hd.fin (w : World) : (fun os => topRun hd.tb PySem.Challenge.pw_wj0065_01 w 11 hd.A 2 (hd.S76 w os).abs ⟨doneF .next, hd.c, hd.p76, hd.B⟩) = fun os => some (hd.S76 w os).abs := by kernel_rfl
theorem hd.seg1 (w : World) : hd.seg w 762 hd.Sblock (hd.sts.take 13) hd.pblock hd.S12 hd.p12 := byRow2 "special-get-raises" (P := fun w => hd.seg w 762 hd.Sblock (hd.sts.take 13) hd.pblock hd.S12 hd.p12) hd.seg1F hd.seg1T w
theorem hd.seg3 (w : World) : hd.seg w 1100 hd.S62 (((hd.sts.drop 13).drop 50).take 1) hd.p62 hd.S63 hd.p63 := byRow2 "special-get-raises" (P := fun w => hd.seg w 1100 hd.S62 (((hd.sts.drop 13).drop 50).take 1) hd.p62 hd.S63 hd.p63) hd.seg3F hd.seg3T w
theorem hd.seg_run {w : World} {n : Nat} {S : World → OsState → SharedT} {l : List Stmt} {p : Pos} {S' : World → OsState → SharedT} {p' : Pos} (h : hd.seg w n S l p S' p') (os : OsState) :
    segRun hd.tb PySem.Challenge.pw_wj0065_01 w 11 hd.A 1 n (S w os).abs (piecesOf l hd.env hd.c p hd.B) = some (Flow.next, (S' w os).abs, hd.c, p') := segRun_of (congrFun h os)
theorem hd.cut : hd.sts = hd.sts.take 13 ++ ((hd.sts.drop 13).take 50 ++ (((hd.sts.drop 13).drop 50).take 1 ++ (((hd.sts.drop 13).drop 50).drop 1 ++ []))) := by
  rw [List.append_nil, List.take_append_drop, List.take_append_drop, List.take_append_drop]
end
section
theorem hd.ran (w : World) (os : OsState) : topRun hd.tb PySem.Challenge.pw_wj0065_01 w 11 hd.A 2680 ⟨boot_heap w.params, Array.mk [], boot_drawn, boot_toks, os⟩ (topStub PySem.Challenge.pw_wj0065_01) = some (hd.S76 w os).abs := by
  refine go_top (n := 12) (N := 1 + (762 + (461 + (1100 + (342 + 2))))) (congrFun (hd.pre w) os) ?_
  refine piece_block (segRun_of (congrFun (hd.blk w) os)) ?_
  rw [show behindTheImports PySem.Challenge.pw_wj0065_01 = _ from hd.cut]
  refine piece_app (hd.seg_run (hd.seg1 w) os) ?_
  refine piece_app (hd.seg_run (hd.seg2 w) os) ?_
  refine piece_app (hd.seg_run (hd.seg3 w) os) ?_
  refine piece_app (hd.seg_run (hd.seg4 w) os) ?_
  exact piece_nil (congrFun (hd.fin w) os)
end
section
noncomputable abbrev hd.L : List Str := [Str.ofString "Whitespace", Str.ofString "EXACT_TOKEN_TYPES"]
noncomputable abbrev hd.R : RowW := PySem.Challenge.rw_wj0065_01.row.toRowW
noncomputable abbrev hd.X : Shared → Bool := fun s => xlAt hd.view_39 [] s && recOk (RowW.records hd.R) s
noncomputable abbrev hd.H : Hook := kHook hd.heap_39 hd.addrs (fun _ => by kernel_rfl)
theorem hd.seen_eq : @openSeen = @PySem.W.Fast.tw4187177175401517315 := PySem.W.Fast.te4187177175401517315
theorem hd.check1 (w : World) : (fun os => staticsOk (importedModules PySem.Challenge.pw_wj0065_01.main.body) (boot_heap w.params) (hd.S76 w os).abs.heap && namesBound PySem.Challenge.pw_wj0065_01 (hd.S76 w os).abs.heap && gensDone (hd.S76 w os).abs && laidKept (boot_heap w.params) (hd.S76 w os).abs.heap) = fun _ => true := by kernel_rfl
theorem hd.check2 (w : World) : (fun os => @PySem.W.Fast.tw4187177175401517315 hd.view_39 hd.L (importedModules PySem.Challenge.pw_wj0065_01.main.body) hd.X true (hd.S76 w os).abs) = fun _ => openGood hd.view_39 hd.L := by kernel_rfl
theorem hd.check3 (w : World) : (fun os => Hook.obs hd.H (hd.S76 w os).abs) = fun _ => Hook.val hd.H w := by kernel_rfl
end
section
theorem hd.boot (w : World) : (fencedOpening treeTable PySem.Challenge.pw_wj0065_01 w 2680).map (fun s => (s.heap, s.gens, s.drawn, s.toks)) = some (boot_heap w.params, Array.mk [], boot_drawn, boot_toks) :=
  boot_open (by kernel_rfl) (by decide +kernel) (fun s => by kernel_rfl) w
theorem hd.at0 (P : Params) : ((boot_heap P).isNs mainGlobals, (boot_heap P).objs.size, (boot_heap P).nsMap mainGlobals "__annotations__") = (true, 11, hd.A) := by kernel_rfl
theorem hd.from_ (w : World) (os : OsState) : topFrom treeTable PySem.Challenge.pw_wj0065_01 w 2680 ⟨boot_heap w.params, Array.mk [], boot_drawn, boot_toks, os⟩ = some (hd.S76 w os).abs := by
  obtain ⟨h1, h2⟩ := Prod.mk.inj (hd.at0 w.params)
  obtain ⟨h2, h3⟩ := Prod.mk.inj h2
  unfold topFrom
  rw [h1, h2, h3, hd.tb_eq, hd.ran w os]
  show (match _ with | true => some _ | false => none) = _
  have c := congrFun (hd.check1 w) os
  dsimp only at c ⊢
  rw [c]
theorem hd.left : LeftO PySem.Challenge.pw_wj0065_01 hd.view_39 hd.L hd.X (Hook.obs hd.H) (Hook.val hd.H) 2680 := fun w => by
  obtain ⟨⟨h0, g0, d0, k0, os⟩, e, e2⟩ := Option.map_eq_some_iff.mp (hd.boot w)
  obtain ⟨rfl, e2⟩ := Prod.mk.inj e2
  obtain ⟨rfl, e2⟩ := Prod.mk.inj e2
  obtain ⟨rfl, rfl⟩ := Prod.mk.inj e2
  unfold openEnds
  rw [e]
  show Option.map _ (topFrom treeTable PySem.Challenge.pw_wj0065_01 w 2680 ⟨boot_heap w.params, Array.mk [], boot_drawn, boot_toks, os⟩) = _
  rw [hd.from_]
  refine congrArg some (Prod.ext ?_ ?_)
  · show openSeen _ _ _ _ _ _ = _
    rw [hd.seen_eq]
    exact congrFun (hd.check2 w) os
  · exact congrFun (hd.check3 w) os
end
section
theorem hd.said : OpenLaw.wellSaid PySem.Challenge.rw_wj0065_01 = true :=
  (congrFun PySem.W.Fast.te9446332074065402090 PySem.Challenge.rw_wj0065_01).trans (show PySem.W.Fast.tw9446332074065402090 PySem.Challenge.rw_wj0065_01 = true by kernel_rfl)
end
section
theorem hd {d : DefRec} {kwd : List (Str × PySem.Expr)} (hdef : defOf hd.view_39 PySem.Challenge.rw_wj0065_01.row.name = some (d, kwd))
    (hp : PySem.Challenge.rw_wj0065_01.row.prog.theDef PySem.Challenge.rw_wj0065_01.row.name = some (d.params, d.body, d.scope)) (hk : kwWritten? d.params.kwonlyargs d.params.kw_defaults = some kwd)
    (walk : WalkO hd.view_39 hd.L (XL hd.view_39 []) (Hook.says hd.H) hd.R d kwd fun f vs => PySem.call f vs) : PySem.Challenge.rw_wj0065_01.Holds := holds_law hd.said fun said => by
  refine holds_open (q := hd.view_39) (loose := hd.L) (Xt := hd.X) (XP := XL hd.view_39 []) (Yf := Hook.obs hd.H) (Ya := Hook.val hd.H) (YP := Hook.says hd.H) (N := 2680) hd.left (Hook.of hd.H) (Hook.keeps hd.H) (fun s e => xl_of s (Bool.and_eq_true_iff.mp e).1) XL.keeps hdef hp hk (fun s e => recFacts_of (Bool.and_eq_true_iff.mp e).2) (by rfl) (by assumption) (by decide +kernel) ⟨rfl, rfl, rfl, rfl, rfl, by decide +kernel⟩ ?hw walk
  w_witness2
end
section
noncomputable abbrev KP := hd.heap_39
noncomputable abbrev Res := Obj → Prop
noncomputable abbrev Rs := List (Addr × Res)
noncomputable abbrev Le (h h' : Heap) : Prop := ∀ b o, h.get? b = some o → h'.get? b = some o

structure Wf (w : World) (h : Heap) : Prop where
  kin : (KP w.params).In h
  top : ∃ mg mb, h.Ns mainGlobals mg ∧ h.Ns builtinsNs mb ∧ ∀ x : Str, x ≠ "__name__" → mb x = bootBuiltins x
  nolimit : h.NoLimit
theorem Wf.keeps {w : World} {h h' : Heap} (x : Wf w h) (hk : Le h h') : Wf w h' where
  kin := x.kin.keeps hk
  top := let ⟨mg, mb, a, b, c⟩ := x.top; ⟨mg, mb, a.keeps hk, b.keeps hk, c⟩
  nolimit := x.nolimit.keeps hk

structure Cx (w : World) (B : Shared) (g : Heap) (rs : Rs) (s : Shared) : Prop where
  gens : s.gens = B.gens
  drawn : s.drawn = B.drawn
  os : s.os = B.os
  wf : Wf w g
  keep : Le g s.heap
  own : ∀ p ∈ rs, (∃ o, s.heap.get? p.1 = some o ∧ p.2 o) ∧ g.get? p.1 = none
  nd : (rs.map (·.1)).Nodup

inductive Upd : Rs → Addr → Res → Res → Rs → Prop
  | hd {a r r' l} : Upd ((a, r) :: l) a r r' ((a, r') :: l)
  | tl {p l l' a r r'} : Upd l a r r' l' → Upd (p :: l) a r r' (p :: l')
inductive Rm : Rs → Addr → Res → Rs → Prop
  | hd {a r l} : Rm ((a, r) :: l) a r l
  | tl {p l l' a r} : Rm l a r l' → Rm (p :: l) a r (p :: l')

theorem Upd.mem {l l' a r r'} (u : Upd l a r r' l') : (a, r) ∈ l := by
  induction u with
  | hd => exact .head _
  | tl _ ih => exact .tail _ ih
theorem Upd.keys {l l' a r r'} (u : Upd l a r r' l') : l'.map (·.1) = l.map (·.1) := by
  induction u with
  | hd => rfl
  | tl _ ih => simp [ih]
theorem Upd.mem' {l l' a r r'} (u : Upd l a r r' l') : ∀ p ∈ l', p = (a, r') ∨ p ∈ l := by
  induction u with
  | hd => intro p hp; rcases List.mem_cons.mp hp with rfl | hp; exact .inl rfl; exact .inr (.tail _ hp)
  | tl _ ih =>
    intro p hp
    rcases List.mem_cons.mp hp with rfl | hp
    · exact .inr (.head _)
    · rcases ih p hp with h | h
      · exact .inl h
      · exact .inr (.tail _ h)
theorem Upd.apart {l l' a r r'} (u : Upd l a r r' l') (nd : (l.map (·.1)).Nodup) : ∀ p ∈ l', p = (a, r') ∨ (p ∈ l ∧ p.1 ≠ a) := by
  induction u with
  | hd =>
    intro p hp
    rcases List.mem_cons.mp hp with rfl | hp
    · exact .inl rfl
    · simp only [List.map_cons, List.nodup_cons] at nd
      exact .inr ⟨.tail _ hp, fun e => nd.1 (e ▸ List.mem_map_of_mem hp)⟩
  | tl u ih =>
    simp only [List.map_cons, List.nodup_cons] at nd
    intro p hp
    rcases List.mem_cons.mp hp with rfl | hp
    · exact .inr ⟨.head _, fun e => nd.1 (by rw [e]; exact List.mem_map_of_mem (f := (·.1)) u.mem)⟩
    · rcases ih nd.2 p hp with h | ⟨h, h'⟩
      · exact .inl h
      · exact .inr ⟨.tail _ h, h'⟩
theorem Rm.mem {l l' a r} (u : Rm l a r l') : (a, r) ∈ l := by
  induction u with
  | hd => exact .head _
  | tl _ ih => exact .tail _ ih
theorem Rm.sub {l l' a r} (u : Rm l a r l') : l'.Sublist l := by
  induction u with
  | hd => exact List.sublist_cons_self _ _
  | tl _ ih => exact ih.cons_cons _
theorem Rm.apart {l l' a r} (u : Rm l a r l') (nd : (l.map (·.1)).Nodup) : ∀ p ∈ l', p ∈ l ∧ p.1 ≠ a := by
  induction u with
  | hd =>
    intro p hp
    simp only [List.map_cons, List.nodup_cons] at nd
    exact ⟨.tail _ hp, fun e => nd.1 (e ▸ List.mem_map_of_mem hp)⟩
  | tl u ih =>
    simp only [List.map_cons, List.nodup_cons] at nd
    intro p hp
    rcases List.mem_cons.mp hp with rfl | hp
    · exact ⟨.head _, fun e => nd.1 (by rw [e]; exact List.mem_map_of_mem (f := (·.1)) u.mem)⟩
    · exact ⟨.tail _ (ih nd.2 p hp).1, (ih nd.2 p hp).2⟩

section
variable {w : World} {B s s' : Shared} {g h' : Heap} {rs rs' : Rs} {a : Addr} {r r' : Res}

theorem Cx.get (C : Cx w B g rs s) (hm : (a, r) ∈ rs) : ∃ o, s.heap.get? a = some o ∧ r o := (C.own _ hm).1
theorem Cx.gnone (C : Cx w B g rs s) (hm : (a, r) ∈ rs) : g.get? a = none := (C.own _ hm).2
theorem Cx.kin (C : Cx w B g rs s) : (KP w.params).In s.heap := C.wf.kin.keeps C.keep
theorem Cx.wfs (C : Cx w B g rs s) : Wf w s.heap := C.wf.keeps C.keep
theorem Cx.tok (C : Cx w B g rs s) (t : Nat) : Cx w B g rs { s with toks := t } := ⟨C.gens, C.drawn, C.os, C.wf, C.keep, C.own, C.nd⟩
theorem Cx.grow (C : Cx w B g rs s) (hk : Le s.heap h') (t : Nat) : Cx w B g rs { s with heap := h', toks := t } :=
  ⟨C.gens, C.drawn, C.os, C.wf, fun b o e => hk b o (C.keep b o e), fun p hp => ⟨let ⟨o, ho, hr⟩ := (C.own p hp).1; ⟨o, hk _ _ ho, hr⟩, (C.own p hp).2⟩, C.nd⟩
theorem Cx.upd (C : Cx w B g rs s) (u : Upd rs a r r' rs') (hs : Heap.ExtBut a s.heap h') (ha : ∃ o, h'.get? a = some o ∧ r' o) (t : Nat) : Cx w B g rs' { s with heap := h', toks := t } := by
  refine ⟨C.gens, C.drawn, C.os, C.wf, ?_, ?_, by rw [u.keys]; exact C.nd⟩
  · intro b o e
    refine hs b o ?_ (C.keep b o e)
    rintro rfl
    rw [C.gnone u.mem] at e
    cases e
  · intro p hp
    rcases u.apart C.nd p hp with rfl | ⟨h1, h2⟩
    · exact ⟨ha, C.gnone u.mem⟩
    · exact ⟨let ⟨o, ho, hr⟩ := (C.own p h1).1; ⟨o, hs _ _ h2 ho, hr⟩, (C.own p h1).2⟩
theorem Cx.rm (C : Cx w B g rs s) (u : Rm rs a r rs') (hs : Heap.ExtBut a s.heap h') (t : Nat) : Cx w B g rs' { s with heap := h', toks := t } := by
  refine ⟨C.gens, C.drawn, C.os, C.wf, ?_, ?_, (u.sub.map _).nodup C.nd⟩
  · intro b o e
    refine hs b o ?_ (C.keep b o e)
    rintro rfl
    rw [C.gnone u.mem] at e
    cases e
  · intro p hp
    obtain ⟨h1, h2⟩ := u.apart C.nd p hp
    exact ⟨let ⟨o, ho, hr⟩ := (C.own p h1).1; ⟨o, hs _ _ h2 ho, hr⟩, (C.own p h1).2⟩
theorem Cx.drop (C : Cx w B g rs s) (u : Rm rs a r rs') : Cx w B g rs' s := C.rm u (Heap.ExtBut.refl a _) s.toks
theorem Cx.cons (C : Cx w B g rs s) {o : Obj} (ha : s.heap.get? a = some o) (hr : r o) (hg : g.get? a = Option.none) (hn : a ∉ rs.map (·.1)) : Cx w B g ((a, r) :: rs) s :=
  ⟨C.gens, C.drawn, C.os, C.wf, C.keep, fun p hp => by
    rcases List.mem_cons.mp hp with rfl | hp
    · exact ⟨⟨o, ha, hr⟩, hg⟩
    · exact C.own p hp, by simp only [List.map_cons, List.nodup_cons]; exact ⟨hn, C.nd⟩⟩
theorem Cx.lt (C : Cx w B g rs s) : ∀ a ∈ rs.map (·.1), a < s.heap.objs.size := by
  intro a ha
  obtain ⟨p, hp, rfl⟩ := List.mem_map.mp ha
  obtain ⟨⟨o, ho, _⟩, _⟩ := C.own p hp
  exact Heap.lt_size ho
/-- a fresh object that a step has made -/
theorem Cx.add (C : Cx w B g rs s) (hk : Le s.heap h') {o : Obj} (hn : s.heap.get? a = Option.none) (ha : h'.get? a = some o) (hr : r o) (t : Nat) : Cx w B g ((a, r) :: rs) { s with heap := h', toks := t } := by
  refine (C.grow hk t).cons ha hr ?_ ?_
  · cases e : g.get? a with
    | none => rfl
    | some o' => rw [C.keep _ _ e] at hn; cases hn
  · intro hm
    obtain ⟨p, hp, rfl⟩ := List.mem_map.mp hm
    obtain ⟨⟨o', ho', _⟩, _⟩ := C.own p hp
    rw [ho'] at hn
    cases hn
theorem Cx.push (C : Cx w B g rs s) (o : Obj) (hr : r o) (hf : o.isFreed = false := by rfl) (t : Nat := s.toks) : Cx w B g ((s.heap.objs.size, r) :: rs) { s with heap := s.heap.push o, toks := t } := by
  refine C.add (fun b o' e => Heap.get?_push_of_some _ e) ?_ (Heap.get?_push_size _ hf) hr t
  cases e : s.heap.get? s.heap.objs.size with
  | none => rfl
  | some o' => exact absurd (Heap.lt_size e) (Nat.lt_irrefl _)

theorem Cx.weakAt (C : Cx w B g rs s) (u : Upd rs a r r' rs') (hr : ∀ o, r o → r' o) : Cx w B g rs' s := by
  refine C.upd u (Heap.ExtBut.refl a _) ?_ s.toks
  obtain ⟨o, ho, h⟩ := C.get u.mem
  exact ⟨o, ho, hr o h⟩

inductive Sel : Rs → Rs → Prop
  | nil {l} : Sel l []
  | refl {l} : Sel l l
  | cons {l l' m a r} : Rm l a r l' → Sel l' m → Sel l ((a, r) :: m)
  | skip {p l m} : Sel l m → Sel (p :: l) m
theorem Cx.sel (C : Cx w B g rs s) (u : Sel rs rs') : Cx w B g rs' s := by
  induction u with
  | nil => exact ⟨C.gens, C.drawn, C.os, C.wf, C.keep, fun _ h => (nomatch h), List.nodup_nil⟩
  | refl => exact C
  | @skip p l m _ ih => exact ih (C.drop (a := p.1) (r := p.2) .hd)
  | @cons l l' m a r u hs ih =>
    have C' := ih (C.drop u)
    obtain ⟨⟨o, ho, hr⟩, hg⟩ := C.own _ u.mem
    refine C'.cons ho hr hg ?_
    have hsub : ∀ {l m : Rs}, Sel l m → ∀ p ∈ m, p ∈ l := by
      intro l m hs
      induction hs with
      | nil => intro p hp; cases hp
      | refl => exact fun p hp => hp
      | skip _ ih => exact fun p hp => .tail _ (ih p hp)
      | cons u _ ih =>
        intro p hp
        rcases List.mem_cons.mp hp with rfl | hp
        · exact u.mem
        · exact u.sub.subset (ih p hp)
    intro hm
    obtain ⟨p, hp, e⟩ := List.mem_map.mp hm
    exact (u.apart C.nd p (hsub hs p hp)).2 e

/-- freeze all that is not listed -/
theorem Cx.freeze (C : Cx w B g rs s) (u : Sel rs rs') : ∃ g', Le g g' ∧ Le g' s.heap ∧ (∀ p ∈ rs, p.1 ∉ rs'.map (·.1) → ∃ o, g'.get? p.1 = some o ∧ p.2 o) ∧ (∀ b o, s.heap.get? b = some o → b ∉ rs'.map (·.1) → g'.get? b = some o) ∧ Cx w B g' rs' s := by
  have C' := C.sel u
  refine ⟨hideAll s.heap (rs'.map (·.1)), ?_, ?_, ?_, ?_, ?_⟩
  · intro b o e
    refine hideAll_get _ (C.keep b o e) ?_
    intro hm
    obtain ⟨p, hp, rfl⟩ := List.mem_map.mp hm
    rw [(C'.own p hp).2] at e
    cases e
  · intro b o e
    exact of_hideAll _ e
  · intro p hp hn
    obtain ⟨o, ho, hr⟩ := (C.own p hp).1
    exact ⟨o, hideAll_get _ ho hn, hr⟩
  · intro b o e hn
    exact hideAll_get _ e hn
  · refine ⟨C.gens, C.drawn, C.os, C'.wf.keeps ?_, fun b o e => of_hideAll _ e, fun p hp => ⟨(C'.own p hp).1, hideAll_none _ (List.mem_map_of_mem hp)⟩, C'.nd⟩
    intro b o e
    refine hideAll_get _ (C.keep b o e) ?_
    intro hm
    obtain ⟨p, hp, rfl⟩ := List.mem_map.mp hm
    rw [(C'.own p hp).2] at e
    cases e
end

/-! locals, lists, cells -/
noncomputable def rLoc (vs : List (Str × Value)) : Res := fun o => ∃ (m : Str → Option Value) (es : Array DictEntry) (ep : Nat), o.data = .dict es ep ∧ StrKeys es ∧ (∀ x, nsFind es x = m x) ∧ (vs.map (·.1)).Nodup ∧ ∀ p ∈ vs, m p.1 = some p.2
noncomputable def rLst (vs : List Value) : Res := fun o => ∃ n, o = { cls := .type "list", data := .seq vs.toArray n }
noncomputable def rTup (vs : List Value) : Res := fun o => ∃ n, o = { cls := .type "tuple", data := .seq vs.toArray n }
noncomputable def rCell (v : Option Value) : Res := fun o => o.data = .cell v
noncomputable def rLit (l : Addr) (i : Nat) : Res := fun o => o.cls = .type "list_iterator" ∧ o.data = .fields #[.ref l, .int i 0]

inductive Put : List (Str × Value) → Str → Value → List (Str × Value) → Prop
  | nil {x v} : Put [] x v [(x, v)]
  | hd {x u v l} : Put ((x, u) :: l) x v ((x, v) :: l)
  | tl {x y u v l l'} : y ≠ x → Put l x v l' → Put ((y, u) :: l) x v ((y, u) :: l')
theorem Put.keys {vs vs' : List (Str × Value)} {x : Str} {v : Value} (u : Put vs x v vs') : ∀ p ∈ vs', p.1 = x ∨ p.1 ∈ vs.map (·.1) := by
  induction u with
  | nil => intro p hp; rw [List.mem_singleton.mp hp]; exact .inl rfl
  | hd =>
    intro p hp
    rcases List.mem_cons.mp hp with rfl | hp
    · exact .inl rfl
    · exact .inr (List.mem_cons_of_mem _ (List.mem_map_of_mem hp))
  | tl _ _ ih =>
    intro p hp
    rcases List.mem_cons.mp hp with rfl | hp
    · exact .inr (List.mem_cons_self ..)
    · exact (ih p hp).imp id fun h => List.mem_cons_of_mem _ h
theorem Put.nodup {vs vs' : List (Str × Value)} {x : Str} {v : Value} (u : Put vs x v vs') (h : (vs.map (·.1)).Nodup) : (vs'.map (·.1)).Nodup := by
  induction u with
  | nil => simp
  | hd => simpa using h
  | tl hne u ih =>
    simp only [List.map_cons, List.nodup_cons] at h ⊢
    refine ⟨fun hm => ?_, ih h.2⟩
    obtain ⟨p, hp, e⟩ := List.mem_map.mp hm
    rcases u.keys p hp with h' | h'
    · exact hne (e.symm.trans h')
    · exact h.1 (e ▸ h')
theorem Put.all {vs vs' : List (Str × Value)} {x : Str} {v : Value} {m : Str → Option Value} (u : Put vs x v vs') (h : ∀ p ∈ vs, p.1 ≠ x → m p.1 = some p.2)
    (hnd : (vs.map (·.1)).Nodup) : ∀ p ∈ vs', (if p.1 = x then some v else m p.1) = some p.2 := by
  induction u with
  | nil => intro p hp; rw [List.mem_singleton.mp hp]; simp
  | @hd x u v l =>
    simp only [List.map_cons, List.nodup_cons] at hnd
    intro p hp
    rcases List.mem_cons.mp hp with rfl | hp
    · simp
    · have hne : p.1 ≠ x := fun e => hnd.1 (by rw [← e]; exact List.mem_map_of_mem hp)
      rw [if_neg hne]; exact h p (.tail _ hp) hne
  | tl hne _ ih =>
    simp only [List.map_cons, List.nodup_cons] at hnd
    intro p hp
    rcases List.mem_cons.mp hp with rfl | hp
    · rw [if_neg hne]; exact h _ (.head _) hne
    · exact ih (fun p hp => h p (.tail _ hp)) hnd.2 p hp

section
variable {w : World} {B s : Shared} {g : Heap} {rs rs' : Rs} {L a : Addr}
theorem Cx.ns (C : Cx w B g rs s) {vs : List (Str × Value)} (hm : (L, rLoc vs) ∈ rs) : ∃ m, s.heap.Ns L m ∧ (vs.map (·.1)).Nodup ∧ ∀ p ∈ vs, m p.1 = some p.2 := by
  obtain ⟨o, ho, m, es, ep, h1, h2, h3, h4, h5⟩ := C.get hm
  exact ⟨m, ⟨o, es, ep, ho, h1, h2, h3⟩, h4, h5⟩
theorem rLoc_of_ns {h : Heap} {vs : List (Str × Value)} {m : Str → Option Value} (hn : h.Ns L m) (hd : (vs.map (·.1)).Nodup) (ha : ∀ p ∈ vs, m p.1 = some p.2) : ∃ o, h.get? L = some o ∧ rLoc vs o := by
  obtain ⟨o, es, ep, ho, h1, h2, h3⟩ := hn
  exact ⟨o, ho, m, es, ep, h1, h2, h3, hd, ha⟩
theorem rLoc_sub {vs vs' : List (Str × Value)} (hd : (vs'.map (·.1)).Nodup) (hs : ∀ p ∈ vs', p ∈ vs) (o : Obj) (h : rLoc vs o) : rLoc vs' o := by
  obtain ⟨m, es, ep, h1, h2, h3, h4, h5⟩ := h
  exact ⟨m, es, ep, h1, h2, h3, hd, fun p hp => h5 p (hs p hp)⟩
theorem Cx.plain (C : Cx w B g rs s) {vs : List Value} (hm : (a, rLst vs) ∈ rs) : s.heap.PlainList a vs.toArray := by
  obtain ⟨o, ho, n, rfl⟩ := C.get hm
  exact ⟨n, ho⟩
theorem rLst_of {h : Heap} {vs : List Value} (hp : h.PlainList a vs.toArray) : ∃ o, h.get? a = some o ∧ rLst vs o := by
  obtain ⟨n, ho⟩ := hp
  exact ⟨_, ho, n, rfl⟩
end
end
section
structure Gr (s s' : Shared) : Prop where
  gens : s'.gens = s.gens
  drawn : s'.drawn = s.drawn
  os : s'.os = s.os
  le : Le s.heap s'.heap
structure Room (n : Nat) (A : Around) : Prop where
  hh : A.handled = none
  depth : A.depth + n < recursionLimit
  units : A.units + 10 * n + 20 < cLine
theorem Room.deeper {n : Nat} {A : Around} (x : Room (n + 1) A) (env : Env) : Room n (A.deeper env) := ⟨x.hh, by have := x.depth; simp only [Around.deeper]; omega, by have := x.units; simp only [Around.deeper]; omega⟩
theorem Room.le {n k : Nat} {A : Around} (x : Room n A) (h : k ≤ n) : Room k A := ⟨x.hh, by have := x.depth; omega, by have := x.units; omega⟩
theorem Room.room {n : Nat} {A : Around} (x : Room n A) : A.depth < recursionLimit := by have := x.depth; omega
theorem Room.u {n : Nat} {A : Around} (x : Room n A) : A.units < cLine := by have := x.units; omega

section
variable {w : World} {B s s' : Shared} {g : Heap} {rs rs' : Rs} {L a : Addr} {M : Model} {A : Around} {E : Value → Shared → Prop} {env : Env}
theorem Cx.gr (C : Cx w B g rs s) (x : Gr s s') : Cx w B g rs s' := by
  have := C.grow (h' := s'.heap) x.le s'.toks
  obtain ⟨h, G, D, t, O⟩ := s'
  have e1 := x.gens; have e2 := x.drawn; have e3 := x.os
  dsimp only at e1 e2 e3 this
  subst e1; subst e2; subst e3
  exact this
theorem Cx.addGr (C : Cx w B g rs s) (x : Gr s s') {r : Res} {o : Obj} (hn : s.heap.get? a = none) (ha : s'.heap.get? a = some o) (hr : r o) : Cx w B g ((a, r) :: rs) s' := by
  have := C.add (h' := s'.heap) x.le hn ha hr s'.toks
  obtain ⟨h, G, D, t, O⟩ := s'
  have e1 := x.gens; have e2 := x.drawn; have e3 := x.os
  dsimp only at e1 e2 e3 this
  subst e1; subst e2; subst e3
  exact this
/-- at the end of a call: what the caller may know -/
theorem Cx.back (C : Cx w s s.heap rs s') : Gr s s' := ⟨C.gens, C.drawn, C.os, C.keep⟩
theorem Cx.start (W : Wf w s.heap) : Cx w s s.heap [] s := ⟨rfl, rfl, rfl, W, fun _ _ e => e, fun _ h => (nomatch h), List.nodup_nil⟩

/-! names -/
theorem x_loc {vs : List (Str × Value)} {x : Str} {pos : Pos} {v : Value} {Q : Value → Shared → Prop} (C : Cx w B g rs s) (hm : (env.locals, rLoc vs) ∈ rs) (hv : (x, v) ∈ vs) (h : Q v s)
    (hk : env.scope.kind = .function := by rfl) (hl : env.kindOf x = some .local := by rfl) (hd : (x == ("__debug__" : Str)) = false := by decide) : wpAny M A (eval (.Name x pos) env) Q E s := by
  obtain ⟨m, hn, _, ha⟩ := C.ns hm
  exact wpAny_Name (wpAny_loadName_local hk hl hn (ha _ hv) h) hd
theorem x_locN {vs : List (Str × Value)} {x : Str} {v : Value} {Q : Value → Shared → Prop} (C : Cx w B g rs s) (hm : (env.locals, rLoc vs) ∈ rs) (hv : (x, v) ∈ vs) (h : Q v s)
    (hk : env.scope.kind = .function := by rfl) (hl : env.kindOf x = some .local := by rfl) : wpAny M A (loadName env x) Q E s := by
  obtain ⟨m, hn, _, ha⟩ := C.ns hm
  exact wpAny_loadName_local hk hl hn (ha _ hv) h
theorem x_cell {x : Str} {pos : Pos} {c : Addr} {v : Value} {Q : Value → Shared → Prop} (C : Cx w B g rs s) (hc : env.cells.lookup x = some c) (hm : (c, rCell (some v)) ∈ rs) (h : Q v s)
    (hk : env.scope.kind = .function := by rfl) (hl : env.kindOf x = some .cell := by rfl) (hd : (x == ("__debug__" : Str)) = false := by decide) : wpAny M A (eval (.Name x pos) env) Q E s := by
  obtain ⟨o, ho, hr⟩ := C.get hm
  exact wpAny_Name (wpAny_loadName_cell hk hl hc ⟨o, ho, hr⟩ h) hd
theorem x_free {x : Str} {pos : Pos} {c : Addr} {v : Value} {Q : Value → Shared → Prop} (C : Cx w B g rs s) (hc : env.cells.lookup x = some c) (hm : (c, rCell (some v)) ∈ rs) (h : Q v s)
    (hk : env.scope.kind = .function := by rfl) (hl : env.kindOf x = some .free := by rfl) (hd : (x == ("__debug__" : Str)) = false := by decide) (hn : (x == ("__classdict__" : Str)) = false := by decide) : wpAny M A (eval (.Name x pos) env) Q E s := by
  obtain ⟨o, ho, hr⟩ := C.get hm
  exact wpAny_Name (wpAny_loadName_free hk hl hc ⟨o, ho, hr⟩ h hn) hd
theorem x_glob {x : Str} {pos : Pos} {v : Value} {Q : Value → Shared → Prop} (C : Cx w B g rs s) (e : nsIn (KP w.params) mainGlobals x = some (some v)) (h : Q v s)
    (hg : env.globals = mainGlobals := by rfl) (hk : env.scope.kind = .function := by rfl) (hl : env.kindOf x = some .globalImplicit := by rfl) (hd : (x == ("__debug__" : Str)) = false := by decide) : wpAny M A (eval (.Name x pos) env) Q E s := by
  obtain ⟨mg, mb, h1, h2, h3⟩ := C.wfs.top
  exact Name_function_global hk hl (loadGlobal_global (env := env) (by rw [hg]; exact h1) (mg_of C.kin h1 e) h) hd
theorem x_bui {x : Str} {pos : Pos} {v : Value} {Q : Value → Shared → Prop} (C : Cx w B g rs s) (e : nsIn (KP w.params) mainGlobals x = some none) (hv : bootBuiltins x = some v) (hn : x ≠ "__name__") (h : Q v s)
    (hg : env.globals = mainGlobals := by rfl) (hb : env.builtins = builtinsNs := by rfl) (hk : env.scope.kind = .function := by rfl) (hl : env.kindOf x = some .globalImplicit := by rfl) (hd : (x == ("__debug__" : Str)) = false := by decide) : wpAny M A (eval (.Name x pos) env) Q E s := by
  obtain ⟨mg, mb, h1, h2, h3⟩ := C.wfs.top
  exact Name_function_global hk hl (loadGlobal_builtin (env := env) (by rw [hg]; exact h1) (mg_none_of C.kin h1 e) (by rw [hb]; exact h2) ((h3 x hn).trans hv) h) hd
theorem x_store {vs vs' : List (Str × Value)} {x : Str} {v : Value} {Q : Unit → Shared → Prop} (C : Cx w B g rs s) (u : Upd rs env.locals (rLoc vs) (rLoc vs') rs') (p : Put vs x v vs') (h : ∀ s', Cx w B g rs' s' → Q () s')
    (hk : env.scope.kind = .function := by rfl) (hl : env.kindOf x = some .local := by rfl) : wpAny M A (storeName env x v) Q E s := by
  obtain ⟨m, hn, hd, ha⟩ := C.ns u.mem
  refine wpAny_storeName_local hl hn (fun h' hn' hs => h _ (C.upd u hs.extBut ?_ _)) (by rw [hk]; rfl)
  exact rLoc_of_ns hn' (p.nodup hd) (p.all (fun q hq _ => ha q hq) hd)
theorem x_storeC {x : Str} {c : Addr} {v₀ : Option Value} {v : Value} {Q : Unit → Shared → Prop} (C : Cx w B g rs s) (hc : env.cells.lookup x = some c) (u : Upd rs c (rCell v₀) (rCell (some v)) rs') (h : ∀ s', Cx w B g rs' s' → Q () s')
    (hk : env.scope.kind = .function := by rfl) (hl : env.kindOf x = some .cell := by rfl) : wpAny M A (storeName env x v) Q E s := by
  obtain ⟨o, ho, hr⟩ := C.get u.mem
  exact wpAny_storeName_cell hk hl hc ⟨o, ho, hr⟩ fun h' hc' hs => h _ (C.upd u hs.extBut hc' s.toks)

/-! constants, ints -/
theorem x_int {i k pos} {Q : Value → Shared → Prop} (C : Cx w B g rs s) (h : ∀ t s', Cx w B g rs s' → Q (.int i t) s') : wpAny M A (eval (.Constant (.int i) k pos) env) Q E s := wpAny_Constant_int (h _ _ (C.tok _))
theorem x_str {x : Str} {k pos} {Q : Value → Shared → Prop} (C : Cx w B g rs s) (h : ∀ t s', Cx w B g rs s' → Q (.str x t) s') : wpAny M A (eval (.Constant (.str x) k pos) env) Q E s := wpAny_Constant_str (h _ _ (C.tok _))
end
section
variable {prog : Program} {w : World} {B s s' : Shared} {g : Heap} {rs rs' : Rs} {A : Around} {E : Value → Shared → Prop} {env : Env} {a b : Int} {t u : Tok} {Q : Value → Shared → Prop}
theorem made_int {k : Int} (C : Cx w B g rs s) (h : ∀ t s', Cx w B g rs s' → Q (.int k t) s') : (Made.int k).post Q s := h _ _ (C.tok _)
theorem x_add (C : Cx w B g rs s) (h : ∀ t s', Cx w B g rs s' → Q (.int (a + b) t) s') : wpAny (model prog w) A (binaryOp .Add (.int a t) (.int b u)) Q E s := wpAny_add_int (h _ _ (C.tok _))
theorem x_iadd (C : Cx w B g rs s) (h : ∀ t s', Cx w B g rs s' → Q (.int (a + b) t) s') : wpAny (model prog w) A (inplaceOp .Add (.int a t) (.int b u)) Q E s := wpAny_iadd_int (h _ _ (C.tok _))
theorem x_sub (C : Cx w B g rs s) (h : ∀ t s', Cx w B g rs s' → Q (.int (a - b) t) s') : wpAny (model prog w) A (binaryOp .Sub (.int a t) (.int b u)) Q E s := AutoIntOps.sub_0 (made_int C h)
end
end
section
/-! the globals that the law reads -/
theorem g_and (P : Params) : nsIn (KP P) mainGlobals "and_" = some (some (.ref 28)) := by kernel_rfl
theorem g_lshift (P : Params) : nsIn (KP P) mainGlobals "lshift" = some (some (.ref 35)) := by kernel_rfl
theorem g_mul (P : Params) : nsIn (KP P) mainGlobals "mul" = some (some (.ref 42)) := by kernel_rfl
theorem g_or (P : Params) : nsIn (KP P) mainGlobals "or_" = some (some (.ref 49)) := by kernel_rfl
theorem g_sub (P : Params) : nsIn (KP P) mainGlobals "sub" = some (some (.ref 56)) := by kernel_rfl
theorem g_ipow (P : Params) : nsIn (KP P) mainGlobals "ipow" = some (some (.ref 63)) := by kernel_rfl
theorem g_Int2AP (P : Params) : nsIn (KP P) mainGlobals "Int2AP" = some (some (.ref 70)) := by kernel_rfl
theorem g_Whitespace (P : Params) : nsIn (KP P) mainGlobals "Whitespace" = some (some (.ref 132)) := by kernel_rfl
theorem g_EXACTTOKENTYPES (P : Params) : nsIn (KP P) mainGlobals "EXACT_TOKEN_TYPES" = some (some (.ref 137)) := by kernel_rfl
theorem g_ISNONTERMINAL (P : Params) : nsIn (KP P) mainGlobals "ISNONTERMINAL" = some (some (.ref 146)) := by kernel_rfl
theorem g_ISEOF (P : Params) : nsIn (KP P) mainGlobals "ISEOF" = some (some (.ref 153)) := by kernel_rfl
theorem g_lawdrawn (P : Params) : nsIn (KP P) mainGlobals "_law_drawn" = some (some (.ref 158)) := by kernel_rfl
theorem g_lawmasks (P : Params) : nsIn (KP P) mainGlobals "_law_masks" = some (some (.ref 163)) := by kernel_rfl
theorem g_lawnumber (P : Params) : nsIn (KP P) mainGlobals "_law_number" = some (some (.ref 170)) := by kernel_rfl
theorem g_lawtogether (P : Params) : nsIn (KP P) mainGlobals "_law_together" = some (some (.ref 177)) := by kernel_rfl
theorem g_laworder (P : Params) : nsIn (KP P) mainGlobals "_law_order" = some (some (.ref 182)) := by kernel_rfl
theorem g_lawworths (P : Params) : nsIn (KP P) mainGlobals "_law_worths" = some (some (.ref 187)) := by kernel_rfl
theorem g_lawtable (P : Params) : nsIn (KP P) mainGlobals "_law_table" = some (some (.ref 192)) := by kernel_rfl
theorem g_lawdiagonal (P : Params) : nsIn (KP P) mainGlobals "_law_diagonal" = some (some (.ref 197)) := by kernel_rfl
theorem g_lawpaintings (P : Params) : nsIn (KP P) mainGlobals "_law_paintings" = some (some (.ref 202)) := by kernel_rfl
theorem g_NT (P : Params) : nsIn (KP P) mainGlobals "NT_OFFSET" = some (some (.int 256 450)) := by kernel_rfl
theorem g_END (P : Params) : nsIn (KP P) mainGlobals "ENDMARKER" = some (some (.int 0 352)) := by kernel_rfl
section
variable {prog : Program} {w : World} {s : Shared} {A : Around} {E : Value → Shared → Prop}
noncomputable def retOf : Flow → Value
  | .ret v => v
  | _ => .none
/-- the frame of a call -/
noncomputable abbrev envP (sc : Scope) (L : Addr) (q : Str) (f : Addr) (cd : Value) : Env := { scope := sc, locals := L, globals := mainGlobals, cells := [], qual := q, func := some f, code := cd, frame := some L, builtins := builtinsNs }
theorem big_of_K (W : Wf w s.heap) : 208 ≤ s.heap.objs.size := by
  have : s.heap.get? 207 = some _ := W.kin 207 _ rfl
  exact Heap.lt_size this
theorem x_enter {f : Addr} {nm qn : Str} {ps : Arguments} {body : List Stmt} {sc : Scope} {dv kv dc pm cd ct oc : Value} {an od : Option Addr} {osl : Array (Option Value)} {vals : List Value} (parms : List Str) (binds : List (Str × Value)) {Q : Value → Shared → Prop} {n : Nat}
    (R : Room n A) (W : Wf w s.heap) (hK : (KP w.params).lookup f = some { cls := oc, dict := od, data := .func { name := nm, qualname := qn, params := ps, body := .stmts body, scope := sc, globals := mainGlobals, closure := [], defaults := dv, kwdefaults := kv, doc := dc, pyModule := pm, annotations := an, code := cd, closureTuple := ct, builtins := builtinsNs }, slots := osl })
    (hcd : codeIn (KP w.params) cd qn = true)
    (hbind : bindArgs { name := nm, qualname := qn, params := ps, body := .stmts body, scope := sc, globals := mainGlobals, closure := [], defaults := dv, kwdefaults := kv, doc := dc, pyModule := pm, annotations := an, code := cd, closureTuple := ct, builtins := builtinsNs } ⟨vals, []⟩ = pure binds)
    (hz : binds.map (·.1) = parms) (hcell : ∀ x ∈ sc.names, x.2 ≠ .cell) (hloc' : ∀ x ∈ parms, sc.names.lookup x = some .local) (hnd' : parms.Nodup)
    (h : ∀ L s' q cd, 208 ≤ L → Cx w s s.heap [(L, rLoc binds)] s' →
      wpAny (model prog w) (A.deeper (envP sc L q f cd)) (execs body (envP sc L q f cd)) (fun fl s'' => Q (retOf fl) s'') (fun _ _ => False) s')
    (hco : sc.isCoroutine = false := by rfl) (hgen : sc.isGenerator = false := by rfl) (hk : sc.kind = .function := by rfl) :
    wpAny (model prog w) A (call (.ref f) vals) Q E s := by
  have hloc : ∀ x ∈ binds, sc.names.lookup x.1 = some .local := fun x hx => hloc' _ (hz ▸ List.mem_map_of_mem hx)
  have hnd : (binds.map (·.1)).Nodup := hz ▸ hnd'
  refine wpAny_call (codeAny_call_def (binds := binds) R.room (W.kin _ _ hK) rfl W.nolimit (codeRec_of W.kin hcd) rfl (BindsTo.of_eq hbind) hcell hloc (fun h₀ hn hk₀ => ?_) hco hgen hk)
  have C : Cx w s s.heap [(s.heap.objs.size, rLoc binds)] { s with heap := h₀, toks := s.toks + binds.length } := by
    obtain ⟨o, ho, hr⟩ := rLoc_of_ns (vs := binds) hn hnd (by
      intro p hp
      have hnn : (binds.reverse.map (·.1)).Nodup := by rw [List.map_reverse]; exact List.pairwise_reverse.mpr (hnd.imp fun h => Ne.symm h)
      clear hbind hloc h hn hz hnd
      have hp' : p ∈ binds.reverse := List.mem_reverse.mpr hp
      generalize binds.reverse = l at hnn hp'
      induction l with
      | nil => cases hp'
      | cons q r ih =>
        obtain ⟨k, v⟩ := q
        simp only [List.map_cons, List.nodup_cons] at hnn
        rw [List.lookup_cons]
        rcases List.mem_cons.mp hp' with rfl | hp'
        · simp
        · have : p.1 ≠ k := fun e => hnn.1 (by rw [← e]; exact List.mem_map_of_mem hp')
          have hb : (p.1 == k) = false := beq_eq_false_iff_ne.mpr this
          rw [hb]
          exact ih hnn.2 hp')
    refine (Cx.start W).add hk₀ ?_ ho hr _
    cases e : s.heap.get? s.heap.objs.size with
    | none => rfl
    | some o' => exact absurd (Heap.lt_size e) (Nat.lt_irrefl _)
  refine wpAny_mono (h _ _ _ _ (big_of_K W) C) (fun fl s'' hq => ?_) fun _ _ x => x.elim
  cases fl <;> exact hq
end

section
variable {prog : Program} {w : World} {s : Shared} {A : Around} {E : Value → Shared → Prop}
theorem and_spec {a b : Int} {t u : Tok} {Q : Value → Shared → Prop} (R : Room 1 A) (W : Wf w s.heap) (h : ∀ t s', Gr s s' → Q (.int (Builtin.bitAnd a b) t) s') : wpAny (model prog w) A (call (.ref 28) [.int a t, .int b u]) Q E s := by
  refine x_enter ["a", "b"] [("a", .int a t), ("b", .int b u)] R W rfl (by kernel_rfl) rfl rfl (by decide) (by decide) (by decide) ?_
  intro L s' q cd hL C
  refine wpAny_execs_cons (wpAny_Return_some (wpAny_BinOp (x_loc C (.head _) (.head _) (x_loc C (.head _) (.tail _ (.head _)) ?_))))
  exact and_int (h _ _ (C.tok _).back)
end
section
variable {prog : Program} {w : World} {s : Shared} {A : Around} {E : Value → Shared → Prop}
/-- a call that may change what the caller owns -/
theorem x_enterC {B : Shared} {g : Heap} {rs : Rs} {f : Addr} {nm qn : Str} {ps : Arguments} {body : List Stmt} {sc : Scope} {dv kv dc pm cd ct oc : Value} {an od : Option Addr} {osl : Array (Option Value)} {vals : List Value} (parms : List Str) (binds : List (Str × Value)) {Q : Value → Shared → Prop}
    (R : A.depth < recursionLimit) (C : Cx w B g rs s) (hK : (KP w.params).lookup f = some { cls := oc, dict := od, data := .func { name := nm, qualname := qn, params := ps, body := .stmts body, scope := sc, globals := mainGlobals, closure := [], defaults := dv, kwdefaults := kv, doc := dc, pyModule := pm, annotations := an, code := cd, closureTuple := ct, builtins := builtinsNs }, slots := osl })
    (hcd : codeIn (KP w.params) cd qn = true)
    (hbind : bindArgs { name := nm, qualname := qn, params := ps, body := .stmts body, scope := sc, globals := mainGlobals, closure := [], defaults := dv, kwdefaults := kv, doc := dc, pyModule := pm, annotations := an, code := cd, closureTuple := ct, builtins := builtinsNs } ⟨vals, []⟩ = pure binds)
    (hz : binds.map (·.1) = parms) (hcell : ∀ x ∈ sc.names, x.2 ≠ .cell) (hloc' : ∀ x ∈ parms, sc.names.lookup x = some .local) (hnd' : parms.Nodup)
    (h : ∀ L s' q cd, 208 ≤ L → Cx w B g ((L, rLoc binds) :: rs) s' →
      wpAny (model prog w) (A.deeper (envP sc L q f cd)) (execs body (envP sc L q f cd)) (fun fl s'' => Q (retOf fl) s'') (fun _ _ => False) s')
    (hco : sc.isCoroutine = false := by rfl) (hgen : sc.isGenerator = false := by rfl) (hk : sc.kind = .function := by rfl) :
    wpAny (model prog w) A (call (.ref f) vals) Q E s := by
  have hloc : ∀ x ∈ binds, sc.names.lookup x.1 = some .local := fun x hx => hloc' _ (hz ▸ List.mem_map_of_mem hx)
  have hnd : (binds.map (·.1)).Nodup := hz ▸ hnd'
  have W := C.wfs
  refine wpAny_call (codeAny_call_def (binds := binds) R (W.kin _ _ hK) rfl W.nolimit (codeRec_of W.kin hcd) rfl (BindsTo.of_eq hbind) hcell hloc (fun h₀ hn hk₀ => ?_) hco hgen hk)
  have C' : Cx w B g ((s.heap.objs.size, rLoc binds) :: rs) { s with heap := h₀, toks := s.toks + binds.length } := by
    obtain ⟨o, ho, hr⟩ := rLoc_of_ns (vs := binds) hn hnd (by
      intro p hp
      have hnn : (binds.reverse.map (·.1)).Nodup := by rw [List.map_reverse]; exact List.pairwise_reverse.mpr (hnd.imp fun h => Ne.symm h)
      clear hbind hloc h hn hz hnd
      have hp' : p ∈ binds.reverse := List.mem_reverse.mpr hp
      generalize binds.reverse = l at hnn hp'
      induction l with
      | nil => cases hp'
      | cons q r ih =>
        obtain ⟨k, v⟩ := q
        simp only [List.map_cons, List.nodup_cons] at hnn
        rw [List.lookup_cons]
        rcases List.mem_cons.mp hp' with rfl | hp'
        · simp
        · have : p.1 ≠ k := fun e => hnn.1 (by rw [← e]; exact List.mem_map_of_mem hp')
          have hb : (p.1 == k) = false := beq_eq_false_iff_ne.mpr this
          rw [hb]
          exact ih hnn.2 hp')
    refine C.add hk₀ ?_ ho hr _
    cases e : s.heap.get? s.heap.objs.size with
    | none => rfl
    | some o' => exact absurd (Heap.lt_size e) (Nat.lt_irrefl _)
  refine wpAny_mono (h _ _ _ _ (big_of_K W) C') (fun fl s'' hq => ?_) fun _ _ x => x.elim
  cases fl <;> exact hq
end
end
section
section
variable {M : Model} {A : Around} {E : Value → Shared → Prop} {s : Shared} {env : Env}
/-- what stands behind a block: the rest of the statements -/
noncomputable def thenK (M : Model) (A : Around) (env : Env) (rest : List Stmt) (Q : Flow → Shared → Prop) (E : Value → Shared → Prop) : Flow → Shared → Prop
  | .next, s => wpAny M A (execs rest env) Q E s
  | .brk, s => Q .brk s
  | .cont, s => Q .cont s
  | .ret v, s => Q (.ret v) s
theorem x_seq {st : Stmt} {rest : List Stmt} {Q : Flow → Shared → Prop} (h : wpAny M A (exec st env) (thenK M A env rest Q E) E s) : wpAny M A (execs (st :: rest) env) Q E s :=
  wpAny_execs_cons (wpAny_mono h (fun f s' q => by cases f <;> exact q) fun _ _ x => x)
theorem x_nil {Q : Flow → Shared → Prop} (h : Q .next s) : wpAny M A (execs [] env) Q E s := wpAny_execs_nil h
theorem x_nilK {rest : List Stmt} {Q : Flow → Shared → Prop} {E' : Value → Shared → Prop} (h : wpAny M A (execs rest env) Q E s) : wpAny M A (execs [] env) (thenK M A env rest Q E) E' s := wpAny_execs_nil h
theorem x_assign {x : Str} {pos' : Pos} {e : Expr} {pos : Pos} {rest : List Stmt} {Q : Flow → Shared → Prop}
    (h : wpAny M A (eval e env) (fun v s₁ => wpAny M A (storeName env x v) (fun _ s₂ => wpAny M A (execs rest env) Q E s₂) E s₁) E s)
    (hs : swapsWith e (some (.Name x pos')) pos.line env = pure false := by rfl) : wpAny M A (execs (.Assign [.Name x pos'] e pos :: rest) env) Q E s := x_seq (wpAny_Assign_Name h hs)
theorem x_aug {x : Str} {pos' : Pos} {op : Operator} {e : Expr} {pos : Pos} {rest : List Stmt} {Q : Flow → Shared → Prop}
    (h : wpAny M A (loadName env x) (fun old s₁ => wpAny M A (eval e env) (fun v s₂ => wpAny M A (inplaceOp op old v) (fun r s₃ => wpAny M A (storeName env x r) (fun _ s₄ => wpAny M A (execs rest env) Q E s₄) E s₃) E s₂) E s₁) E s) :
    wpAny M A (execs (.AugAssign (.Name x pos') op e pos :: rest) env) Q E s := x_seq (wpAny_AugAssign_Name h)
theorem x_return {e : Expr} {pos : Pos} {rest : List Stmt} {Q : Flow → Shared → Prop} (h : wpAny M A (eval e env) (fun v => Q (.ret v)) E s) : wpAny M A (execs (.Return (some e) pos :: rest) env) Q E s := x_seq (wpAny_Return_some h)
theorem x_if {t : Expr} {b o : List Stmt} {pos : Pos} {rest : List Stmt} {Q : Flow → Shared → Prop}
    (h : wpAny M A (isTrue t env (eval t env)) (fun r s₂ => if r then wpAny M A (execs b env) (thenK M A env rest Q E) E s₂ else wpAny M A (execs o env) (thenK M A env rest Q E) E s₂) E s) :
    wpAny M A (execs (.If t b o pos :: rest) env) Q E s := x_seq (wpAny_If h)
theorem x_expr {e : Expr} {pos : Pos} {rest : List Stmt} {Q : Flow → Shared → Prop} (h : wpAny M A (eval e env) (fun v s' => v = .none ∧ wpAny M A (execs rest env) Q E s') E s)
    (hi : interactive env = false := by rfl) (hs : swapsWith e none pos.line env = pure false := by rfl) : wpAny M A (execs (.Expr e pos :: rest) env) Q E s :=
  x_seq (wpAny_Expr (wpAny_mono h (fun v s' q => by obtain ⟨rfl, q⟩ := q; exact q) fun _ _ x => x) hi hs)
/-- what a loop must reach -/
noncomputable def fR (M : Model) (A : Around) (env : Env) (rest : List Stmt) (Q : Flow → Shared → Prop) (E : Value → Shared → Prop) : Result → Shared → Prop
  | .ok .next, s => wpAny M A (execs rest env) Q E s
  | .ok .brk, s => Q .brk s
  | .ok .cont, s => Q .cont s
  | .ok (.ret v), s => Q (.ret v) s
  | .error _, _ => False
theorem x_for {target iter : Expr} {body : List Stmt} {pos : Pos} {rest : List Stmt} {Q : Flow → Shared → Prop}
    (h : wpAny M A (eval iter env) (fun x s₁ => wpAny M A (pyIter x) (fun it s₂ => codeAny M A (.forLoop target it body [] env) (fR M A env rest Q E) s₂) E s₁) E s)
    (hs : ∀ x, foldedSetIterable iter env x = pure x := by intro _; rfl) : wpAny M A (execs (.For target iter body [] pos :: rest) env) Q E s := by
  refine x_seq (wpAny_For (wpAny_mono h (fun x s₁ h₁ => wpAny_mono h₁ (fun it s₂ h₂ => codeAny_mono h₂ fun r s' q => ?_) fun _ _ x => x) fun _ _ x => x) hs)
  cases r with
  | ok f => cases f <;> exact q
  | error e => exact q.elim
theorem x_while {test : Expr} {body : List Stmt} {pos : Pos} {rest : List Stmt} {Q : Flow → Shared → Prop}
    (h : codeAny M A (.whileLoop test body [] env) (fR M A env rest Q E) s) : wpAny M A (execs (.While test body [] pos :: rest) env) Q E s := by
  refine x_seq (wpAny_While (codeAny_mono h fun r s' q => ?_))
  cases r with
  | ok f => cases f <;> exact q
  | error e => exact q.elim
noncomputable def nE : Value → Shared → Prop := fun _ _ => False
noncomputable def bK (J : Shared → Prop) (R : Result → Shared → Prop) : Flow → Shared → Prop
  | .next, s => J s
  | .cont, s => J s
  | .brk, s => R (.ok .next) s
  | .ret v, s => R (.ok (.ret v)) s
end
section
variable {prog : Program} {w : World} {A : Around} {E : Value → Shared → Prop} {s s' : Shared} {env : Env} {B : Shared} {g : Heap} {rs rs' : Rs}
theorem x_loop {target : Expr} {it : Value} {body : List Stmt} {R : Result → Shared → Prop} (J : Nat → Shared → Prop) (n : Nat)
    (turn : ∀ i s, i < n → J i s → wpAny (model prog w) A (pyNext it) (fun r s₁ => ∃ v, r = some v ∧ wpAny (model prog w) A (letOwnedTupleGo target it v) (fun _ s₁' => wpAny (model prog w) A (assign target env v) (fun _ s₂ =>
      wpAny (model prog w) A (execs body env) (bK (J (i + 1)) R) nE s₂) nE s₁') nE s₁) nE s)
    (fin : ∀ s, J n s → wpAny (model prog w) A (pyNext it) (fun r s₁ => r = none ∧ R (.ok .next) s₁) nE s) (h : J 0 s) : codeAny (model prog w) A (.forLoop target it body [] env) R s := by
  refine codeAny_forLoop_any (fun k s => ∃ i, i ≤ n ∧ k = n - i ∧ J i s) ?_ n ⟨0, Nat.zero_le _, rfl, h⟩
  rintro k s ⟨i, hi, rfl, hJ⟩
  by_cases hlt : i < n
  · refine wpAny_mono (turn i s hlt hJ) (fun r s₁ h₁ => ?_) fun _ _ x => x.elim
    obtain ⟨v, rfl, h₁⟩ := h₁
    refine wpAny_mono h₁ (fun _ s₁' h₂ => wpAny_mono h₂ (fun _ s₂ h₃ => wpAny_mono h₃ (fun f s₃ q => ?_) fun _ _ x => x.elim) fun _ _ x => x.elim) fun _ _ x => x.elim
    cases f with
    | next => exact ⟨n - (i + 1), by omega, i + 1, hlt, rfl, q⟩
    | cont => exact ⟨n - (i + 1), by omega, i + 1, hlt, rfl, q⟩
    | brk => exact q
    | ret v => exact q
  · obtain rfl : i = n := by omega
    refine wpAny_mono (fin s hJ) (fun r s₁ h₁ => ?_) fun _ _ x => x.elim
    obtain ⟨rfl, h₁⟩ := h₁
    exact wpAny_execs_nil h₁
theorem x_wloop {test : Expr} {body : List Stmt} {R : Result → Shared → Prop} (J : Nat → Shared → Prop) (n : Nat)
    (turn : ∀ i s, J i s → wpAny (model prog w) A (isTrue test env (eval test env)) (fun b s₂ => if b then wpAny (model prog w) A (execs body env) (bK (fun s₃ => ∃ j, j < i ∧ J j s₃) R) nE s₂ else R (.ok .next) s₂) nE s)
    (h : J n s) : codeAny (model prog w) A (.whileLoop test body [] env) R s := by
  refine codeAny_whileLoop J ?_ n h
  intro i s hJ
  refine wpAny_mono (turn i s hJ) (fun b s₂ h₂ => ?_) fun _ _ x => x.elim
  cases b with
  | true =>
    simp only [if_true] at h₂ ⊢
    refine wpAny_mono h₂ (fun f s₃ q => ?_) fun _ _ x => x.elim
    cases f <;> exact q
  | false =>
    simp only [Bool.false_eq_true, if_false] at h₂ ⊢
    exact wpAny_execs_nil h₂

/-! lists -/
theorem x_iter_list {l : Addr} {vs : List Value} {Q : Value → Shared → Prop} (C : Cx w B g rs s) (hl : s.heap.IsList l vs.toArray) (h : ∀ I s', Cx w B g ((I, rLit l 0) :: rs) s' → Q (.ref I) s') : wpAny (model prog w) A (pyIter (.ref l)) Q E s :=
  wpAny_pyIter_list hl (h _ _ (C.push _ ⟨rfl, rfl⟩))
theorem x_next_list {I l : Addr} {i : Nat} {vs : List Value} {v : Value} {Q : Option Value → Shared → Prop} (C : Cx w B g rs s) (u : Upd rs I (rLit l i) (rLit l (i + 1)) rs') (hl : s.heap.IsList l vs.toArray) (hx : vs[i]? = some v)
    (h : ∀ s', Cx w B g rs' s' → Q (some v) s') : wpAny (model prog w) A (pyNext (.ref I)) Q E s := by
  obtain ⟨o, ho, h1, h2⟩ := C.get u.mem
  refine wpAny_pyNext_list_item ⟨o, ho, h1, h2⟩ hl (by simpa using hx) fun h' hit hs => h _ (C.upd u hs.extBut ?_ s.toks)
  obtain ⟨o', ho', h1', h2'⟩ := hit
  exact ⟨o', ho', h1', h2'⟩
theorem x_end_list {I l : Addr} {i : Nat} {vs : List Value} {Q : Option Value → Shared → Prop} (hh : A.handled = none) (C : Cx w B g rs s) (u : Rm rs I (rLit l i) rs') (hl : s.heap.IsList l vs.toArray) (hx : vs.length ≤ i)
    (h : ∀ s', Cx w B g rs' s' → Q none s') : wpAny (model prog w) A (pyNext (.ref I)) Q E s := by
  obtain ⟨o, ho, h1, h2⟩ := C.get u.mem
  exact wpAny_pyNext_list_end hh ⟨o, ho, h1, h2⟩ hl (by simpa using hx) fun h' hs => h _ (C.rm u hs s.toks)
theorem x_assignN {x : Str} {pos : Pos} {v : Value} {Q : Unit → Shared → Prop} {M : Model} (h : wpAny M A (storeName env x v) Q E s) : wpAny M A (assign (.Name x pos) env v) Q E s := wpAny_assign_Name h
theorem x_letgoN {x : Str} {pos : Pos} {it v : Value} {Q : Unit → Shared → Prop} {M : Model} (h : Q () s) : wpAny M A (letOwnedTupleGo (.Name x pos) it v) Q E s := wpAny_pure h

theorem x_List {elts : List Expr} {pos : Pos} {Q : Value → Shared → Prop} {M : Model}
    (h : wpAny M A (spliced (backTo pos (starEach elts env))) (fun vs s₁ => wpAny M A (newList vs) Q E s₁) E s) : wpAny M A (eval (.List elts pos) env) Q E s := List_ h
theorem x_newList {vs : List Value} {Q : Value → Shared → Prop} {M : Model} (C : Cx w B g rs s) (hsz : vs.length ≤ sizeLine) (h : ∀ a s', Cx w B g ((a, rLst vs) :: rs) s' → Q (.ref a) s') : wpAny M A (newList vs) Q E s :=
  wpAny_newObj_type (h _ _ (C.push _ ⟨0, rfl⟩)) (by show vs.toArray.size ≤ sizeLine; rw [List.size_toArray]; exact hsz)
theorem x_newTuple {vs : List Value} {Q : Value → Shared → Prop} {M : Model} (C : Cx w B g rs s) (hsz : vs.length ≤ sizeLine) (h : ∀ a s', Cx w B g ((a, rTup vs) :: rs) s' → Q (.ref a) s') : wpAny M A (newTuple vs) Q E s :=
  wpAny_newObj_type (h _ _ (C.push _ ⟨0, rfl⟩)) (by show vs.toArray.size ≤ sizeLine; rw [List.size_toArray]; exact hsz)
theorem Cx.lst (C : Cx w B g rs s) {l : Addr} {vs : List Value} (hm : (l, rLst vs) ∈ rs) : s.heap.IsList l vs.toArray := (C.plain hm).isList
theorem x_append {l : Addr} {vs : List Value} {x : Value} {Q : Value → Shared → Prop} (C : Cx w B g rs s) (u : Upd rs l (rLst vs) (rLst (vs ++ [x])) rs') (hsz : vs.length ≤ sizeLine) (h : ∀ s', Cx w B g rs' s' → Q .none s') :
    wpAny (model prog w) A (call (.builtin "list.append") [.ref l, x]) Q E s := by
  have hp := C.plain u.mem
  refine wpAny_list_append_plain (hsz := by simpa using hsz) hp fun h' hl hs => h _ (C.upd u hs.extBut ?_ s.toks)
  exact rLst_of (vs := vs ++ [x]) (by simpa using hl)
end
end
section
noncomputable def ins (x : Nat) : List Nat → List Nat
  | [] => [x]
  | y :: r => if x ≤ y then x :: y :: r else y :: ins x r
noncomputable def isort : List Nat → List Nat
  | [] => []
  | x :: r => ins x (isort r)
noncomputable def num (l : List Nat) : Nat := (isort l).foldl (fun n h => 16 * n + h) 0
noncomputable def tgStep (other : Nat) (st : List Nat × Nat) (heap : Nat) : List Nat × Nat := if heap &&& other = 0 then (st.1 ++ [heap], st.2) else (st.1, st.2 ||| heap)
noncomputable def tg1 (made : List Nat) (other : Nat) : List Nat := (made.foldl (tgStep other) ([], other)).1 ++ [(made.foldl (tgStep other) ([], other)).2]
noncomputable def tg (heaps others : List Nat) : List Nat := others.foldl tg1 heaps
noncomputable def dgF : Nat → Nat → List Nat → List Nat
  | 0, _, acc => acc
  | f + 1, n, acc => if n = 0 then acc else dgF f (n / 16) (n % 16 :: acc)
noncomputable def dg (n : Nat) : List Nat := dgF n n []
noncomputable def ordStep (heaps : List Nat) (found : List Nat) (mask : Nat) : List Nat := if num (tg heaps [mask]) ∈ found then found else found ++ [num (tg heaps [mask])]
noncomputable def bfs : Nat → List Nat → Nat → List Nat → Option (List Nat)
  | 0, _, _, _ => none
  | f + 1, masks, place, found => if place < found.length then bfs f masks (place + 1) (masks.foldl (ordStep (dg (found.getD place 0))) found) else some found
noncomputable def order (masks : List Nat) : Option (List Nat) := (bfs 17 masks 0 [num [1, 2, 4, 8]]).map List.reverse

theorem ins_perm (x : Nat) : ∀ l, (ins x l).Perm (x :: l)
  | [] => .refl _
  | y :: r => by
    unfold ins
    split
    · exact .refl _
    · exact ((ins_perm x r).cons y).trans (List.Perm.swap x y r)
theorem isort_perm : ∀ l, (isort l).Perm l
  | [] => .refl _
  | x :: r => (ins_perm x _).trans ((isort_perm r).cons x)
theorem ins_sorted (x : Nat) : ∀ l : List Nat, l.Pairwise (· ≤ ·) → (ins x l).Pairwise (· ≤ ·)
  | [], _ => by simp [ins]
  | y :: r, h => by
    unfold ins
    rw [List.pairwise_cons] at h
    split
    · rename_i hxy
      rw [List.pairwise_cons, List.pairwise_cons]
      refine ⟨?_, h⟩
      intro a ha
      rcases List.mem_cons.mp ha with rfl | ha
      · exact hxy
      · exact Nat.le_trans hxy (h.1 a ha)
    · rename_i hxy
      rw [List.pairwise_cons]
      refine ⟨?_, ins_sorted x r h.2⟩
      intro a ha
      rcases List.mem_cons.mp ((ins_perm x r).mem_iff.mp ha) with rfl | ha
      · omega
      · exact h.1 a ha
theorem isort_sorted : ∀ l, (isort l).Pairwise (· ≤ ·)
  | [] => .nil
  | x :: r => ins_sorted x _ (isort_sorted r)
theorem isort_uniq {l m : List Nat} (hp : m.Perm l) (hs : m.Pairwise (· ≤ ·)) : m = isort l :=
  List.Perm.eq_of_pairwise (fun a b _ _ h1 h2 => Nat.le_antisymm h1 h2) hs (isort_sorted l) (hp.trans (isort_perm l).symm)

/-- a list of naturals as ints -/
noncomputable abbrev zs (xs : List Nat) : List Int := xs.map fun (n : Nat) => (n : Int)
end
section
section
variable {M : Model} {A : Around} {E : Value → Shared → Prop} {s : Shared} {env : Env} {w : World}
theorem x_callN {x : Str} {np pos : Pos} {args : List Expr} {Q : Value → Shared → Prop} (h : wpAny M A (eval (.Name x np) env) (fun f s₁ => wpAny M A (callWith pos f [] (backTo pos (starEach args env)) []) Q E s₁) E s) :
    wpAny M A (eval (.Call (.Name x np) args [] pos) env) Q E s := wpAny_Call_NameR h
theorem x_callB {pos : Pos} {id : String} {e : Expr} {rest : List Expr} {Q : Value → Shared → Prop} (h : wpAny M A (spliced (backTo pos (starEach (e :: rest) env))) (fun vs s₁ => wpAny M A (call (.builtin id) vs) Q E s₁) E s)
    (he : starEach (e :: rest) env = (false, eval e env) :: starEach rest env := by rfl) (hplain : (backTo pos (starEach rest env)).any (·.1) = false := by rfl) :
    wpAny M A (callWith pos (.builtin id) [] (backTo pos (starEach (e :: rest) env)) []) Q E s := callWith_method1 h he hplain
theorem x_callD {pos : Pos} {f : Addr} {e : Expr} {rest : List Expr} {Q : Value → Shared → Prop} {B : Shared} {g : Heap} {rs : Rs} (_C : Cx w B g rs s) (hk : keepIn (KP w.params) (.ref f) = true)
    (h : wpAny M A (spliced (backTo pos (starEach (e :: rest) env))) (fun vs s₁ => Wf w s₁.heap ∧ wpAny M A (call (.ref f) vs) Q E s₁) E s)
    (he : starEach (e :: rest) env = (false, eval e env) :: starEach rest env := by rfl) (hplain : (backTo pos (starEach rest env)).any (·.1) = false := by rfl) :
    wpAny M A (callWith pos (.ref f) [] (backTo pos (starEach (e :: rest) env)) []) Q E s := by
  rw [he]
  refine callWith_of (P := (KP w.params).In) (by show ((false || (backTo pos (starEach rest env)).any (·.1)) || false) = false; rw [hplain]; rfl) (keeps_K hk) (evalArgs_plain ?_)
  rw [he] at h
  exact wpAny_mono h (fun vs s' q => ⟨q.1.kin, q.2⟩) fun _ _ x => x
end
section
variable {prog : Program} {w : World} {s : Shared} {A : Around} {E : Value → Shared → Prop} {B : Shared} {g : Heap} {rs rs' : Rs}
theorem ia_len {vs : List Value} {ns : List Int} (h : IntsAre vs ns) : vs.length = ns.length := by
  induction h with
  | nil => rfl
  | cons _ _ _ ih => simp [ih]
theorem ia_get {vs : List Value} {ns : List Int} (h : IntsAre vs ns) : ∀ i, i < ns.length → ∃ t, vs[i]? = some (.int (ns.getD i 0) t) := by
  induction h with
  | nil => intro i hi; simp at hi
  | cons n t _ ih =>
    intro i hi
    cases i with
    | zero => exact ⟨t, by simp⟩
    | succ i =>
      obtain ⟨u, hu⟩ := ih i (by simpa using hi)
      exact ⟨u, by simpa using hu⟩
theorem zs_len (xs : List Nat) : (zs xs).length = xs.length := List.length_map ..
theorem zs_nat (xs : List Nat) : (zs xs).map Int.toNat = xs := by
  induction xs with
  | nil => rfl
  | cons x r ih => simp only [zs, List.map_cons, List.map_map] at ih ⊢; rw [ih]; rfl
theorem intsAre_zs {vs : List Value} {ns : List Int} (h : IntsAre vs ns) (hn : ∀ n ∈ ns, 0 ≤ n) : ∃ xs : List Nat, ns = zs xs := by
  induction h with
  | nil => exact ⟨[], rfl⟩
  | cons n t _ ih =>
    obtain ⟨xs, rfl⟩ := ih fun n hn' => hn n (.tail _ hn')
    obtain ⟨k, rfl⟩ := Int.eq_ofNat_of_zero_le (hn n (.head _))
    exact ⟨k :: xs, rfl⟩
theorem zs_inj : ∀ {xs ys : List Nat}, zs xs = zs ys → xs = ys
  | [], [], _ => rfl
  | x :: xs, y :: ys, h => by
    simp only [zs, List.map_cons, List.cons.injEq] at h
    rw [zs_inj h.2, Int.ofNat.inj h.1]
  | [], _ :: _, h => by simp [zs] at h
  | _ :: _, [], h => by simp [zs] at h
theorem x_sorted {l : Addr} {vs : List Value} {xs : List Nat} {Q : Value → Shared → Prop} (C : Cx w B g rs s) (hl : s.heap.IsList l vs.toArray) (hi : IntsAre vs (zs xs)) (h64 : xs.length < 64)
    (h : ∀ a us s', IntsAre us (zs (isort xs)) → Cx w B g ((a, rLst us) :: rs) s' → Q (.ref a) s') : wpAny (model prog w) A (call (.builtin "sorted") [.ref l]) Q E s := by
  refine sorted_ints hl hi (by rw [ia_len hi, zs_len]; exact h64) fun out ns' hi' hp hs => ?_
  obtain ⟨ys, rfl⟩ := intsAre_zs hi' fun n hn => by
    obtain ⟨k, _, rfl⟩ := List.mem_map.mp (hp.mem_iff.mp hn)
    exact Int.natCast_nonneg k
  have e : ys = isort xs := isort_uniq (by
    have := hp.map Int.toNat
    rwa [zs_nat, zs_nat] at this) (by
    have := hs
    simp only [zs, List.pairwise_map] at this
    exact this.imp fun h => Int.ofNat_le.mp h)
  subst e
  obtain ⟨e, he⟩ := sortedAll_at s.heap vs out
  refine h _ out.toList _ hi' (C.add (fun b o e => sortedAll_old e) ?_ he ⟨e, by simp [seqObj]⟩ s.toks)
  cases e : s.heap.get? (s.heap.objs.size + 1) with
  | none => rfl
  | some o' => exact absurd (Heap.lt_size e) (Nat.not_lt.mpr (Nat.le_succ _))
end
inductive SubL : List (Str × Value) → List (Str × Value) → Prop
  | nil {l} : SubL l []
  | cons {l m p} : p ∈ l → SubL l m → SubL l (p :: m)
theorem SubL.sub {l m : List (Str × Value)} (h : SubL l m) : ∀ p ∈ m, p ∈ l := by
  induction h with
  | nil => intro p hp; cases hp
  | cons h1 _ ih =>
    intro p hp
    rcases List.mem_cons.mp hp with rfl | hp
    · exact h1
    · exact ih p hp
section
variable {prog : Program} {w : World} {s : Shared} {B : Shared} {g : Heap} {rs rs' : Rs}
theorem x_fR {M : Model} {A : Around} {env : Env} {rest : List Stmt} {Q : Flow → Shared → Prop} {E : Value → Shared → Prop} (h : wpAny M A (execs rest env) Q E s) : fR M A env rest Q E (.ok .next) s := h
theorem x_bKn {J : Shared → Prop} {R : Result → Shared → Prop} (h : J s) : bK J R .next s := h
theorem foldl_take_succ {α β : Type} (f : β → α → β) (d : α) : ∀ (l : List α) (i : Nat) (a : β), i < l.length → (l.take (i + 1)).foldl f a = f ((l.take i).foldl f a) (l.getD i d)
  | [], i, a, h => by simp at h
  | x :: r, 0, a, h => by simp
  | x :: r, i + 1, a, h => by
    have := foldl_take_succ f d r i (f a x) (by simpa using h)
    simpa using this
theorem zs_getD (xs : List Nat) (i : Nat) : (zs xs).getD i 0 = (xs.getD i 0 : Nat) := by
  simp only [zs, List.getD_eq_getElem?_getD, List.getElem?_map]
  cases xs[i]? <;> rfl
theorem Cx.fl (C : Cx w B g rs s) {l : Addr} {vs : List Value} (h : g.IsList l vs.toArray) : s.heap.IsList l vs.toArray := let ⟨o, ho, r⟩ := h; ⟨o, C.keep _ _ ho, r⟩
theorem Cx.loc (C : Cx w B g rs s) {L : Addr} {vs : List (Str × Value)} (vs' : List (Str × Value)) (u : Upd rs L (rLoc vs) (rLoc vs') rs') (hs : SubL vs vs') (hd : (vs'.map (·.1)).Nodup) : Cx w B g rs' s :=
  C.weakAt u (rLoc_sub hd hs.sub)
end
end
section
section
variable {prog : Program} {w : World} {s : Shared} {A : Around} {E : Value → Shared → Prop}
theorem x_mulN {B : Shared} {g : Heap} {rs : Rs} {a b : Int} {t u : Tok} {Q : Value → Shared → Prop} (C : Cx w B g rs s) (hm : IntMulOk a b) (h : ∀ t s', Cx w B g rs s' → Q (.int (a * b) t) s') : wpAny (model prog w) A (binaryOp .Mult (.int a t) (.int b u)) Q E s :=
  AutoIntOps.mul_0 (h _ _ (C.tok _)) hm
theorem number_spec {l : Addr} {vs : List Value} {xs : List Nat} {Q : Value → Shared → Prop} (R : Room 1 A) (W : Wf w s.heap) (hl : s.heap.IsList l vs.toArray) (hi : IntsAre vs (zs xs)) (h64 : xs.length < 64)
    (h : ∀ t s', Gr s s' → Q (.int (num xs) t) s') : wpAny (model prog w) A (call (.ref 170) [.ref l]) Q E s := by
  refine x_enter ["heaps"] [("heaps", .ref l)] R W rfl (by kernel_rfl) rfl rfl (by decide) (by decide) (by decide) ?_
  intro L s' q cd hL C
  repeat kts_caught
  refine x_sorted (by assumption) (Cx.fl (by assumption) hl) hi h64 ?_
  intro a us s' hus C
  refine x_iter_list C (C.lst (.head _)) ?_
  intro I s' C
  refine x_loop (fun i s' => ∃ t, Cx w s s.heap [(I, rLit a i), (a, rLst us), (L, rLoc [("heaps", .ref l), ("number", .int (((isort xs).take i).foldl (fun n h => 16 * n + h) 0 : Nat) t)])] s') (isort xs).length ?_ ?_ ⟨_, C⟩
  · rintro i s' hi' ⟨t, C⟩
    obtain ⟨u, hu⟩ := ia_get hus i (by rw [zs_len]; exact hi')
    refine x_next_list C (by tb_start) (C.lst (by ktr_rel)) hu ?_
    intro s' C
    refine ⟨_, rfl, ?_⟩
    repeat kts_caught
    refine x_mulN (by assumption) (.of_left (by decide)) ?_
    intro t s' C
    repeat kts_caught
    rename_i C
    have e : (16 * ((((isort xs).take i).foldl (fun n h => 16 * n + h) 0 : Nat) : Int) + (zs (isort xs)).getD i 0) = (((isort xs).take (i + 1)).foldl (fun n h => 16 * n + h) 0 : Nat) := by
      rw [foldl_take_succ _ 0 _ _ _ hi', zs_getD]
      simp
    rw [e] at C
    exact ⟨_, C.loc _ (by tb_start) (by kts_caughtN) (by simp only [List.map]; decide)⟩
  · rintro s' ⟨t, C⟩
    refine x_end_list R.hh C (by tb_start) (C.lst (by ktr_rel)) (by rw [ia_len hus, zs_len]; exact Nat.le_refl _) ?_
    intro s' C
    refine ⟨rfl, ?_⟩
    repeat kts_caught
    rw [List.take_length]
    exact h _ _ C.back
end
end
section
section
variable {prog : Program} {w : World} {s : Shared} {A : Around} {E : Value → Shared → Prop} {a b : Int} {t u : Tok} {Q : Value → Shared → Prop} {B : Shared} {g : Heap} {rs : Rs}
theorem lshift_spec (R : Room 1 A) (W : Wf w s.heap) (h1 : 0 ≤ b) (h2 : b ≤ 1000000) (h3 : a.natAbs < 2 ^ 64) (h : ∀ t s', Gr s s' → Q (.int (a * 2 ^ b.toNat) t) s') : wpAny (model prog w) A (call (.ref 35) [.int a t, .int b u]) Q E s := by
  refine x_enter ["a", "b"] [("a", .int a t), ("b", .int b u)] R W rfl (by kernel_rfl) rfl rfl (by decide) (by decide) (by decide) ?_
  intro L s' q cd hL C
  repeat kts_caught
  exact lshift_int_small h1 h2 h3 (h _ _ (C.tok _).back)
theorem mul_spec (R : Room 1 A) (W : Wf w s.heap) (hm : IntMulOk a b) (h : ∀ t s', Gr s s' → Q (.int (a * b) t) s') : wpAny (model prog w) A (call (.ref 42) [.int a t, .int b u]) Q E s := by
  refine x_enter ["a", "b"] [("a", .int a t), ("b", .int b u)] R W rfl (by kernel_rfl) rfl rfl (by decide) (by decide) (by decide) ?_
  intro L s' q cd hL C
  repeat kts_caught
  exact AutoIntOps.mul_0 (h _ _ (C.tok _).back) hm
theorem or_spec (R : Room 1 A) (W : Wf w s.heap) (h : ∀ t s', Gr s s' → Q (.int (Builtin.bitOr a b) t) s') : wpAny (model prog w) A (call (.ref 49) [.int a t, .int b u]) Q E s := by
  refine x_enter ["a", "b"] [("a", .int a t), ("b", .int b u)] R W rfl (by kernel_rfl) rfl rfl (by decide) (by decide) (by decide) ?_
  intro L s' q cd hL C
  repeat kts_caught
  exact or_int (h _ _ (C.tok _).back)
theorem sub_spec (R : Room 1 A) (W : Wf w s.heap) (h : ∀ t s', Gr s s' → Q (.int (a - b) t) s') : wpAny (model prog w) A (call (.ref 56) [.int a t, .int b u]) Q E s := by
  refine x_enter ["a", "b"] [("a", .int a t), ("b", .int b u)] R W rfl (by kernel_rfl) rfl rfl (by decide) (by decide) (by decide) ?_
  intro L s' q cd hL C
  repeat kts_caught
  rename_i C
  exact h _ _ C.back
theorem x_ipow {k : Nat} (C : Cx w B g rs s) (hk : k ≤ 8) (h1 : -(2 ^ 63) ≤ a) (h2 : a < 2 ^ 63) (h : ∀ t s', Cx w B g rs s' → Q (.int (a ^ k) t) s') : wpAny (model prog w) A (inplaceOp .Pow (.int a t) (.int (k : Int) u)) Q E s := by
  by_cases hk0 : k = 0
  · subst hk0
    refine AutoIntOps.ipow_0 (by decide) (by decide) ?_
    have := h s.toks _ (C.tok (s.toks + 1))
    rw [Int.pow_zero] at this
    exact this
  have hb : ¬ (((k : Int) == 0) = true) := by simp; omega
  by_cases h01 : (a == 0 || a == 1) = true
  · refine AutoIntOps.ipow_1 (by omega) hb h01 ?_
    have e : a ^ k = a := by
      rcases Bool.or_eq_true_iff.mp h01 with e | e
      · rw [beq_iff_eq.mp e, Int.zero_pow hk0]
      · rw [beq_iff_eq.mp e, Int.one_pow]
    have := h s.toks _ (C.tok (s.toks + 1))
    rw [e] at this
    exact this
  by_cases hm : (a == -1) = true
  · refine AutoIntOps.ipow_2 (by omega) hb h01 hm ?_
    have e : a ^ k = (if (((k : Int) % 2 == 0) = true) then 1 else -1) := by
      rw [beq_iff_eq.mp hm]
      have : k = 1 ∨ k = 2 ∨ k = 3 ∨ k = 4 ∨ k = 5 ∨ k = 6 ∨ k = 7 ∨ k = 8 := by omega
      rcases this with rfl | rfl | rfl | rfl | rfl | rfl | rfl | rfl <;> decide
    have := h s.toks _ (C.tok (s.toks + 1))
    rw [e] at this
    exact this
  · refine AutoIntOps.ipow_4 (by omega) hb h01 hm ?_ (by rw [Int.toNat_natCast]; exact h _ _ (C.tok _))
    have h64 : Builtin.Int.intBits a ≤ 64 := intBits_le_64 (by omega) (by omega)
    unfold Builtin.Int.intTooBig bitsLine
    simp only [decide_eq_true_eq]
    have h65 : ((Builtin.Int.intBits a : Nat) : Int) * (k : Int) ≤ 64 * 8 := by
      have : Builtin.Int.intBits a * k ≤ 64 * 8 := Nat.mul_le_mul h64 hk
      exact_mod_cast this
    have : ((2 ^ 27 : Nat) : Int) = 134217728 := by decide
    omega
theorem ipow_spec {k : Nat} (R : Room 1 A) (W : Wf w s.heap) (hk : k ≤ 8) (h1 : -(2 ^ 63) ≤ a) (h2 : a < 2 ^ 63) (h : ∀ t s', Gr s s' → Q (.int (a ^ k) t) s') : wpAny (model prog w) A (call (.ref 63) [.int a t, .int (k : Int) u]) Q E s := by
  refine x_enter ["a", "b"] [("a", .int a t), ("b", .int (k : Int) u)] R W rfl (by kernel_rfl) rfl rfl (by decide) (by decide) (by decide) ?_
  intro L s' q cd hL C
  repeat kts_caught
  refine x_ipow C hk h1 h2 ?_
  intro t s' C
  repeat kts_caught
  rename_i C
  exact h _ _ C.back
theorem isnt_spec (R : Room 1 A) (W : Wf w s.heap) (h : ∀ s', Gr s s' → Q (.bool (decide (a ≥ 256))) s') : wpAny (model prog w) A (call (.ref 146) [.int a t]) Q E s := by
  refine x_enter ["x"] [("x", .int a t)] R W rfl (by kernel_rfl) rfl rfl (by decide) (by decide) (by decide) ?_
  intro L s' q cd hL C
  repeat kts_caught
  exact h _ C.back
theorem iseof_spec (R : Room 1 A) (W : Wf w s.heap) (h : ∀ s', Gr s s' → Q (.bool (a == 0)) s') : wpAny (model prog w) A (call (.ref 153) [.int a t]) Q E s := by
  refine x_enter ["x"] [("x", .int a t)] R W rfl (by kernel_rfl) rfl rfl (by decide) (by decide) (by decide) ?_
  intro L s' q cd hL C
  repeat kts_caught
  exact h _ C.back
theorem bitAnd_nat (x y : Nat) : Builtin.bitAnd (x : Int) (y : Int) = ((x &&& y : Nat) : Int) := by
  unfold Builtin.bitAnd
  simp
theorem bitOr_nat (x y : Nat) : Builtin.bitOr (x : Int) (y : Int) = ((x ||| y : Nat) : Int) := by
  unfold Builtin.bitOr Builtin.bitAnd Builtin.bitNot
  have h1 : decide (0 ≤ -(x : Int) - 1) = false := decide_eq_false (by omega)
  have h2 : decide (0 ≤ -(y : Int) - 1) = false := decide_eq_false (by omega)
  simp only [h1, h2]
  have e1 : (-(-(x : Int) - 1) - 1).toNat = x := by omega
  have e2 : (-(-(y : Int) - 1) - 1).toNat = y := by omega
  rw [e1, e2]
  omega
end
end
section
section
variable {w : World} {B s s' : Shared} {g h' : Heap} {rs rs' : Rs} {a : Addr} {r r' : Res}
theorem Cx.freeze1 (C : Cx w B g rs s) (u : Rm rs a r rs') : ∃ g', Le g g' ∧ (∃ o, g'.get? a = some o ∧ r o) ∧ Cx w B g' rs' s := by
  have C' := C.drop u
  obtain ⟨o, ho, hr⟩ := C.get u.mem
  have hn : a ∉ rs'.map (·.1) := fun hm => by
    obtain ⟨p, hp, e⟩ := List.mem_map.mp hm
    exact (u.apart C.nd p hp).2 e
  have hg : Le g (hideAll s.heap (rs'.map (·.1))) := fun b o e => by
    refine hideAll_get _ (C.keep b o e) ?_
    intro hm
    obtain ⟨p, hp, rfl⟩ := List.mem_map.mp hm
    rw [(C'.own p hp).2] at e
    cases e
  exact ⟨_, hg, ⟨o, hideAll_get _ ho hn, hr⟩, C.gens, C.drawn, C.os, C.wf.keeps hg, fun b o e => of_hideAll _ e, fun p hp => ⟨(C'.own p hp).1, hideAll_none _ (List.mem_map_of_mem hp)⟩, C'.nd⟩
theorem Cx.back' (C : Cx w s g rs s') (hg : Le s.heap g) : Gr s s' := ⟨C.gens, C.drawn, C.os, fun b o e => C.keep b o (hg b o e)⟩
end
section
variable {prog : Program} {w : World} {A : Around} {E : Value → Shared → Prop} {s s' : Shared} {env : Env} {B : Shared} {g : Heap} {rs rs' : Rs}
theorem Cx.flp (C : Cx w B g rs s) {l : Addr} {vs : List Value} (h : g.PlainList l vs.toArray) : s.heap.PlainList l vs.toArray := h.at fun o => C.keep _ o
theorem x_app {o elt : Expr} {apos pos : Pos} {Q : Value → Shared → Prop}
    (h : wpAny (model prog w) A (eval o env) (fun ov s₁ => ∃ D vs, ov = .ref D ∧ s₁.heap.PlainList D (List.toArray vs) ∧
      wpAny (model prog w) A (eval elt env) (fun y s₂ => wpAny (model prog w) A (call (.builtin "list.append") [.ref D, y]) Q E s₂) E s₁) E s)
    (hbase : attributeBase o "append" env (eval o env) = eval o env := by rfl) (hfew : ((backTo pos (starEach [elt] env)).all (fun x => !x.1) && (backToKw pos (keywordEach [] env)).all (fun x => x.1.isSome)
      && decide (([elt] : List Expr).length + ([] : List Keyword).length + (if ([] : List Keyword).isEmpty then 0 else 1) < 30)) = true := by rfl)
    (hline : (apos.endLine == pos.line) = true := by rfl) (htrees : backTo pos (starEach [elt] env) = [(false, eval elt env)] := by rfl) :
    wpAny (model prog w) A (eval (.Call (.Attribute o "append" apos) [elt] [] pos) env) Q E s :=
  wpAny_Call_append hbase hfew hline htrees (wpAny_mono h (fun ov s₁ q => by
    obtain ⟨D, vs, e, ⟨n, hp⟩, q⟩ := q
    exact ⟨D, _, e, ⟨_, n, hp, rfl, rfl, rfl⟩, q⟩) fun _ _ x => x)
theorem x_cat {a b : Addr} {vs us : List Value} {Q : Value → Shared → Prop} (C : Cx w B g rs s) (ha : s.heap.PlainList a vs.toArray) (hb : s.heap.PlainList b us.toArray) (hsz : vs.length + us.length ≤ sizeLine)
    (h : ∀ c s', Cx w B g ((c, rLst (vs ++ us)) :: rs) s' → Q (.ref c) s') : wpAny (model prog w) A (binaryOp .Add (.ref a) (.ref b)) Q E s := by
  obtain ⟨n, ha⟩ := ha
  obtain ⟨m, hb⟩ := hb
  exact P.add_list ha hb (h _ _ (C.push _ ⟨0, by simp⟩)) (by simpa using hsz)
theorem c_and {a b : Nat} {t u : Tok} {Q : Value → Shared → Prop} (R : Room 1 A) (C : Cx w B g rs s) (h : ∀ t s', Cx w B g rs s' → Q (.int ((a &&& b : Nat) : Int) t) s') : Wf w s.heap ∧ wpAny (model prog w) A (call (.ref 28) [.int a t, .int b u]) Q E s :=
  ⟨C.wfs, and_spec R C.wfs fun t s' hg => by rw [bitAnd_nat]; exact h t s' (C.gr hg)⟩
theorem c_or {a b : Nat} {t u : Tok} {Q : Value → Shared → Prop} (R : Room 1 A) (C : Cx w B g rs s) (h : ∀ t s', Cx w B g rs s' → Q (.int ((a ||| b : Nat) : Int) t) s') : Wf w s.heap ∧ wpAny (model prog w) A (call (.ref 49) [.int a t, .int b u]) Q E s :=
  ⟨C.wfs, or_spec R C.wfs fun t s' hg => by rw [bitOr_nat]; exact h t s' (C.gr hg)⟩
theorem ia_snoc {vs : List Value} {xs : List Nat} {x : Nat} {t : Tok} (h : IntsAre vs (zs xs)) : IntsAre (vs ++ [.int x t]) (zs (xs ++ [x])) := by
  have := IntsAre.append h (IntsAre.cons (x : Int) t .nil)
  simpa [zs] using this
end
end
section
theorem ia_getN {vs : List Value} {xs : List Nat} (h : IntsAre vs (zs xs)) {i : Nat} (hi : i < xs.length) : ∃ t, vs[i]? = some (.int ((xs.getD i 0 : Nat) : Int) t) := by
  obtain ⟨t, e⟩ := ia_get h i (by rw [zs_len]; exact hi)
  exact ⟨t, by rw [← zs_getD]; exact e⟩
theorem tgf_len (o : Nat) : ∀ (l : List Nat) (st : List Nat × Nat), (l.foldl (tgStep o) st).1.length ≤ st.1.length + l.length
  | [], st => by simp
  | x :: r, st => by
    rw [List.foldl_cons, List.length_cons]
    have := tgf_len o r (tgStep o st x)
    have h2 : (tgStep o st x).1.length ≤ st.1.length + 1 := by unfold tgStep; split <;> simp
    omega
theorem tg1_len (made : List Nat) (o : Nat) : (tg1 made o).length ≤ made.length + 1 := by
  unfold tg1
  rw [List.length_append, List.length_singleton]
  have := tgf_len o made ([], o)
  simpa using this
theorem tg_len : ∀ (ys xs : List Nat), (tg xs ys).length ≤ xs.length + ys.length
  | [], xs => by simp [tg]
  | y :: r, xs => by
    have := tg_len r (tg1 xs y)
    have h2 := tg1_len xs y
    show (tg (tg1 xs y) r).length ≤ _
    rw [List.length_cons]
    omega
section
variable {prog : Program} {w : World} {s : Shared} {A : Around} {E : Value → Shared → Prop}
theorem together_spec {l₁ l₂ : Addr} {vs₁ vs₂ : List Value} {xs ys : List Nat} {Q : Value → Shared → Prop} (R : Room 2 A) (W : Wf w s.heap) (h1 : s.heap.IsList l₁ vs₁.toArray) (i1 : IntsAre vs₁ (zs xs)) (h2 : s.heap.IsList l₂ vs₂.toArray) (i2 : IntsAre vs₂ (zs ys))
    (hx : xs.length ≤ 100) (hy : ys.length ≤ 100) (hy0 : 0 < ys.length)
    (h : ∀ r us s', IntsAre us (zs (tg xs ys)) → Gr s s' → s.heap.get? r = none → (∃ o, s'.heap.get? r = some o ∧ rLst us o) → Q (.ref r) s') : wpAny (model prog w) A (call (.ref 177) [.ref l₁, .ref l₂]) Q E s := by
  refine x_enter ["heaps", "others"] [("heaps", .ref l₁), ("others", .ref l₂)] R W rfl (by kernel_rfl) rfl rfl (by decide) (by decide) (by decide) ?_
  intro L s' q cd hL C
  repeat kts_caught
  refine x_iter_list (by assumption) (Cx.fl (by assumption) h2) ?_
  intro I s' C
  refine x_loop (fun i s' => ∃ g m us, Le s.heap g ∧ g.IsList m us.toArray ∧ IntsAre us (zs (tg xs (ys.take i))) ∧ (0 < i → s.heap.get? m = none ∧ ∃ o, g.get? m = some o ∧ rLst us o) ∧
    Cx w s g [(I, rLit l₂ i), (L, rLoc [("heaps", .ref l₁), ("others", .ref l₂), ("made", .ref m)])] s') ys.length ?_ ?_ ⟨s.heap, l₁, vs₁, fun _ _ e => e, h1, i1, fun h => absurd h (Nat.lt_irrefl _), C⟩
  · rintro i s' hi' ⟨g, m, us, hg, hm, hus, hf, C⟩
    obtain ⟨u, hu⟩ := ia_getN i2 hi'
    have hl2 : g.IsList l₂ vs₂.toArray := let ⟨o, ho, r⟩ := h2; ⟨o, hg _ _ ho, r⟩
    refine x_next_list C (by tb_start) (C.fl hl2) hu ?_
    intro s' C
    refine ⟨_, rfl, ?_⟩
    repeat kts_caught
    refine x_iter_list (by assumption) (Cx.fl (by assumption) hm) ?_
    intro J s' C
    have hml : (tg xs (ys.take i)).length ≤ 200 := by
      have := tg_len (ys.take i) xs
      have h3 : (ys.take i).length ≤ ys.length := by rw [List.length_take]; exact Nat.min_le_right _ _
      omega
    generalize hM : tg xs (ys.take i) = made at hus hml C ⊢
    generalize hO : ys.getD i 0 = other at hu C ⊢
    refine x_loop (fun k s' => ∃ ap as t, IntsAre as (zs ((made.take k).foldl (tgStep other) ([], other)).1) ∧
      Cx w s g [(J, rLit m k), (ap, rLst as), (I, rLit l₂ (i + 1)), (L, rLoc [("heaps", .ref l₁), ("others", .ref l₂), ("made", .ref m), ("other", .int other u), ("whole", .int (((made.take k).foldl (tgStep other) ([], other)).2 : Nat) t), ("apart", .ref ap)])] s')
      made.length ?_ ?_ ⟨_, [], _, .nil, C⟩
    · rintro k s' hk ⟨ap, as, t, has, C⟩
      obtain ⟨u', hu'⟩ := ia_getN hus hk
      refine x_next_list C (by tb_start) (C.fl hm) hu' ?_
      intro s' C
      refine ⟨_, rfl, ?_⟩
      have hst := foldl_take_succ (tgStep other) 0 made k ([], other) hk
      have hal : as.length ≤ 200 := by
        rw [ia_len has, zs_len]
        have := tgf_len other (made.take k) ([], other)
        have h3 : (made.take k).length ≤ made.length := by rw [List.length_take]; exact Nat.min_le_right _ _
        simp only [List.length_nil] at this
        omega
      repeat kts_caught
      by_cases hz : made.getD k 0 &&& other = 0
      · rw [if_pos (by rw [hz]; rfl)]
        repeat kts_caught
        refine x_append (by assumption) (by tb_start) (by rw [sizeLine_eq]; omega) ?_
        intro s' C
        repeat kts_caught
        have e : (made.take (k + 1)).foldl (tgStep other) ([], other) = (((made.take k).foldl (tgStep other) ([], other)).1 ++ [made.getD k 0], ((made.take k).foldl (tgStep other) ([], other)).2) := by
          rw [hst]; simp only [tgStep, if_pos hz]
        rw [e]
        exact ⟨_, _, _, ia_snoc has, C.loc _ (by tb_start) (by kts_caughtN) (by simp only [List.map]; decide)⟩
      · rw [if_neg (by simp only [beq_iff_eq]; exact_mod_cast hz)]
        repeat kts_caught
        rename_i C
        have e : (made.take (k + 1)).foldl (tgStep other) ([], other) = (((made.take k).foldl (tgStep other) ([], other)).1, ((made.take k).foldl (tgStep other) ([], other)).2 ||| made.getD k 0) := by
          rw [hst]; simp only [tgStep, if_neg hz]
        rw [e]
        exact ⟨_, _, _, has, C.loc _ (by tb_start) (by kts_caughtN) (by simp only [List.map]; decide)⟩
    · rintro s' ⟨ap, as, t, has, C⟩
      rw [List.take_length] at has C
      refine x_end_list R.hh C (by tb_start) (C.fl hm) (by rw [ia_len hus, zs_len]; exact Nat.le_refl _) ?_
      intro s' C
      refine ⟨rfl, ?_⟩
      repeat kts_caught
      have hal : as.length ≤ 200 := by
        rw [ia_len has, zs_len]
        have := tgf_len other made ([], other)
        simp only [List.length_nil] at this
        omega
      refine x_cat (by assumption) (Cx.plain (by assumption) (by ktr_rel)) (Cx.plain (by assumption) (by ktr_rel)) (by rw [sizeLine_eq, List.length_singleton]; omega) ?_
      intro c s' C
      have hcn : s.heap.get? c = none := by
        have h4 := C.gnone (.head _)
        cases e : s.heap.get? c with
        | none => rfl
        | some o => rw [hg _ _ e] at h4; cases h4
      repeat kts_caught
      rename_i C
      obtain ⟨g', hgg, hc, C⟩ := C.freeze1 .hd
      have C := C.drop .hd
      have C := C.drop .hd
      have hres : IntsAre (as ++ [.int (((made.foldl (tgStep other) ([], other)).2 : Nat) : Int) t]) (zs (tg xs (ys.take (i + 1)))) := by
        have e : tg xs (ys.take (i + 1)) = tg1 made other := by
          unfold tg
          rw [foldl_take_succ tg1 0 ys i xs hi', hO]
          exact congrArg (tg1 · other) hM
        rw [e]
        exact ia_snoc has
      obtain ⟨o, ho, n, rfl⟩ := hc
      exact ⟨g', c, _, fun b o e => hgg _ _ (hg b o e), ⟨_, ho, rfl, n, rfl⟩, hres, fun _ => ⟨hcn, _, ho, n, rfl⟩, C.loc _ (by tb_start) (by kts_caughtN) (by simp only [List.map]; decide)⟩
  · rintro s' ⟨g, m, us, hg, hm, hus, hf, C⟩
    have hl2 : g.IsList l₂ vs₂.toArray := let ⟨o, ho, r⟩ := h2; ⟨o, hg _ _ ho, r⟩
    refine x_end_list R.hh C (by tb_start) (C.fl hl2) (by rw [ia_len i2, zs_len]; exact Nat.le_refl _) ?_
    intro s' C
    refine ⟨rfl, ?_⟩
    repeat kts_caught
    rw [List.take_length] at hus
    obtain ⟨hn, o, ho, hr⟩ := hf hy0
    exact h _ _ _ hus (C.back' hg) hn ⟨o, C.keep _ _ ho, hr⟩
end
end
section
section
variable {prog : Program} {w : World} {A : Around} {E : Value → Shared → Prop} {s s' : Shared} {env : Env} {B : Shared} {g : Heap} {rs rs' : Rs}
theorem not_at_size (h : Heap) : h.get? h.objs.size = none := by
  cases e : h.get? h.objs.size with
  | none => rfl
  | some o' => exact absurd (Heap.lt_size e) (Nat.lt_irrefl _)
theorem le_of_extSize {h h' : Heap} (x : Heap.ExtBut h.objs.size h h') : Le h h' := fun b o e => x b o (fun hb => by rw [hb, not_at_size] at e; cases e) e
theorem x_idxL {value slice : Expr} {l : Addr} {vs : List Value} {k : Int} {u : Tok} {x : Value} {Q : Value → Shared → Prop} (hl : s.heap.IsList l vs.toArray) (h0 : 0 ≤ k) (hfit : k < 2 ^ 63) (hx : vs[k.toNat]? = some x) (h : Q x s)
    (hs : subscripted slice false (.ref l) (.int k u) = operate [.ref l, .int k u] (getItem (.ref l) (.int k u)) := by with_unfolding_all rfl)
    (hg : ∀ r, letTemporaryGo value (.ref l) r = pure () := by intro _; with_unfolding_all rfl) : wpAny (model prog w) A (subscriptTail value slice (.ref l) (.int k u)) Q E s := item_listL hl h0 hfit hx h hs hg
theorem x_sliceL {value : Expr} {lower upper : Option Expr} {p pos : Pos} {Q : Value → Shared → Prop}
    (h : wpAny (model prog w) A (eval value env) (fun o s₁ => wpAny (model prog w) A (evalPart lower env) (fun vl s₂ => wpAny (model prog w) A (evalPart upper env) (fun vu s₃ =>
      ∃ l vs lo hi, ∃ (w' : World) (B : Shared) (g : Heap) (rs : Rs), o = .ref l ∧ s₃.heap.IsList l (List.toArray vs) ∧ vs.length ≤ sizeLine ∧ IsPart vl lo ∧ IsPart vu hi ∧ Cx w' B g rs s₃ ∧
        ∀ a s', Cx w' B g ((a, rLst (slicePick vs.toArray lo hi none).toList) :: rs) s' → Q (.ref a) s') E s₂) E s₁) E s)
    (ht : ∀ o r, letTemporaryGo value o r = pure () := by intro _ _; rfl) :
    wpAny (model prog w) A (eval (.Subscript value (.Slice lower upper none p) pos) env) Q E s := by
  refine wpAny_Subscript_list_slice (wpAny_mono h (fun o s₁ h₁ => wpAny_mono h₁ (fun vl s₂ h₂ => wpAny_mono h₂ (fun vu s₃ h₃ => ?_) fun _ _ x => x) fun _ _ x => x) fun _ _ x => x) ht
  obtain ⟨l, vs, lo, hi, w', B, g, rs, e, hl, hsz, p1, p2, C, hQ⟩ := h₃
  refine ⟨l, _, lo, hi, e, hl, by simpa using hsz, p1, p2, ?_⟩
  have C1 := C.push (r := fun _ => True) { cls := .type "slice", data := .fields #[vl, vu, .none] } trivial
  have C2 := C1.drop .hd
  have C3 := C2.push (r := rLst (slicePick vs.toArray lo hi none).toList) { cls := .type "list", data := .seq (slicePick vs.toArray lo hi none) } ⟨0, by simp⟩
  have := hQ _ _ C3
  simpa [Heap.size_push] using this
theorem x_cbytes {b : List UInt8} {k : Nat} {pos : Pos} {Q : Value → Shared → Prop} (C : Cx w B g rs s) (h : ∀ t s', Cx w B g rs s' → Q (.bytes b.toArray t) s') : wpAny (model prog w) A (eval (.Constant (.bytes b) k pos) env) Q E s := Constant_bytes (h _ _ (C.tok _))
theorem x_divmod {a b : Int} {t u : Tok} {Q : Value → Shared → Prop} (C : Cx w B g rs s) (hb : b ≠ 0) (hp : Builtin.divisionGoesByPylong a b = false)
    (h : ∀ p t1 t2 s', Cx w B g ((p, rTup [.int (a.fdiv b) t1, .int (a.fmod b) t2]) :: rs) s' → Q (.ref p) s') : wpAny (model prog w) A (call (.builtin "divmod") [.int a t, .int b u]) Q E s :=
  divmod_int hb (h _ _ _ _ (C.push _ ⟨0, rfl⟩ rfl _)) (.inl hp)
theorem x_assignTup {elts : List Expr} {k : Nat} {tpos pos : Pos} {value : Expr} {rest : List Stmt} {Q : Flow → Shared → Prop} {M : Model}
    (h : wpAny M A (eval value env) (fun v s₁ => wpAny M A (assign (.Tuple elts k tpos) env v) (fun _ s₂ => wpAny M A (execs rest env) Q E s₂) E s₁) E s)
    (hs : swapsWithSole [.Tuple elts k tpos] value pos.line env = pure false := by rfl) (hw : swappedStores [.Tuple elts k tpos] value env = pure none := by rfl) :
    wpAny M A (execs (.Assign [.Tuple elts k tpos] value pos :: rest) env) Q E s := x_seq (Assign_Tuple h hs hw)
theorem x_unpack {elts : List Expr} {k : Nat} {pos : Pos} {t : Addr} {vs : List Value} {Q : Unit → Shared → Prop} (hh : A.handled = none) (C : Cx w B g rs s) (ht : s.heap.IsTuple t vs.toArray)
    (h : ∀ s', Cx w B g rs s' → wpAny (model prog w) A (assignInOrder ((assignEach elts env).map (·.2)) vs) Q E s')
    (hn : (assignEach elts env).length = vs.length := by rfl) (hstar : (assignEach elts env).findIdx? (·.1) = none := by rfl) : wpAny (model prog w) A (assign (.Tuple elts k pos) env (.ref t)) Q E s :=
  wpAny_assign_Tuple hh ht (by simpa using hn) hstar fun h' hx => h _ (C.grow (le_of_extSize hx) s.toks)
theorem Cx.tup (C : Cx w B g rs s) {a : Addr} {vs : List Value} (hm : (a, rTup vs) ∈ rs) : s.heap.IsTuple a vs.toArray := by
  obtain ⟨o, ho, n, rfl⟩ := C.get hm
  exact ⟨_, ho, rfl, n, rfl⟩
/-- two names -/
theorem x_two {x y : Str} {px py : Pos} {v u : Value} {Q : Unit → Shared → Prop} {M : Model} (h : wpAny M A (storeName env x v) (fun _ s₁ => wpAny M A (storeName env y u) Q E s₁) E s) :
    wpAny M A (assignInOrder ((assignEach [.Name x px, .Name y py] env).map (·.2)) [v, u]) Q E s :=
  wpAny_assignInOrder_more (wpAny_assign_Name (wpAny_mono h (fun _ s₁ h₁ => wpAny_assignInOrder_more (wpAny_assign_Name (wpAny_mono h₁ (fun _ s₂ h₂ => wpAny_assignInOrder_none h₂) fun _ _ x => x))) fun _ _ x => x))
theorem x_addB {b c : Array UInt8} {t u : Tok} {Q : Value → Shared → Prop} (C : Cx w B g rs s) (hsz : b.size + c.size ≤ 16777216) (h : ∀ t' s', Cx w B g rs s' → Q (.bytes (b ++ c) t') s') : wpAny (model prog w) A (binaryOp .Add (.bytes b t) (.bytes c u)) Q E s :=
  KBy.add_bytes hsz fun t' k => h t' _ (C.tok k)
theorem x_abs {a : Int} {t : Tok} {Q : Value → Shared → Prop} (C : Cx w B g rs s) (h0 : 0 ≤ a) (h : ∀ t s', Cx w B g rs s' → Q (.int a t) s') : wpAny (model prog w) A (call (.builtin "abs") [.int a t]) Q E s :=
  call_abs_int fun u tk => by rw [if_neg (by omega)]; exact h u _ (C.tok tk)
theorem x_sliceB {value : Expr} {lower upper : Option Expr} {p pos : Pos} {Q : Value → Shared → Prop}
    (h : wpAny (model prog w) A (eval value env) (fun o s₁ => wpAny (model prog w) A (evalPart lower env) (fun vl s₂ => wpAny (model prog w) A (evalPart upper env) (fun vu s₃ =>
      ∃ b t lo hi, ∃ (w' : World) (B : Shared) (g : Heap) (rs : Rs), o = .bytes b t ∧ b.size ≤ 16777216 ∧ IsPart vl lo ∧ IsPart vu hi ∧ Cx w' B g rs s₃ ∧ ∀ t' s', Cx w' B g rs s' → Q (.bytes (KBy.picked b lo hi) t') s') E s₂) E s₁) E s)
    (ht : ∀ b t r, letTemporaryGo value (.bytes b t) r = pure () := by intro _ _ _; with_unfolding_all rfl) :
    wpAny (model prog w) A (eval (.Subscript value (.Slice lower upper none p) pos) env) Q E s := by
  refine Subscript_ (wpAny_mono h (fun o s₁ h₁ => wpAny_Slice (wpAny_mono h₁ (fun vl s₂ h₂ => wpAny_mono h₂ (fun vu s₃ h₃ => wpAny_evalPart_none ?_) fun _ _ x => x) fun _ _ x => x)) fun _ _ x => x)
  obtain ⟨b, t, lo, hi, w', B, g, rs, rfl, hz, p1, p2, C, hQ⟩ := h₃
  have C1 := (C.push (r := fun _ => True) { cls := .type "slice", data := .fields #[vl, vu, .none] } trivial).drop .hd
  exact tail_of_ItemOn ⟨"bytes", _, FB.slot_bytes_getitem.lookup, typeIs_bytes _ _ _, getItem_meets (typeIs_bytes _ _ _) (by decide) FB.slot_bytes_getitem FB.entry_bytes_getitem (FB.args_bytes_getitem_2 _ _) (KBc.meets_slice2 b t _ p1 p2)
    ⟨Heap.IsSliceOf.new _ _ _ _, Nat.le_trans (KBc.size_picked_le b lo hi) (by rw [sizeLine_eq]; exact hz), fun t' k => hQ t' _ (C1.tok k)⟩⟩ (by with_unfolding_all rfl) (ht b t)
theorem x_callT {pos : Pos} {T : String} {e : Expr} {rest : List Expr} {Q : Value → Shared → Prop} {M : Model} (h : wpAny M A (spliced (backTo pos (starEach (e :: rest) env))) (fun vs s₁ => wpAny M A (call (.type T) vs) Q E s₁) E s)
    (he : starEach (e :: rest) env = (false, eval e env) :: starEach rest env := by rfl) (hplain : (backTo pos (starEach rest env)).any (·.1) = false := by rfl) : wpAny M A (callWith pos (.type T) [] (backTo pos (starEach (e :: rest) env)) []) Q E s := by
  rw [he] at h ⊢
  refine PySem.callWith_type (by show (false || (backTo pos (starEach rest env)).any (·.1)) = false; rw [hplain]; rfl) (evalArgs_plain h)
end
end
section
noncomputable def apB (ds : List Nat) : Array UInt8 := (ds.map fun d => UInt8.ofNat (65 + d)).toArray
theorem dgF_zero (f : Nat) (acc : List Nat) : dgF f 0 acc = acc := by cases f <;> simp [dgF]
theorem apB_pick : ∀ m : Fin 16, KBy.picked ([65, 66, 67, 68, 69, 70, 71, 72, 73, 74, 75, 76, 77, 78, 79, 80] : List UInt8).toArray (some (m.val : Int)) (some ((m.val : Int) + 1)) = apB [m.val] := by decide +kernel
theorem fdiv16 (k : Nat) : (k : Int).fdiv 16 = ((k / 16 : Nat) : Int) := by
  rw [Int.fdiv_eq_ediv_of_nonneg _ (by decide)]; rfl
theorem fmod16 (k : Nat) : (k : Int).fmod 16 = ((k % 16 : Nat) : Int) := by
  rw [Int.fmod_eq_emod_of_nonneg _ (by decide)]; rfl
theorem apB_size (ds : List Nat) : (apB ds).size = ds.length := by simp [apB]
theorem apB_cons (d : Nat) (ds : List Nat) : apB [d] ++ apB ds = apB (d :: ds) := by simp [apB]
section
variable {prog : Program} {w : World} {s : Shared} {A : Around} {E : Value → Shared → Prop}
theorem int2ap_spec {n : Nat} {t : Tok} {Q : Value → Shared → Prop} (R : Room 1 A) (W : Wf w s.heap) (hn : n ≤ 1000000) (h : ∀ t s', Gr s s' → Q (.bytes (apB (dg n)) t) s') : wpAny (model prog w) A (call (.ref 70) [.int (n : Int) t]) Q E s := by
  refine x_enter ["num"] [("num", .int (n : Int) t)] R W rfl (by kernel_rfl) rfl rfl (by decide) (by decide) (by decide) ?_
  intro L s' q cd hL C
  repeat kts_caught
  refine x_abs (by assumption) (Int.natCast_nonneg _) ?_
  intro t s' C
  repeat kts_caught
  refine x_wloop (fun k s' => ∃ f acc t1 t2 t3, k ≤ f ∧ dgF f k acc = dg n ∧ acc.length + k ≤ n ∧
    Cx w s s.heap [(L, rLoc [("num", .int (k : Int) t1), ("val", .bytes (apB acc) t2), ("AP", .bytes ([65, 66, 67, 68, 69, 70, 71, 72, 73, 74, 75, 76, 77, 78, 79, 80] : List UInt8).toArray t3)])] s') n ?_ ?_
  · rintro k s' ⟨f, acc, t1, t2, t3, hf, hd, hl, C⟩
    repeat kts_caught
    by_cases hk : k = 0
    · subst hk
      rw [if_neg (by decide)]
      repeat kts_caught
      rw [dgF_zero] at hd
      rw [hd]
      exact h _ _ C.back
    · rw [if_pos (by simpa using hk)]
      repeat kts_caught
      refine x_divmod (by assumption) (by decide) (PyProof.noPylong_small (by decide)) ?_
      intro p t4 t5 s' C
      refine x_unpack R.hh C (C.tup (.head _)) ?_
      intro s' C
      rw [fdiv16, fmod16]
      repeat kts_caught
      refine x_sliceB ?_
      repeat kts_caught
      refine ⟨_, _, _, _, _, _, _, _, rfl, by decide, .int _ _, .int _ _, by assumption, ?_⟩
      intro t6 s' C
      have hm : k % 16 < 16 := Nat.mod_lt _ (by decide)
      rw [show KBy.picked ([65, 66, 67, 68, 69, 70, 71, 72, 73, 74, 75, 76, 77, 78, 79, 80] : List UInt8).toArray (some ((k % 16 : Nat) : Int)) (some (((k % 16 : Nat) : Int) + 1)) = apB [k % 16] from apB_pick ⟨k % 16, hm⟩]
      repeat kts_caught
      refine x_addB (by assumption) (by rw [apB_size, apB_size]; simp only [List.length_singleton]; omega) ?_
      intro t7 s' C
      rw [apB_cons]
      repeat kts_caught
      rename_i C
      obtain ⟨f, rfl⟩ : ∃ f', f = f' + 1 := ⟨f - 1, by omega⟩
      refine ⟨k / 16, by omega, f, k % 16 :: acc, _, _, _, by omega, ?_, ?_, (C.drop .hd).loc _ (by tb_start) (by kts_caughtN) (by simp only [List.map]; decide)⟩
      · rw [← hd]; show _ = (if k = 0 then acc else dgF f (k / 16) (k % 16 :: acc)); rw [if_neg hk]
      · rw [List.length_cons]; omega
  · rename_i C
    exact ⟨n, [], _, _, _, Nat.le_refl _, rfl, by simp, C⟩
end
end
section
/-- the block of a comprehension -/
noncomputable abbrev envC (scope : Scope) (cl : List (Str × Addr)) (C : Addr) (env : Env) : Env :=
  { scope := relabel scope env, locals := C, globals := env.globals, cells := cl, qual := env.qual, func := none, code := env.code, frame := env.frame, builtins := env.builtins }
noncomputable def cRv (w : World) (Q : Value → Shared → Prop) (D Cc : Addr) : Result → Shared → Prop
  | .ok .next, s => ∃ B g vs rs, Cx w B g ((Cc, rLoc vs) :: rs) s ∧ ∀ s', Cx w B g rs s' → Q (.ref D) s'
  | _, _ => False
/-- the comprehension's list goes to a name -/
noncomputable def cRa (M : Model) (w : World) (A : Around) (env : Env) (y : Str) (rest : List Stmt) (Q : Flow → Shared → Prop) (E : Value → Shared → Prop) (D Cc : Addr) : Result → Shared → Prop
  | .ok .next, s => wpAny M A (storeName env y (.ref D)) (fun _ s' => ∃ B g vs rs, Cx w B g ((Cc, rLoc vs) :: rs) s' ∧ ∀ s'', Cx w B g rs s'' → wpAny M A (execs rest env) Q E s'') nE s
  | _, _ => False
section
variable {prog : Program} {w : World} {A : Around} {E : Value → Shared → Prop} {s : Shared} {env : Env}
theorem newCompEnv {B : Shared} {g : Heap} {rs : Rs} {M : Model} {scope : Scope} {cl : List (Str × Addr)} {Q : Env → Shared → Prop} (C : Cx w B g rs s) (hcell : ∀ y ∈ scope.names, y.2 ≠ .cell) (hkind : scope.kind = .function)
    (h : ∀ Cc s', Cx w B g ((Cc, rLoc []) :: rs) s' → Q { scope, locals := Cc, globals := env.globals, cells := cl, qual := env.qual, func := none, code := env.code, frame := env.frame, builtins := env.builtins } s') :
    wpAny M A (newFunctionEnv scope env.globals cl [] env.qual none .none (some env)) Q E s := by
  refine wpAny_newFunctionEnv hcell (by intro y hy; simp at hy) (fun h₁ hn hs => ?_) hkind
  refine h s.heap.objs.size { s with heap := h₁, toks := s.toks + 0 } ?_
  obtain ⟨o, ho, hr⟩ := rLoc_of_ns (vs := []) hn List.nodup_nil (fun _ h => (nomatch h))
  refine C.add (fun b o e => hs.extBut b o (fun hb => by rw [hb, not_at_size] at e; cases e) (Heap.get?_push_of_some _ e)) (not_at_size _) ho hr _
theorem x_lc {elt target iter : Expr} {ifs : List Expr} {gs : List Comprehension} {scope : Scope} {pos : Pos} {cl : List (Str × Addr)} {Q : Value → Shared → Prop}
    (h : wpAny (model prog w) A (eval iter env) (fun x s₁ => wpAny (model prog w) A (pyIter x) (fun it s₂ => ∃ B g rs, Cx w B g rs s₂ ∧ ∀ D Cc s₃, Cx w B g ((Cc, rLoc []) :: (D, rLst []) :: rs) s₃ →
      (∀ Q' E', Q' it s₃ → wpAny (model prog w) A (pyIter it) Q' E' s₃) ∧ codeAny (model prog w) A (.compLoop (.ListComp elt (⟨target, iter, ifs, 0⟩ :: gs) scope pos) 0 it (.ref D) (envC scope cl Cc env)) (cRv w Q D Cc) s₃) E s₁) E s)
    (hclos : closureFor scope env = pure cl := by with_unfolding_all rfl) (hcell : ∀ y ∈ scope.names, y.2 ≠ .cell := by decide) (hkind : scope.kind = .function := by rfl)
    (hnames : ∀ y ∈ scope.names, y.2 = .local → scope.names.lookup y.1 = some .local := by decide) (hs : ∀ x, foldedSetIterable iter env x = pure x := by intro _; rfl) :
    wpAny (model prog w) A (eval (.ListComp elt (⟨target, iter, ifs, 0⟩ :: gs) scope pos) env) Q E s := by
  rw [eval_ListComp]
  refine wpAny_comprehension_free (use := none) rfl hs hclos hkind hnames (wpAny_mono h (fun x s₁ h₁ => wpAny_mono h₁ (fun it s₂ h₂ => ?_) fun _ _ e => e) fun _ _ e => e)
  obtain ⟨B, g, rs, C, h₂⟩ := h₂
  refine x_newList C (Nat.zero_le _) fun D s₃ C => newCompEnv C hcell hkind fun Cc s₄ C => ?_
  obtain ⟨hself, hloop⟩ := h₂ D Cc s₄ C
  have hloop' := codeAny_mono hloop (R' := compPost (model prog w) A E none Q (.ref D) Cc) fun r s' q => by
    cases r with
    | error e => exact q.elim
    | ok f =>
      cases f with
      | next =>
        obtain ⟨B, g, vs, rs', C, hQ⟩ := q
        obtain ⟨m, hn, _, _⟩ := C.ns (.head _)
        exact ⟨m, hn, fun h' hs => hQ _ (C.rm .hd hs.extBut s'.toks)⟩
      | _ => exact q.elim
  exact codeAny_compStart_list hloop' (hself _ _ hloop')
theorem x_clc {elt target iter : Expr} {ifs : List Expr} {gs : List Comprehension} {scope : Scope} {pos spos py : Pos} {y : Str} {rest : List Stmt} {cl : List (Str × Addr)} {Q : Flow → Shared → Prop}
    (h : wpAny (model prog w) A (eval iter env) (fun x s₁ => wpAny (model prog w) A (pyIter x) (fun it s₂ => ∃ B g rs, Cx w B g rs s₂ ∧ ∀ D Cc s₃, Cx w B g ((Cc, rLoc []) :: (D, rLst []) :: rs) s₃ →
      (∀ Q' E', Q' it s₃ → wpAny (model prog w) A (pyIter it) Q' E' s₃) ∧ codeAny (model prog w) A (.compLoop (.ListComp elt (⟨target, iter, ifs, 0⟩ :: gs) scope pos) 0 it (.ref D) (envC scope cl Cc env)) (cRa (model prog w) w A env y rest Q E D Cc) s₃) E s₁) E s)
    (hsw : swapsWith (.ListComp elt (⟨target, iter, ifs, 0⟩ :: gs) scope pos) (some (.Name y py)) spos.line env = pure true := by with_unfolding_all rfl)
    (hclos : closureFor scope env = pure cl := by with_unfolding_all rfl) (hcell : ∀ y ∈ scope.names, y.2 ≠ .cell := by decide) (hkind : scope.kind = .function := by rfl)
    (hnames : ∀ y ∈ scope.names, y.2 = .local → scope.names.lookup y.1 = some .local := by decide) (hs : ∀ x, foldedSetIterable iter env x = pure x := by intro _; rfl) :
    wpAny (model prog w) A (execs (.Assign [.Name y py] (.ListComp elt (⟨target, iter, ifs, 0⟩ :: gs) scope pos) spos :: rest) env) Q E s := by
  refine x_seq ?_
  rw [exec_Assign_Name_used _ _ _ _ hsw]
  refine wpAny_bind (wpAny_standAt (wpAny_bind ?_))
  show wpAny _ A (do let _ ← comprehension (.ListComp elt (⟨target, iter, ifs, 0⟩ :: gs) scope pos) scope env _ (newList []) false (eval iter env) (some (assign (.Name y py) env))) _ _ s
  refine wpAny_bind (wpAny_mono (wpAny_comprehension_free (use := some (assign (.Name y py) env)) (Q := fun _ s' => wpAny (model prog w) A (execs rest env) Q E s') rfl hs hclos hkind hnames
    (wpAny_mono h (fun xv s₁ h₁ => wpAny_mono h₁ (fun it s₂ h₂ => ?_) fun _ _ e => e) fun _ _ e => e)) (fun _ s' hq => wpAny_pure (wpAny_pure hq)) fun _ _ e => e)
  obtain ⟨B, g, rs, C, h₂⟩ := h₂
  refine x_newList C (Nat.zero_le _) fun D s₃ C => newCompEnv C hcell hkind fun Cc s₄ C => ?_
  obtain ⟨hself, hloop⟩ := h₂ D Cc s₄ C
  have hloop' := codeAny_mono hloop (R' := compPost (model prog w) A E (some (assign (.Name y py) env)) (fun _ s' => wpAny (model prog w) A (execs rest env) Q E s') (.ref D) Cc) fun r s' q => by
    cases r with
    | error e => exact q.elim
    | ok f =>
      cases f with
      | next =>
        refine wpAny_assign_Name (wpAny_mono q (fun _ s'' q => ?_) fun _ _ x => x.elim)
        obtain ⟨B, g, vs, rs', C, hQ⟩ := q
        obtain ⟨m, hn, _, _⟩ := C.ns (.head _)
        exact ⟨m, hn, fun h' hs => hQ _ (C.rm .hd hs.extBut s''.toks)⟩
      | _ => exact q.elim
  exact codeAny_compStart_list hloop' (hself _ _ hloop')

/-- a test, then the rest -/
noncomputable def tests (env : Env) : List Expr → Sem Bool := fun ifs => forIn ifs true fun c r => if r = true then do let ok ← isTrue c env (eval c env); pure (ForInStep.yield ok) else pure (ForInStep.yield r)
theorem x_cloop {elt target iter : Expr} {ifs : List Expr} {scope : Scope} {pos : Pos} {it acc : Value} {R : Result → Shared → Prop} (J : Nat → Shared → Prop) (n : Nat)
    (turn : ∀ i s, i < n → J i s → wpAny (model prog w) A (pyNext it) (fun r s₁ => ∃ v, r = some v ∧ wpAny (model prog w) A (letOwnedTupleGo target it v) (fun _ s₁' => wpAny (model prog w) A (assign target env v) (fun _ s₂ =>
      wpAny (model prog w) A (tests env ifs) (fun ok s₃ => if ok = true then wpAny (model prog w) A (eval elt env) (fun x s₄ => wpAny (model prog w) A (call (.builtin "list.append") [acc, x]) (fun _ s₅ => J (i + 1) s₅) nE s₄) nE s₃ else J (i + 1) s₃) nE s₂) nE s₁') nE s₁) nE s)
    (fin : ∀ s, J n s → wpAny (model prog w) A (pyNext it) (fun r s₁ => r = none ∧ R (.ok .next) s₁) nE s) (h : J 0 s) :
    codeAny (model prog w) A (.compLoop (.ListComp elt [⟨target, iter, ifs, 0⟩] scope pos) 0 it acc env) R s := by
  refine codeAny_loop rfl (fun k s => ∃ i, i ≤ n ∧ k = n - i ∧ J i s) ?_ n ⟨0, Nat.zero_le _, rfl, h⟩
  rintro k s ⟨i, hi, rfl, hJ⟩
  show wpAny _ A ((compTurn (.ListComp elt [⟨target, iter, ifs, 0⟩] scope pos) 0 it acc env).onRaise (fun x => do noteFrame x env; theTreesLotGoes x)) _ _ s
  refine wpAny_noted ?_
  rw [compTurn_list]
  refine wpAny_bind (wpAny_standAt (wpAny_bind ?_))
  by_cases hlt : i < n
  · refine wpAny_mono (turn i s hlt hJ) (fun r s₁ h₁ => ?_) fun _ _ x => x.elim
    obtain ⟨v, rfl, h₁⟩ := h₁
    refine wpAny_bind (wpAny_mono h₁ (fun _ s₁' h₂ => wpAny_bind (wpAny_mono h₂ (fun _ s₂ h₃ => wpAny_bind (wpAny_mono h₃ (fun ok s₃ h₄ => ?_) fun _ _ x => x.elim)) fun _ _ x => x.elim)) fun _ _ x => x.elim)
    cases ok with
    | false => exact wpAny_pure ⟨rfl, n - (i + 1), by omega, i + 1, hlt, rfl, h₄⟩
    | true =>
      exact wpAny_bind (wpAny_bind (wpAny_mono h₄ (fun x s₄ h₅ => wpAny_bind (wpAny_mono h₅ (fun _ s₅ h₆ => wpAny_pure (wpAny_pure ⟨rfl, n - (i + 1), by omega, i + 1, hlt, rfl, h₆⟩)) fun _ _ x => x.elim)) fun _ _ x => x.elim))
  · obtain rfl : i = n := by omega
    refine wpAny_mono (fin s hJ) (fun r s₁ h₁ => ?_) fun _ _ x => x.elim
    obtain ⟨rfl, h₁⟩ := h₁
    exact wpAny_pure h₁
theorem x_tests0 {Q : Bool → Shared → Prop} {M : Model} (h : Q true s) : wpAny M A (tests env []) Q E s := wpAny_pure h
theorem x_tests1 {c : Expr} {Q : Bool → Shared → Prop} (h : wpAny (model prog w) A (isTrue c env (eval c env)) Q E s) : wpAny (model prog w) A (tests env [c]) Q E s := wpAny_tests_one h
theorem x_self_list {B : Shared} {g : Heap} {rs : Rs} {I l : Addr} {i : Nat} (C : Cx w B g rs s) (hm : (I, rLit l i) ∈ rs) : ∀ (Q' : Value → Shared → Prop) (E' : Value → Shared → Prop), Q' (.ref I) s → wpAny (model prog w) A (pyIter (.ref I)) Q' E' s := by
  obtain ⟨o, ho, h1, h2⟩ := C.get hm
  exact fun Q' E' h => wpAny_pyIter_listiter (i := i) ⟨o, ho, h1, h2⟩ h
end
end
section
/-- all that stands in a heap, but the frame -/
noncomputable def allN (L : Addr) (h : Heap) : List (Addr × Obj) := (List.range h.objs.size).filterMap fun a => if a = L then none else (h.get? a).map fun o => (a, o)
theorem mem_allN {L : Addr} {h : Heap} {a : Addr} {o : Obj} : (a, o) ∈ allN L h ↔ a ≠ L ∧ h.get? a = some o := by
  unfold allN
  rw [List.mem_filterMap]
  constructor
  · rintro ⟨b, _, e⟩
    by_cases hb : b = L
    · rw [if_pos hb] at e; cases e
    · rw [if_neg hb] at e
      obtain ⟨o', ho', e'⟩ := Option.map_eq_some_iff.mp e
      cases e'
      exact ⟨hb, ho'⟩
  · rintro ⟨h1, h2⟩
    exact ⟨a, List.mem_range.mpr (Heap.lt_size h2), by rw [if_neg h1, h2]; rfl⟩
theorem Upd.of_mem {rs : Rs} {a : Addr} {r : Res} (h : (a, r) ∈ rs) : Upd rs a r r rs := by
  induction rs with
  | nil => cases h
  | cons p l ih =>
    rcases List.mem_cons.mp h with rfl | h
    · exact .hd
    · exact .tl (ih h)
section
variable {w : World} {B s s' : Shared} {g h' : Heap} {rs rs' : Rs} {L a : Addr} {r r' : Res}
theorem Cx.fr (C : Cx w B g rs s) {vs : List (Str × Value)} (hm : (L, rLoc vs) ∈ rs) : ∃ m, Fr {} L s.heap m ∧ News {} L s.heap (allN L s.heap) ∧
    ∀ h' nn, Fr {} L h' m → News {} L h' nn → (∀ p ∈ allN L s.heap, p ∈ nn) → ∀ t, Cx w B g rs { s with heap := h', toks := t } := by
  obtain ⟨m, hn, hd, ha⟩ := C.ns hm
  refine ⟨m, ⟨hn, fun b o e => by simp [Heap.get?] at e, Nat.zero_le _⟩, fun p hp => ?_, fun h' nn F N hs t => ?_⟩
  · obtain ⟨h1, h2⟩ := mem_allN.mp hp
    exact ⟨h2, h1, by simp [Heap.get?]⟩
  · refine C.upd (Upd.of_mem hm) (fun b o hb e => (N _ (hs _ (mem_allN.mpr ⟨hb, e⟩))).1) ?_ t
    exact rLoc_of_ns F.ns hd ha
theorem Cx.frAdd {t : Nat} (C : Cx w B g rs s) (C' : Cx w B g rs { s with heap := h', toks := t }) {nn : List (Addr × Obj)} {o : Obj} (N : News {} L h' nn) (hm : (a, o) ∈ nn) (hlt : ∀ p ∈ allN L s.heap, p.1 < a) (hr : r o) : Cx w B g ((a, r) :: rs) { s with heap := h', toks := t } := by
  have hf : s.heap.get? a = Option.none := by
    cases e : s.heap.get? a with
    | none => rfl
    | some o' => exact absurd (hlt _ (mem_allN.mpr ⟨(N _ hm).2.1, e⟩)) (Nat.lt_irrefl _)
  refine C'.cons (N _ hm).1 hr ?_ ?_
  · cases e : g.get? a with
    | none => rfl
    | some o' => rw [C.keep _ _ e] at hf; cases hf
  · intro hk
    obtain ⟨p, hp, rfl⟩ := List.mem_map.mp hk
    obtain ⟨⟨o', ho', _⟩, _⟩ := C.own p hp
    rw [ho'] at hf
    cases hf
end
section
variable {prog : Program} {w : World} {A : Around} {E : Value → Shared → Prop} {s s' : Shared} {env : Env} {B : Shared} {g : Heap} {rs rs' : Rs}
theorem x_rev {value : Expr} {k : Expr} {p pos : Pos} {Q : Value → Shared → Prop}
    (h : wpAny (model prog w) A (eval value env) (fun o s₁ => wpAny (model prog w) A (eval k env) (fun v s₂ =>
      ∃ l vs t vloc L, ∃ (w' : World) (B : Shared) (g : Heap) (rs : Rs), o = .ref l ∧ v = .int (-1) t ∧ s₂.heap.IsList l (List.toArray vs) ∧ vs.length ≤ sizeLine ∧ Cx w' B g rs s₂ ∧ (L, rLoc vloc) ∈ rs ∧
        ∀ a s', Cx w' B g ((a, rLst vs.reverse) :: rs) s' → Q (.ref a) s') E s₁) E s)
    (ht : ∀ o r, letTemporaryGo value o r = pure () := by intro _ _; rfl) : wpAny (model prog w) A (eval (.Subscript value (.Slice none none (some k) p) pos) env) Q E s := by
  refine Subscript_ (wpAny_mono h (fun o s₁ h₁ => wpAny_Slice (wpAny_evalPart_none (wpAny_evalPart_none (wpAny_evalPart_some (wpAny_mono h₁ (fun v s₂ h₂ => ?_) fun _ _ x => x))))) fun _ _ x => x)
  obtain ⟨l, vs, t, vloc, L, w', B, g, rs, rfl, rfl, hl, hsz, C, hm, hQ⟩ := h₂
  obtain ⟨m, F, N, back⟩ := C.fr hm
  refine krv_lit F N hl (.int _ _) rfl (fun D h' F' N' hlt => ?_) (by with_unfolding_all rfl) (ht _) (by simpa using hsz)
  have C' := back h' _ F' N' (fun p hp => List.mem_cons_of_mem _ hp) s₂.toks
  exact hQ D _ (C.frAdd C' N' (.head _) hlt ⟨0, rfl⟩)
theorem x_len {l : Addr} {vs : List Value} {Q : Value → Shared → Prop} (C : Cx w B g rs s) (hl : s.heap.IsList l vs.toArray) (hfit : vs.length ≤ 1000000) (h : ∀ t s', Cx w B g rs s' → Q (.int (vs.length : Nat) t) s') : wpAny (model prog w) A (call (.builtin "len") [.ref l]) Q E s :=
  call_len_list hl (by simp only [List.size_toArray]; omega) (by simpa using h _ _ (C.tok _))
noncomputable def rBit (b : Array UInt8) (t : Tok) (i : Nat) : Res := fun o => o.cls = .type "bytes_iterator" ∧ o.data = .fields #[.bytes b t, .int i 0]
theorem x_iter_bytes {b : Array UInt8} {t : Tok} {Q : Value → Shared → Prop} (C : Cx w B g rs s) (h : ∀ I s', Cx w B g ((I, rBit b t 0) :: rs) s' → Q (.ref I) s') : wpAny (model prog w) A (pyIter (.bytes b t)) Q E s :=
  KBw.pyIter_bytes (h _ _ (C.push _ ⟨rfl, rfl⟩))
theorem x_next_bytes {I : Addr} {i : Nat} {b : Array UInt8} {t : Tok} {c : UInt8} {Q : Option Value → Shared → Prop} (C : Cx w B g rs s) (u : Upd rs I (rBit b t i) (rBit b t (i + 1)) rs') (hx : b[i]? = some c)
    (h : ∀ t s', Cx w B g rs' s' → Q (some (.int (c.toNat : Int) t)) s') : wpAny (model prog w) A (pyNext (.ref I)) Q E s := by
  obtain ⟨o, ho, h1, h2⟩ := C.get u.mem
  refine KBw.next_item ⟨o, ho, h1, h2⟩ hx fun h' hit hs => h _ _ (C.upd u hs.extBut ?_ _)
  obtain ⟨o', ho', h1', h2'⟩ := hit
  exact ⟨o', ho', h1', h2'⟩
theorem x_end_bytes {I : Addr} {i : Nat} {b : Array UInt8} {t : Tok} {Q : Option Value → Shared → Prop} (hh : A.handled = none) (C : Cx w B g rs s) (u : Rm rs I (rBit b t i) rs') (hx : b.size ≤ i)
    (h : ∀ s', Cx w B g rs' s' → Q none s') : wpAny (model prog w) A (pyNext (.ref I)) Q E s := by
  obtain ⟨o, ho, h1, h2⟩ := C.get u.mem
  exact KBw.next_end hh ⟨o, ho, h1, h2⟩ (by simpa using hx) fun h' hs => h _ (C.rm u hs s.toks)
theorem x_self_bytes {I : Addr} {b : Array UInt8} {t : Tok} {i : Nat} (C : Cx w B g rs s) (hm : (I, rBit b t i) ∈ rs) : ∀ (Q' : Value → Shared → Prop) (E' : Value → Shared → Prop), Q' (.ref I) s → wpAny (model prog w) A (pyIter (.ref I)) Q' E' s := by
  obtain ⟨o, ho, h1, h2⟩ := C.get hm
  exact fun Q' E' h => KBw.pyIter_self (i := i) ⟨o, ho, h1, h2⟩ h
theorem x_notin {l : Addr} {vs : List Value} {xs : List Nat} {k : Nat} {t : Tok} {Q : Value → Shared → Prop} (hl : s.heap.IsList l vs.toArray) (hi : IntsAre vs (zs xs)) (h : Q (.bool (decide (k ∉ xs))) s) : wpAny (model prog w) A (compareOp .NotIn (.int (k : Int) t) (.ref l)) Q E s := by
  refine notin_list_ints hl hi ?_
  have e : (!((zs xs).any (· == (k : Int)))) = decide (k ∉ xs) := by
    rw [Bool.eq_iff_iff]
    simp only [Bool.not_eq_true', decide_eq_true_eq, List.any_eq_false, beq_iff_eq]
    constructor
    · intro h hk
      exact h (k : Int) (List.mem_map_of_mem hk) rfl
    · intro h x hx e
      obtain ⟨y, hy, rfl⟩ := List.mem_map.mp hx
      exact h (Int.ofNat.inj e ▸ hy)
  rw [e]; exact h
theorem c_number {l : Addr} {vs : List Value} {xs : List Nat} {Q : Value → Shared → Prop} (R : Room 1 A) (C : Cx w B g rs s) (hl : s.heap.IsList l vs.toArray) (hi : IntsAre vs (zs xs)) (h64 : xs.length < 64)
    (h : ∀ t s', Cx w B g rs s' → Q (.int (num xs : Nat) t) s') : Wf w s.heap ∧ wpAny (model prog w) A (call (.ref 170) [.ref l]) Q E s :=
  ⟨C.wfs, number_spec R C.wfs hl hi h64 fun t s' hg => h t s' (C.gr hg)⟩
theorem c_together {l₁ l₂ : Addr} {vs₁ vs₂ : List Value} {xs ys : List Nat} {Q : Value → Shared → Prop} (R : Room 2 A) (C : Cx w B g rs s) (h1 : s.heap.IsList l₁ vs₁.toArray) (i1 : IntsAre vs₁ (zs xs)) (h2 : s.heap.IsList l₂ vs₂.toArray) (i2 : IntsAre vs₂ (zs ys))
    (hx : xs.length ≤ 100) (hy : ys.length ≤ 100) (hy0 : 0 < ys.length) (h : ∀ r us s', IntsAre us (zs (tg xs ys)) → Cx w B g ((r, rLst us) :: rs) s' → Q (.ref r) s') : Wf w s.heap ∧ wpAny (model prog w) A (call (.ref 177) [.ref l₁, .ref l₂]) Q E s :=
  ⟨C.wfs, together_spec R C.wfs h1 i1 h2 i2 hx hy hy0 fun r us s' hi hg hn ⟨o, ho, hr⟩ => h r us s' hi (C.addGr hg hn ho hr)⟩
theorem c_int2ap {n : Nat} {t : Tok} {Q : Value → Shared → Prop} (R : Room 1 A) (C : Cx w B g rs s) (hn : n ≤ 1000000) (h : ∀ t s', Cx w B g rs s' → Q (.bytes (apB (dg n)) t) s') : Wf w s.heap ∧ wpAny (model prog w) A (call (.ref 70) [.int (n : Int) t]) Q E s :=
  ⟨C.wfs, int2ap_spec R C.wfs hn fun t s' hg => h t s' (C.gr hg)⟩
theorem x_cRa {M : Model} {y : Str} {rest : List Stmt} {Q : Flow → Shared → Prop} {D Cc : Addr}
    (h : wpAny M A (storeName env y (.ref D)) (fun _ s' => ∃ B g vs rs, Cx w B g ((Cc, rLoc vs) :: rs) s' ∧ ∀ s'', Cx w B g rs s'' → wpAny M A (execs rest env) Q E s'') nE s) : cRa M w A env y rest Q E D Cc (.ok .next) s := h
end
theorem x_Tuple {M : Model} {A : Around} {E : Value → Shared → Prop} {s : Shared} {env : Env} {elts : List Expr} {k : Nat} {pos : Pos} {Q : Value → Shared → Prop}
    (h : wpAny M A (spliced (backTo pos (starEach elts env))) (fun vs s₁ => wpAny M A (newTuple vs) Q E s₁) E s) : wpAny M A (eval (.Tuple elts k pos) env) Q E s := Tuple_ h
end
section
theorem dgF_len : ∀ (f n k : Nat) (acc : List Nat), n < 16 ^ k → (dgF f n acc).length ≤ acc.length + k
  | 0, _, _, acc, _ => by simp [dgF]
  | f + 1, n, k, acc, h => by
    unfold dgF
    split
    · omega
    · cases k with
      | zero => simp at h; omega
      | succ k =>
        have := dgF_len f (n / 16) k (n % 16 :: acc) (by rw [Nat.pow_succ] at h; omega)
        rw [List.length_cons] at this
        omega
theorem dg_len {n : Nat} (h : n ≤ 1000000) : (dg n).length ≤ 5 := by
  have := dgF_len n n 5 [] (by omega)
  simpa [dg] using this
theorem dgF_lt : ∀ (f n : Nat) (acc : List Nat), (∀ d ∈ acc, d < 16) → ∀ d ∈ dgF f n acc, d < 16
  | 0, _, acc, h => by simpa [dgF] using h
  | f + 1, n, acc, h => by
    unfold dgF
    split
    · exact h
    · refine dgF_lt f (n / 16) (n % 16 :: acc) fun d hd => ?_
      rcases List.mem_cons.mp hd with rfl | hd
      · exact Nat.mod_lt _ (by decide)
      · exact h d hd
theorem dg_lt {n d : Nat} (h : d ∈ dg n) : d < 16 := dgF_lt n n [] (by simp) d h
theorem ordStep_sub (heaps : List Nat) : ∀ (masks found : List Nat), ∀ x ∈ found, x ∈ masks.foldl (ordStep heaps) found
  | [], _, x, h => h
  | m :: r, found, x, h => by
    rw [List.foldl_cons]
    refine ordStep_sub heaps r _ x ?_
    unfold ordStep
    split
    · exact h
    · exact List.mem_append_left _ h
theorem bfs_sub : ∀ (f : Nat) (masks : List Nat) (p : Nat) (found res : List Nat), bfs f masks p found = some res → ∀ x ∈ found, x ∈ res
  | 0, _, _, _, _, h => by cases h
  | f + 1, masks, p, found, res, h => by
    unfold bfs at h
    split at h
    · exact fun x hx => bfs_sub f masks _ _ res h x (ordStep_sub _ _ _ x hx)
    · cases h; exact fun x hx => hx
theorem ordStep_len (heaps : List Nat) : ∀ (masks found : List Nat), (masks.foldl (ordStep heaps) found).length ≤ found.length + masks.length
  | [], _ => by simp
  | m :: r, found => by
    rw [List.foldl_cons, List.length_cons]
    have := ordStep_len heaps r (ordStep heaps found m)
    have h2 : (ordStep heaps found m).length ≤ found.length + 1 := by unfold ordStep; split <;> simp
    omega
theorem apB_get {ds : List Nat} {i : Nat} (hi : i < ds.length) : (apB ds)[i]? = some (UInt8.ofNat (65 + ds.getD i 0)) := by
  simp [apB, hi]
theorem apB_toNat {d : Nat} (h : d < 16) : ((UInt8.ofNat (65 + d)).toNat : Int) - 65 = (d : Int) := by
  rw [UInt8.toNat_ofNat']; omega
theorem take_succN (l : List Nat) (i : Nat) (hi : i < l.length) : l.take (i + 1) = l.take i ++ [l.getD i 0] := by
  rw [List.take_add_one]; simp [hi]
section
variable {prog : Program} {w : World} {s : Shared} {A : Around} {E : Value → Shared → Prop}
theorem order_spec {l : Addr} {vs : List Value} {masks res : List Nat} {Q : Value → Shared → Prop} (R : Room 3 A) (W : Wf w s.heap) (hl : s.heap.IsList l vs.toArray) (hi : IntsAre vs (zs masks)) (hml : masks.length ≤ 100)
    (ho : order masks = some res) (hres : ∀ x ∈ res, x ≤ 1000000)
    (h : ∀ r us s', IntsAre us (zs res) → Gr s s' → s.heap.get? r = none → (∃ o, s'.heap.get? r = some o ∧ rLst us o) → Q (.ref r) s') : wpAny (model prog w) A (call (.ref 182) [.ref l]) Q E s := by
  refine x_enter ["masks"] [("masks", .ref l)] R W rfl (by kernel_rfl) rfl rfl (by decide) (by decide) (by decide) ?_
  intro L s' q cd hL C
  repeat kts_caught
  refine c_number (xs := [1, 2, 4, 8]) (by ktr_room) (by assumption) (Cx.lst (by assumption) (by ktr_rel)) (.cons 1 _ (.cons 2 _ (.cons 4 _ (.cons 8 _ .nil)))) (by decide) ?_
  intro t s' C
  repeat kts_caught
  rename_i C
  obtain ⟨rr, hb, rfl⟩ := Option.map_eq_some_iff.mp ho
  refine x_wloop (fun f s' => ∃ p found us tp fa, bfs f masks p found = some rr ∧ IntsAre us (zs found) ∧ found.length + f * 100 ≤ 2000 ∧
    Cx w s s.heap [(fa, rLst us), (L, rLoc [("masks", .ref l), ("found", .ref fa), ("place", .int (p : Nat) tp)])] s') 17 ?_ ?_
  · rintro f s' ⟨p, found, us, tp, fa, hbf, hus, hlen, C⟩
    have hul : us.length = found.length := by rw [ia_len hus, zs_len]
    obtain ⟨f, rfl⟩ : ∃ f', f = f' + 1 := by
      cases f with
      | zero => cases hbf
      | succ f => exact ⟨f, rfl⟩
    unfold bfs at hbf
    repeat kts_caught
    refine x_len (by assumption) (Cx.lst (by assumption) (by ktr_rel)) (by omega) ?_
    intro t s' C
    rw [hul]
    repeat kts_caught
    by_cases hp : p < found.length
    · rw [if_pos (by simpa using hp)]
      rw [if_pos hp] at hbf
      obtain ⟨tu, hu⟩ := ia_getN hus hp
      repeat kts_caught
      refine x_idxL (Cx.lst (by assumption) (by ktr_rel)) (Int.natCast_nonneg _) (by omega) (by rw [Int.toNat_natCast]; exact hu) ?_
      repeat kts_caught
      have hnr : found.getD p 0 ≤ 1000000 := by
        refine hres _ (List.mem_reverse.mpr (bfs_sub _ _ _ _ _ hbf _ (ordStep_sub _ _ _ _ ?_)))
        rw [List.getD_eq_getElem?_getD, List.getElem?_eq_getElem hp]
        exact List.getElem_mem hp
      generalize hN : found.getD p 0 = n at hbf hnr hu ⊢
      refine c_int2ap (by ktr_room) (by assumption) hnr ?_
      intro tb s' C
      repeat kts_caught
      refine x_iter_bytes C ?_
      intro I s' C
      refine ⟨_, _, _, C, fun D Cc s' C => ⟨x_self_bytes C (by ktr_rel), ?_⟩⟩
      have hdl := dg_len hnr
      refine x_cloop (fun i s' => ∃ hs, IntsAre hs (zs ((dg n).take i)) ∧ Cx w s s.heap [(Cc, rLoc []), (D, rLst hs), (I, rBit (apB (dg n)) tb i), (fa, rLst us), (L, rLoc [("masks", .ref l), ("found", .ref fa), ("place", .int (p : Nat) tp)])] s') (dg n).length ?_ ?_ ⟨[], .nil, C⟩
      · rintro i s' hi' ⟨hs, hhs, C⟩
        refine x_next_bytes C (by tb_start) (apB_get hi') ?_
        intro t8 s' C
        refine ⟨_, rfl, ?_⟩
        repeat kts_caught
        rw [apB_toNat (dg_lt (by rw [List.getD_eq_getElem?_getD, List.getElem?_eq_getElem hi']; exact List.getElem_mem hi'))]
        have hsl : hs.length ≤ 5 := by rw [ia_len hhs, zs_len, List.length_take]; omega
        refine x_append (by assumption) (by tb_start) (by rw [sizeLine_eq]; omega) ?_
        intro s' C
        rw [take_succN _ _ hi']
        exact ⟨_, ia_snoc hhs, C.loc _ (by tb_start) (by kts_caughtN) (by simp only [List.map]; decide)⟩
      · rintro s' ⟨hs, hhs, C⟩
        rw [List.take_length] at hhs
        refine x_end_bytes R.hh C (by tb_start) (by rw [apB_size]; exact Nat.le_refl _) ?_
        intro s' C
        refine ⟨rfl, ?_⟩
        repeat kts_caught
        refine x_iter_list (by assumption) (Cx.fl (by assumption) hl) ?_
        intro I s' C
        refine x_loop (fun i s' => ∃ fnd us', IntsAre us' (zs fnd) ∧ fnd = (masks.take i).foldl (ordStep (dg n)) found ∧
          Cx w s s.heap [(I, rLit l i), (D, rLst hs), (fa, rLst us'), (L, rLoc [("masks", .ref l), ("found", .ref fa), ("place", .int (p : Nat) tp), ("heaps", .ref D)])] s') masks.length ?_ ?_ ⟨found, us, hus, rfl, C⟩
        · rintro i s' hi' ⟨fnd, us', hus', hf, C⟩
          obtain ⟨u, hu⟩ := ia_getN hi hi'
          refine x_next_list C (by tb_start) (C.fl hl) hu ?_
          intro s' C
          refine ⟨_, rfl, ?_⟩
          repeat kts_caught
          refine c_together (ys := [masks.getD i 0]) (by ktr_room) (by assumption) (Cx.lst (by assumption) (by ktr_rel)) hhs (Cx.lst (by assumption) (by ktr_rel)) (.cons _ _ .nil) (by omega) (by simp) (by simp) ?_
          intro r rs' s' hr C
          repeat kts_caught
          have htl := tg_len [masks.getD i 0] (dg n)
          rw [List.length_singleton] at htl
          refine c_number (by ktr_room) (by assumption) (Cx.lst (by assumption) (by ktr_rel)) hr (by omega) ?_
          intro t9 s' C
          have hst := foldl_take_succ (ordStep (dg n)) 0 masks i found hi'
          rw [← hf] at hst
          repeat kts_caught
          refine x_notin (Cx.lst (by assumption) (by ktr_rel)) hus' ?_
          repeat kts_caught
          by_cases hin : num (tg (dg n) [masks.getD i 0]) ∈ fnd
          · rw [if_neg (by simpa using hin)]
            repeat kts_caught
            rename_i C
            refine ⟨fnd, us', hus', ?_, (((C.drop .hd).drop .hd).loc _ (by tb_start) (by kts_caughtN) (by simp only [List.map]; decide))⟩
            rw [hst]; unfold ordStep; rw [if_pos hin]
          · rw [if_pos (by simpa using hin)]
            repeat kts_caught
            have hul' : us'.length ≤ 3000 := by
              rw [ia_len hus', zs_len, hf]
              have := ordStep_len (dg n) (masks.take i) found
              have h3 : (masks.take i).length ≤ masks.length := by rw [List.length_take]; exact Nat.min_le_right _ _
              omega
            refine x_append (by assumption) (by tb_start) (by rw [sizeLine_eq]; omega) ?_
            intro s' C
            repeat kts_caught
            refine ⟨_, _, ia_snoc hus', ?_, (((C.drop .hd).drop .hd).loc _ (by tb_start) (by kts_caughtN) (by simp only [List.map]; decide))⟩
            rw [hst]; unfold ordStep; rw [if_neg hin]
        · rintro s' ⟨fnd, us', hus', hf, C⟩
          rw [List.take_length] at hf
          refine x_end_list R.hh C (by tb_start) (C.fl hl) (by rw [ia_len hi, zs_len]; exact Nat.le_refl _) ?_
          intro s' C
          refine ⟨rfl, ?_⟩
          repeat kts_caught
          rename_i C
          rw [show ((p : Nat) : Int) + 1 = ((p + 1 : Nat) : Int) from rfl] at C
          refine ⟨f, by omega, p + 1, fnd, us', _, fa, by rw [hf]; exact hbf, hus', ?_, (C.drop .hd).loc _ (by tb_start) (by kts_caughtN) (by simp only [List.map]; decide)⟩
          have := ordStep_len (dg n) masks found
          rw [← hf] at this
          omega
    · rw [if_neg (by simpa using hp)]
      rw [if_neg hp] at hbf
      cases hbf
      repeat kts_caught
      refine x_rev ?_
      repeat kts_caught
      refine neg_int ?_
      rename_i C
      refine ⟨fa, us, _, _, _, _, _, _, _, rfl, rfl, Cx.lst (C.tok _) (by ktr_rel), by rw [sizeLine_eq]; omega, C.tok _, by ktr_rel, ?_⟩
      intro r s' C
      refine h _ _ _ ?_ C.back (C.gnone (.head _)) (C.get (.head _))
      have := hus.reverse
      rwa [← List.map_reverse] at this
  · exact ⟨0, [num [1, 2, 4, 8]], _, _, _, hb, .cons _ _ .nil, by simp, (C.sel (.cons .hd (.cons (.tl .hd) .nil)))⟩
end
end
section
inductive Rms : Rs → Rs → Rs → Prop
  | nil {rs} : Rms rs [] rs
  | cons {rs rs1 rs2 l a r} : Rm rs a r rs1 → Rms rs1 l rs2 → Rms rs ((a, r) :: l) rs2
theorem Rms.sub {rs l rs2} (u : Rms rs l rs2) : rs2.Sublist rs := by
  induction u with
  | nil => exact List.Sublist.refl _
  | cons u _ ih => exact ih.trans u.sub
theorem Rms.mem {rs l rs2} (u : Rms rs l rs2) : ∀ p ∈ l, p ∈ rs := by
  induction u with
  | nil => intro p hp; cases hp
  | cons u _ ih =>
    intro p hp
    rcases List.mem_cons.mp hp with rfl | hp
    · exact u.mem
    · exact u.sub.subset (ih p hp)
theorem Rms.apart {rs l rs2} (u : Rms rs l rs2) (nd : (rs.map (·.1)).Nodup) : ∀ p ∈ rs2, p.1 ∉ l.map (·.1) := by
  induction u with
  | nil => intro p _ h; cases h
  | cons u us ih =>
    intro p hp hm
    rcases List.mem_cons.mp hm with e | hm
    · exact (u.apart nd p (us.sub.subset hp)).2 e
    · exact ih ((u.sub.map _).nodup nd) p hp hm
theorem Rms.nodup {rs l rs2} (u : Rms rs l rs2) (nd : (rs.map (·.1)).Nodup) : (l.map (·.1)).Nodup := by
  induction u with
  | nil => exact List.nodup_nil
  | @cons rs rs1 rs2 l a r u us ih =>
    simp only [List.map_cons, List.nodup_cons]
    refine ⟨fun hm => ?_, ih ((u.sub.map _).nodup nd)⟩
    obtain ⟨p, hp, e⟩ := List.mem_map.mp hm
    exact (u.apart nd p (us.mem p hp)).2 e
section
variable {w : World} {B s s' : Shared} {g h' : Heap} {rs rs' rs2 l l' : Rs} {a : Addr} {r r' : Res}
theorem Cx.region (C : Cx w B g rs s) (u : Rms rs l rs2) (l' : Rs) (hkeys : l'.map (·.1) = l.map (·.1)) (hk : ∀ b o, b ∉ l.map (·.1) → s.heap.get? b = some o → h'.get? b = some o)
    (hn : ∀ p ∈ l', ∃ o, h'.get? p.1 = some o ∧ p.2 o) (t : Nat) : Cx w B g (l' ++ rs2) { s with heap := h', toks := t } := by
  have hap := u.apart C.nd
  have hnd := u.nodup C.nd
  have hgn : ∀ x ∈ l.map (·.1), g.get? x = none := fun x hx => by
    obtain ⟨p, hp, rfl⟩ := List.mem_map.mp hx
    exact (C.own p (u.mem p hp)).2
  refine ⟨C.gens, C.drawn, C.os, C.wf, ?_, ?_, ?_⟩
  · intro b o e
    refine hk b o (fun hm => ?_) (C.keep b o e)
    rw [hgn b hm] at e
    cases e
  · intro p hp
    rcases List.mem_append.mp hp with hp | hp
    · exact ⟨hn p hp, hgn _ (hkeys ▸ List.mem_map_of_mem hp)⟩
    · have h1 := C.own p (u.sub.subset hp)
      obtain ⟨⟨o, ho, hr⟩, hg⟩ := h1
      exact ⟨⟨o, hk _ _ (hap p hp) ho, hr⟩, hg⟩
  · rw [List.map_append, hkeys, List.nodup_append]
    refine ⟨hnd, (u.sub.map _).nodup C.nd, ?_⟩
    intro x hx y hy e
    obtain ⟨p, hp, rfl⟩ := List.mem_map.mp hy
    exact hap p hp (e ▸ hx)
theorem Cx.thaw {g' : Heap} (C : Cx w B g' rs s) (hg : Le g g') (W : Wf w g) : Cx w B g rs s :=
  ⟨C.gens, C.drawn, C.os, W, fun b o e => C.keep b o (hg b o e), fun p hp => ⟨(C.own p hp).1, by
    cases e : g.get? p.1 with
    | none => rfl
    | some o => have := hg _ _ e; rw [(C.own p hp).2] at this; cases this⟩, C.nd⟩
end

/-! ranges -/
noncomputable def rRng (a b : Int) : Res := fun o => ∃ t u v, o = { cls := .type "range", dict := none, data := .fields #[.int a t, .int b u, .int 1 v], slots := #[] }
noncomputable def rRit (x left : Int) : Res := fun o => o = { cls := .type "range_iterator", dict := none, data := .fields #[rawInt x, rawInt left, rawInt 1], slots := #[] }
section
variable {prog : Program} {w : World} {A : Around} {E : Value → Shared → Prop} {s s' : Shared} {env : Env} {B : Shared} {g : Heap} {rs rs' : Rs}
theorem x_range1 {n : Int} {t : Tok} {Q : Value → Shared → Prop} (C : Cx w B g rs s) (h : ∀ r s', Cx w B g ((r, rRng 0 n) :: rs) s' → Q (.ref r) s') : wpAny (model prog w) A (call (.type "range") [.int n t]) Q E s :=
  call_range_1 (h _ _ (C.push _ ⟨_, _, _, rfl⟩ rfl _))
theorem x_range2 {a b : Int} {t u : Tok} {Q : Value → Shared → Prop} (C : Cx w B g rs s) (h : ∀ r s', Cx w B g ((r, rRng a b) :: rs) s' → Q (.ref r) s') : wpAny (model prog w) A (call (.type "range") [.int a t, .int b u]) Q E s :=
  call_range_2 (h _ _ (C.push _ ⟨_, _, _, rfl⟩ rfl _))
theorem x_iter_range {r : Addr} {a b : Nat} {Q : Value → Shared → Prop} (C : Cx w B g rs s) (u : Rm rs r (rRng (a : Int) (b : Int)) rs') (ha : a ≤ 1000000) (hb : b ≤ 1000000)
    (h : ∀ I s', Cx w B g ((I, rRit (a : Int) ((b - a : Nat) : Int)) :: rs') s' → Q (.ref I) s') : wpAny (model prog w) A (pyIter (.ref r)) Q E s := by
  obtain ⟨o, ho, t, v, x, rfl⟩ := C.get u.mem
  have e : Builtin.Range.rangeSize (a : Int) (b : Int) 1 = ((b - a : Nat) : Int) := by
    unfold Builtin.Range.rangeSize
    rw [if_pos (by decide)]
    split <;> omega
  refine wpAny_pyIter_range (s := s) (a := (a : Int)) (b := (b : Int)) (c := 1) ho ?_ ?_
  · unfold Builtin.Range.small
    rw [e]
    unfold Builtin.Range.rangeFitsLong
    simp only [Bool.and_eq_true, Bool.or_eq_true, decide_eq_true_eq, beq_iff_eq]
    rw [if_pos (by decide)]
    refine ⟨⟨⟨⟨?_, ?_⟩, ?_⟩, ?_⟩, .inr ?_⟩
    · omega
    · omega
    · omega
    · omega
    · rw [Bool.and_eq_true, decide_eq_true_eq, decide_eq_true_eq]; constructor <;> omega
  · rw [e]
    exact h _ _ ((C.drop u).push (r := rRit (a : Int) ((b - a : Nat) : Int)) { cls := .type "range_iterator", data := .fields #[rawInt (a : Int), rawInt ((b - a : Nat) : Int), rawInt 1] } rfl)
theorem x_next_range {I : Addr} {x : Nat} {left : Nat} {Q : Option Value → Shared → Prop} (C : Cx w B g rs s) (u : Upd rs I (rRit (x : Int) ((left + 1 : Nat) : Int)) (rRit ((x + 1 : Nat) : Int) (left : Int)) rs')
    (h : ∀ t s', Cx w B g rs' s' → Q (some (.int (x : Int) t)) s') : wpAny (model prog w) A (pyNext (.ref I)) Q E s := by
  obtain ⟨o, ho, rfl⟩ := C.get u.mem
  refine wpAny_pyNext_range_item (left := ((left + 1 : Nat) : Int)) (step := 1) ho (by omega) fun h' hit hs => h _ _ (C.upd u hs.extBut ⟨_, hit, ?_⟩ _)
  unfold rRit
  rw [show ((left + 1 : Nat) : Int) - 1 = (left : Int) by omega, show ((x + 1 : Nat) : Int) = (x : Int) + 1 by omega]
theorem x_end_range {I : Addr} {x : Int} {Q : Option Value → Shared → Prop} (hh : A.handled = none) (C : Cx w B g rs s) (u : Rm rs I (rRit x ((0 : Nat) : Int)) rs')
    (h : ∀ s', Cx w B g rs' s' → Q none s') : wpAny (model prog w) A (pyNext (.ref I)) Q E s := by
  obtain ⟨o, ho, rfl⟩ := C.get u.mem
  exact wpAny_pyNext_range_end hh (left := ((0 : Nat) : Int)) (step := 1) ho (by omega) fun h' hs => h _ (C.rm u hs s.toks)
theorem x_self_range {I : Addr} {x left : Int} (C : Cx w B g rs s) (hm : (I, rRit x left) ∈ rs) : ∀ (Q' : Value → Shared → Prop) (E' : Value → Shared → Prop), Q' (.ref I) s → wpAny (model prog w) A (pyIter (.ref I)) Q' E' s := by
  obtain ⟨o, ho, rfl⟩ := C.get hm
  exact fun Q' E' h => wpAny_pyIter_rangeiter (step := 1) ho h

/-! zip -/
noncomputable def rZip (TI TO : Addr) : Res := fun o => o = { cls := .type "zip", dict := none, data := .fields #[.none, .bool false, .bool false, .ref TI, .ref TO], slots := #[] }
noncomputable def rPr (a b : Value) : Res := fun o => o = { cls := .type "tuple", data := .seq #[a, b] }
noncomputable def rPrAny : Res := fun o => ∃ a b, o = { cls := .type "tuple", data := .seq #[a, b] }
noncomputable abbrev zipC (z TI TO i1 i2 l1 l2 : Addr) (k : Nat) (rs : Rs) : Rs := (z, rZip TI TO) :: (TI, rPr (.ref i1) (.ref i2)) :: (TO, rPrAny) :: (i1, rLit l1 k) :: (i2, rLit l2 k) :: rs
noncomputable abbrev zipR (z TI TO i1 i2 l1 l2 : Addr) (k : Nat) : Rs := [(z, rZip TI TO), (TI, rPr (.ref i1) (.ref i2)), (TO, rPrAny), (i1, rLit l1 k), (i2, rLit l2 k)]
theorem x_zip {l1 l2 : Addr} {vs us : List Value} {Q : Value → Shared → Prop} (C : Cx w B g rs s) (h1 : s.heap.IsList l1 vs.toArray) (h2 : s.heap.IsList l2 us.toArray)
    (h : ∀ z TI TO i1 i2 s', Cx w B g (zipC z TI TO i1 i2 l1 l2 0 rs) s' → Q (.ref z) s') : wpAny (model prog w) A (call (.type "zip") [.ref l1, .ref l2]) Q E s := by
  refine call_zip_2 h1 h2 fun h' hz hTI hTO hi1 hi2 hsz hk => ?_
  obtain ⟨o1, ho1, hr1⟩ := hi1
  obtain ⟨o2, ho2, hr2⟩ := hi2
  have nn : ∀ k, s.heap.get? (s.heap.objs.size + k) = none := fun k => by
    cases e : s.heap.get? (s.heap.objs.size + k) with
    | none => rfl
    | some o => exact absurd (Heap.lt_size e) (Nat.not_lt.mpr (Nat.le_add_right _ _))
  have C1 := C.add (a := s.heap.objs.size + 1) (r := rLit l2 0) hk (nn 1) ho2 hr2 s.toks
  have keepg := C.keep
  have addA : ∀ {rs : Rs} {a : Addr} {r : Res} {o : Obj}, Cx w B g rs { s with heap := h' } → h'.get? a = some o → r o → (∀ b ∈ rs.map (·.1), b ≠ a) → s.heap.get? a = none → Cx w B g ((a, r) :: rs) { s with heap := h' } := by
    intro rs a r o C ho hr hne hn
    refine C.cons ho hr ?_ fun hm => hne _ hm rfl
    cases e : g.get? a with
    | none => rfl
    | some o' => rw [keepg _ _ e] at hn; cases hn
  have base : ∀ b ∈ rs.map (·.1), b < s.heap.objs.size := C.lt
  have C1 : Cx w B g ((s.heap.objs.size + 1, rLit l2 0) :: rs) { s with heap := h' } := C1
  have C2 := addA (a := s.heap.objs.size) (r := rLit l1 0) C1 ho1 hr1 (by
    intro b hb
    rcases List.mem_cons.mp hb with rfl | hb
    · exact Nat.ne_of_gt (Nat.lt_succ_self _)
    · exact Nat.ne_of_lt (base b hb)) (nn 0)
  have C3 := addA (a := s.heap.objs.size + 3) (r := rPrAny) C2 hTO ⟨_, _, rfl⟩ (by
    intro b hb
    rcases List.mem_cons.mp hb with rfl | hb
    · simp
    rcases List.mem_cons.mp hb with rfl | hb
    · simp
    · exact Nat.ne_of_lt (Nat.lt_add_right 3 (base b hb))) (nn 3)
  have C4 := addA (a := s.heap.objs.size + 2) (r := rPr (.ref s.heap.objs.size) (.ref (s.heap.objs.size + 1))) C3 hTI rfl (by
    intro b hb
    rcases List.mem_cons.mp hb with rfl | hb
    · simp
    rcases List.mem_cons.mp hb with rfl | hb
    · simp
    rcases List.mem_cons.mp hb with rfl | hb
    · simp
    · exact Nat.ne_of_lt (Nat.lt_add_right 2 (base b hb))) (nn 2)
  have C5 := addA (a := s.heap.objs.size + 4) (r := rZip (s.heap.objs.size + 2) (s.heap.objs.size + 3)) C4 hz rfl (by
    intro b hb
    rcases List.mem_cons.mp hb with rfl | hb
    · simp
    rcases List.mem_cons.mp hb with rfl | hb
    · simp
    rcases List.mem_cons.mp hb with rfl | hb
    · simp
    rcases List.mem_cons.mp hb with rfl | hb
    · simp
    · exact Nat.ne_of_lt (Nat.lt_add_right 4 (base b hb))) (nn 4)
  exact h _ _ _ _ _ _ C5
theorem zip_apart {z TI TO i1 i2 l1 l2 : Addr} (nd : [z, TI, TO, i1, i2].Nodup) (h1 : l1 ∉ [z, TI, TO, i1, i2]) (h2 : l2 ∉ [z, TI, TO, i1, i2]) : ZipApart z TI TO i1 i2 l1 l2 := by
  simp only [List.nodup_cons, List.mem_cons, not_or, List.not_mem_nil, not_false_eq_true, and_true, List.nodup_nil] at nd h1 h2
  obtain ⟨⟨a1, a2, a3, a4⟩, ⟨a5, a6, a7⟩, ⟨a8, a9⟩, a10⟩ := nd
  exact ⟨Ne.symm a1, Ne.symm a2, Ne.symm a3, Ne.symm a4, a5, a6, a7, a8, a9, a10, h1.1, h1.2.2.1, h1.2.2.2.1, h1.2.2.2.2, h2.1, h2.2.2.1, h2.2.2.2.1, h2.2.2.2.2⟩
theorem x_next_zip {z TI TO i1 i2 l1 l2 : Addr} {k : Nat} {vs us : List Value} {x y : Value} {a b : Str} {pa pb tp : Pos} {ct : Nat} {K : Unit → Shared → Prop} (hh : A.handled = none) (C : Cx w B g rs s) (u : Rms rs (zipR z TI TO i1 i2 l1 l2 k) rs')
    (h1 : s.heap.IsList l1 vs.toArray) (h2 : s.heap.IsList l2 us.toArray) (n1 : l1 ∉ [z, TI, TO, i1, i2]) (n2 : l2 ∉ [z, TI, TO, i1, i2]) (hx : vs[k]? = some x) (hy : us[k]? = some y)
    (h : ∀ s', Cx w B g (zipC z TI TO i1 i2 l1 l2 (k + 1) rs') s' → wpAny (model prog w) A (storeName env a x) (fun _ s₁ => wpAny (model prog w) A (storeName env b y) K nE s₁) nE s') :
    wpAny (model prog w) A (pyNext (.ref z)) (fun r s₁ => ∃ v, r = some v ∧ wpAny (model prog w) A (letOwnedTupleGo (.Tuple [.Name a pa, .Name b pb] ct tp) (.ref z) v) (fun _ s₁' => wpAny (model prog w) A (assign (.Tuple [.Name a pa, .Name b pb] ct tp) env v) K nE s₁') nE s₁) nE s := by
  have nd := u.nodup C.nd
  obtain ⟨_, hz, rfl⟩ := C.get (u.mem _ (.head _))
  obtain ⟨_, hTI, rfl⟩ := C.get (u.mem _ (.tail _ (.head _)))
  obtain ⟨_, hTO, ao, bo, rfl⟩ := C.get (u.mem _ (.tail _ (.tail _ (.head _))))
  obtain ⟨o1, ho1, hr1⟩ := C.get (u.mem _ (.tail _ (.tail _ (.tail _ (.head _)))))
  obtain ⟨o2, ho2, hr2⟩ := C.get (u.mem _ (.tail _ (.tail _ (.tail _ (.tail _ (.head _))))))
  have D := zip_apart (l1 := l1) (l2 := l2) nd n1 n2
  refine wpAny_pyNext_zip_item D hz hTI hTO ⟨o1, ho1, hr1⟩ ⟨o2, ho2, hr2⟩ h1 h2 (by simpa using hx) (by simpa using hy) fun h' hz' hTO' hi1 hi2 hT hsz hk => ⟨_, rfl, ?_⟩
  have hTIk : h'.get? TI = some { cls := .type "tuple", data := .seq #[.ref i1, .ref i2] } := hk _ _ D.TIz D.TITO D.TIi1 D.TIi2 hTI
  refine wpAny_letOwnedTupleGo_zip hz' fun h'' hz'' hs => ?_
  have lt : ∀ {c o}, s.heap.get? c = some o → c ≠ s.heap.objs.size := fun e => Nat.ne_of_lt (Heap.lt_size e)
  obtain ⟨p1, q1, r1⟩ := hi1
  obtain ⟨p2, q2, r2⟩ := hi2
  have C2 : Cx w B g (zipR z TI TO i1 i2 l1 l2 (k + 1) ++ rs') { s with heap := h'' } := by
    refine C.region u (zipR z TI TO i1 i2 l1 l2 (k + 1)) rfl (fun c o hc e => ?_) ?_ s.toks
    · simp only [List.map_cons, List.map_nil, List.mem_cons, not_or, List.not_mem_nil, not_false_eq_true, and_true] at hc
      exact hs.extBut c o hc.1 (hk c o hc.1 hc.2.2.1 hc.2.2.2.1 hc.2.2.2.2 e)
    · intro p hp
      simp only [List.mem_cons, List.not_mem_nil, or_false] at hp
      rcases hp with rfl | rfl | rfl | rfl | rfl
      · exact ⟨_, hz'', rfl⟩
      · exact ⟨_, hs.extBut _ _ D.TIz hTIk, rfl⟩
      · exact ⟨_, hs.extBut _ _ D.TOz hTO', _, _, rfl⟩
      · exact ⟨_, hs.extBut _ _ D.i1z q1, r1⟩
      · exact ⟨_, hs.extBut _ _ D.i2z q2, r2⟩
  have hTt : ({ s with heap := h'' } : Shared).heap.IsTuple s.heap.objs.size ([x, y] : List Value).toArray := ⟨_, hs.extBut _ _ (Ne.symm (lt hz)) hT, rfl, _, rfl⟩
  exact x_unpack hh C2 hTt fun s' C => x_two (h s' C)
theorem x_end_zip {z TI TO i1 i2 l1 l2 : Addr} {k : Nat} {vs us : List Value} {Q : Option Value → Shared → Prop} (hh : A.handled = none) (C : Cx w B g rs s) (u : Rms rs (zipR z TI TO i1 i2 l1 l2 k) rs')
    (h1 : s.heap.IsList l1 vs.toArray) (h2 : s.heap.IsList l2 us.toArray) (n1 : l1 ∉ [z, TI, TO, i1, i2]) (n2 : l2 ∉ [z, TI, TO, i1, i2]) (hx : vs.length ≤ k)
    (h : ∀ s', Cx w B g rs' s' → Q none s') : wpAny (model prog w) A (pyNext (.ref z)) Q E s := by
  have nd := u.nodup C.nd
  obtain ⟨_, hz, rfl⟩ := C.get (u.mem _ (.head _))
  obtain ⟨_, hTI, rfl⟩ := C.get (u.mem _ (.tail _ (.head _)))
  obtain ⟨_, hTO, ao, bo, rfl⟩ := C.get (u.mem _ (.tail _ (.tail _ (.head _))))
  obtain ⟨o1, ho1, hr1⟩ := C.get (u.mem _ (.tail _ (.tail _ (.tail _ (.head _)))))
  obtain ⟨o2, ho2, hr2⟩ := C.get (u.mem _ (.tail _ (.tail _ (.tail _ (.tail _ (.head _))))))
  have D := zip_apart (l1 := l1) (l2 := l2) nd n1 n2
  refine wpAny_pyNext_zip_end hh D hz hTI hTO ⟨o1, ho1, hr1⟩ ⟨o2, ho2, hr2⟩ h1 h2 (.inl (by simpa using hx)) fun h' hk => h _ ?_
  -- drop the region
  have hap := u.apart C.nd
  refine ⟨C.gens, C.drawn, C.os, C.wf, ?_, ?_, (u.sub.map _).nodup C.nd⟩
  · intro b o e
    have hb : ∀ a r, (a, r) ∈ zipR z TI TO i1 i2 l1 l2 k → b ≠ a := fun a r hm hba => by
      have := C.gnone (u.mem _ hm)
      rw [← hba, e] at this; cases this
    exact hk b o (hb z _ (.head _)) (hb TO _ (.tail _ (.tail _ (.head _)))) (hb i1 _ (.tail _ (.tail _ (.tail _ (.head _))))) (hb i2 _ (.tail _ (.tail _ (.tail _ (.tail _ (.head _)))))) (C.keep b o e)
  · intro p hp
    obtain ⟨⟨o, ho, hr⟩, hg⟩ := C.own p (u.sub.subset hp)
    have := hap p hp
    simp only [List.map_cons, List.map_nil, List.mem_cons, not_or, List.not_mem_nil, not_false_eq_true, and_true] at this
    exact ⟨⟨o, hk _ _ this.1 this.2.2.1 this.2.2.2.1 this.2.2.2.2 ho, hr⟩, hg⟩
theorem x_self_zip {z TI TO : Addr} (C : Cx w B g rs s) (hm : (z, rZip TI TO) ∈ rs) : ∀ (Q' : Value → Shared → Prop) (E' : Value → Shared → Prop), Q' (.ref z) s → wpAny (model prog w) A (pyIter (.ref z)) Q' E' s := by
  obtain ⟨o, ho, rfl⟩ := C.get hm
  exact fun Q' E' h => wpAny_pyIter_zip ho h

/-! enumerate over a list -/
noncomputable def rEnum (it : Addr) (i : Nat) : Res := fun o => ∃ old, o = { cls := .type "enumerate", dict := none, data := .fields #[.none, .bool false, .ref it, rawInt (i : Int), .none, old], slots := #[] }
theorem x_enum {l : Addr} {vs : List Value} {Q : Value → Shared → Prop} (C : Cx w B g rs s) (h1 : s.heap.IsList l vs.toArray) (h : ∀ e it s', Cx w B g ((e, rEnum it 0) :: (it, rLit l 0) :: rs) s' → Q (.ref e) s') :
    wpAny (model prog w) A (call (.type "enumerate") [.ref l]) Q E s := by
  refine call_enumerate_list h1 fun h' he hi hsz hk => ?_
  obtain ⟨o1, ho1, hr1⟩ := hi
  have nn : ∀ k, s.heap.get? (s.heap.objs.size + k) = none := fun k => by
    cases e : s.heap.get? (s.heap.objs.size + k) with
    | none => rfl
    | some o => exact absurd (Heap.lt_size e) (Nat.not_lt.mpr (Nat.le_add_right _ _))
  have C1 := C.add (a := s.heap.objs.size) (r := rLit l 0) hk (nn 0) ho1 hr1 s.toks
  refine h _ _ _ (C1.cons he ⟨_, rfl⟩ ?_ ?_)
  · cases e : g.get? (s.heap.objs.size + 1) with
    | none => rfl
    | some o' => have := C.keep _ _ e; rw [nn 1] at this; cases this
  · intro hm
    rcases List.mem_cons.mp hm with e | hm
    · exact absurd e (Nat.succ_ne_self _)
    · exact absurd (C.lt _ hm) (Nat.not_lt.mpr (Nat.le_succ _))
theorem x_next_enum {e it l : Addr} {k : Nat} {vs : List Value} {x : Value} {a b : Str} {pa pb tp : Pos} {ct : Nat} {K : Unit → Shared → Prop} (hh : A.handled = none) (C : Cx w B g rs s) (u : Rms rs [(e, rEnum it k), (it, rLit l k)] rs')
    (h1 : s.heap.IsList l vs.toArray) (hx : vs[k]? = some x)
    (h : ∀ t s', Cx w B g ((e, rEnum it (k + 1)) :: (it, rLit l (k + 1)) :: rs') s' → wpAny (model prog w) A (storeName env a (.int (k : Int) t)) (fun _ s₁ => wpAny (model prog w) A (storeName env b x) K nE s₁) nE s') :
    wpAny (model prog w) A (pyNext (.ref e)) (fun r s₁ => ∃ v, r = some v ∧ wpAny (model prog w) A (letOwnedTupleGo (.Tuple [.Name a pa, .Name b pb] ct tp) (.ref e) v) (fun _ s₁' => wpAny (model prog w) A (assign (.Tuple [.Name a pa, .Name b pb] ct tp) env v) K nE s₁') nE s₁) nE s := by
  have nd := u.nodup C.nd
  obtain ⟨_, he, old, rfl⟩ := C.get (u.mem _ (.head _))
  obtain ⟨o1, ho1, hr1⟩ := C.get (u.mem _ (.tail _ (.head _)))
  have hne : e ≠ it := by
    simp only [List.map_cons, List.map_nil, List.nodup_cons, List.mem_singleton] at nd
    exact nd.1
  refine wpAny_pyNext_enum_item he ⟨o1, ho1, hr1⟩ h1 (by simpa using hx) hne fun h' he' hi' hT hsz hk => ⟨_, rfl, ?_⟩
  refine wpAny_letOwnedTupleGo_enum he' fun h'' he'' hs => ?_
  obtain ⟨p1, q1, r1⟩ := hi'
  have C2 : Cx w B g ([(e, rEnum it (k + 1)), (it, rLit l (k + 1))] ++ rs') { s with heap := h'', toks := s.toks + 1 } := by
    refine C.region u [(e, rEnum it (k + 1)), (it, rLit l (k + 1))] rfl (fun c o hc e' => ?_) ?_ _
    · simp only [List.map_cons, List.map_nil, List.mem_cons, not_or, List.not_mem_nil, not_false_eq_true, and_true] at hc
      exact hs.extBut c o hc.1 (hk c o hc.1 hc.2 e')
    · intro p hp
      simp only [List.mem_cons, List.not_mem_nil, or_false] at hp
      rcases hp with rfl | rfl
      · exact ⟨_, he'', x, by rw [show ((k + 1 : Nat) : Int) = (k : Int) + 1 from rfl]⟩
      · exact ⟨_, hs.extBut _ _ (Ne.symm hne) q1, r1⟩
  have hTt : ({ s with heap := h'', toks := s.toks + 1 } : Shared).heap.IsTuple s.heap.objs.size ([.int (k : Int) s.toks, x] : List Value).toArray := ⟨_, hs.extBut _ _ (Nat.ne_of_gt (Heap.lt_size he)) hT, rfl, _, rfl⟩
  exact x_unpack hh C2 hTt fun s' C => x_two (h _ s' C)
theorem x_end_enum {e it l : Addr} {k : Nat} {vs : List Value} {Q : Option Value → Shared → Prop} (hh : A.handled = none) (C : Cx w B g rs s) (u : Rms rs [(e, rEnum it k), (it, rLit l k)] rs')
    (h1 : s.heap.IsList l vs.toArray) (hx : vs.length ≤ k) (h : ∀ s', Cx w B g rs' s' → Q none s') : wpAny (model prog w) A (pyNext (.ref e)) Q E s := by
  obtain ⟨_, he, old, rfl⟩ := C.get (u.mem _ (.head _))
  obtain ⟨o1, ho1, hr1⟩ := C.get (u.mem _ (.tail _ (.head _)))
  refine wpAny_pyNext_enum_end hh he ⟨o1, ho1, hr1⟩ h1 (by simpa using hx) fun h' hs => h _ ?_
  cases u with
  | cons u1 u2 => cases u2 with
    | cons u2 u3 => cases u3 with
      | nil => exact (C.drop u1).rm u2 hs s.toks
end
end
section
noncomputable def ent (T : List (List Int)) (k i : Nat) : Int := (T.getD k []).getD i 0
noncomputable def subRow (x y : List Int) : List Int := List.zipWith (fun a b => a - b) x y
noncomputable def dStep (i : Nat) (T : List (List Int)) (k : Nat) : Option (List (List Int)) :=
  if ent T k i = 0 then some T else
    if ent (T.set k (subRow (T.getD k []) (T.getD i []))) k i = 0 then some (T.set k (subRow (T.getD k []) (T.getD i []))) else none
noncomputable def dIn : Nat → Nat → Nat → List (List Int) → Option (List (List Int))
  | 0, _, _, T => some T
  | f + 1, k, i, T => (dStep i T k).bind (dIn f (k + 1) i)
noncomputable def dOut : Nat → Nat → List (List Int) → List Int → Option (List Int)
  | 0, _, _, acc => some acc
  | f + 1, i, T, acc => (dIn f (i + 1) i T).bind fun T' => dOut f (i + 1) T' (acc ++ [ent T i i])
noncomputable def diagF (T : List (List Int)) : Option (List Int) := dOut T.length 0 T []

/-- a row of ints at an address -/
noncomputable def RowAt (g : Heap) (v : Value) (row : List Int) : Prop := ∃ r us, v = .ref r ∧ g.IsList r (List.toArray us) ∧ IntsAre us row
noncomputable def RowsAre (g : Heap) (vs : List Value) (T : List (List Int)) : Prop := vs.length = T.length ∧ ∀ (k : Nat) (row : List Int), T[k]? = some row → ∃ v, vs[k]? = some v ∧ RowAt g v row
theorem RowAt.keeps {g g' : Heap} {v : Value} {row : List Int} (h : RowAt g v row) (k : Le g g') : RowAt g' v row :=
  let ⟨r, us, e, ⟨o, ho, c⟩, i⟩ := h; ⟨r, us, e, ⟨o, k _ _ ho, c⟩, i⟩
theorem RowsAre.keeps {g g' : Heap} {vs : List Value} {T : List (List Int)} (h : RowsAre g vs T) (k : Le g g') : RowsAre g' vs T :=
  ⟨h.1, fun i row e => let ⟨v, e', r⟩ := h.2 i row e; ⟨v, e', r.keeps k⟩⟩
theorem RowsAre.set {g : Heap} {vs : List Value} {T : List (List Int)} (h : RowsAre g vs T) {k : Nat} {v : Value} {row : List Int} (hv : RowAt g v row) : RowsAre g (vs.set k v) (T.set k row) := by
  refine ⟨by simp [h.1], fun i row' e => ?_⟩
  rw [List.getElem?_set] at e ⊢
  by_cases hki : k = i
  · rw [if_pos hki] at e ⊢
    by_cases hl : k < T.length
    · rw [if_pos hl] at e
      rw [if_pos (by rw [h.1]; exact hl)]
      cases e
      exact ⟨v, rfl, hv⟩
    · rw [if_neg hl] at e; cases e
  · rw [if_neg hki] at e ⊢
    exact h.2 i row' e

noncomputable def rLw (vs : List Value) : Res := fun o => o.cls = .type "list" ∧ ∃ n, o.data = .seq vs.toArray n
section
variable {w : World} {B s s' : Shared} {g h' : Heap} {rs rs' rs2 l l' : Rs} {a d : Addr} {r r' : Res}
theorem Cx.lw (C : Cx w B g rs s) {vs : List Value} (hm : (a, rLw vs) ∈ rs) : s.heap.IsList a vs.toArray := by
  obtain ⟨o, ho, hc, n, hd⟩ := C.get hm
  exact ⟨o, ho, hc, n, hd⟩
theorem rLst_lw {vs : List Value} (o : Obj) (h : rLst vs o) : rLw vs o := by
  obtain ⟨n, rfl⟩ := h
  exact ⟨rfl, n, rfl⟩
/-- all of the caller's own, but one, put aside for a call -/
theorem Cx.aside (C : Cx w B g rs s) (u : Rm rs a r rs') : ∃ g', Le g g' ∧ Cx w B g' [(a, r)] s ∧ ∀ d r' s', Cx w B g' [(d, r')] s' → Cx w B g ((d, r') :: rs') s' := by
  have hsel : Sel rs [(a, r)] := .cons u .nil
  obtain ⟨g', h1, h2, h3, h4, C'⟩ := C.freeze hsel
  refine ⟨g', h1, C', fun d r' s' D => ?_⟩
  have hap := u.apart C.nd
  have hin : ∀ p ∈ rs', ∃ o, g'.get? p.1 = some o ∧ p.2 o := fun p hp => h3 p (hap p hp).1 (by simpa using (hap p hp).2)
  refine ⟨D.gens, D.drawn, D.os, C.wf, fun b o e => D.keep b o (h1 b o e), ?_, ?_⟩
  · intro p hp
    rcases List.mem_cons.mp hp with rfl | hp
    · refine ⟨(D.own _ (.head _)).1, ?_⟩
      have hn := (D.own _ (.head _)).2
      cases e : g.get? d with
      | none => rfl
      | some o => rw [h1 _ _ e] at hn; cases hn
    · obtain ⟨o, ho, hr⟩ := hin p hp
      exact ⟨⟨o, D.keep _ _ ho, hr⟩, (C.own p (hap p hp).1).2⟩
  · simp only [List.map_cons, List.nodup_cons]
    refine ⟨fun hm => ?_, (u.sub.map _).nodup C.nd⟩
    obtain ⟨p, hp, rfl⟩ := List.mem_map.mp hm
    obtain ⟨o, ho, hr⟩ := hin p hp
    have hn := (D.own _ (.head _)).2
    rw [ho] at hn
    cases hn
end
section
variable {prog : Program} {w : World} {A : Around} {E : Value → Shared → Prop} {s s' : Shared} {env : Env} {B : Shared} {g : Heap} {rs rs' : Rs}
theorem x_assignSub {o i value : Expr} {pos' pos : Pos} {rest : List Stmt} {Q : Flow → Shared → Prop} {M : Model}
    (h : wpAny M A (eval value env) (fun v s₁ => wpAny M A (eval o env) (fun ov s₂ => wpAny M A (eval i env) (fun iv s₃ => wpAny M A (setItem ov iv v) (fun _ s₄ => wpAny M A (execs rest env) Q E s₄) E s₃) E s₂) E s₁) E s)
    (hs : swapsWith value (some (.Subscript o i pos')) pos.line env = pure false := by rfl) : wpAny M A (execs (.Assign [.Subscript o i pos'] value pos :: rest) env) Q E s := x_seq (wpAny_Assign_Subscript h hs)
theorem x_idx {value slice : Expr} {l : Addr} {vs : List Value} {k : Nat} {u : Tok} {x : Value} {Q : Value → Shared → Prop} (hl : s.heap.IsList l vs.toArray) (hk : k ≤ 1000000) (hx : vs[k]? = some x) (h : Q x s)
    (hs : subscripted slice false (.ref l) (.int (k : Int) u) = operate [.ref l, .int (k : Int) u] (getItem (.ref l) (.int (k : Int) u)) := by with_unfolding_all rfl) :
    wpAny (model prog w) A (subscriptTail value slice (.ref l) (.int (k : Int) u)) Q E s :=
  item_listR hl (Int.natCast_nonneg k) (by omega) (by rw [Int.toNat_natCast]; simpa using hx) h hs
theorem x_idxT {value slice : Expr} {l : Addr} {vs : List Value} {k : Nat} {u : Tok} {x : Value} {Q : Value → Shared → Prop} (hl : IsTup s.heap l vs.toArray) (hk : k ≤ 1000000) (hx : vs[k]? = some x) (h : Q x s)
    (hs : subscripted slice false (.ref l) (.int (k : Int) u) = operate [.ref l, .int (k : Int) u] (getItem (.ref l) (.int (k : Int) u)) := by with_unfolding_all rfl) :
    wpAny (model prog w) A (subscriptTail value slice (.ref l) (.int (k : Int) u)) Q E s := by
  have hk' : k < vs.length := by
    rcases Nat.lt_or_ge k vs.length with h | h
    · exact h
    · rw [List.getElem?_eq_none h] at hx; cases hx
  have hj : seqIndex? (k : Int) vs.toArray.size = some k := by
    unfold seqIndex?
    simp only [List.size_toArray]
    have e : ¬ ((k : Int) < 0) := by omega
    simp only [e, if_false]
    have e2 : (decide (0 ≤ (k : Int)) && decide ((k : Int) < (vs.length : Int))) = true := by simp; omega
    rw [if_pos e2, Int.toNat_natCast]
  exact subscriptTail_builtinR (x := x) hl.typeIs slot_tuple_getitem.lookup (getItem_tuple (Q := fun r s' => r = x ∧ Q r s') hl (by omega) (by omega) hj (by simpa using hx) ⟨rfl, h⟩) hs
theorem x_cRv {Q : Value → Shared → Prop} {D Cc : Addr} (h : ∃ B g vs rs, Cx w B g ((Cc, rLoc vs) :: rs) s ∧ ∀ s', Cx w B g rs s' → Q (.ref D) s') : cRv w Q D Cc (.ok .next) s := h
theorem x_rangeN {n : Nat} {t : Tok} {Q : Value → Shared → Prop} (C : Cx w B g rs s) (h : ∀ r s', Cx w B g ((r, rRng ((0 : Nat) : Int) (n : Int)) :: rs) s' → Q (.ref r) s') : wpAny (model prog w) A (call (.type "range") [.int (n : Int) t]) Q E s := x_range1 C h
theorem x_range2N {a b : Nat} {t u : Tok} {Q : Value → Shared → Prop} (C : Cx w B g rs s) (h : ∀ r s', Cx w B g ((r, rRng (a : Int) (b : Int)) :: rs) s' → Q (.ref r) s') : wpAny (model prog w) A (call (.type "range") [.int (a : Int) t, .int (b : Int) u]) Q E s := x_range2 C h
theorem x_setL {l : Addr} {vs : List Value} {k : Nat} {t : Tok} {v : Value} {Q : Unit → Shared → Prop} (C : Cx w B g rs s) (u : Upd rs l (rLw vs) (rLw (vs.set k v)) rs') (hn : k < vs.length) (hsm : vs.length ≤ 1000000)
    (h : ∀ s', Cx w B g rs' s' → Q () s') : wpAny (model prog w) A (setItem (.ref l) (.int (k : Int) t) v) Q E s := by
  refine wpAny_setItem_list (C.lw u.mem) (Int.natCast_nonneg k) (by omega) (by simpa using hn) fun h' hl hs => h _ (C.upd u hs.extBut ?_ s.toks)
  obtain ⟨o, ho, hc, n, hd⟩ := hl
  exact ⟨o, ho, hc, n, by simpa using hd⟩
theorem c_sub {a b : Int} {t u : Tok} {Q : Value → Shared → Prop} (R : Room 1 A) (C : Cx w B g rs s) (h : ∀ t s', Cx w B g rs s' → Q (.int (a - b) t) s') : Wf w s.heap ∧ wpAny (model prog w) A (call (.ref 56) [.int a t, .int b u]) Q E s :=
  ⟨C.wfs, sub_spec R C.wfs fun t s' hg => h t s' (C.gr hg)⟩
end
end
section
noncomputable def Sq (n : Nat) (T : List (List Int)) : Prop := T.length = n ∧ ∀ row ∈ T, row.length = n
theorem Sq.row {n : Nat} {T : List (List Int)} (h : Sq n T) {k : Nat} (hk : k < n) : T[k]? = some (T.getD k []) ∧ (T.getD k []).length = n := by
  have hl : k < T.length := by rw [h.1]; exact hk
  have e : T[k]? = some (T.getD k []) := by rw [List.getD_eq_getElem?_getD, List.getElem?_eq_getElem hl]; rfl
  exact ⟨e, h.2 _ (List.mem_of_getElem? e)⟩
theorem subRow_len (x y : List Int) (n : Nat) (hx : x.length = n) (hy : y.length = n) : (subRow x y).length = n := by
  unfold subRow; rw [List.length_zipWith, hx, hy]; exact Nat.min_self n
theorem Sq.set {n : Nat} {T : List (List Int)} (h : Sq n T) {k : Nat} {row : List Int} (hr : row.length = n) : Sq n (T.set k row) := by
  refine ⟨by simp [h.1], fun r hm => ?_⟩
  rcases List.mem_or_eq_of_mem_set hm with hm | rfl
  · exact h.2 _ hm
  · exact hr
theorem dStep_sq {n : Nat} {T T' : List (List Int)} {i k : Nat} (h : Sq n T) (hi : i < n) (hk : k < n) (e : dStep i T k = some T') : Sq n T' := by
  unfold dStep at e
  split at e
  · cases e; exact h
  · split at e
    · cases e; exact h.set (subRow_len _ _ _ (h.row hk).2 (h.row hi).2)
    · cases e
theorem dIn_sq {n : Nat} {i : Nat} (hi : i < n) : ∀ (f k : Nat) (T T' : List (List Int)), f + k ≤ n → Sq n T → dIn f k i T = some T' → Sq n T'
  | 0, k, T, T', _, h, e => by cases e; exact h
  | f + 1, k, T, T', hf, h, e => by
    obtain ⟨T1, e1, e2⟩ := Option.bind_eq_some_iff.mp e
    exact dIn_sq hi f (k + 1) T1 T' (by omega) (dStep_sq h hi (by omega) e1) e2
theorem RowsAre.at {g : Heap} {vs : List Value} {T : List (List Int)} {n k : Nat} (h : RowsAre g vs T) (q : Sq n T) (hk : k < n) :
    ∃ r us, vs[k]? = some (.ref r) ∧ g.IsList r (List.toArray us) ∧ IntsAre us (T.getD k []) ∧ us.length = n := by
  obtain ⟨v, e, r, us, rfl, hl, hi⟩ := h.2 k _ (q.row hk).1
  exact ⟨r, us, e, hl, hi, by rw [ia_len hi]; exact (q.row hk).2⟩
theorem subRow_getD (x y : List Int) (j : Nat) (hx : j < x.length) (hy : j < y.length) : (subRow x y).getD j 0 = x.getD j 0 - y.getD j 0 := by
  unfold subRow
  simp only [List.getD_eq_getElem?_getD, List.getElem?_zipWith, List.getElem?_eq_getElem hx, List.getElem?_eq_getElem hy, Option.getD_some]
theorem ia_snocI {vs : List Value} {xs : List Int} {x : Int} {t : Tok} (h : IntsAre vs xs) : IntsAre (vs ++ [.int x t]) (xs ++ [x]) := IntsAre.append h (IntsAre.cons x t .nil)
theorem take_succ_getD {α : Type} (xs : List α) (d : α) (j : Nat) (h : j < xs.length) : xs.take (j + 1) = xs.take j ++ [xs.getD j d] := by
  rw [List.take_succ, List.getD_eq_getElem?_getD, List.getElem?_eq_getElem h]; rfl
section
variable {prog : Program} {w : World} {A : Around} {E : Value → Shared → Prop} {s s' : Shared} {env : Env} {B : Shared} {g : Heap} {rs rs' : Rs}
theorem c_diag {ta : Addr} {vs : List Value} {T : List (List Int)} {D : List Int} {n : Nat} {Q : Value → Shared → Prop} (R : Room 2 A) (C : Cx w B g rs s) (u : Rm rs ta (rLst vs) rs') (hr : RowsAre g vs T) (hq : Sq n T) (hn : n ≤ 1000) (hD : diagF T = some D)
    (h : ∀ d ds s', IntsAre ds D → Cx w B g ((d, rLst ds) :: rs') s' → Q (.ref d) s') : wpAny (model prog w) A (call (.ref 197) [.ref ta]) Q E s := by
  obtain ⟨g', hg', C, back⟩ := C.aside u
  have hr := hr.keeps hg'
  have W' := C.wf
  have C := C.weakAt (r' := rLw vs) .hd rLst_lw
  refine x_enterC ["table"] [("table", .ref ta)] R.room C rfl (by kernel_rfl) rfl rfl (by decide) (by decide) (by decide) ?_
  intro L s' q cd hL C
  repeat kts_caught
  refine x_len (by assumption) (Cx.lw (by assumption) (by ktr_rel)) (by rw [hr.1, hq.1]; omega) ?_
  intro t s' C
  repeat kts_caught
  rw [show vs.length = n by rw [hr.1, hq.1]]
  refine x_rangeN C ?_
  intro r s' C
  refine x_iter_range (a := 0) (b := n) C (by tb_start) (by omega) (by omega) ?_
  intro I s' C
  unfold diagF at hD
  rw [hq.1] at hD
  refine x_loop (fun i s' => ∃ g2 vs2 T2 acc ds dg, Le g' g2 ∧ RowsAre g2 vs2 T2 ∧ Sq n T2 ∧ dOut (n - i) i T2 acc = some D ∧ IntsAre ds acc ∧ acc.length = i ∧
    Cx w B g2 [(I, rRit (i : Int) ((n - i : Nat) : Int)), (dg, rLst ds), (L, rLoc [("table", .ref ta), ("diagonal", .ref dg)]), (ta, rLw vs2)] s') n ?_ ?_ ⟨g', vs, T, [], [], _, fun _ _ e => e, hr, hq, hD, .nil, rfl, C⟩
  · rintro i s' hi ⟨g2, vs2, T2, acc, ds, dg, hg2, hr2, hq2, hd2, hds, hal, C⟩
    obtain ⟨f, hf⟩ : ∃ f, n - i = f + 1 := ⟨n - i - 1, by omega⟩
    rw [hf] at hd2 C
    obtain ⟨T', hT', hd3⟩ := Option.bind_eq_some_iff.mp hd2
    refine x_next_range C (by tb_start) ?_
    intro ti s' C
    refine ⟨_, rfl, ?_⟩
    obtain ⟨ri, ui, ei, hli, hui, huil⟩ := hr2.at hq2 hi
    obtain ⟨tii, eii⟩ := ia_get hui i (by rw [(hq2.row hi).2]; exact hi)
    repeat kts_caught
    refine x_idx (Cx.lw (by assumption) (by ktr_rel)) (by omega) ei ?_
    repeat kts_caught
    refine x_idx (Cx.fl (by assumption) hli) (by omega) eii ?_
    refine x_append (by assumption) (by tb_start) (by rw [sizeLine_eq, ia_len hds]; omega) ?_
    intro s' C
    repeat kts_caught
    refine x_len (by assumption) (Cx.lw (by assumption) (by ktr_rel)) (by rw [hr2.1, hq2.1]; omega) ?_
    intro t s' C
    repeat kts_caught
    rw [show vs2.length = n by rw [hr2.1, hq2.1]]
    refine x_range2N (a := i + 1) C ?_
    intro r s' C
    refine x_iter_range (a := i + 1) (b := n) C (by tb_start) (by omega) (by omega) ?_
    intro I2 s' C
    refine x_loop (fun j s' => ∃ g3 vs3 T3, Le g2 g3 ∧ RowsAre g3 vs3 T3 ∧ Sq n T3 ∧ dIn (f - j) (i + 1 + j) i T3 = some T' ∧
      Cx w B g3 [(I2, rRit ((i + 1 + j : Nat) : Int) ((n - (i + 1) - j : Nat) : Int)), (I, rRit ((i + 1 : Nat) : Int) (f : Int)), (dg, rLst (ds ++ [.int ((T2.getD i []).getD i 0) tii])), (L, rLoc [("table", .ref ta), ("diagonal", .ref dg), ("i", .int (i : Int) ti)]), (ta, rLw vs3)] s') (n - (i + 1)) ?_ ?_
      ⟨g2, vs2, T2, fun _ _ e => e, hr2, hq2, hT', C⟩
    · rintro j s' hj ⟨g3, vs3, T3, hg3, hr3, hq3, hd4, C⟩
      obtain ⟨b, hb⟩ : ∃ b, f - j = b + 1 := ⟨f - j - 1, by omega⟩
      obtain ⟨c, hc⟩ : ∃ c, n - (i + 1) - j = c + 1 := ⟨n - (i + 1) - j - 1, by omega⟩
      rw [hb] at hd4
      rw [hc] at C
      obtain ⟨T4, hT4, hd5⟩ := Option.bind_eq_some_iff.mp hd4
      have hbc : c = n - (i + 1) - (j + 1) := by omega
      have hbb : b = f - (j + 1) := by omega
      have hkn : i + 1 + j < n := by omega
      have hkk : i + 1 + j + 1 = i + 1 + (j + 1) := by omega
      rw [hkk, hbb] at hd5
      have hq4 := dStep_sq hq3 hi hkn hT4
      generalize hk : i + 1 + j = k at *
      refine x_next_range C (by tb_start) ?_
      intro tk s' C
      refine ⟨_, rfl, ?_⟩
      obtain ⟨ri, ui, ei, hli, hui, huil⟩ := hr3.at hq3 hi
      obtain ⟨rk, uk, ek, hlk, huk, hukl⟩ := hr3.at hq3 hkn
      obtain ⟨tki, eki⟩ := ia_get huk i (by rw [(hq3.row hkn).2]; exact hi)
      repeat kts_caught
      refine x_idx (Cx.lw (by assumption) (by ktr_rel)) (by omega) ek ?_
      repeat kts_caught
      refine x_idx (Cx.fl (by assumption) hlk) (by omega) eki ?_
      repeat kts_caught
      unfold dStep at hT4
      by_cases hz : ent T3 k i = 0
      · rw [if_pos hz] at hT4
        cases hT4
        rw [if_neg (by unfold ent at hz; rw [hz]; decide)]
        repeat kts_caught
        rename_i C
        refine ⟨g3, vs3, T3, hg3, hr3, hq3, hd5, ?_⟩
        rw [← hkk, ← hbc]
        exact C.loc _ (by tb_start) (by kts_caughtN) (by simp only [List.map]; decide)
      · rw [if_neg hz] at hT4
        rw [if_pos (by unfold ent at hz; simpa using hz)]
        split at hT4
        rotate_left
        · cases hT4
        rename_i hz2
        injection hT4 with hT4
        generalize hX : subRow (T3.getD k []) (T3.getD i []) = X at hT4 hz2
        have hXl : X.length = n := by rw [← hX]; exact subRow_len _ _ _ (hq3.row hkn).2 (hq3.row hi).2
        repeat kts_caught
        refine x_idx (Cx.lw (by assumption) (by ktr_rel)) (by omega) ek ?_
        repeat kts_caught
        refine x_idx (Cx.lw (by assumption) (by ktr_rel)) (by omega) ei ?_
        repeat kts_caught
        refine x_zip (by assumption) (Cx.fl (by assumption) hlk) (Cx.fl (by assumption) hli) ?_
        intro z TI TO i1 i2 s' C
        refine x_self_zip C (by ktr_rel) _ _ ?_
        refine ⟨_, _, _, C, fun Dc Cc s' C => ⟨x_self_zip C (by ktr_rel), ?_⟩⟩
        have hgr : ∀ a ∈ [z, TI, TO, i1, i2], g3.get? a = none := by
          intro a ha
          simp only [List.mem_cons, List.not_mem_nil, or_false] at ha
          rcases ha with rfl | rfl | rfl | rfl | rfl <;> exact C.gnone (by ktr_rel)
        have hne : ∀ l us, g3.IsList l us → l ∉ [z, TI, TO, i1, i2] := by
          rintro l us ⟨o, ho, _⟩ hm
          rw [hgr _ hm] at ho; cases ho
        refine x_cloop (fun m s' => ∃ xs, IntsAre xs (X.take m) ∧ Cx w B g3 ((Cc, rLoc []) :: (Dc, rLst xs) :: zipC z TI TO i1 i2 rk ri m [(I2, rRit ((k + 1 : Nat) : Int) (c : Int)), (I, rRit ((i + 1 : Nat) : Int) (f : Int)), (dg, rLst (ds ++ [.int ((T2.getD i []).getD i 0) tii])), (L, rLoc [("table", .ref ta), ("diagonal", .ref dg), ("i", .int (i : Int) ti), ("k", .int (k : Int) tk)]), (ta, rLw vs3)]) s') n ?_ ?_ ⟨[], .nil, C⟩
        · rintro m s' hm ⟨xs, hxs, C⟩
          have hkl := (hq3.row hkn).2
          have hil := (hq3.row hi).2
          obtain ⟨ta', ea⟩ := ia_get huk m (by rw [hkl]; exact hm)
          obtain ⟨tb', eb⟩ := ia_get hui m (by rw [hil]; exact hm)
          refine x_next_zip R.hh C (by kwd_inv) (C.fl hlk) (C.fl hli) (hne _ _ hlk) (hne _ _ hli) ea eb ?_
          intro s' C
          repeat kts_caught
          refine x_append (by assumption) (by tb_start) (by rw [sizeLine_eq, ia_len hxs, List.length_take]; omega) ?_
          intro s' C
          refine ⟨_, ?_, ((C.loc [] (by tb_start) (by kts_caughtN) (by simp only [List.map]; decide)).sel (by kwd_rel))⟩
          rw [take_succ_getD X 0 m (by omega), ← hX, subRow_getD _ _ _ (by omega) (by omega)]
          rw [hX]
          exact ia_snocI hxs
        · rintro s' ⟨xs, hxs, C⟩
          rw [List.take_of_length_le (by omega)] at hxs
          refine x_end_zip R.hh C (by kwd_inv) (C.fl hlk) (C.fl hli) (hne _ _ hlk) (hne _ _ hli) (by omega) ?_
          intro s' C
          refine ⟨rfl, ?_⟩
          repeat kts_caught
          refine x_setL (by assumption) (by tb_start) (by rw [hr3.1, hq3.1]; exact hkn) (by rw [hr3.1, hq3.1]; omega) ?_
          intro s' C
          have hC := C.sel (rs' := [(Dc, rLst xs), (I2, rRit ((k + 1 : Nat) : Int) (c : Int)), (I, rRit ((i + 1 : Nat) : Int) (f : Int)), (dg, rLst (ds ++ [.int ((T2.getD i []).getD i 0) tii])), (L, rLoc [("table", .ref ta), ("diagonal", .ref dg), ("i", .int (i : Int) ti), ("k", .int (k : Int) tk)]), (ta, rLw (vs3.set k (.ref Dc)))]) (by kwd_rel)
          obtain ⟨g4, hg4, ⟨o, ho, nn, rfl⟩, C⟩ := hC.freeze1 .hd
          have hrow : RowAt g4 (.ref Dc) X := ⟨Dc, xs, rfl, ⟨_, ho, rfl, nn, rfl⟩, hxs⟩
          have hr4 : RowsAre g4 (vs3.set k (.ref Dc)) T4 := by rw [← hT4]; exact (hr3.keeps hg4).set hrow
          obtain ⟨rk', uk', ek', hlk', huk', hukl'⟩ := hr4.at hq4 hkn
          obtain ⟨tz, ez⟩ := ia_get huk' i (by rw [(hq4.row hkn).2]; exact hi)
          have hent : (T4.getD k []).getD i 0 = 0 := by rw [← hT4]; exact hz2
          rw [hent] at ez
          repeat kts_caught
          refine x_idx (Cx.lw (by assumption) (by ktr_rel)) (by omega) ek' ?_
          repeat kts_caught
          refine x_idx (Cx.fl (by assumption) hlk') (by omega) ez ?_
          repeat kts_caught
          rw [if_neg (by decide)]
          repeat kts_caught
          rename_i C
          refine ⟨g4, _, T4, fun b o e => hg4 _ _ (hg3 _ _ e), hr4, hq4, hd5, ?_⟩
          rw [← hkk, ← hbc]
          exact C.loc _ (by tb_start) (by kts_caughtN) (by simp only [List.map]; decide)
    · rintro s' ⟨g3, vs3, T3, hg3, hr3, hq3, hd4, C⟩
      rw [Nat.sub_self] at C
      refine x_end_range R.hh C (by tb_start) ?_
      intro s' C
      refine ⟨rfl, ?_⟩
      repeat kts_caught
      rename_i C
      have : f - (n - (i + 1)) = 0 := by omega
      rw [this] at hd4
      obtain rfl : T3 = T' := by injection hd4
      refine ⟨g3, vs3, T3, acc ++ [ent T2 i i], ds ++ [.int (ent T2 i i) tii], dg, fun b o e => hg3 _ _ (hg2 _ _ e), hr3, hq3, ?_, ia_snocI hds, by simp [hal], ?_⟩
      · have : n - (i + 1) = f := by omega
        rw [this]; exact hd3
      · rw [show n - (i + 1) = f by omega]
        show Cx _ _ _ [_, (dg, rLst (ds ++ [.int ((T2.getD i []).getD i 0) tii])), _, _] _
        exact C.loc _ (by tb_start) (by kts_caughtN) (by simp only [List.map]; decide)
  · rintro s' ⟨g2, vs2, T2, acc, ds, dg, hg2, hr2, hq2, hd2, hds, hal, C⟩
    rw [Nat.sub_self] at hd2 C
    refine x_end_range R.hh C (by tb_start) ?_
    intro s' C
    refine ⟨rfl, ?_⟩
    repeat kts_caught
    rename_i C
    injection hd2 with e
    subst e
    have C := (C.thaw hg2 W').sel (rs' := [(dg, rLst ds)]) (by kwd_rel)
    exact h _ _ _ hds (back _ _ _ C)
end
end
section
noncomputable abbrev envPC (sc : Scope) (L : Addr) (q : Str) (f : Addr) (cd : Value) (cl : List (Str × Addr)) : Env := { scope := sc, locals := L, globals := mainGlobals, cells := cl, qual := q, func := some f, code := cd, frame := some L, builtins := builtinsNs }
section
variable {prog : Program} {w : World} {s : Shared} {A : Around} {E : Value → Shared → Prop}
theorem lookup_mem_isSome {x : Str} : ∀ {cs : List (Str × Addr)}, x ∈ cs.map (·.1) → (cs.lookup x).isSome = true
  | (k, c) :: r, h => by
    rw [List.lookup_cons]
    cases hb : x == k with
    | true => rfl
    | false =>
      rcases List.mem_cons.mp h with e | h
      · rw [show x = k from e] at hb; simp at hb
      · exact lookup_mem_isSome h
theorem lookup_of_nodup : ∀ {cs : List (Str × Addr)} {n : Str} {c : Addr}, (cs.map (·.1)).Nodup → (n, c) ∈ cs → cs.lookup n = some c
  | (k, d) :: r, n, c, hd, hm => by
    simp only [List.map_cons, List.nodup_cons] at hd
    rw [List.lookup_cons]
    rcases List.mem_cons.mp hm with e | hm
    · injection e with e1 e2
      subst e1; subst e2
      simp
    · have hne : ¬ n = k := fun e => hd.1 (by rw [← e]; exact List.mem_map_of_mem (f := (·.1)) hm)
      rw [beq_eq_false_iff_ne.mpr hne]
      exact lookup_of_nodup hd.2 hm
/-- the call of a function with cells -/
theorem x_enterK {B : Shared} {g : Heap} {rs : Rs} {f : Addr} {nm qn : Str} {ps : Arguments} {body : List Stmt} {sc : Scope} {dv kv dc pm cd ct oc : Value} {an od : Option Addr} {osl : Array (Option Value)} {vals : List Value}
    (parms cn : List Str) (binds lb : List (Str × Value)) (cs : Addr → List (Str × Addr)) (cr : Addr → Rs) {Q : Value → Shared → Prop}
    (R : A.depth < recursionLimit) (C : Cx w B g rs s) (hK : (KP w.params).lookup f = some { cls := oc, dict := od, data := .func { name := nm, qualname := qn, params := ps, body := .stmts body, scope := sc, globals := mainGlobals, closure := [], defaults := dv, kwdefaults := kv, doc := dc, pyModule := pm, annotations := an, code := cd, closureTuple := ct, builtins := builtinsNs }, slots := osl })
    (hcd : codeIn (KP w.params) cd qn = true)
    (hbind : bindArgs { name := nm, qualname := qn, params := ps, body := .stmts body, scope := sc, globals := mainGlobals, closure := [], defaults := dv, kwdefaults := kv, doc := dc, pyModule := pm, annotations := an, code := cd, closureTuple := ct, builtins := builtinsNs } ⟨vals, []⟩ = pure binds)
    (hz : binds.map (·.1) = parms) (hcs : ∀ n, cellsFrom n sc.names [] = cs n) (hcn : ∀ n, (cs n).map (·.1) = cn) (hcnd : cn.Nodup)
    (hkind : ∀ x ∈ parms, sc.names.lookup x = some .local ∨ (sc.names.lookup x = some .cell ∧ x ∈ cn))
    (hlb : lb.map (fun p => bindL (fun x => sc.names.lookup x) binds (fun _ => none) p.1) = lb.map (fun p => some p.2)) (hlnd : (lb.map (·.1)).Nodup)
    (hcr : ∀ n, cr n = ((cs n).map fun p => (p.2, rCell (bindC (fun x => sc.names.lookup x) binds (fun _ => none) p.1))) ++ rs)
    (h : ∀ L n s' q cd, 208 ≤ L → Cx w B g ((L, rLoc lb) :: cr n) s' →
      wpAny (model prog w) (A.deeper (envPC sc L q f cd (cs n))) (execs body (envPC sc L q f cd (cs n))) (fun fl s'' => Q (retOf fl) s'') (fun _ _ => False) s')
    (hco : sc.isCoroutine = false := by rfl) (hgen : sc.isGenerator = false := by rfl) (hk : sc.kind = .function := by rfl) :
    wpAny (model prog w) A (call (.ref f) vals) Q E s := by
  have W := C.wfs
  refine wpAny_call (codeAny_call_cells (binds := binds) R (W.kin _ _ hK) rfl W.nolimit (codeRec_of W.kin hcd) rfl hbind rfl (fun x hx => ?_) (fun s₁ x => ?_) hco hgen hk)
  · rcases hkind x.1 (hz ▸ List.mem_map_of_mem hx) with h1 | ⟨h1, h2⟩
    · exact .inl h1
    · refine .inr ⟨h1, lookup_mem_isSome ?_⟩
      show x.1 ∈ List.map _ (cellsFrom (s.heap.objs.size + 1) sc.names [])
      rw [hcs, hcn]; exact h2
  have e : callEnvC { name := nm, qualname := qn, params := ps, body := .stmts body, scope := sc, globals := mainGlobals, closure := [], defaults := dv, kwdefaults := kv, doc := dc, pyModule := pm, annotations := an, code := cd, closureTuple := ct, builtins := builtinsNs } s.heap.objs.size f
      = envPC sc s.heap.objs.size (qn ++ ".<locals>.") f cd (cs (s.heap.objs.size + 1)) := by
    unfold callEnvC newEnv
    show Env.mk _ _ _ (cellsFrom (s.heap.objs.size + 1) sc.names []) _ _ _ _ _ = _
    rw [hcs]
  rw [e] at x ⊢
  have C' : Cx w B g ((s.heap.objs.size, rLoc lb) :: cr (s.heap.objs.size + 1)) s₁ := by
    rw [hcr]
    have x1 := x.toInCall.same
    have x2 := x.toInCall.ns
    have x3 : Le s.heap s₁.heap := x.toInCall.keep
    have x4 := x.cell
    have x5 := x.apart
    have x6 := x.above
    obtain ⟨hh, tk, rfl⟩ := x1
    obtain ⟨o, ho, hr⟩ := rLoc_of_ns (vs := lb) x2 hlnd (by
      intro p hp
      obtain ⟨i, hi⟩ := List.getElem?_of_mem hp
      have := congrArg (fun l => l[i]?) hlb
      simp only [List.getElem?_map, hi, Option.map_some, Option.some.injEq] at this
      exact this)
    have hsz : ∀ a ∈ rs.map (·.1), a < s.heap.objs.size := C.lt
    have gno : ∀ {a}, s.heap.objs.size ≤ a → g.get? a = none := fun {a} ha => by
      cases e : g.get? a with
      | none => rfl
      | some o => exact absurd (Heap.lt_size (C.keep _ _ e)) (Nat.not_lt.mpr ha)
    have hn1 : ((cs (s.heap.objs.size + 1)).map (·.1)).Nodup := by rw [hcn]; exact hcnd
    have main : ∀ l : List (Str × Addr), (∀ p ∈ l, p ∈ cs (s.heap.objs.size + 1)) → (l.Pairwise fun x y => x.2 ≠ y.2) →
        Cx w B g ((l.map fun p => (p.2, rCell (bindC (fun x => sc.names.lookup x) binds (fun _ => none) p.1))) ++ rs) { s with heap := hh, toks := tk } := by
      intro l
      induction l with
      | nil => intro _ _; exact C.grow x3 tk
      | cons p r ih =>
        intro hm hp
        rw [List.pairwise_cons] at hp
        have C1 := ih (fun q hq => hm q (.tail _ hq)) hp.2
        have hpm := hm p (.head _)
        obtain ⟨oc', hoc, hdc⟩ := x4 p.1 p.2 (lookup_of_nodup hn1 hpm)
        refine C1.cons hoc hdc (gno (Nat.le_of_lt (x6 p.1 p.2 hpm))) ?_
        rw [List.map_append, List.mem_append, List.map_map]
        rintro (hc | hc)
        · obtain ⟨q, hq, e⟩ := List.mem_map.mp hc
          exact hp.1 q hq e.symm
        · exact absurd (hsz _ hc) (Nat.not_lt.mpr (Nat.le_of_lt (x6 p.1 p.2 hpm)))
    refine (main _ (fun _ h => h) x5).cons ho hr (gno (Nat.le_refl _)) ?_
    rw [List.map_append, List.mem_append, List.map_map]
    rintro (hc | hc)
    · obtain ⟨q, hq, e⟩ := List.mem_map.mp hc
      exact absurd (x6 q.1 q.2 hq) (by rw [show q.2 = s.heap.objs.size from e]; exact Nat.lt_irrefl _)
    · exact absurd (hsz _ hc) (Nat.lt_irrefl _)
  refine wpAny_mono (h _ _ _ _ _ (big_of_K W) C') (fun fl s'' hq => ?_) fun _ _ x => x.elim
  cases fl <;> exact hq
end
end
section
/-- values and what they stand for, one by one -/
noncomputable def Ea {α : Type} (P : Value → α → Prop) (vs : List Value) (xs : List α) : Prop := vs.length = xs.length ∧ ∀ (k : Nat) (x : α), xs[k]? = some x → ∃ v, vs[k]? = some v ∧ P v x
theorem Ea.nil {α : Type} {P : Value → α → Prop} : Ea P [] [] := ⟨rfl, fun k x h => by cases h⟩
theorem Ea.cons {α : Type} {P : Value → α → Prop} {vs : List Value} {xs : List α} {v : Value} {x : α} (hv : P v x) (h : Ea P vs xs) : Ea P (v :: vs) (x :: xs) := by
  refine ⟨by simp [h.1], fun k y e => ?_⟩
  cases k with
  | zero => cases e; exact ⟨v, rfl, hv⟩
  | succ k => exact h.2 k y e
theorem Ea.snoc {α : Type} {P : Value → α → Prop} {vs : List Value} {xs : List α} {v : Value} {x : α} (h : Ea P vs xs) (hv : P v x) : Ea P (vs ++ [v]) (xs ++ [x]) := by
  refine ⟨by simp [h.1], fun k y e => ?_⟩
  rcases Nat.lt_or_ge k xs.length with hk | hk
  · rw [List.getElem?_append_left hk] at e
    obtain ⟨u, e', p⟩ := h.2 k y e
    exact ⟨u, by rw [List.getElem?_append_left (by rw [h.1]; exact hk)]; exact e', p⟩
  · rw [List.getElem?_append_right hk] at e
    have hk0 : k - xs.length = 0 := by
      rcases Nat.eq_zero_or_pos (k - xs.length) with h | h
      · exact h
      · rw [List.getElem?_eq_none (by simp; omega)] at e; cases e
    rw [hk0] at e
    cases e
    exact ⟨v, by rw [List.getElem?_append_right (by rw [h.1]; exact hk), h.1, hk0]; rfl, hv⟩
theorem Ea.at {α : Type} {P : Value → α → Prop} {vs : List Value} {xs : List α} (h : Ea P vs xs) (d : α) {k : Nat} (hk : k < xs.length) : ∃ v, vs[k]? = some v ∧ P v (xs.getD k d) :=
  h.2 k _ (by rw [List.getD_eq_getElem?_getD, List.getElem?_eq_getElem hk]; rfl)
theorem Ea.mono {α : Type} {P P' : Value → α → Prop} {vs : List Value} {xs : List α} (h : Ea P vs xs) (hp : ∀ v x, P v x → P' v x) : Ea P' vs xs :=
  ⟨h.1, fun k x e => let ⟨v, e', p⟩ := h.2 k x e; ⟨v, e', hp v x p⟩⟩
theorem ia_of_get {vs : List Value} : ∀ {xs : List Int}, vs.length = xs.length → (∀ (k : Nat) (v : Value), vs[k]? = some v → ∃ t, v = .int (xs.getD k 0) t) → IntsAre vs xs := by
  induction vs with
  | nil => intro xs hl _; cases xs with | nil => exact .nil | cons => cases hl
  | cons v r ih =>
    intro xs hl hg
    cases xs with
    | nil => cases hl
    | cons x xs =>
      obtain ⟨t, e⟩ := hg 0 v rfl
      rw [e]
      exact .cons x t (ih (by simpa using hl) fun k u hu => hg (k + 1) u hu)
noncomputable def PairAt (g : Heap) (v : Value) (p : Nat × Nat) : Prop := ∃ r t u, v = .ref r ∧ g.IsTuple r (List.toArray [.int (p.1 : Int) t, .int (p.2 : Int) u])
theorem PairAt.keeps {g g' : Heap} {v : Value} {p : Nat × Nat} (h : PairAt g v p) (k : Le g g') : PairAt g' v p :=
  let ⟨r, t, u, e, o, ho, c⟩ := h; ⟨r, t, u, e, o, k _ _ ho, c⟩
theorem pairAt_of {g : Heap} {r : Addr} {a b : Nat} {t u : Tok} (h : ∃ o, g.get? r = some o ∧ rTup [.int (a : Int) t, .int (b : Int) u] o) : PairAt g (.ref r) (a, b) := by
  obtain ⟨o, ho, n, rfl⟩ := h
  exact ⟨r, t, u, rfl, _, ho, rfl, n, rfl⟩
theorem isList_of {g : Heap} {r : Addr} {vs : List Value} (h : ∃ o, g.get? r = some o ∧ rLst vs o) : g.IsList r vs.toArray := by
  obtain ⟨o, ho, n, rfl⟩ := h
  exact ⟨_, ho, rfl, n, rfl⟩
theorem isTuple_of {g : Heap} {r : Addr} {vs : List Value} (h : ∃ o, g.get? r = some o ∧ rTup vs o) : g.IsTuple r vs.toArray := by
  obtain ⟨o, ho, n, rfl⟩ := h
  exact ⟨_, ho, rfl, n, rfl⟩
theorem isList_keeps {g g' : Heap} {r : Addr} {a : Array Value} (h : g.IsList r a) (k : Le g g') : g'.IsList r a := let ⟨o, ho, c⟩ := h; ⟨o, k _ _ ho, c⟩
theorem isTuple_keeps {g g' : Heap} {r : Addr} {a : Array Value} (h : g.IsTuple r a) (k : Le g g') : g'.IsTuple r a := let ⟨o, ho, c⟩ := h; ⟨o, k _ _ ho, c⟩
theorem Le.trans {a b c : Heap} (h : Le a b) (k : Le b c) : Le a c := fun x o e => k _ _ (h _ _ e)
theorem drop_getD {α : Type} (xs : List α) (d : α) (i : Nat) (h : i < xs.length) : xs.drop i = xs.getD i d :: xs.drop (i + 1) := by
  rw [List.drop_eq_getElem_cons h, List.getD_eq_getElem?_getD, List.getElem?_eq_getElem h]; rfl
section
variable {prog : Program} {w : World} {A : Around} {E : Value → Shared → Prop} {s s' : Shared} {env : Env} {B : Shared} {g : Heap} {rs rs' : Rs}
theorem Cx.ft (C : Cx w B g rs s) {l : Addr} {a : Array Value} (h : g.IsTuple l a) : s.heap.IsTuple l a := let ⟨o, ho, r⟩ := h; ⟨o, C.keep _ _ ho, r⟩
theorem x_augSub {o i : Expr} {pos' : Pos} {op : Operator} {value : Expr} {pos : Pos} {rest : List Stmt} {Q : Flow → Shared → Prop}
    (h : wpAny (model prog w) A (eval o env) (fun ov s₁ => wpAny (model prog w) A (eval i env) (fun iv s₂ => wpAny (model prog w) A (getItem ov iv) (fun old s₃ => wpAny (model prog w) A (eval value env) (fun v s₄ => wpAny (model prog w) A (inplaceOp op old v) (fun new s₅ =>
      wpAny (model prog w) A (setItem ov iv new) (fun _ s₆ => wpAny (model prog w) A (execs rest env) Q E s₆) E s₅) E s₄) E s₃) E s₂) E s₁) E s)
    (ha : ∀ ov iv new, augStore i ov iv new = (do holding [new, ov, iv] (setItem ov iv new); release [new, ov, iv] []; pure .next) := by intro _ _ _; rfl) :
    wpAny (model prog w) A (execs (.AugAssign (.Subscript o i pos') op value pos :: rest) env) Q E s := x_seq (wpAny_AugAssign_Subscript_any h ha)
theorem x_getL {l : Addr} {vs : List Value} {k : Nat} {u : Tok} {x : Value} {Q : Value → Shared → Prop} (hl : s.heap.IsList l vs.toArray) (hk : k ≤ 1000000) (hx : vs[k]? = some x) (h : Q x s) : wpAny (model prog w) A (getItem (.ref l) (.int (k : Int) u)) Q E s :=
  wpAny_getItem_list hl (Int.natCast_nonneg k) (by omega) (by rw [Int.toNat_natCast]; simpa using hx) h
theorem x_mod {a b : Int} {t u : Tok} {Q : Value → Shared → Prop} (C : Cx w B g rs s) (hb : 0 < b) (h : ∀ t s', Cx w B g rs s' → Q (.int (a % b) t) s') : wpAny (model prog w) A (binaryOp .Mod (.int a t) (.int b u)) Q E s :=
  mod_int' (by omega) (by rw [Int.fmod_eq_emod_of_nonneg _ (by omega)]; exact h _ _ (C.tok _))
theorem x_modN {a b : Nat} {t u : Tok} {Q : Value → Shared → Prop} (C : Cx w B g rs s) (hb : 0 < b) (h : ∀ t s', Cx w B g rs s' → Q (.int ((a % b : Nat) : Int) t) s') : wpAny (model prog w) A (binaryOp .Mod (.int (a : Int) t) (.int (b : Int) u)) Q E s :=
  x_mod C (by omega) h
theorem x_pow {a n : Int} {t u : Tok} {Q : Value → Shared → Prop} (C : Cx w B g rs s) (hn : 0 ≤ n) (hn2 : n ≤ 1000000) (ha : a.natAbs < 2 ^ 64) (h : ∀ t s', Cx w B g rs s' → Q (.int (a ^ n.toNat) t) s') : wpAny (model prog w) A (binaryOp .Pow (.int a t) (.int n u)) Q E s :=
  pow_int_small hn hn2 ha (h _ _ (C.tok _))
theorem x_self_enum {e it : Addr} {i : Nat} (C : Cx w B g rs s) (hm : (e, rEnum it i) ∈ rs) : ∀ (Q' : Value → Shared → Prop) (E' : Value → Shared → Prop), Q' (.ref e) s → wpAny (model prog w) A (pyIter (.ref e)) Q' E' s := by
  obtain ⟨o, ho, old, rfl⟩ := C.get hm
  exact fun Q' E' h => wpAny_pyIter_enum ho h
theorem IntsAre.setAt {vs : List Value} {xs : List Int} (h : IntsAre vs xs) (k : Nat) (x : Int) (t : Tok) : IntsAre (vs.set k (.int x t)) (xs.set k x) := by
  induction h generalizing k with
  | nil => exact .nil
  | cons y u _ ih =>
    cases k with
    | zero => exact .cons x t (by assumption)
    | succ k => exact .cons y u (ih k)
theorem x_ifInt {test : Expr} {a b : Int} {k1 k2 : Nat} {p1 p2 pos : Pos} {Q : Value → Shared → Prop}
    (h : wpAny (model prog w) A (isTrue test env (eval test env)) (fun r s₁ => ∃ B g rs, Cx w B g rs s₁ ∧ ∀ t s', Cx w B g rs s' → Q (.int (if r = true then a else b) t) s') E s) :
    wpAny (model prog w) A (eval (.IfExp test (.Constant (.int a) k1 p1) (.Constant (.int b) k2 p2) pos) env) Q E s := by
  refine wpAny_IfExp (wpAny_mono h (fun r s₁ h₁ => ?_) fun _ _ x => x)
  obtain ⟨B, g, rs, C, hQ⟩ := h₁
  cases r with
  | true => exact x_int C fun t s' C => hQ t s' C
  | false => exact x_int C fun t s' C => hQ t s' C
/-- a comprehension over a list, one item at a time -/
theorem x_cmap {elt iter : Expr} {x : Str} {px : Pos} {scope : Scope} {pos : Pos} {R : Result → Shared → Prop} {Cc D I l : Addr} {items : List Value} (F : Heap → Nat → Value → Prop)
    (hh : A.handled = none) (C : Cx w B g ((Cc, rLoc []) :: (D, rLst []) :: (I, rLit l 0) :: rs) s) (hl : g.IsList l items.toArray) (hsz : items.length ≤ 1000000) (hF : ∀ g₁ g₂ i v, Le g₁ g₂ → F g₁ i v → F g₂ i v)
    (he : env.locals = Cc)
    (step : ∀ i v g₁ ys s', items[i]? = some v → Le g g₁ → Cx w B g₁ ((Cc, rLoc [(x, v)]) :: (D, rLst ys) :: (I, rLit l (i + 1)) :: rs) s' →
      wpAny (model prog w) A (eval elt env) (fun y s₄ => ∃ g₂, Le g₁ g₂ ∧ F g₂ i y ∧ Cx w B g₂ ((Cc, rLoc [(x, v)]) :: (D, rLst ys) :: (I, rLit l (i + 1)) :: rs) s₄) nE s')
    (fin : ∀ g₁ ys s', Le g g₁ → ys.length = items.length → (∀ (i : Nat) (y : Value), ys[i]? = some y → F g₁ i y) → Cx w B g₁ ((Cc, rLoc []) :: (D, rLst ys) :: rs) s' → R (.ok .next) s')
    (hk : env.scope.kind = .function := by rfl) (hkx : env.kindOf x = some .local := by rfl) :
    codeAny (model prog w) A (.compLoop (.ListComp elt [⟨.Name x px, iter, [], 0⟩] scope pos) 0 (.ref I) (.ref D) env) R s := by
  subst he
  refine x_cloop (fun i s' => ∃ g₁ ys, Le g g₁ ∧ ys.length = i ∧ (∀ (j : Nat) (y : Value), ys[j]? = some y → F g₁ j y) ∧ Cx w B g₁ ((env.locals, rLoc []) :: (D, rLst ys) :: (I, rLit l i) :: rs) s') items.length ?_ ?_ ⟨g, [], fun _ _ e => e, rfl, fun j y e => (by cases e), C⟩
  · rintro i s' hi ⟨g₁, ys, hg, hly, hys, C⟩
    obtain ⟨v, hv⟩ : ∃ v, items[i]? = some v := ⟨_, List.getElem?_eq_getElem hi⟩
    refine x_next_list C (.tl (.tl .hd)) (C.fl (isList_keeps hl hg)) hv ?_
    intro s' C
    refine ⟨_, rfl, x_letgoN (x_assignN (x_store C .hd .nil (fun s' C => x_tests0 ?_) hk hkx))⟩
    refine (if_pos rfl).mpr ?_
    refine wpAny_mono (step i v g₁ ys s' hv hg C) (fun y s₄ q => ?_) fun _ _ x => x
    obtain ⟨g₂, hg2, hy, C⟩ := q
    refine x_append C (.tl .hd) (by rw [sizeLine_eq]; omega) fun s' C => ⟨g₂, ys ++ [y], hg.trans hg2, by simp [hly], ?_, C.weakAt .hd (rLoc_sub List.nodup_nil fun _ h => (nomatch h))⟩
    intro j z e
    rcases Nat.lt_or_ge j ys.length with hj | hj
    · rw [List.getElem?_append_left hj] at e
      exact hF _ _ _ _ hg2 (hys j z e)
    · rw [List.getElem?_append_right hj] at e
      have : j - ys.length = 0 := by
        rcases Nat.eq_zero_or_pos (j - ys.length) with h | h
        · exact h
        · rw [List.getElem?_eq_none (by simp; omega)] at e; cases e
      rw [this] at e
      cases e
      rw [show j = i by omega]
      exact hy
  · rintro s' ⟨g₁, ys, hg, hly, hys, C⟩
    refine x_end_list hh C (.tl (.tl .hd)) (C.fl (isList_keeps hl hg)) (Nat.le_refl _) fun s' C => ⟨rfl, fin g₁ ys s' hg hly hys C⟩
end
end
section
noncomputable def cellsF : Nat → List Int → List Int → List Int
  | _, [], c => c
  | p, x :: r, c => cellsF (p + 1) r (c.set (p % 7) (c.getD (p % 7) 0 + x % 1000000))
noncomputable def cells (ns : List Int) : List Int := cellsF 0 (ns.take 14) [0, 3, 5, 2, 8, 9, 11]
noncomputable def prs : List (Nat × Nat) := [(0, 1), (0, 2), (0, 3), (1, 2), (1, 3), (2, 3)]
noncomputable def tiesOf (ns : List Int) : List (Nat × Nat) := ((cells ns).take (if ns.length < 4 then 3 else 4)).map fun c => prs.getD (c % 6).toNat (0, 0)
noncomputable def weightsOf (ns : List Int) : List Int := (((cells ns).take (if ns.length < 2 then 6 else 7)).drop 4).map fun c => c % 19 - 6
theorem cellsF_len : ∀ (l : List Int) (p : Nat) (c : List Int), (cellsF p l c).length = c.length
  | [], _, _ => rfl
  | x :: r, p, c => by unfold cellsF; rw [cellsF_len r]; simp
theorem cells_len (ns : List Int) : (cells ns).length = 7 := cellsF_len _ _ _
section
variable {prog : Program} {w : World} {A : Around} {E : Value → Shared → Prop} {s s' : Shared} {env : Env} {B : Shared} {g : Heap} {rs rs' : Rs}
theorem c_drawn {l : Addr} {vs : List Value} {ns : List Int} {Q : Value → Shared → Prop} (R : Room 2 A) (C : Cx w B g rs s) (hl : g.IsList l vs.toArray) (hi : IntsAre vs ns) (hn : ns.length ≤ 63)
    (h : ∀ p ta wa tv wv g' s', Le g g' → g'.IsTuple p (List.toArray [.ref ta, .ref wa]) → g'.IsList ta (List.toArray tv) → g'.IsList wa (List.toArray wv) → Ea (PairAt g') tv (tiesOf ns) → IntsAre wv (weightsOf ns) → Cx w B g' rs s' → Q (.ref p) s') :
    wpAny (model prog w) A (call (.ref 158) [.ref l]) Q E s := by
  refine x_enterK ["script"] ["pairs"] [("script", .ref l)] [("script", .ref l)] (fun n => [("pairs", n)]) (fun n => (n, rCell none) :: rs) R.room C rfl (by kernel_rfl) rfl rfl (fun _ => by kernel_rfl) (fun _ => rfl) (by decide) (by decide) (by kernel_rfl) (by simp only [List.map]; decide) (fun _ => by kernel_rfl) ?_
  intro L c s' q cd hL C

  repeat kts_caught
  rename_i C
  have C := C.weakAt .hd rLst_lw
  obtain ⟨g1, k1, hp, C⟩ := C.freeze1 (.tl .hd)
  obtain ⟨g2, k2, h6, C⟩ := C.freeze1 (.tl .hd)
  obtain ⟨g3, k3, h5, C⟩ := C.freeze1 (.tl .hd)
  obtain ⟨g4, k4, h4, C⟩ := C.freeze1 (.tl .hd)
  obtain ⟨g5, k5, h3, C⟩ := C.freeze1 (.tl .hd)
  obtain ⟨g6, k6, h2, C⟩ := C.freeze1 (.tl .hd)
  obtain ⟨g7, k7, h1, C⟩ := C.freeze1 (.tl .hd)
  have P1 := (pairAt_of (a := 0) (b := 1) h1)
  have P2 := (pairAt_of (a := 0) (b := 2) h2).keeps k7
  have P3 := (pairAt_of (a := 0) (b := 3) h3).keeps (k6.trans k7)
  have P4 := (pairAt_of (a := 1) (b := 2) h4).keeps (k5.trans (k6.trans k7))
  have P5 := (pairAt_of (a := 1) (b := 3) h5).keeps (k4.trans (k5.trans (k6.trans k7)))
  have P6 := (pairAt_of (a := 2) (b := 3) h6).keeps (k3.trans (k4.trans (k5.trans (k6.trans k7))))
  have hpl := isList_keeps (isList_of hp) (k2.trans (k3.trans (k4.trans (k5.trans (k6.trans k7)))))
  have HP : Ea (PairAt g7) _ prs := .cons P1 (.cons P2 (.cons P3 (.cons P4 (.cons P5 (.cons P6 .nil)))))
  have k07 : Le g g7 := k1.trans (k2.trans (k3.trans (k4.trans (k5.trans (k6.trans k7)))))
  clear h1 h2 h3 h4 h5 h6 hp P1 P2 P3 P4 P5 P6 k1 k2 k3 k4 k5 k6 k7
  generalize hpv : ([_, _, _, _, _, _] : List Value) = pv at hpl HP
  clear hpv
  have hl7 := isList_keeps hl k07
  refine x_sliceL ?_
  repeat kts_caught
  rename_i C
  refine ⟨l, vs, none, some 14, _, _, _, _, rfl, C.fl hl7, by rw [sizeLine_eq, ia_len hi]; omega, .none, .int _ _, C, ?_⟩
  intro sl s' C
  have hsi := slice_ints_uptoW hi (y := 14) (by decide)
  generalize (slicePick vs.toArray none (some 14) none).toList = sv at hsi C
  rw [show (14 : Int).toNat = 14 from rfl] at hsi
  obtain ⟨g8, k8, hslo, C⟩ := C.freeze1 .hd
  have hsl := isList_of hslo
  have hpl := isList_keeps hpl k8
  have HP : Ea (PairAt g8) pv prs := HP.mono fun v x h => h.keeps k8
  have k08 := k07.trans k8
  clear hslo k07 k8 hl7
  have hsl14 : (ns.take 14).length ≤ 14 := by rw [List.length_take]; omega
  repeat kts_caught
  refine x_enum (by assumption) (C.fl hsl) ?_
  intro e it s' C
  refine x_self_enum C (by ktr_rel) _ _ ?_
  refine x_loop (fun i s' => ∃ cs us cl, IntsAre us cs ∧ cs.length = 7 ∧ cellsF i ((ns.take 14).drop i) cs = cells ns ∧
    Cx w B g8 ((e, rEnum it i) :: (it, rLit sl i) :: (cl, rLw us) :: (L, rLoc [("script", .ref l), ("cells", .ref cl)]) :: (c, rCell (some (.ref _))) :: rs) s') (ns.take 14).length ?_ ?_ ⟨[0, 3, 5, 2, 8, 9, 11], _, _, .cons _ _ (.cons _ _ (.cons _ _ (.cons _ _ (.cons _ _ (.cons _ _ (.cons _ _ .nil)))))), rfl, rfl, C⟩
  · rintro i s' hi' ⟨cs, us, cl, hus, hcl, hcf, C⟩
    obtain ⟨tx, hx⟩ := ia_get hsi i hi'
    refine x_next_enum R.hh C (by kwd_inv) (C.fl hsl) hx ?_
    intro t s' C
    have h7 : i % 7 < cs.length := by rw [hcl]; exact Nat.mod_lt _ (by decide)
    obtain ⟨tg, hg⟩ := ia_get hus (i % 7) h7
    repeat kts_caught
    refine x_getL (k := i % 7) (Cx.lw (by assumption) (by ktr_rel)) (by omega) hg ?_
    repeat kts_caught
    refine x_pow (by assumption) (by decide) (by decide) (by decide) ?_
    intro t s' C
    rw [show (10 : Int) ^ (6 : Int).toNat = 1000000 from rfl]
    repeat kts_caught
    refine x_setL (k := i % 7) (by assumption) (by tb_start) (by rw [ia_len hus]; exact h7) (by rw [ia_len hus]; omega) ?_
    intro s' C
    repeat kts_caught
    rename_i C
    refine ⟨cs.set (i % 7) (cs.getD (i % 7) 0 + (ns.take 14).getD i 0 % 1000000), _, cl, IntsAre.setAt hus _ _ _, by simp [hcl], ?_, C.loc _ (by tb_start) (by kts_caughtN) (by simp only [List.map]; decide)⟩
    rw [← hcf, drop_getD (ns.take 14) 0 i hi']
    rfl
  · rintro s' ⟨cs, us, cl, hus, hcl, hcf, C⟩
    refine x_end_enum R.hh C (by kwd_inv) (C.fl hsl) (by rw [ia_len hsi]; exact Nat.le_refl _) ?_
    intro s' C
    refine ⟨rfl, ?_⟩
    rw [List.drop_of_length_le (Nat.le_refl _)] at hcf
    unfold cellsF at hcf
    subst hcf
    repeat kts_caught
    refine x_sliceL ?_
    repeat kts_caught
    refine x_len (by assumption) (Cx.fl (by assumption) (isList_keeps hl k08)) (by rw [ia_len hi]; omega) ?_
    intro t s' C
    rw [ia_len hi]
    repeat kts_caught
    rename_i C
    refine ⟨_, _, _, C.tok _, ?_⟩
    intro t s' C
    have hcl' : us.length = 7 := by rw [ia_len hus]; exact hcl
    refine ⟨cl, us, none, some _, _, _, _, _, rfl, Cx.lw C (by ktr_rel), by rw [sizeLine_eq]; omega, .none, .int _ _, C, ?_⟩
    intro sl2 s' C
    rw [show (if decide ((ns.length : Int) < 4) = true then (3 : Int) else 4) = ((if ns.length < 4 then 3 else 4 : Nat) : Int) by
      by_cases h4 : ns.length < 4
      · rw [if_pos h4, if_pos (decide_eq_true (by omega))]; rfl
      · rw [if_neg h4, if_neg (fun h => h4 (by have := of_decide_eq_true h; omega))]; rfl] at C
    have hs2 := slice_ints_uptoW hus (y := ((if ns.length < 4 then 3 else 4 : Nat) : Int)) (Int.natCast_nonneg _)
    generalize (slicePick us.toArray none (some ((if ns.length < 4 then 3 else 4 : Nat) : Int)) none).toList = sv2 at hs2 C
    rw [Int.toNat_natCast] at hs2
    obtain ⟨g9, k9, hslo, C⟩ := C.freeze1 .hd
    have hsl2 := isList_of hslo
    have hpl := isList_keeps hpl k9
    have HP : Ea (PairAt g9) pv prs := HP.mono fun v x h => h.keeps k9
    have k09 := k08.trans k9
    have htl : tiesOf ns = ((cells ns).take (if ns.length < 4 then 3 else 4)).map fun c => prs.getD (c % 6).toNat (0, 0) := rfl
    generalize hcc : (cells ns).take (if ns.length < 4 then 3 else 4) = cc at hs2 htl
    have hcc7 : cc.length ≤ 7 := by rw [← hcc, List.length_take, cells_len]; omega
    have hsv2 : sv2.length = cc.length := ia_len hs2
    refine x_iter_list C (C.fl hsl2) ?_
    intro I s' C
    refine ⟨_, _, _, C, fun D Cc s' C => ⟨x_self_list C (by ktr_rel), ?_⟩⟩
    refine x_cmap (fun g i v => PairAt g v (prs.getD (cc.getD i 0 % 6).toNat (0, 0))) R.hh C hsl2 (by omega) (fun _ _ _ _ k h => h.keeps k) rfl ?_ ?_
    · intro i v g₁ ys s' hv hg C
      have hi2 : i < cc.length := by
        rcases Nat.lt_or_ge i sv2.length with h | h
        · omega
        · rw [List.getElem?_eq_none h] at hv; cases hv
      obtain ⟨tv, hv'⟩ := ia_get hs2 i hi2
      rw [hv'] at hv
      cases hv
      generalize cc.getD i 0 = z at C
      have hz : z % 6 = ((z % 6).toNat : Int) := (Int.toNat_of_nonneg (Int.emod_nonneg _ (by decide))).symm
      have hz6 : (z % 6).toNat < 6 := by have := Int.emod_lt_of_pos z (show (0 : Int) < 6 by decide); omega
      obtain ⟨pvv, hpv, hpa⟩ := HP.at (0, 0) (k := (z % 6).toNat) hz6
      repeat kts_caught
      rw [hz]
      refine x_idx (Cx.fl (by assumption) (isList_keeps hpl hg)) (by omega) hpv ?_
      rename_i C
      exact ⟨g₁, fun _ _ e => e, hpa.keeps hg, C⟩
    · intro g₁ tv s' hg hlen hF C
      have Ht : Ea (PairAt g₁) tv (tiesOf ns) := by
        rw [htl]
        refine ⟨by rw [List.length_map, hlen, hsv2], fun k x e => ?_⟩
        rw [List.getElem?_map] at e
        obtain ⟨y, hy, rfl⟩ := Option.map_eq_some_iff.mp e
        have hk : k < cc.length := by
          rcases Nat.lt_or_ge k cc.length with h | h
          · exact h
          · rw [List.getElem?_eq_none h] at hy; cases hy
        have hk' : k < tv.length := by rw [hlen, hsv2]; exact hk
        refine ⟨_, List.getElem?_eq_getElem hk', ?_⟩
        have hh := hF k _ (List.getElem?_eq_getElem hk')
        rw [show cc.getD k 0 = y by rw [List.getD_eq_getElem?_getD, hy]; rfl] at hh
        exact hh
      have hl9 := isList_keeps hl ((k08.trans k9).trans hg)
      clear hF htl hs2 hsl2 hsv2
      repeat kts_caught
      refine x_sliceL ?_
      repeat kts_caught
      refine x_len (by assumption) (Cx.fl (by assumption) hl9) (by rw [ia_len hi]; omega) ?_
      intro t s' C
      rw [ia_len hi]
      repeat kts_caught
      rename_i C
      refine ⟨_, _, _, C.tok _, ?_⟩
      intro t s' C
      refine ⟨cl, us, some _, some _, _, _, _, _, rfl, Cx.lw C (by ktr_rel), by rw [sizeLine_eq]; omega, .int _ _, .int _ _, C, ?_⟩
      intro sl3 s' C
      rw [show (if decide ((ns.length : Int) < 2) = true then (6 : Int) else 7) = ((if ns.length < 2 then 6 else 7 : Nat) : Int) by
        by_cases h4 : ns.length < 2
        · rw [if_pos h4, if_pos (decide_eq_true (by omega))]; rfl
        · rw [if_neg h4, if_neg (fun h => h4 (by have := of_decide_eq_true h; omega))]; rfl] at C
      have hy67 : 6 ≤ (if ns.length < 2 then 6 else 7) ∧ (if ns.length < 2 then 6 else 7) ≤ 7 := by split <;> omega
      have hwl : weightsOf ns = (((cells ns).take (if ns.length < 2 then 6 else 7)).drop 4).map fun c => c % 19 - 6 := rfl
      generalize (if ns.length < 2 then 6 else 7) = y at hy67 C hwl
      have hs3 := slice_ints hus (x := 4) (y := (y : Int)) (by decide) (by omega) (by rw [hcl]; omega)
      generalize (slicePick us.toArray (some 4) (some (y : Int)) none).toList = sv3 at hs3 C
      rw [show ((cells ns).drop (4 : Int).toNat).take ((y : Int) - 4).toNat = ((cells ns).take y).drop 4 by
        rw [List.drop_take, show (4 : Int).toNat = 4 from rfl, show ((y : Int) - 4).toNat = y - 4 by omega]] at hs3
      obtain ⟨g10, k10, hslo, C⟩ := C.freeze1 .hd
      have hsl3 := isList_of hslo
      generalize hcd : ((cells ns).take y).drop 4 = cd at hs3 hwl
      have hcd7 : cd.length ≤ 7 := by rw [← hcd, List.length_drop, List.length_take, cells_len]; omega
      have hsv3 : sv3.length = cd.length := ia_len hs3
      refine x_iter_list C (C.fl hsl3) ?_
      intro I3 s' C
      refine ⟨_, _, _, C, fun D3 Cc3 s' C => ⟨x_self_list C (by ktr_rel), ?_⟩⟩
      refine x_cmap (fun g i v => ∃ t, v = .int (cd.getD i 0 % 19 - 6) t) R.hh C hsl3 (by omega) (fun _ _ _ _ k h => h) rfl ?_ ?_
      · intro i v g₁ ys s' hv hg C
        have hi2 : i < cd.length := by
          rcases Nat.lt_or_ge i sv3.length with h | h
          · omega
          · rw [List.getElem?_eq_none h] at hv; cases hv
        obtain ⟨tv, hv'⟩ := ia_get hs3 i hi2
        rw [hv'] at hv
        cases hv
        repeat kts_caught
        rename_i C
        exact ⟨g₁, fun _ _ e => e, ⟨_, rfl⟩, C⟩
      · intro g₂ wv s' hg2 hlen2 hF2 C
        have Hw : IntsAre wv (weightsOf ns) := by
          rw [hwl]
          exact ia_of_get (by rw [List.length_map, hlen2, hsv3]) fun k v e => by
            obtain ⟨t, ht⟩ := hF2 k v e
            refine ⟨t, ?_⟩
            have hk : k < cd.length := by
              rcases Nat.lt_or_ge k wv.length with h | h
              · omega
              · rw [List.getElem?_eq_none h] at e; cases e
            rw [ht]
            simp only [List.getD_eq_getElem?_getD, List.getElem?_map, List.getElem?_eq_getElem hk, Option.map_some, Option.getD_some]
        repeat kts_caught
        rename_i C
        obtain ⟨g11, k11, hpo, C⟩ := C.freeze1 .hd
        obtain ⟨g12, k12, hwo, C⟩ := C.freeze1 .hd
        obtain ⟨g13, k13, hto, C⟩ := C.freeze1 .hd
        have C := C.drop .hd
        have C := C.drop .hd
        have C := C.drop .hd
        refine h _ D D3 tv wv g13 _ ?_ (isTuple_keeps (isTuple_of hpo) (k12.trans k13)) (isList_of hto) (isList_keeps (isList_of hwo) k13) (Ht.mono fun v x h => h.keeps ?_) Hw C
        · exact k08.trans (k9.trans (hg.trans (k10.trans (hg2.trans (k11.trans (k12.trans k13))))))
        · exact k10.trans (hg2.trans (k11.trans (k12.trans k13)))
end
end
section
noncomputable def rSit (x : Str) (t : Tok) (i : Nat) : Res := fun o => o.cls = .type (strIterType x) ∧ o.data = .fields #[.str x t, .int i 0]
section
variable {prog : Program} {w : World} {A : Around} {E : Value → Shared → Prop} {s s' : Shared} {env : Env} {B : Shared} {g : Heap} {rs rs' : Rs} {x : Str} {t : Tok} {I : Addr} {i : Nat}
theorem x_iter_str {Q : Value → Shared → Prop} (C : Cx w B g rs s) (h : ∀ I s', Cx w B g ((I, rSit x t 0) :: rs) s' → Q (.ref I) s') : wpAny (model prog w) A (pyIter (.str x t)) Q E s :=
  wpAny_pyIter_strU (h _ _ (C.push _ ⟨rfl, rfl⟩))
theorem strIterType_cases (x : Str) : strIterType x = "str_ascii_iterator" ∨ strIterType x = "str_iterator" := by
  unfold strIterType
  split
  · exact .inl rfl
  · exact .inr rfl
theorem x_next_str {c : Nat} {Q : Option Value → Shared → Prop} (C : Cx w B g rs s) (u : Upd rs I (rSit x t i) (rSit x t (i + 1)) rs') (hx : x.cps[i]? = some c)
    (h : ∀ t' s', Cx w B g rs' s' → Q (some (.str ⟨#[c]⟩ t')) s') : wpAny (model prog w) A (pyNext (.ref I)) Q E s := by
  obtain ⟨o, ho, h1, h2⟩ := C.get u.mem
  rcases strIterType_cases x with e | e
  · refine wpAny_pyNext_ascii_item ⟨o, ho, by rw [h1, e], h2⟩ hx fun h' hit hs => h _ _ (C.upd u hs.extBut ?_ _)
    obtain ⟨o', ho', h1', h2'⟩ := hit
    exact ⟨o', ho', by rw [h1', e], h2'⟩
  · refine wpAny_pyNext_wide_item ⟨o, ho, by rw [h1, e], h2⟩ hx fun h' hit hs => h _ _ (C.upd u hs.extBut ?_ _)
    obtain ⟨o', ho', h1', h2'⟩ := hit
    exact ⟨o', ho', by rw [h1', e], h2'⟩
theorem x_end_str {Q : Option Value → Shared → Prop} (hh : A.handled = none) (C : Cx w B g rs s) (u : Rm rs I (rSit x t i) rs') (hx : x.cps.size ≤ i)
    (h : ∀ s', Cx w B g rs' s' → Q none s') : wpAny (model prog w) A (pyNext (.ref I)) Q E s := by
  obtain ⟨o, ho, h1, h2⟩ := C.get u.mem
  rcases strIterType_cases x with e | e
  · exact wpAny_pyNext_ascii_end hh ⟨o, ho, by rw [h1, e], h2⟩ (by simpa using hx) fun h' hs => h _ (C.rm u hs s.toks)
  · exact wpAny_pyNext_wide_end hh ⟨o, ho, by rw [h1, e], h2⟩ (by simpa using hx) fun h' hs => h _ (C.rm u hs s.toks)
theorem x_self_str (C : Cx w B g rs s) (hm : (I, rSit x t i) ∈ rs) : ∀ (Q' : Value → Shared → Prop) (E' : Value → Shared → Prop), Q' (.ref I) s → wpAny (model prog w) A (pyIter (.ref I)) Q' E' s := by
  obtain ⟨o, ho, h1, h2⟩ := C.get hm
  rcases strIterType_cases x with e | e
  · exact fun Q' E' h => wpAny_pyIter_striter_ascii (i := i) ⟨o, ho, by rw [h1, e], h2⟩ h
  · exact fun Q' E' h => wpAny_pyIter_striter_wide (i := i) ⟨o, ho, by rw [h1, e], h2⟩ h
theorem x_topItem {value slice : Expr} {a : Addr} {es : Array DictEntry} {n : Nat} {k : Str} {v : Value} {Q : Value → Shared → Prop} (C : Cx w B g rs s) (hl : (KP w.params).lookup a = some ⟨.type "dict", none, .dict es n, #[]⟩) (hk : KeysLit w.params es.toList) (e : nsIn (KP w.params) a k = some (some v))
    (h : ∀ s', Cx w B g rs s' → Q v s') (hs : subscripted slice false (.ref a) (.str k t) = operate [.ref a, .str k t] (getItem (.ref a) (.str k t)) := by with_unfolding_all rfl) :
    wpAny (model prog w) A (subscriptTail value slice (.ref a) (.str k t)) Q E s :=
  have hm := mapOf_K (prog := prog) C.kin hl hk
  tail_any hm.typeIs slot_dict_getitem.lookup (wpAny_getItem_of (strKind_is prog w k t) hm (find_K hl e) (h _ (C.tok _))) hs
theorem x_ord {c : Nat} {Q : Value → Shared → Prop} (C : Cx w B g rs s) (h : ∀ t s', Cx w B g rs s' → Q (.int (c : Int) t) s') : wpAny (model prog w) A (call (.builtin "ord") [.str ⟨#[c]⟩ t]) Q E s := ord_of_one rfl (h _ _ (C.tok _))
theorem c_lshift {a b : Int} {t u : Tok} {Q : Value → Shared → Prop} (R : Room 1 A) (C : Cx w B g rs s) (h1 : 0 ≤ b) (h2 : b ≤ 1000000) (h3 : a.natAbs < 2 ^ 64) (h : ∀ t s', Cx w B g rs s' → Q (.int (a * 2 ^ b.toNat) t) s') : Wf w s.heap ∧ wpAny (model prog w) A (call (.ref 35) [.int a t, .int b u]) Q E s :=
  ⟨C.wfs, lshift_spec R C.wfs h1 h2 h3 fun t s' hg => h t s' (C.gr hg)⟩
theorem c_mul {a b : Int} {t u : Tok} {Q : Value → Shared → Prop} (R : Room 1 A) (C : Cx w B g rs s) (hm : IntMulOk a b) (h : ∀ t s', Cx w B g rs s' → Q (.int (a * b) t) s') : Wf w s.heap ∧ wpAny (model prog w) A (call (.ref 42) [.int a t, .int b u]) Q E s :=
  ⟨C.wfs, mul_spec R C.wfs hm fun t s' hg => h t s' (C.gr hg)⟩
theorem c_ipow {a : Int} {k : Nat} {t u : Tok} {Q : Value → Shared → Prop} (R : Room 1 A) (C : Cx w B g rs s) (hk : k ≤ 8) (h1 : -(2 ^ 63) ≤ a) (h2 : a < 2 ^ 63) (h : ∀ t s', Cx w B g rs s' → Q (.int (a ^ k) t) s') : Wf w s.heap ∧ wpAny (model prog w) A (call (.ref 63) [.int a t, .int (k : Int) u]) Q E s :=
  ⟨C.wfs, ipow_spec R C.wfs hk h1 h2 fun t s' hg => h t s' (C.gr hg)⟩
theorem c_isnt {a : Int} {t : Tok} {Q : Value → Shared → Prop} (R : Room 1 A) (C : Cx w B g rs s) (h : ∀ s', Cx w B g rs s' → Q (.bool (decide (a ≥ 256))) s') : Wf w s.heap ∧ wpAny (model prog w) A (call (.ref 146) [.int a t]) Q E s :=
  ⟨C.wfs, isnt_spec R C.wfs fun s' hg => h s' (C.gr hg)⟩
theorem c_iseof {a : Int} {t : Tok} {Q : Value → Shared → Prop} (R : Room 1 A) (C : Cx w B g rs s) (h : ∀ s', Cx w B g rs s' → Q (.bool (a == 0)) s') : Wf w s.heap ∧ wpAny (model prog w) A (call (.ref 153) [.int a t]) Q E s :=
  ⟨C.wfs, iseof_spec R C.wfs fun s' hg => h s' (C.gr hg)⟩
theorem x_eqS {x y : Str} {t u : Tok} {Q : Value → Shared → Prop} (h : Q (.bool (x == y)) s) : wpAny (model prog w) A (compareOp .Eq (.str x t) (.str y u)) Q E s := eq_str h
end
end
section
noncomputable def symOf (c : Nat) : Nat := if c = 44 then 12 else 256 + c - 97
noncomputable def mkStep (st : List Nat × Nat) (sym : Nat) : List Nat × Nat :=
  if sym = 12 ∨ sym = 0 then (st.1 ++ [if 256 ≤ sym then st.2 ||| 2 ^ (sym - 256) else st.2], 0) else (st.1, if 256 ≤ sym then st.2 ||| 2 ^ (sym - 256) else st.2)
noncomputable def masksOf (cps : List Nat) : List Nat := ((cps.map symOf ++ [0]).foldl mkStep ([], 0)).1
theorem comma_eq : Str.ofString "," = ⟨#[44]⟩ := by kernel_rfl
theorem g_comma (P : Params) : nsIn (KP P) 137 ⟨#[44]⟩ = some (some (.int 12 364)) := by kernel_rfl
theorem top137 (P : Params) : ∃ es n, (KP P).lookup 137 = some ⟨.type "dict", none, .dict es n, #[]⟩ ∧ KeysLit P es.toList := by
  refine ⟨_, _, rfl, ?_⟩
  repeat (first | exact trivial | refine ⟨⟨_, _, rfl, rfl⟩, ?_⟩)
section
variable {prog : Program} {w : World} {A : Around} {E : Value → Shared → Prop} {s s' : Shared} {env : Env} {B : Shared} {g : Heap} {rs rs' : Rs}
theorem c_masks {x : Str} {t : Tok} {Q : Value → Shared → Prop} (R : Room 2 A) (C : Cx w B g rs s) (hx : ∀ c ∈ x.cps.toList, c = 44 ∨ (97 ≤ c ∧ c ≤ 200)) (hsz : x.cps.size ≤ 1000)
    (h : ∀ d ds s', IntsAre ds (zs (masksOf x.cps.toList)) → Cx w B g ((d, rLst ds) :: rs) s' → Q (.ref d) s') :
    wpAny (model prog w) A (call (.ref 163) [.str x t]) Q E s := by
  have W := C.wf
  refine x_enterC ["text"] [("text", .str x t)] R.room C rfl (by kernel_rfl) rfl rfl (by decide) (by decide) (by decide) ?_
  intro L s' q cd hL C
  repeat kts_caught
  refine x_iter_str (by assumption) ?_
  intro I s' C
  refine ⟨_, _, _, C, fun D Cc s' C => ⟨x_self_str C (by ktr_rel), ?_⟩⟩
  refine x_cloop (fun i s' => ∃ ds, IntsAre ds (zs ((x.cps.toList.map symOf).take i)) ∧ Cx w B g ((Cc, rLoc []) :: (D, rLst ds) :: (I, rSit x t i) :: (L, rLoc [("text", .str x t)]) :: rs) s') x.cps.size ?_ ?_ ⟨[], .nil, C⟩
  · rintro i s' hi ⟨ds, hds, C⟩
    refine x_next_str C (by tb_start) (Array.getElem?_eq_getElem hi) ?_
    intro t' s' C
    refine ⟨_, rfl, ?_⟩
    have hm := hx x.cps[i] (by simp)
    have hnx : (x.cps.toList.map symOf).take (i + 1) = (x.cps.toList.map symOf).take i ++ [symOf x.cps[i]] := by
      rw [take_succ_getD _ 0 i (by simpa using hi), List.getD_eq_getElem?_getD, List.getElem?_map]
      simp [hi]
    generalize x.cps[i] = c at hm hnx C
    have hlen : ds.length ≤ 1000 := by rw [ia_len hds, zs_len, List.length_take]; simp; omega
    repeat kts_caught
    by_cases hc : c = 44
    · subst hc
      rw [if_pos (by rfl)]
      repeat kts_caught
      obtain ⟨es, nn, hes, hkl⟩ := top137 w.params
      refine x_topItem (by assumption) hes hkl (g_comma _) ?_
      intro s' C
      refine x_append C (by tb_start) (by rw [sizeLine_eq]; omega) ?_
      intro s' C
      rw [hnx, show symOf 44 = 12 from rfl]
      refine ⟨ds ++ [.int ((12 : Nat) : Int) 364], ia_snoc hds, ?_⟩
      show Cx w B g ((Cc, rLoc []) :: (D, rLst (ds ++ [.int 12 364])) :: _ :: _ :: _) _
      exact C.loc _ (by tb_start) (by kts_caughtN) (by simp only [List.map]; decide)
    · rw [if_neg (by
        intro e
        have e := beq_iff_eq.mp e
        rw [comma_eq] at e
        injection e with e
        injection e with e
        injection e with e
        exact hc e)]
      repeat kts_caught
      refine x_ord (by assumption) ?_
      intro t s' C
      repeat kts_caught
      rename_i C
      rw [show (256 : Int) + (c : Int) - 97 = ((symOf c : Nat) : Int) by unfold symOf; rw [if_neg hc]; omega] at *
      refine x_append C (by tb_start) (by rw [sizeLine_eq]; omega) ?_
      intro s' C
      rw [hnx]
      exact ⟨_, ia_snoc hds, C.loc _ (by tb_start) (by kts_caughtN) (by simp only [List.map]; decide)⟩
  · rintro s' ⟨ds, hds, C⟩
    refine x_end_str R.hh C (by tb_start) (Nat.le_refl _) ?_
    intro s' C
    refine ⟨rfl, ?_⟩
    rw [List.take_of_length_le (by simp)] at hds
    have hlen : ds.length ≤ 1000 := by rw [ia_len hds, zs_len]; simp; omega
    repeat kts_caught
    refine x_cat (by assumption) (Cx.plain (by assumption) (by ktr_rel)) (Cx.plain (by assumption) (by ktr_rel)) (by rw [sizeLine_eq, List.length_singleton]; omega) ?_
    intro sy s' C
    have hsy := ia_snoc (x := 0) (t := 352) hds
    have hall : ∀ y ∈ x.cps.toList.map symOf ++ [0], y = 12 ∨ y = 0 ∨ (256 ≤ y ∧ y ≤ 400) := by
      intro y hy
      rcases List.mem_append.mp hy with hy | hy
      · obtain ⟨c, hc, rfl⟩ := List.mem_map.mp hy
        unfold symOf
        rcases hx c hc with rfl | ⟨h1, h2⟩
        · exact .inl rfl
        · rw [if_neg (by omega)]; exact .inr (.inr (by omega))
      · rw [List.mem_singleton.mp hy]; exact .inr (.inl rfl)
    have hmo : masksOf x.cps.toList = ((x.cps.toList.map symOf ++ [0]).foldl mkStep ([], 0)).1 := rfl
    have hln : (x.cps.toList.map symOf ++ [0]).length ≤ 1001 := by simp; omega
    generalize x.cps.toList.map symOf ++ [0] = sl at hsy hall hmo hln
    rw [show ds ++ [Value.int ((0 : Nat) : Int) 352] = ds ++ [Value.int 0 352] from rfl] at hsy
    generalize ds ++ [Value.int 0 352] = sv at hsy C
    obtain ⟨g1, k1, hso, C⟩ := C.freeze1 .hd
    have hsl := isList_of hso
    refine x_iter_list C (C.fl hsl) ?_
    intro J s' C
    have C := C.loc [("masks", _), ("mask", _)] (by tb_start) (by kts_caughtN) (by simp only [List.map]; decide)
    refine x_loop (fun i s' => ∃ mv t ml, IntsAre mv (zs ((sl.take i).foldl mkStep ([], 0)).1) ∧ mv.length ≤ i ∧
      Cx w B g1 ((J, rLit sy i) :: (ml, rLst mv) :: (L, rLoc [("masks", .ref ml), ("mask", .int (((sl.take i).foldl mkStep ([], 0)).2 : Nat) t)]) :: rs) s') sl.length ?_ ?_ ⟨[], _, _, .nil, Nat.le_refl _, C.sel (rs' := _ :: _ :: (L, rLoc [("masks", _), ("mask", .int 0 _)]) :: rs) (by kwd_rel)⟩
    · rintro i s' hi ⟨mv, t, ml, hmv, hml, C⟩
      obtain ⟨u, hu⟩ := ia_getN hsy hi
      refine x_next_list C (by tb_start) (C.fl hsl) hu ?_
      intro s' C
      refine ⟨_, rfl, ?_⟩
      have hst := foldl_take_succ mkStep 0 sl i ([], 0) hi
      have hy := hall (sl.getD i 0) (by rw [List.getD_eq_getElem?_getD, List.getElem?_eq_getElem hi]; exact List.getElem_mem hi)
      generalize sl.getD i 0 = y at hy hst C
      generalize (sl.take i).foldl mkStep ([], 0) = st at hmv hst C
      generalize (sl.take (i + 1)).foldl mkStep ([], 0) = st' at hst ⊢
      subst hst
      have hy1 : ((y : Int) == 12) = decide (y = 12) := by
        rw [Bool.eq_iff_iff, beq_iff_eq, decide_eq_true_eq]; omega
      have hy2 : ((y : Int) == 0) = decide (y = 0) := by
        rw [Bool.eq_iff_iff, beq_iff_eq, decide_eq_true_eq]; omega
      repeat kts_caught
      by_cases h256 : 256 ≤ y
      · rw [if_pos (decide_eq_true (by omega))]
        repeat kts_caught
        refine c_lshift (by ktr_room) (by assumption) (by omega) (by omega) (by decide) ?_
        intro t2 s' C
        rw [show (1 : Int) * 2 ^ ((y : Int) - 256).toNat = ((2 ^ (y - 256) : Nat) : Int) by
          rw [Int.one_mul, show ((y : Int) - 256).toNat = y - 256 by omega]; push_cast; rfl]
        repeat kts_caught
        rw [hy1, if_neg (by rw [decide_eq_true_eq]; omega)]
        repeat kts_caught
        rw [hy2]
        rw [if_neg (by rw [decide_eq_true_eq]; omega)]
        repeat kts_caught
        rename_i C
        have e : mkStep st y = (st.1, st.2 ||| 2 ^ (y - 256)) := by unfold mkStep; rw [if_neg (by omega), if_pos h256]
        rw [e]
        exact ⟨mv, _, ml, hmv, by omega, C.loc _ (by tb_start) (by kts_caughtN) (by simp only [List.map]; decide)⟩
      · rw [if_neg (fun h => h256 (by have := of_decide_eq_true h; omega))]
        have e : mkStep st y = (st.1 ++ [st.2], 0) := by unfold mkStep; rw [if_pos (by omega), if_neg h256]
        rw [e]
        repeat kts_caught
        rw [hy1]
        by_cases h12 : y = 12
        · rw [if_pos (decide_eq_true h12)]
          repeat kts_caught
          refine x_append (by assumption) (by tb_start) (by rw [sizeLine_eq]; omega) ?_
          intro s' C
          repeat kts_caught
          rename_i C
          have C := C.loc [("masks", _), ("mask", _)] (by tb_start) (by kts_caughtN) (by simp only [List.map]; decide)
          exact ⟨_, _, ml, ia_snoc hmv, by simp; omega, C⟩
        · rw [if_neg (by rw [decide_eq_true_eq]; exact h12)]
          repeat kts_caught
          rw [hy2]
          rw [if_pos (decide_eq_true (by omega))]
          repeat kts_caught
          refine x_append (by assumption) (by tb_start) (by rw [sizeLine_eq]; omega) ?_
          intro s' C
          repeat kts_caught
          rename_i C
          have C := C.loc [("masks", _), ("mask", _)] (by tb_start) (by kts_caughtN) (by simp only [List.map]; decide)
          exact ⟨_, _, ml, ia_snoc hmv, by simp; omega, C⟩
    · rintro s' ⟨mv, t, ml, hmv, hml, C⟩
      rw [List.take_length] at hmv C
      refine x_end_list R.hh C (by tb_start) (C.fl hsl) (by rw [ia_len hsy, zs_len]; exact Nat.le_refl _) ?_
      intro s' C
      refine ⟨rfl, ?_⟩
      repeat kts_caught
      rw [← hmo] at hmv
      rename_i C
      exact h _ _ _ hmv ((C.thaw k1 W).sel (by kwd_rel))
end
end
section
open PySem.W PySem.Calls PyProof.Rows Builtin Builtin.ObjectAttr
noncomputable def KV (e : DictEntry) (p : Str × Value) : Prop := (∃ t, e.key = .str p.1 t) ∧ e.val = p.2
inductive KVs : List DictEntry → List (Str × Value) → Prop
  | nil : KVs [] []
  | cons {e p xs l} : KV e p → KVs xs l → KVs (e :: xs) (p :: l)
/-- the dict of an object of the class -/
noncomputable def rAttr (l : List (Str × Value)) : Res := fun o => ∃ es n, o = { cls := .type "dict", data := .dict es n } ∧ KVs es.toList l
noncomputable def rEq (o : Obj) : Res := fun o' => o' = o
theorem lookIn_attr {l : List (Str × Value)} {o : Obj} (h : rAttr l o) (name : Str) : lookIn name o = some (l.lookup name) := by
  obtain ⟨es, n, rfl, hf⟩ := h
  have key : ∀ (xs : List DictEntry) (l : List (Str × Value)), KVs xs l → (xs.find? (·.key.isStr name)).map (fun e : DictEntry => e.val) = l.lookup name ∧ xs.any (·.refKey) = false := by
    intro xs l h
    induction h with
    | nil => exact ⟨rfl, rfl⟩
    | @cons e p xs l hp _ ih =>
      obtain ⟨⟨t, hk⟩, hv⟩ := hp
      obtain ⟨k, v⟩ := p
      dsimp only at hk hv
      constructor
      · rw [List.find?_cons, List.lookup_cons, hk]
        show ((match (k == name) with | true => some e | false => _).map (fun e : DictEntry => e.val) : Option Value) = _
        by_cases hkn : k = name
        · subst hkn; simp [hv]
        · have h1 : (k == name) = false := beq_eq_false_iff_ne.mpr hkn
          have h2 : (name == k) = false := beq_eq_false_iff_ne.mpr (Ne.symm hkn)
          rw [h1, h2]; exact ih.1
      · rw [List.any_cons, ih.2, Bool.or_false]
        unfold DictEntry.refKey
        rw [hk]
  obtain ⟨h1, h2⟩ := key _ _ hf
  unfold lookIn
  dsimp only
  cases hfi : es.toList.find? (·.key.isStr name) with
  | some e => rw [hfi] at h1; rw [← h1]; rfl
  | none => rw [hfi] at h1; rw [← h1, h2]; rfl
theorem putName_attr {l : List (Str × Value)} {o : Obj} (h : rAttr l o) {name : Str} (hn : l.lookup name = none) (hs : Int) (t : Tok) (v : Value) : rAttr (l ++ [(name, v)]) (Obj.putName name hs (.str name t) v o) := by
  obtain ⟨es, n, rfl, hf⟩ := h
  rw [Obj.putName_eq]
  unfold Obj.putNameByArray
  have : es.findIdx? (·.key.isStr name) = none := by
    rw [Array.findIdx?_eq_none_iff]
    have key : ∀ (xs : List DictEntry) (l : List (Str × Value)), KVs xs l → l.lookup name = none → ∀ x ∈ xs, x.key.isStr name = false := by
      intro xs l h
      induction h with
      | nil => intro _ x hx; cases hx
      | @cons e p xs l hp _ ih =>
        obtain ⟨⟨t, hk⟩, hv⟩ := hp
        obtain ⟨k, v⟩ := p
        dsimp only at hk hv
        intro hl x hx
        rw [List.lookup_cons] at hl
        have hne : (name == k) = false := by
          cases hb : name == k with
          | true => rw [hb] at hl; cases hl
          | false => rfl
        rw [hne] at hl
        rcases List.mem_cons.mp hx with rfl | hx
        · rw [hk]; exact beq_eq_false_iff_ne.mpr fun e => (beq_eq_false_iff_ne.mp hne) e.symm
        · exact ih hl x hx
    exact fun x hx => key _ _ hf hn x (Array.mem_def.mp hx)
  dsimp only
  rw [this]
  refine ⟨_, _, rfl, ?_⟩
  rw [Array.toList_push]
  have app : ∀ {xs : List DictEntry} {l : List (Str × Value)} {e : DictEntry} {p : Str × Value}, KVs xs l → KV e p → KVs (xs ++ [e]) (l ++ [p]) := by
    intro xs l e p h hp
    induction h with
    | nil => exact .cons hp .nil
    | cons h1 _ ih => exact .cons h1 ih
  exact app hf ⟨⟨t, rfl⟩, rfl⟩
theorem kvs_noref {xs : List DictEntry} {l : List (Str × Value)} (hf : KVs xs l) : xs.any (·.refKey) = false := by
  induction hf with
  | nil => rfl
  | cons hp _ ih =>
    obtain ⟨⟨t, hk⟩, _⟩ := hp
    rw [List.any_cons, ih, Bool.or_false]
    unfold DictEntry.refKey; rw [hk]
theorem attr_size {l : List (Str × Value)} {o : Obj} (h : rAttr l o) : o.isFreed = false := by
  obtain ⟨es, n, rfl, _⟩ := h; rfl
section
variable {prog : Program} {w : World} {A : Around} {E : Value → Shared → Prop} {s s' : Shared} {env : Env} {B : Shared} {g : Heap} {rs rs' : Rs} {x dx : Addr} {l : List (Str × Value)}
theorem x_osa {name : Str} {tk : Tok} {v : Value} {R : Result → Shared → Prop} (C : Cx w B g rs s) (hx : (x, rEq (instObj 132 dx)) ∈ rs) (u : Upd rs dx (rAttr l) (rAttr (l ++ [(name, v)])) rs') (hn : l.lookup name = none) (hsz : l.length ≤ 900)
    (hp : plainOver (KP w.params) 132 = true) (ht : takerIn (KP w.params) 132 name = some none) (hh : (clsIn (KP w.params) 132).any (·.hasDict) = true)
    (h : ∀ s', Cx w B g rs' s' → R (.ok (.ret .none)) s') : codeAny (model prog w) A (.call (.builtin "object.__setattr__") ⟨[.ref x, .str name tk, v], []⟩) R s := by
  have X := C.kin
  obtain ⟨ox, hox, hoe⟩ := C.get hx
  obtain rfl : ox = instObj 132 dx := hoe
  obtain ⟨od, hod, hoa⟩ := C.get u.mem
  have I : InstAt s.heap x (instObj 132 dx) 132 (some od) := ⟨hox, rfl, rfl, hod⟩
  have hxd : x ≠ dx := fun e => by
    subst e
    rw [hox] at hod
    cases hod
    obtain ⟨_, _, e, _⟩ := hoa
    cases e
  refine osa_open X I hp ht fun b => ?_
  obtain ⟨cd, hc, hd'⟩ := any_some hh
  refine wpAny_bind (wpAny_pure (wpAny_bind (wpAny_bind (wpAny_loadPart hox (wpAny_bind ((looks_clsIn X hc).here ?_))))))
  rw [hd']
  refine wpAny_pure (a := some dx) (wpAny_bind (wpAny_pure (wpAny_bind ?_)))
  unfold nsSet
  refine wpAny_bind (wpAny_bind (wpAny_askSetting (wpAny_pure (wpAny_bind (wpAny_mkText (wpAny_bind (wpAny_loadPart hod ?_)))))))
  have hput := putName_attr hoa hn (PyData.keyHash w.params name) s.toks v
  have hfr := attr_size hput
  obtain ⟨es, n, rfl, hf⟩ := hoa
  dsimp only
  have c : (!es.any (·.key.isStr name) && es.any (·.refKey)) = false := by
    have : es.any (·.refKey) = false := by rw [← Array.any_toList]; exact kvs_noref hf
    rw [this, Bool.and_false]
  rw [aRefKeyMayBeTheName_at, c]
  refine wpAny_updatePart hod ?_
  have D' := Heap.get?_update_self (h := s.heap) (a := dx) (Obj.putName name (PyData.keyHash w.params name) (.str name s.toks) v) hod hfr
  have hlen : ∀ {xs l}, KVs xs l → xs.length = l.length := by
    intro xs l h
    induction h with
    | nil => rfl
    | cons _ _ ih => simp [ih]
  refine wpAny_bind (wpAny_lookBehind D' ?_ ?_)
  · obtain ⟨es', n', e', hf'⟩ := hput
    rw [e']
    refine pastItsLine_dict ?_
    rw [← Array.length_toList, hlen hf', List.length_append, sizeLine_eq, List.length_singleton]; omega
  · exact wpAny_pure (h _ (C.upd u (fun b o hb e => (Heap.get?_update_ne _ _ _ _ hb).trans e) ⟨_, D', hput⟩ _))
theorem ws_set (P : Params) : findIn (KP P) (.ref 132) "__setattr__" = some (some (.builtin "object.__setattr__")) := by kernel_rfl
theorem ws_get (P : Params) : findIn (KP P) (.ref 132) "__getattribute__" = some (some (.builtin "object.__getattribute__")) := by kernel_rfl
theorem ws_getattr (P : Params) : findIn (KP P) (.ref 132) "__getattr__" = some none := by kernel_rfl
theorem ws_plain (P : Params) : plainOver (KP P) 132 = true := by kernel_rfl
theorem ws_dict (P : Params) : (clsIn (KP P) 132).any (·.hasDict) = true := by kernel_rfl
theorem ws_makes (P : Params) : makesIn (KP P) 132 = true := by kernel_rfl
theorem ws_init (P : Params) : findIn (KP P) (.ref 132) "__init__" = some (some (.ref 87)) := by kernel_rfl
theorem ws_ifn (P : Params) : typeIn (KP P) (.ref 87) = some (.type "function") := by kernel_rfl
theorem ws_equal (P : Params) : findIn (KP P) (.ref 132) "equal" = some (some (.ref 108)) := by kernel_rfl
theorem ws_efn (P : Params) : typeIn (KP P) (.ref 108) = some (.type "function") := by kernel_rfl
theorem x_setAttr {name : Str} {v : Value} {Q : Unit → Shared → Prop} (C : Cx w B g rs s) (hx : (x, rEq (instObj 132 dx)) ∈ rs) (u : Upd rs dx (rAttr l) (rAttr (l ++ [(name, v)])) rs') (hn : l.lookup name = none) (hsz : l.length ≤ 900)
    (ht : takerIn (KP w.params) 132 name = some none) (h : ∀ s', Cx w B g rs' s' → Q () s') : wpAny (model prog w) A (setAttr (.ref x) name v) Q E s := by
  obtain ⟨ox, hox, hoe⟩ := C.get hx
  obtain rfl : ox = instObj 132 dx := hoe
  obtain ⟨od, hod, hoa⟩ := C.get u.mem
  exact set_plain (K := KP w.params) (C := 132) (od := some od) C.kin ⟨hox, rfl, rfl, hod⟩ (ws_set _) (x_osa (C.tok _) hx u hn hsz (ws_plain _) ht (ws_dict _) h)
/-- a call that may change what the caller owns -/
theorem x_enterCode {B : Shared} {g : Heap} {rs : Rs} {f : Addr} {nm qn : Str} {ps : Arguments} {body : List Stmt} {sc : Scope} {dv kv dc pm cd ct oc : Value} {an od : Option Addr} {osl : Array (Option Value)} {vals : List Value} (parms : List Str) (binds : List (Str × Value)) {R' : Result → Shared → Prop}
    (R : A.depth < recursionLimit) (C : Cx w B g rs s) (hK : (KP w.params).lookup f = some { cls := oc, dict := od, data := .func { name := nm, qualname := qn, params := ps, body := .stmts body, scope := sc, globals := mainGlobals, closure := [], defaults := dv, kwdefaults := kv, doc := dc, pyModule := pm, annotations := an, code := cd, closureTuple := ct, builtins := builtinsNs }, slots := osl })
    (hcd : codeIn (KP w.params) cd qn = true)
    (hbind : bindArgs { name := nm, qualname := qn, params := ps, body := .stmts body, scope := sc, globals := mainGlobals, closure := [], defaults := dv, kwdefaults := kv, doc := dc, pyModule := pm, annotations := an, code := cd, closureTuple := ct, builtins := builtinsNs } ⟨vals, []⟩ = pure binds)
    (hz : binds.map (·.1) = parms) (hcell : ∀ x ∈ sc.names, x.2 ≠ .cell) (hloc' : ∀ x ∈ parms, sc.names.lookup x = some .local) (hnd' : parms.Nodup)
    (h : ∀ L s' q cd, 208 ≤ L → Cx w B g ((L, rLoc binds) :: rs) s' →
      wpAny (model prog w) (A.deeper (envP sc L q f cd)) (execs body (envP sc L q f cd)) (fun fl s'' => R' (.ok (.ret (retOf fl))) s'') (fun _ _ => False) s')
    (hco : sc.isCoroutine = false := by rfl) (hgen : sc.isGenerator = false := by rfl) (hk : sc.kind = .function := by rfl) :
    codeAny (model prog w) A (.call (.ref f) ⟨vals, []⟩) R' s := by
  have hloc : ∀ x ∈ binds, sc.names.lookup x.1 = some .local := fun x hx => hloc' _ (hz ▸ List.mem_map_of_mem hx)
  have hnd : (binds.map (·.1)).Nodup := hz ▸ hnd'
  have W := C.wfs
  refine codeAny_call_def (binds := binds) R (W.kin _ _ hK) rfl W.nolimit (codeRec_of W.kin hcd) rfl (BindsTo.of_eq hbind) hcell hloc (fun h₀ hn hk₀ => ?_) hco hgen hk
  have C' : Cx w B g ((s.heap.objs.size, rLoc binds) :: rs) { s with heap := h₀, toks := s.toks + binds.length } := by
    obtain ⟨o, ho, hr⟩ := rLoc_of_ns (vs := binds) hn hnd (by
      intro p hp
      have hnn : (binds.reverse.map (·.1)).Nodup := by rw [List.map_reverse]; exact List.pairwise_reverse.mpr (hnd.imp fun h => Ne.symm h)
      clear hbind hloc h hn hz hnd
      have hp' : p ∈ binds.reverse := List.mem_reverse.mpr hp
      generalize binds.reverse = l at hnn hp'
      induction l with
      | nil => cases hp'
      | cons q r ih =>
        obtain ⟨k, v⟩ := q
        simp only [List.map_cons, List.nodup_cons] at hnn
        rw [List.lookup_cons]
        rcases List.mem_cons.mp hp' with rfl | hp'
        · simp
        · have : p.1 ≠ k := fun e => hnn.1 (by rw [← e]; exact List.mem_map_of_mem hp')
          have hb : (p.1 == k) = false := beq_eq_false_iff_ne.mpr this
          rw [hb]
          exact ih hnn.2 hp')
    refine C.add hk₀ ?_ ho hr _
    cases e : s.heap.get? s.heap.objs.size with
    | none => rfl
    | some o' => exact absurd (Heap.lt_size e) (Nat.lt_irrefl _)
  refine wpAny_mono (h _ _ _ _ (big_of_K W) C') (fun fl s'' hq => ?_) fun _ _ x => x.elim
  cases fl <;> exact hq
theorem ws_S (P : Params) : findCls (KP P) (.ref 132) (.type "type") "S" = some (.val (.str " " 271)) := by kernel_rfl
theorem ws_T (P : Params) : findCls (KP P) (.ref 132) (.type "type") "T" = some (.val (.str "\t" 272)) := by kernel_rfl
theorem ws_reads (P : Params) : readsIn (KP P) 132 (.type "type") = true := by kernel_rfl
theorem x_clsAttr {name : Str} {v : Value} {expr : Bool} {Q : Value → Shared → Prop} (C : Cx w B g rs s) (e : findCls (KP w.params) (.ref 132) (.type "type") name = some (.val v)) (hh : handedIn v = true) (h : ∀ s', Cx w B g rs s' → Q v s') :
    wpAny (model prog w) A (getAttr (.ref 132) name expr) Q E s := cls_value C.kin (ws_reads _) e hh (h _ (C.tok _))
theorem x_assignAt {o value : Expr} {attr : Str} {pos' pos : Pos} {rest : List Stmt} {Q : Flow → Shared → Prop} {M : Model}
    (h : wpAny M A (eval value env) (fun v s₁ => wpAny M A (eval o env) (fun ov s₂ => wpAny M A (setAttr ov attr v) (fun _ s₃ => wpAny M A (execs rest env) Q E s₃) E s₂) E s₁) E s)
    (hs : swapsWith value (some (.Attribute o attr pos')) pos.line env = pure false := by rfl) : wpAny M A (execs (.Assign [.Attribute o attr pos'] value pos :: rest) env) Q E s := x_seq (plainObj_wpAny_Assign_Attribute h hs)
theorem x_bindName {y : Str} {v : Value} {Q : Unit → Shared → Prop} {M : Model} (h : wpAny M A (storeName env y v) Q E s) : wpAny M A (bindName env y v) Q E s := by
  exact wpAny_bindName h
theorem x_swap2 {elts : List Expr} {k : Nat} {tpos pos : Pos} {value : Expr} {rest : List Stmt} {Q : Flow → Shared → Prop} {a b : Str} (hh : A.handled = none)
    (h : wpAny (model prog w) A (eval value env) (fun v s₁ => ∃ t u₁ u₂, ∃ (w' : World) (B : Shared) (g : Heap) (rs : Rs), v = .ref t ∧ s₁.heap.IsTuple t (List.toArray [u₁, u₂]) ∧ Cx w' B g rs s₁ ∧ ∀ s', Cx w' B g rs s' →
      wpAny (model prog w) A (storeName env b u₂) (fun _ s₂ => wpAny (model prog w) A (storeName env a u₁) (fun _ s₃ => wpAny (model prog w) A (execs rest env) Q E s₃) E s₂) E s') E s)
    (hs : swapsWithSole [.Tuple elts k tpos] value pos.line env = pure false := by rfl) (hw : swappedStores [.Tuple elts k tpos] value env = pure (some [a, b]) := by rfl) :
    wpAny (model prog w) A (execs (.Assign [.Tuple elts k tpos] value pos :: rest) env) Q E s := by
  refine x_seq (Assign_Tuple_swapped (wpAny_mono h (fun v s₁ h₁ => ?_) fun _ _ x => x) hs hw)
  obtain ⟨t, u₁, u₂, w', B, g, rs, rfl, ht, C, hQ⟩ := h₁
  refine wpAny_unpackItems_tuple (items := (List.toArray [u₁, u₂])) hh ht fun h' hx => ?_
  have h2 := hQ _ (C.grow (le_of_extSize hx) s₁.toks)
  show wpAny _ _ (assignInOrder [bindName env b, bindName env a] [u₂, u₁]) _ _ _
  exact wpAny_assignInOrder_more (x_bindName (wpAny_mono h2 (fun _ s₂ h₃ => wpAny_assignInOrder_more (x_bindName (wpAny_mono h₃ (fun _ s₃ q => wpAny_assignInOrder_none q) fun _ _ x => x))) fun _ _ x => x))
theorem x_assign3 {t₁ t₂ t₃ value : Expr} {pos : Pos} {rest : List Stmt} {Q : Flow → Shared → Prop} {M : Model}
    (h : wpAny M A (eval value env) (fun v s₁ => wpAny M A (assign t₁ env v) (fun _ s₂ => wpAny M A (assign t₂ env v) (fun _ s₃ => wpAny M A (assign t₃ env v) (fun _ s₄ => wpAny M A (execs rest env) Q E s₄) E s₃) E s₂) E s₁) E s)
    (he : (assignEach [t₁, t₂, t₃] env).map (·.2) = [assign t₁ env, assign t₂ env, assign t₃ env] := by rfl) (hw : swappedStores [t₁, t₂, t₃] value env = pure none := by rfl) : wpAny M A (execs (.Assign [t₁, t₂, t₃] value pos :: rest) env) Q E s :=
  x_seq (wpAny_Assign_three h he hw)
theorem x_brk {pos : Pos} {rest : List Stmt} {Q : Flow → Shared → Prop} {M : Model} (h : Q .brk s) : wpAny M A (execs (.Break pos :: rest) env) Q E s := x_seq (wpAny_Break h)
theorem x_setP {lp : Addr} {vs : List Value} {k : Nat} {t : Tok} {v : Value} {Q : Unit → Shared → Prop} (C : Cx w B g rs s) (u : Upd rs lp (rLst vs) (rLst (vs.set k v)) rs') (hn : k < vs.length) (hsm : vs.length ≤ 1000000)
    (h : ∀ s', Cx w B g rs' s' → Q () s') : wpAny (model prog w) A (setItem (.ref lp) (.int (k : Int) t) v) Q E s := by
  obtain ⟨o, ho, n, rfl⟩ := C.get u.mem
  refine ki_setAt ho (Int.natCast_nonneg k) (by omega) (by simpa using hn) (h _ (C.upd u (fun b o hb e => (Heap.get?_update_ne _ _ _ _ hb).trans e) ⟨_, Heap.get?_update_self _ ho rfl, n, ?_⟩ s.toks))
  simp [Obj.mapSeq]
theorem x_mulL {L lp : Addr} {vloc : List (Str × Value)} {vs : List Value} {n : Nat} {t : Tok} {Q : Value → Shared → Prop} (C : Cx w B g rs s) (hm : (L, rLoc vloc) ∈ rs) (hl : s.heap.IsList lp vs.toArray) (hn : n ≤ 256) (hsz : vs.length * n ≤ 256)
    (h : ∀ D s', Cx w B g ((D, rLst (List.replicate n vs).flatten) :: rs) s' → Q (.ref D) s') : wpAny (model prog w) A (binaryOp .Mult (.ref lp) (.int (n : Int) t)) Q E s := by
  obtain ⟨m, F, N, back⟩ := C.fr hm
  refine KMa.mul F N hl (by omega) (by omega) (by rw [Int.toNat_natCast]; exact hsz) rfl fun D h' F' N' hlt => ?_
  have C' := back h' _ F' N' (fun p hp => List.mem_cons_of_mem _ hp) s.toks
  have := h D _ (C.frAdd (r := rLst (List.replicate n vs).flatten) C' N' (.head _) hlt ⟨0, by rw [Int.toNat_natCast]⟩)
  exact this
/-- an object of the class, with its dict -/
noncomputable def InstW (h : Heap) (x : Addr) (l : List (Str × Value)) : Prop := ∃ dx od, h.get? x = some (instObj 132 dx) ∧ h.get? dx = some od ∧ rAttr l od
theorem InstW.keeps {h h' : Heap} {x : Addr} {l : List (Str × Value)} (I : InstW h x l) (k : Le h h') : InstW h' x l := let ⟨dx, od, a, b, c⟩ := I; ⟨dx, od, k _ _ a, k _ _ b, c⟩
theorem Cx.instW (C : Cx w B g rs s) (hx : (x, rEq (instObj 132 dx)) ∈ rs) (hd : (dx, rAttr l) ∈ rs) : InstW s.heap x l := by
  obtain ⟨ox, hox, hoe⟩ := C.get hx
  obtain rfl : ox = instObj 132 dx := hoe
  obtain ⟨od, hod, hoa⟩ := C.get hd
  exact ⟨dx, od, hox, hod, hoa⟩
theorem x_getAttr {name : Str} {v : Value} {expr : Bool} {Q : Value → Shared → Prop} (C : Cx w B g rs s) (I : InstW s.heap x l) (hl : l.lookup name = some v) (hh : handedIn v = true) (hf : findIn (KP w.params) (.ref 132) name = some none)
    (h : ∀ s', Cx w B g rs s' → Q v s') : wpAny (model prog w) A (getAttr (.ref x) name expr) Q E s := by
  obtain ⟨dx, od, hox, hod, hoa⟩ := I
  refine get_value (K := KP w.params) (C := 132) (od := some od) C.kin ⟨hox, rfl, rfl, hod⟩ (ws_get _) ?_ hh (h _ (C.tok _))
  obtain ⟨cd, hc, hd⟩ := any_some (ws_dict w.params)
  unfold findObj
  rw [hc, Option.bind_some, hf]
  simp only [Option.bind_some]
  unfold PySem.W.ownOf
  rw [if_pos hd]
  simp only [lookIn_attr hoa, hl, Option.bind_some]
end
end
section
open PySem.W PySem.Calls PyProof.Rows
noncomputable def wsStep (st : List Nat × Nat) (c : Nat) : List Nat × Nat :=
  if c = 32 then (st.1, st.2 + 1) else ((if st.1.length ≤ st.2 then st.1 ++ List.replicate (st.2 - st.1.length + 1) 0 else st.1).set st.2 ((if st.1.length ≤ st.2 then st.1 ++ List.replicate (st.2 - st.1.length + 1) 0 else st.1).getD st.2 0 + 1), 0)
noncomputable def wsNorm (cps : List Nat) : List Nat × Nat := cps.foldl wsStep ([], 0)
noncomputable def WsAt (g : Heap) (v : Value) (N : List Nat × Nat) : Prop := ∃ i l p q us t, v = .ref i ∧ InstW g i l ∧ l.lookup ("norm" : Str) = some (.ref p) ∧ l.lookup ("equal" : Str) = none ∧ g.IsTuple p (List.toArray [.ref q, .int (N.2 : Nat) t]) ∧ g.IsTuple q (List.toArray us) ∧ IntsAre us (zs N.1)
theorem WsAt.keeps {g g' : Heap} {v : Value} {N : List Nat × Nat} (h : WsAt g v N) (k : Le g g') : WsAt g' v N :=
  let ⟨i, l, p, q, us, t, a, b, c, d, e, f, x⟩ := h; ⟨i, l, p, q, us, t, a, b.keeps k, c, d, isTuple_keeps e k, isTuple_keeps f k, x⟩
theorem ws_bounds1 (st : List Nat × Nat) (c m : Nat) (h1 : st.1.length ≤ m) (h2 : st.2 ≤ m) : (wsStep st c).1.length ≤ m + 1 ∧ (wsStep st c).2 ≤ m + 1 := by
  unfold wsStep
  split
  · exact ⟨by show st.1.length ≤ _; omega, by show st.2 + 1 ≤ _; omega⟩
  · refine ⟨?_, Nat.zero_le _⟩
    rw [List.length_set]
    split
    · rw [List.length_append, List.length_replicate]; omega
    · omega
theorem ws_boundsF : ∀ (l : List Nat) (st : List Nat × Nat) (m : Nat), st.1.length ≤ m → st.2 ≤ m → (l.foldl wsStep st).1.length ≤ m + l.length ∧ (l.foldl wsStep st).2 ≤ m + l.length
  | [], st, m, h1, h2 => ⟨h1, h2⟩
  | c :: r, st, m, h1, h2 => by
    have h := ws_bounds1 st c m h1 h2
    have := ws_boundsF r (wsStep st c) (m + 1) h.1 h.2
    rw [List.foldl_cons, List.length_cons]
    omega
theorem ws_bounds (l : List Nat) : (l.foldl wsStep ([], 0)).1.length ≤ l.length ∧ (l.foldl wsStep ([], 0)).2 ≤ l.length := by
  have := ws_boundsF l ([], 0) 0 (Nat.le_refl _) (Nat.le_refl _)
  omega
theorem ia_rep (n : Nat) (t : Tok) : IntsAre (List.replicate n [.int 0 t]).flatten (zs (List.replicate n 0)) := by
  induction n with
  | zero => exact .nil
  | succ n ih => exact .cons (0 : Int) t ih
theorem ia_cat {vs us : List Value} {xs ys : List Nat} (h : IntsAre vs (zs xs)) (k : IntsAre us (zs ys)) : IntsAre (vs ++ us) (zs (xs ++ ys)) := by
  have := IntsAre.append h k
  simpa [zs] using this
theorem ia_set {vs : List Value} {xs : List Nat} (h : IntsAre vs (zs xs)) (k : Nat) (t : Tok) : IntsAre (vs.set k (.int (((xs.getD k 0 : Nat) : Int) + 1) t)) (zs (xs.set k (xs.getD k 0 + 1))) := by
  have := IntsAre.setAt h k (((xs.getD k 0 : Nat) : Int) + 1) t
  rwa [show (zs xs).set k (((xs.getD k 0 : Nat) : Int) + 1) = zs (xs.set k (xs.getD k 0 + 1)) by simp [zs, List.map_set]] at this
section
variable {prog : Program} {w : World} {A : Around} {E : Value → Shared → Prop} {s s' : Shared} {env : Env} {B : Shared} {g : Heap} {rs rs' : Rs}
theorem tc_depth (A : Around) (C : Addr) (vals : List Value) (kw : List (Str × Value)) : (A.under (.builtin "type.__call__" ⟨.ref C :: vals, kw⟩)).depth = A.depth + 1 := rfl
theorem tc_units (A : Around) (C : Addr) (vals : List Value) (kw : List (Str × Value)) : (A.under (.builtin "type.__call__" ⟨.ref C :: vals, kw⟩)).units = A.units + 1 := rfl
theorem under_room {n : Nat} {C : Addr} {vals : List Value} {kw : List (Str × Value)} (R : Room (n + 1) A) : Room n (A.under (.builtin "type.__call__" ⟨.ref C :: vals, kw⟩)) := by
  have d := R.depth
  have u := R.units
  refine ⟨R.hh, ?_, ?_⟩
  · rw [tc_depth]; omega
  · rw [tc_units]; omega
theorem x_tupleOf {lp : Addr} {vs : List Value} {Q : Value → Shared → Prop} (C : Cx w B g rs s) (hl : s.heap.IsList lp vs.toArray) (hsz : vs.length ≤ 1000000) (h : ∀ D s', Cx w B g ((D, rTup vs) :: rs) s' → Q (.ref D) s') : wpAny (model prog w) A (call (.type "tuple") [.ref lp]) Q E s :=
  call_tuple_list hl (fun h' hk => h _ _ ((C.grow hk s.toks).push (r := rTup vs) { cls := .type "tuple", data := .seq vs.toArray } ⟨0, rfl⟩ rfl s.toks)) (by rw [sizeLine_eq]; simp; omega)
theorem c_ws {x : Str} {t : Tok} {Q : Value → Shared → Prop} (R : Room 3 A) (C : Cx w B g rs s) (hx : ∀ c ∈ x.cps.toList, c = 32 ∨ c = 9) (hsz : x.cps.size ≤ 100)
    (h : ∀ v g' s', Le g g' → WsAt g' v (wsNorm x.cps.toList) → Cx w B g' rs s' → Q v s') :
    wpAny (model prog w) A (call (.ref 132) [.str x t]) Q E s := by
  refine wpAny_call ?_
  refine make_core (makes_of C.kin (ws_makes _)) (looks_findIn C.kin (ws_init _)) (fun self => bind_fn C.kin self (ws_ifn _)) (.inl rfl) ?_
  have C1 := C.push (r := rAttr []) emptyDict ⟨#[], 0, rfl, .nil⟩
  have C2 := C1.push (r := rEq (instObj 132 s.heap.objs.size)) (instObj 132 s.heap.objs.size) rfl
  rw [Heap.size_push] at C2
  generalize s.heap.objs.size + 1 = i at *
  generalize s.heap.objs.size = dx at *
  refine x_enterCode ["self", "ws"] [("self", .ref i), ("ws", .str x t)] (under_room (R.le (k := 2) (by omega))).room C2 rfl (by kernel_rfl) rfl rfl (by decide) (by decide) (by decide) ?_
  intro L s' q cd hL C
  have RU := under_room (C := 132) (vals := [.str x t]) (kw := []) (R.le (k := 2) (by omega))
  refine x_assignAt ?_
  repeat kts_caught
  refine x_setAttr (by assumption) (by ktr_rel) (by tb_start) rfl (by decide) (by kernel_rfl) ?_
  intro s' C
  rw [List.nil_append] at C
  refine x_swap2 R.hh ?_
  repeat kts_caught
  refine x_clsAttr (by assumption) (ws_S _) (by decide) ?_
  intro s' C
  repeat kts_caught
  refine x_clsAttr (by assumption) (ws_T _) (by decide) ?_
  intro s' C
  repeat kts_caught
  rename_i C
  refine ⟨_, _, _, _, _, _, _, rfl, C.tup (by ktr_rel), C.drop .hd, ?_⟩
  intro s' C
  repeat kts_caught
  refine x_getAttr (by assumption) (Cx.instW (by assumption) (by ktr_rel) (by ktr_rel)) rfl rfl (by kernel_rfl) ?_
  intro s' C
  refine x_iter_str C ?_
  intro I s' C
  have C := C.loc [("self", _), ("S", _), ("T", _), ("count", _), ("b", _), ("n", _), ("nt", _)] (by tb_start) (by kts_caughtN) (by simp only [List.map]; decide)
  refine x_loop (fun k s' => ∃ us cl tb nn tn mm tm, IntsAre us (zs ((x.cps.toList.take k).foldl wsStep ([], 0)).1) ∧
    Cx w B g ((I, rSit x t k) :: (cl, rLst us) :: (L, rLoc [("self", .ref i), ("S", .str " " 271), ("T", .str "\t" 272), ("count", .ref cl), ("b", .int (((x.cps.toList.take k).foldl wsStep ([], 0)).2 : Nat) tb), ("n", .int nn tn), ("nt", .int mm tm)]) :: (i, rEq (instObj 132 dx)) :: (dx, rAttr [("raw", .str x t)]) :: rs) s') x.cps.size ?_ ?_
    ⟨[], _, _, _, _, _, _, .nil, C.sel (rs' := _ :: _ :: (L, rLoc [("self", .ref i), ("S", .str " " 271), ("T", .str "\t" 272), ("count", .ref _), ("b", .int 0 _), ("n", .int _ _), ("nt", .int _ _)]) :: (i, rEq (instObj 132 dx)) :: (dx, rAttr [("raw", .str x t)]) :: rs) (by kwd_rel)⟩
  · rintro k s' hk ⟨us, cl, tb, nn, tn, mm, tm, hus, C⟩
    refine x_next_str C (by tb_start) (Array.getElem?_eq_getElem hk) ?_
    intro t' s' C
    refine ⟨_, rfl, ?_⟩
    have hc := hx x.cps[k] (by simp)
    have hk' : k < x.cps.toList.length := by simpa using hk
    have hst := foldl_take_succ wsStep 0 x.cps.toList k ([], 0) hk'
    rw [show x.cps.toList.getD k 0 = x.cps[k] by simp [List.getD_eq_getElem?_getD, hk]] at hst
    have hb : (((x.cps.toList.take k).foldl wsStep ([], 0)).1).length ≤ k ∧ ((x.cps.toList.take k).foldl wsStep ([], 0)).2 ≤ k := by
      have := ws_bounds (x.cps.toList.take k)
      have h2 : (x.cps.toList.take k).length ≤ k := by rw [List.length_take]; omega
      omega
    generalize x.cps[k] = c at hc hst C
    generalize (x.cps.toList.take k).foldl wsStep ([], 0) = st at hus hst C hb
    generalize (x.cps.toList.take (k + 1)).foldl wsStep ([], 0) = st' at hst ⊢
    subst hst
    repeat kts_caught
    rcases hc with rfl | rfl
    · rw [if_pos (by rfl)]
      rw [show wsStep st 32 = (st.1, st.2 + 1) from rfl]
      repeat kts_caught
      rename_i C
      have C := C.loc [("self", _), ("S", _), ("T", _), ("count", _), ("b", _), ("n", _), ("nt", _)] (by tb_start) (by kts_caughtN) (by simp only [List.map]; decide)
      exact ⟨us, cl, _, _, _, _, _, hus, C⟩
    · rw [if_neg (by decide)]
      repeat kts_caught
      rw [if_pos (by rfl)]
      repeat kts_caught
      have hul : us.length = st.1.length := by rw [ia_len hus, zs_len]
      refine x_len (by assumption) (Cx.lst (by assumption) (by ktr_rel)) (by omega) ?_
      intro t3 s' C
      rw [hul]
      repeat kts_caught
      by_cases hge : st.1.length ≤ st.2
      · rw [if_pos (decide_eq_true (by omega))]
        have e : wsStep st 9 = ((st.1 ++ List.replicate (st.2 - st.1.length + 1) 0).set st.2 ((st.1 ++ List.replicate (st.2 - st.1.length + 1) 0).getD st.2 0 + 1), 0) := by
          unfold wsStep; rw [if_neg (by decide), if_pos hge]
        rw [e]
        repeat kts_caught
        refine x_len (by assumption) (Cx.lst (by assumption) (by ktr_rel)) (by omega) ?_
        intro t4 s' C
        rw [hul]
        repeat kts_caught
        rw [show (st.2 : Int) - (st.1.length : Int) + 1 = ((st.2 - st.1.length + 1 : Nat) : Int) by omega] at *
        refine x_mulL (L := L) (by assumption) (by ktr_rel) (Cx.lst (by assumption) (by ktr_rel)) (by omega) (by rw [List.length_singleton]; omega) ?_
        intro D s' C
        repeat kts_caught
        refine x_cat (by assumption) (Cx.plain (by assumption) (by ktr_rel)) (Cx.plain (by assumption) (by ktr_rel)) (by rw [sizeLine_eq]; simp; omega) ?_
        intro cl2 s' C
        have hcl : st.2 < (st.1 ++ List.replicate (st.2 - st.1.length + 1) 0).length := by rw [List.length_append, List.length_replicate]; omega
        obtain ⟨as, has, C⟩ : ∃ as, IntsAre as (zs (st.1 ++ List.replicate (st.2 - st.1.length + 1) 0)) ∧ Cx w B g ((cl2, rLst as) :: _) s' := ⟨_, ia_cat hus (ia_rep _ _), C⟩
        have hcm : (st.1 ++ List.replicate (st.2 - st.1.length + 1) 0).length ≤ 300 := by rw [List.length_append, List.length_replicate]; omega
        generalize st.1 ++ List.replicate (st.2 - st.1.length + 1) 0 = cnt at has hcl hcm ⊢
        have hal : as.length = cnt.length := by rw [ia_len has, zs_len]
        obtain ⟨ta, ea⟩ := ia_getN has hcl
        repeat kts_caught
        refine x_idx (Cx.lst (by assumption) (by ktr_rel)) (by omega) ea ?_
        repeat kts_caught
        refine x_setP (by assumption) (by tb_start) (by omega) (by omega) ?_
        intro s' C
        repeat kts_caught
        rename_i C
        have C := C.loc [("self", _), ("S", _), ("T", _), ("count", _), ("b", _), ("n", _), ("nt", _)] (by tb_start) (by kts_caughtN) (by simp only [List.map]; decide)
        refine ⟨_, _, _, _, _, _, _, ia_set has st.2 _, C.sel (rs' := (I, _) :: (_, rLst _) :: (L, rLoc [("self", .ref i), ("S", .str " " 271), ("T", .str "\t" 272), ("count", .ref _), ("b", .int 0 _), ("n", .int _ _), ("nt", .int _ _)]) :: (i, rEq (instObj 132 dx)) :: (dx, rAttr [("raw", .str x t)]) :: rs) (by kwd_rel)⟩
      · rw [if_neg (fun h => hge (by have := of_decide_eq_true h; omega))]
        have e : wsStep st 9 = (st.1.set st.2 (st.1.getD st.2 0 + 1), 0) := by
          unfold wsStep; rw [if_neg (by decide), if_neg hge]
        rw [e]
        have hcl : st.2 < st.1.length := by omega
        have has := hus
        have hcm : st.1.length ≤ 300 := by omega
        generalize st.1 = cnt at has hcl hcm ⊢
        repeat kts_caught
        have hal : us.length = cnt.length := by rw [ia_len has, zs_len]
        obtain ⟨ta, ea⟩ := ia_getN has hcl
        repeat kts_caught
        refine x_idx (Cx.lst (by assumption) (by ktr_rel)) (by omega) ea ?_
        repeat kts_caught
        refine x_setP (by assumption) (by tb_start) (by omega) (by omega) ?_
        intro s' C
        repeat kts_caught
        rename_i C
        have C := C.loc [("self", _), ("S", _), ("T", _), ("count", _), ("b", _), ("n", _), ("nt", _)] (by tb_start) (by kts_caughtN) (by simp only [List.map]; decide)
        refine ⟨_, _, _, _, _, _, _, ia_set has st.2 _, C.sel (rs' := (I, _) :: (_, rLst _) :: (L, rLoc [("self", .ref i), ("S", .str " " 271), ("T", .str "\t" 272), ("count", .ref _), ("b", .int 0 _), ("n", .int _ _), ("nt", .int _ _)]) :: (i, rEq (instObj 132 dx)) :: (dx, rAttr [("raw", .str x t)]) :: rs) (by kwd_rel)⟩
  · rintro s' ⟨us, cl, tb, nn, tn, mm, tm, hus, C⟩
    have hlen : x.cps.toList.length = x.cps.size := Array.length_toList
    rw [List.take_of_length_le (by omega)] at hus C
    have hb := ws_bounds x.cps.toList
    refine x_end_str R.hh C (by tb_start) (Nat.le_refl _) ?_
    intro s' C
    refine ⟨rfl, ?_⟩
    have hN : wsNorm x.cps.toList = x.cps.toList.foldl wsStep ([], 0) := rfl
    rw [← hN] at hus C hb
    generalize wsNorm x.cps.toList = N at hus C hb h
    have hul : us.length = N.1.length := by rw [ia_len hus, zs_len]
    repeat kts_caught
    refine x_setAttr (by assumption) (by ktr_rel) (by tb_start) rfl (by simp) (by kernel_rfl) ?_
    intro s' C
    repeat kts_caught
    refine x_setAttr (by assumption) (by ktr_rel) (by tb_start) rfl (by simp) (by kernel_rfl) ?_
    intro s' C
    repeat kts_caught
    refine x_tupleOf (by assumption) (Cx.lst (by assumption) (by ktr_rel)) (by omega) ?_
    intro q1 s' C
    repeat kts_caught
    refine x_setAttr (by assumption) (by ktr_rel) (by tb_start) rfl (by simp) (by kernel_rfl) ?_
    intro s' C
    repeat kts_caught
    refine x_len (by assumption) (Cx.lst (by assumption) (by ktr_rel)) (by omega) ?_
    intro t3 s' C
    repeat kts_caught
    refine x_setAttr (by assumption) (by ktr_rel) (by tb_start) rfl (by simp) (by kernel_rfl) ?_
    intro s' C
    repeat kts_caught
    refine ⟨rfl, ?_⟩
    have C := C.sel (rs' := (q1, rTup us) :: (_, rTup [.ref q1, .int (N.2 : Nat) _]) :: (i, rEq (instObj 132 dx)) :: (dx, rAttr _) :: rs) (by kwd_rel)
    obtain ⟨g1, k1, hq, C⟩ := C.freeze1 .hd
    obtain ⟨g2, k2, hp, C⟩ := C.freeze1 .hd
    obtain ⟨g3, k3, ⟨oi, hoi, hie⟩, C⟩ := C.freeze1 .hd
    obtain ⟨g4, k4, ⟨od, hod, hda⟩, C⟩ := C.freeze1 .hd
    obtain rfl : oi = instObj 132 dx := hie
    exact h (.ref i) g4 _ (k1.trans (k2.trans (k3.trans k4))) ⟨i, _, _, q1, us, _, rfl, ⟨dx, od, k4 _ _ hoi, hod, hda⟩, rfl, rfl, isTuple_keeps (isTuple_of hp) (k3.trans k4), isTuple_keeps (isTuple_of hq) (k2.trans (k3.trans k4)), hus⟩ C
end
end
section
open PySem.W PySem.Calls PyProof.Rows PySem.SeqAt
theorem alleq (a b : List Nat) : ((List.range (min a.length b.length)).all (fun j => ((a.getD j 0 : Nat) : Int) == ((b.getD j 0 : Nat) : Int)) && a.length == b.length) = decide (a = b) := by
  rw [Bool.eq_iff_iff]
  simp only [Bool.and_eq_true, List.all_eq_true, List.mem_range, beq_iff_eq, decide_eq_true_eq]
  constructor
  · rintro ⟨h, hl⟩
    refine List.ext_getElem hl fun i h1 h2 => ?_
    have := h i (by omega)
    simp only [List.getD_eq_getElem?_getD, List.getElem?_eq_getElem h1, List.getElem?_eq_getElem h2, Option.getD_some] at this
    exact_mod_cast this
  · rintro rfl
    exact ⟨fun _ _ => rfl, rfl⟩
section
variable {prog : Program} {w : World} {A : Around} {E : Value → Shared → Prop} {s s' : Shared} {env : Env} {B : Shared} {g : Heap} {rs rs' : Rs}
theorem tuple_uniq {h : Heap} {q : Addr} {us vs : List Value} (h1 : h.IsTuple q us.toArray) (h2 : h.IsTuple q vs.toArray) : us = vs := by
  obtain ⟨o, ho, _, n, hd⟩ := h1
  obtain ⟨o', ho', _, n', hd'⟩ := h2
  rw [ho] at ho'
  cases ho'
  rw [hd] at hd'
  injection hd' with e _
  simpa using congrArg Array.toList e
theorem ia_uniq {us : List Value} {xs ys : List Int} (h : IntsAre us xs) (k : IntsAre us ys) : xs = ys := by
  induction h generalizing ys with
  | nil => cases k; rfl
  | cons x t _ ih => cases k with | cons y u r => rw [ih r]
theorem eq_tups {q q' : Addr} {us us' : List Value} {a b : List Nat} (h1 : s.heap.IsTuple q us.toArray) (h2 : s.heap.IsTuple q' us'.toArray) (i1 : IntsAre us (zs a)) (i2 : IntsAre us' (zs b)) (hu : A.units < cLine) : EqAt A s (.ref q) (.ref q') (decide (a = b)) := by
  by_cases hq : q = q'
  · subst hq
    have := tuple_uniq h1 h2
    subst this
    have := zs_inj (ia_uniq i1 i2)
    subst this
    rw [decide_eq_true rfl]
    exact EqAt.same _
  · refine EqAt.of_refs hq ?_
    rw [← alleq]
    have hl1 : us.length = a.length := by rw [ia_len i1, zs_len]
    have hl2 : us'.length = b.length := by rw [ia_len i2, zs_len]
    have := RcAt.tuples (e := fun j => ((a.getD j 0 : Nat) : Int) == ((b.getD j 0 : Nat) : Int)) h1 h2 hu fun j k1 k2 => by
      simp only [List.size_toArray] at k1 k2
      obtain ⟨t, e⟩ := ia_getN i1 (i := j) (by omega)
      obtain ⟨t', e'⟩ := ia_getN i2 (i := j) (by omega)
      rw [List.getElem?_eq_getElem k1] at e
      rw [List.getElem?_eq_getElem k2] at e'
      injection e with e
      injection e' with e'
      simp only [List.getElem_toArray, e, e']
      exact EqAt.int_int _ _ _ _
    simpa only [List.size_toArray, hl1, hl2] using this
theorem c_equal {v v' : Value} {N N' : List Nat × Nat} {Q : Value → Shared → Prop} (R : Room 2 A) (C : Cx w B g rs s) (h1 : WsAt g v N) (h2 : WsAt g v' N') (h : ∀ s', Cx w B g rs s' → Q (.bool (decide (N = N'))) s') :
    wpAny (model prog w) A (call (.ref 108) [v, v']) Q E s := by
  obtain ⟨i, l, p, q, us, t, rfl, hi, hl, hle, hp, hq, hus⟩ := h1
  obtain ⟨i', l', p', q', us', t', rfl, hi', hl', hle', hp', hq', hus'⟩ := h2
  refine x_enterC ["self", "other"] [("self", .ref i), ("other", .ref i')] R.room C rfl (by kernel_rfl) rfl rfl (by decide) (by decide) (by decide) ?_
  intro L s' q0 cd hL C
  repeat kts_caught
  refine x_getAttr (by assumption) (hi.keeps (Cx.keep (by assumption))) hl rfl (by kernel_rfl) ?_
  intro s' C
  repeat kts_caught
  refine x_getAttr (by assumption) (hi'.keeps (Cx.keep (by assumption))) hl' rfl (by kernel_rfl) ?_
  intro s' C
  refine eq_tupleAt (e := fun j => if j = 0 then decide (N.1 = N'.1) else ((N.2 : Int) == (N'.2 : Int))) (C.ft hp) (C.ft hp') (Room.u (n := 1) (R.deeper _)) (fun j k1 k2 => ?_) ?_
  · match j, k1, k2 with
    | 0, _, _ =>
      refine eq_tups (C.ft hq) (C.ft hq') hus hus' ?_
      have := R.units
      simp only [Around.in1, Around.deeper]
      omega
    | 1, _, _ => exact EqAt.int_int _ _ _ _
    | j + 2, k1, _ => simp at k1; omega
  · have e : ((List.range (min (List.toArray [Value.ref q, .int (N.2 : Nat) t]).size (List.toArray [Value.ref q', .int (N'.2 : Nat) t']).size)).all (fun j => if j = 0 then decide (N.1 = N'.1) else ((N.2 : Int) == (N'.2 : Int)))
        && (List.toArray [Value.ref q, .int (N.2 : Nat) t]).size == (List.toArray [Value.ref q', .int (N'.2 : Nat) t']).size) = decide (N = N') := by
      show ((List.range 2).all _ && true) = _
      rw [Bool.eq_iff_iff]
      simp [List.range_succ, Prod.ext_iff]
      exact fun _ => by omega
    rw [e]
    exact h _ (C.drop .hd)
end
end
section
open PySem.W PySem.Calls PyProof.Rows PySem.SeqAt
open AutoSeq1 (wpAny_loadPart')
section
variable {prog : Program} {w : World} {A : Around} {E : Value → Shared → Prop} {s s' : Shared}
theorem nextOf_tuple_item {it t : Addr} {i : Nat} {items : Array Value} {x : Value} {Q : Value → Shared → Prop} (hit : s.heap.IsTupleIter it t i) (ht : s.heap.IsTuple t items) (hx : items[i]? = some x)
    (hQ : ∀ h', h'.IsTupleIter it t (i + 1) → Heap.SameBut it s.heap h' → Q x { s with heap := h' }) : wpAny (model prog w) A (Builtin.SmallTypes.nextOf (.ref it)) Q E s := by
  obtain ⟨o, ho, hc, hd⟩ := id hit
  obtain ⟨ol, hol, _, nl, hdl⟩ := ht
  unfold Builtin.SmallTypes.nextOf
  refine wpAny_bind (wpAny_callSpecial?_slot (name := Str.ofString "__next__") hit.typeIs F.slot_tuple_iterator_next
    (wpAny_call_entry F.slot_tuple_iterator_next hit.typeIs F.entry_tuple_iterator_next ?_ (F.args_tuple_iterator_next_1 _)))
  show wpAny _ _ (field (.ref it) 0 >>= _) _ _ s
  refine wpAny_bind (wpAny_field ho hd (x := .ref t) rfl ?_)
  show wpAny _ _ (if (Value.ref t == Value.none) = true then _ else _) _ _ s
  rw [if_neg (show ¬ ((Value.ref t == Value.none) = true) from Bool.false_ne_true)]
  show wpAny _ _ (field (.ref it) 1 >>= _) _ _ s
  refine wpAny_bind (wpAny_field ho hd (x := .int i 0) rfl ?_)
  show wpAny _ _ (seqItems? (.ref t) >>= _) _ _ s
  refine wpAny_bind (wpAny_seqItems hol hdl ?_)
  simp only [Int.toNat_natCast, hx]
  refine wpAny_bind (wpAny_setField ho hd (by simp) (wpAny_pure ⟨x, rfl, wpAny_pure (hQ _ ?_ (Heap.SameBut.update ..))⟩))
  exact ⟨_, Heap.get?_update_self _ ho (Obj.isFreed_of_fields (Obj.data_mapFields hd _)), (Obj.cls_mapFields ..).trans hc, by
    rw [Obj.data_mapFields hd]; simp [rawInt]⟩
theorem meets_enumerate_newT (l : Addr) (items : Array Value) (n : Nat) (dct : Option Addr) (sl : Array (Option Value)) :
    Meets (Builtin.«enumerate.__new__» ⟨[.type "enumerate", .ref l], []⟩) (fun _ R s => s.heap.get? l = some { cls := .type "tuple", dict := dct, data := .seq items n, slots := sl } ∧
      R (.ok (.ret (.ref (s.heap.push { cls := .type "tuple_iterator", data := .fields #[.ref l, .int 0 0] }).objs.size)))
        { s with heap := (s.heap.push { cls := .type "tuple_iterator", data := .fields #[.ref l, .int 0 0] }).push { cls := .type "enumerate", data := .fields #[.none, .bool false, .ref s.heap.objs.size, rawInt 0, .none, .none] } }) :=
  .of_wp fun prog w A R s h => by
    obtain ⟨hp, g, d, tk, os⟩ := s; obtain ⟨hl, h⟩ := h
    have hsub := sub_enumerate
    have hL : Heap.IsTuple (Shared.heap ⟨hp, g, d, tk, os⟩) l items := ⟨_, hl, rfl, n, rfl⟩
    wp_walk using wpAny_loadPart' hl
    refine wpAny_stack_any fun st => wpAny_pure ?_
    split
    · rename_i c _ _ _ _ _
      cases (c == Value.type "enumerate")
      · wp_walk using wpAny_loadPart' hl, wpAny_pyIter_tuple hL
        exact ⟨_, rfl, h⟩
      · wp_walk using wpAny_loadPart' hl, wpAny_pyIter_tuple hL
        exact ⟨_, rfl, h⟩
    · wp_walk using wpAny_loadPart' hl, wpAny_pyIter_tuple hL
      exact ⟨_, rfl, h⟩
theorem nextOf_tuple_end {it t : Addr} {i : Nat} {items : Array Value} {Q : Value → Shared → Prop} (hh : A.handled = none) (hit : s.heap.IsTupleIter it t i) (ht : s.heap.IsTuple t items) (hx : items[i]? = none)
    (hE : ∀ h' e, Heap.ExtBut it s.heap h' → (∃ o, h'.get? e = some o ∧ o.cls = .type "StopIteration") → E (.ref e) { s with heap := h' }) : wpAny (model prog w) A (Builtin.SmallTypes.nextOf (.ref it)) Q E s := by
  obtain ⟨o, ho, hc, hd⟩ := id hit
  obtain ⟨ol, hol, _, nl, hdl⟩ := ht
  unfold Builtin.SmallTypes.nextOf
  refine wpAny_bind (wpAny_callSpecial?_slot (name := Str.ofString "__next__") hit.typeIs F.slot_tuple_iterator_next
    (wpAny_call_entry F.slot_tuple_iterator_next hit.typeIs F.entry_tuple_iterator_next ?_ (F.args_tuple_iterator_next_1 _)))
  show wpAny _ _ (field (.ref it) 0 >>= _) _ _ s
  refine wpAny_bind (wpAny_field ho hd (x := .ref t) rfl ?_)
  show wpAny _ _ (if (Value.ref t == Value.none) = true then _ else _) _ _ s
  rw [if_neg (show ¬ ((Value.ref t == Value.none) = true) from Bool.false_ne_true)]
  show wpAny _ _ (field (.ref it) 1 >>= _) _ _ s
  refine wpAny_bind (wpAny_field ho hd (x := .int i 0) rfl ?_)
  show wpAny _ _ (seqItems? (.ref t) >>= _) _ _ s
  refine wpAny_bind (wpAny_seqItems hol hdl ?_)
  simp only [Int.toNat_natCast, hx]
  refine wpAny_bind (wpAny_rule (wpAny_bind (wpAny_setField ho hd (by simp) ?_)))
  show wpAny _ _ (newExc (.type "StopIteration") [] >>= _) _ _ _
  refine wpAny_bind ?_
  simp only [newExc, newTuple]
  refine wpAny_bind (wpAny_newObj_type ?_ (by size_fits))
  refine wpAny_bind (m := firstArgMember _ _) (wpAny_of_eq (a := Value.none) (by first | rfl | (simp only [firstArgMember]; rfl)) ?_)
  refine wpAny_newObj_type ?_ (by size_fits)
  simp only [raiseNew]
  refine wpAny_bind (wpAny_handled ?_)
  first | rw [show A.in1.handled = none from hh] | rw [hh]
  refine wpAny_bind (wpAny_pure (wpAny_throw ?_))
  exact hE _ _ (((Heap.SameBut.update ..).extBut.push _).push _) ⟨_, Heap.get?_push_size _ rfl, rfl⟩
theorem drawsTuple (hh : A.handled = none) (it l : Addr) (hne : l ≠ it) (items : Array Value) :
    Draws prog w A it [it, l] items.size (fun i v => items[i]? = some v) (fun i h => h.IsTupleIter it l i ∧ h.IsTuple l items) where
  live := fun _ _ st => let ⟨o, ho, _⟩ := st.1; ⟨o, ho⟩
  frame := fun _ _ _ st hk => ⟨let ⟨o, ho, r⟩ := st.1; ⟨o, hk it (by simp) o ho, r⟩, let ⟨o, ho, r⟩ := st.2; ⟨o, hk l (by simp) o ho, r⟩⟩
  item := fun i s Q E hi st hQ => by
    refine nextOf_tuple_item st.1 st.2 (x := items[i]) (by simp [hi]) fun h' hit' hs' => ?_
    exact hQ _ h' s.toks (by simp [hi]) ⟨hit', st.2.extBut hs'.extBut hne⟩ hs'
  done := fun s Q E st hE => nextOf_tuple_end hh st.1 st.2 (by simp) hE
theorem call_enumerate_tup {l : Addr} {items : Array Value} {Q : Value → Shared → Prop} (hL : s.heap.IsTuple l items)
    (h : ∀ h', IsEnum h' (s.heap.objs.size + 1) s.heap.objs.size 0 .none → h'.IsTupleIter s.heap.objs.size l 0 → h'.objs.size = s.heap.objs.size + 2 →
      (∀ b o, s.heap.get? b = some o → h'.get? b = some o) → Q (.ref (s.heap.objs.size + 1)) { s with heap := h' }) :
    wpAny (model prog w) A (call (.type "enumerate") [.ref l]) Q E s := by
  obtain ⟨⟨c, dct, dt, sl⟩, hl, hc, n, hd⟩ := hL
  replace hc : c = .type "tuple" := hc
  replace hd : dt = .seq items n := hd
  subst hc hd
  refine callType_new F.called_enumerate (by decide) (F.typeCall_enumerate_1 _) (F.newCall_enumerate_1 _) (fun obj => F.args_object_init_2 obj _) F.entry_enumerate_new
    (meets_enumerate_newT l items n dct sl) ⟨hl, ?_⟩
  have hz : (s.heap.push { cls := .type "tuple_iterator", data := .fields #[.ref l, .int 0 0] }).objs.size = s.heap.objs.size + 1 := Heap.size_push ..
  show _ ∧ _
  rw [hz]
  have he : IsEnum ((s.heap.push { cls := .type "tuple_iterator", data := .fields #[.ref l, .int 0 0] }).push
      { cls := .type "enumerate", data := .fields #[.none, .bool false, .ref s.heap.objs.size, rawInt 0, .none, .none] }) (s.heap.objs.size + 1) s.heap.objs.size 0 .none := by
    have := Heap.get?_push_size (s.heap.push { cls := .type "tuple_iterator", data := .fields #[.ref l, .int 0 0] })
      (o := { cls := .type "enumerate", data := .fields #[.none, .bool false, .ref s.heap.objs.size, rawInt 0, .none, .none] }) rfl
    rw [hz] at this; exact this
  refine ⟨⟨_, he, rfl⟩, h _ he ⟨_, Heap.get?_push_of_some _ (Heap.get?_push_size _ rfl), rfl, rfl⟩ (by rw [Heap.size_push, hz]) fun b o x => Heap.get?_push_of_some _ (Heap.get?_push_of_some _ x)⟩
noncomputable def rTit (l : Addr) (i : Nat) : Res := fun o => o.cls = .type "tuple_iterator" ∧ o.data = .fields #[.ref l, .int i 0]
variable {env : Env} {B : Shared} {g : Heap} {rs rs' : Rs}
theorem x_enumT {l : Addr} {vs : List Value} {Q : Value → Shared → Prop} (C : Cx w B g rs s) (h1 : s.heap.IsTuple l vs.toArray) (h : ∀ e it s', Cx w B g ((e, rEnum it 0) :: (it, rTit l 0) :: rs) s' → Q (.ref e) s') :
    wpAny (model prog w) A (call (.type "enumerate") [.ref l]) Q E s := by
  refine call_enumerate_tup h1 fun h' he hi hsz hk => ?_
  obtain ⟨o1, ho1, hr1⟩ := hi
  have nn : ∀ k, s.heap.get? (s.heap.objs.size + k) = none := fun k => by
    cases e : s.heap.get? (s.heap.objs.size + k) with
    | none => rfl
    | some o => exact absurd (Heap.lt_size e) (Nat.not_lt.mpr (Nat.le_add_right _ _))
  have C1 := C.add (a := s.heap.objs.size) (r := rTit l 0) hk (nn 0) ho1 hr1 s.toks
  refine h _ _ _ (C1.cons he ⟨_, rfl⟩ ?_ ?_)
  · cases e : g.get? (s.heap.objs.size + 1) with
    | none => rfl
    | some o' => have := C.keep _ _ e; rw [nn 1] at this; cases this
  · intro hm
    rcases List.mem_cons.mp hm with e | hm
    · exact absurd e (Nat.succ_ne_self _)
    · exact absurd (C.lt _ hm) (Nat.not_lt.mpr (Nat.le_succ _))
theorem x_next_enumT {e it l : Addr} {k : Nat} {vs : List Value} {x : Value} {a b : Str} {pa pb tp : Pos} {ct : Nat} {K : Unit → Shared → Prop} (hh : A.handled = none) (C : Cx w B g rs s) (u : Rms rs [(e, rEnum it k), (it, rTit l k)] rs')
    (h1 : g.IsTuple l vs.toArray) (hx : vs[k]? = some x)
    (h : ∀ t s', Cx w B g ((e, rEnum it (k + 1)) :: (it, rTit l (k + 1)) :: rs') s' → wpAny (model prog w) A (storeName env a (.int (k : Int) t)) (fun _ s₁ => wpAny (model prog w) A (storeName env b x) K nE s₁) nE s') :
    wpAny (model prog w) A (pyNext (.ref e)) (fun r s₁ => ∃ v, r = some v ∧ wpAny (model prog w) A (letOwnedTupleGo (.Tuple [.Name a pa, .Name b pb] ct tp) (.ref e) v) (fun _ s₁' => wpAny (model prog w) A (assign (.Tuple [.Name a pa, .Name b pb] ct tp) env v) K nE s₁') nE s₁) nE s := by
  have nd := u.nodup C.nd
  obtain ⟨_, he, old, rfl⟩ := C.get (u.mem _ (.head _))
  obtain ⟨o1, ho1, hr1⟩ := C.get (u.mem _ (.tail _ (.head _)))
  have hne : e ≠ it := by
    simp only [List.map_cons, List.map_nil, List.nodup_cons, List.mem_singleton] at nd
    exact nd.1
  have gn1 := C.gnone (u.mem _ (.head _))
  have gn2 := C.gnone (u.mem _ (.tail _ (.head _)))
  have hlit : l ≠ it := fun z => by obtain ⟨o, ho, _⟩ := h1; rw [z, gn2] at ho; cases ho
  have hle : e ≠ l := fun z => by obtain ⟨o, ho, _⟩ := h1; rw [← z, gn1] at ho; cases ho
  have hlt : k < vs.toArray.size := by
    rcases Nat.lt_or_ge k vs.length with q | q
    · simpa using q
    · rw [List.getElem?_eq_none q] at hx; cases hx
  have D := drawsTuple (prog := prog) (w := w) (A := A.in1) hh it l hlit vs.toArray
  refine wpAny_pyNext_enum_itemD D he ⟨⟨o1, ho1, hr1⟩, C.ft h1⟩ hlt hne (by simp [hne, hle]) fun y h' tk hy he' hst hT hsz hk => ⟨_, rfl, ?_⟩
  have hyx : y = x := by
    have : vs[k]? = some y := by simpa using hy
    rw [hx] at this; exact (Option.some.inj this).symm
  subst hyx
  refine wpAny_letOwnedTupleGo_enum he' fun h'' he'' hs => ?_
  obtain ⟨⟨p1, q1, r1⟩, _⟩ := hst
  have C2 : Cx w B g ([(e, rEnum it (k + 1)), (it, rTit l (k + 1))] ++ rs') { s with heap := h'', toks := tk + 1 } := by
    refine C.region u [(e, rEnum it (k + 1)), (it, rTit l (k + 1))] rfl (fun c o hc e' => ?_) ?_ _
    · simp only [List.map_cons, List.map_nil, List.mem_cons, not_or, List.not_mem_nil, not_false_eq_true, and_true] at hc
      exact hs.extBut c o hc.1 (hk c o hc.1 hc.2 e')
    · intro p hp
      simp only [List.mem_cons, List.not_mem_nil, or_false] at hp
      rcases hp with rfl | rfl
      · exact ⟨_, he'', y, by rw [show ((k + 1 : Nat) : Int) = (k : Int) + 1 from rfl]⟩
      · exact ⟨_, hs.extBut _ _ (Ne.symm hne) q1, r1⟩
  have hTt : ({ s with heap := h'', toks := tk + 1 } : Shared).heap.IsTuple s.heap.objs.size ([.int (k : Int) tk, y] : List Value).toArray := ⟨_, hs.extBut _ _ (Nat.ne_of_gt (Heap.lt_size he)) hT, rfl, _, rfl⟩
  exact x_unpack hh C2 hTt fun s' C => x_two (h _ s' C)
theorem x_end_enumT {e it l : Addr} {k : Nat} {vs : List Value} {Q : Option Value → Shared → Prop} (hh : A.handled = none) (C : Cx w B g rs s) (u : Rms rs [(e, rEnum it k), (it, rTit l k)] rs')
    (h1 : g.IsTuple l vs.toArray) (hx : vs.length = k) (h : ∀ s', Cx w B g rs' s' → Q none s') : wpAny (model prog w) A (pyNext (.ref e)) Q E s := by
  obtain ⟨_, he, old, rfl⟩ := C.get (u.mem _ (.head _))
  obtain ⟨o1, ho1, hr1⟩ := C.get (u.mem _ (.tail _ (.head _)))
  have gn2 := C.gnone (u.mem _ (.tail _ (.head _)))
  have hlit : l ≠ it := fun z => by obtain ⟨o, ho, _⟩ := h1; rw [z, gn2] at ho; cases ho
  have D := drawsTuple (prog := prog) (w := w) (A := A.in1) hh it l hlit vs.toArray
  refine wpAny_pyNext_enum_endD D he ⟨⟨o1, ho1, by rw [← hx] at hr1; simpa [rTit] using hr1⟩, C.ft h1⟩ fun h' hs => h _ ?_
  cases u with
  | cons u1 u2 => cases u2 with
    | cons u2 u3 => cases u3 with
      | nil => exact (C.drop u1).rm u2 hs s.toks
end
end
section
open PySem.W PySem.Calls PyProof.Rows
section
variable {prog : Program} {w : World} {A : Around} {E : Value → Shared → Prop} {s s' : Shared} {B : Shared} {g : Heap} {rs rs' : Rs}
theorem x_stradd {x y : Str} {t u : Tok} {Q : Value → Shared → Prop} (C : Cx w B g rs s) (hsz : x.length + y.length ≤ 1000000) (h : ∀ t s', Cx w B g rs s' → Q (.str (x ++ y) t) s') : wpAny (model prog w) A (binaryOp .Add (.str x t) (.str y u)) Q E s :=
  add_str (fun t' tk => h t' _ (C.tok tk)) (by rw [sizeLine_eq]; omega)
theorem x_join {D : Addr} {items : List Value} {x : Str} {t : Tok} {ys : List Str} {Q : Value → Shared → Prop} (C : Cx w B g rs s) (hl : s.heap.IsList D items.toArray) (hi : StrsAre items ys) (hsep : x.length ≤ 16) (hw : (ys.map (·.length)).sum + ys.length ≤ 1048576)
    (h : ∀ t s', Cx w B g rs s' → Q (.str (Txt.join x ys) t) s') : wpAny (model prog w) A (call (.builtin "str.join") [.str x t, .ref D]) Q E s :=
  join_listW hl (by simpa using hi) hsep hw fun t' k => h t' _ (C.tok k)
theorem mulok : ∀ n : Fin 5, MulOk ⟨#[32]⟩ ((n.val : Nat) : Int) := by unfold MulOk; decide +kernel
theorem spaces_eq : ∀ n : Fin 5, Txt.mul ⟨#[32]⟩ ((n.val : Nat) : Int) = ⟨(List.replicate n.val 32).toArray⟩ := by decide +kernel
theorem space_eq : Str.ofString " " = ⟨#[32]⟩ := by kernel_rfl
theorem tab_eq : Str.ofString "\t" = ⟨#[9]⟩ := by kernel_rfl
theorem x_spaces {n : Nat} {t u : Tok} {Q : Value → Shared → Prop} (C : Cx w B g rs s) (hn : n ≤ 4) (h : ∀ t s', Cx w B g rs s' → Q (.str ⟨(List.replicate n 32).toArray⟩ t) s') : wpAny (model prog w) A (binaryOp .Mult (.str " " t) (.int (n : Int) u)) Q E s := by
  show wpAny _ _ (binaryOp .Mult (.str (Str.ofString " ") t) _) _ _ _
  rw [space_eq]
  refine SB.mul (mulok ⟨n, by omega⟩) fun t' k => ?_
  rw [spaces_eq ⟨n, by omega⟩]
  exact h t' _ (C.tok k)
end
end
section
open PySem.W PySem.Calls PyProof.Rows
section
variable {prog : Program} {w : World} {A : Around} {E : Value → Shared → Prop} {s s' : Shared} {B : Shared} {g : Heap} {rs rs' : Rs}
theorem x_getMeth {v : Value} {N : List Nat × Nat} {pl : Sem Bool} {Q : Value × List Value → Shared → Prop} (C : Cx w B g rs s) (hv : WsAt g v N) (h : Q (.ref 108, [v]) s) : wpAny (model prog w) A (getMethod v "equal" pl) Q E s := by
  obtain ⟨i, l, p, q, us, t, rfl, hi, hl, hle, hp, hq, hus⟩ := hv
  obtain ⟨dx, od, hox, hod, hoa⟩ := hi.keeps C.keep
  refine method_fn (K := KP w.params) (C := 132) (od := some od) C.kin ⟨hox, rfl, rfl, hod⟩ (ws_get _) (ws_getattr _) (ws_equal _) (ws_efn _) ?_ h
  unfold shadowIn
  simp only [lookIn_attr hoa, hle]
  rfl
theorem fn108 (P : Params) : ∃ o fd, (KP P).lookup 108 = some o ∧ o.data = .func fd := ⟨_, _, rfl, rfl⟩
theorem x_callM {env : Env} {pos : Pos} {v : Value} {e : Expr} {rest : List Expr} {Q : Value → Shared → Prop}
    (h : wpAny (model prog w) A (spliced (backTo pos (starEach (e :: rest) env))) (fun vs s₁ => Wf w s₁.heap ∧ wpAny (model prog w) A (call (.ref 108) (v :: vs)) Q E s₁) E s)
    (he : starEach (e :: rest) env = (false, eval e env) :: starEach rest env := by rfl) (hplain : (backTo pos (starEach rest env)).any (·.1) = false := by rfl) :
    wpAny (model prog w) A (callWith pos (.ref 108) [v] (backTo pos (starEach (e :: rest) env)) []) Q E s := by
  rw [he]
  obtain ⟨o, fd, ho, hd⟩ := fn108 w.params
  rw [he] at h
  exact callWith_function_kw (o := o) (fd := fd) (evalArgs_plain (wpAny_mono h (fun vs s' q => ⟨⟨q.1.kin _ _ ho, hd⟩, q.2⟩) fun _ _ x => x))
end
end
section
noncomputable def szs (heap : Nat) : Nat := [0, 1, 1, 2, 1, 2, 2, 3, 1, 2, 2, 3, 2, 3, 3, 4].getD heap 0
noncomputable def leadCps (sizes : List Nat) : List Nat := sizes.flatMap fun z => List.replicate z 32 ++ [9]
noncomputable def kindOf (sizes : List Nat) : List Nat × Nat := wsNorm (leadCps sizes)
noncomputable def worthF (sums : List Int) : Nat → List Nat → Int → Int
  | _, [], a => a
  | k, m :: r, a => worthF sums (k + 1) r (a * sums.getD k 0 ^ m)
noncomputable def shapes : List (List Nat) := [[1, 1, 1, 1], [2, 1, 1], [2, 2], [3, 1], [4]]
noncomputable def kindsOf (sums : List Int) : List ((List Nat × Nat) × Int) := shapes.map fun z => (kindOf z, worthF sums 0 (kindOf z).1 1)
noncomputable def worthOf (sums : List Int) (heaps : List Nat) : Option Int := (((kindsOf sums).filter fun p => decide (p.1 = kindOf (heaps.map szs))).map (·.2)).head?
end
section
section
variable {prog : Program} {w : World} {A : Around} {E : Value → Shared → Prop} {s s' : Shared} {env : Env} {B : Shared} {g : Heap} {rs rs' : Rs}
theorem x_iter_tup {l : Addr} {vs : List Value} {Q : Value → Shared → Prop} (C : Cx w B g rs s) (hl : s.heap.IsTuple l vs.toArray) (h : ∀ I s', Cx w B g ((I, rTit l 0) :: rs) s' → Q (.ref I) s') : wpAny (model prog w) A (pyIter (.ref l)) Q E s :=
  wpAny_pyIter_tuple hl (h _ _ (C.push _ ⟨rfl, rfl⟩))
theorem x_next_tup {I l : Addr} {i : Nat} {vs : List Value} {v : Value} {Q : Option Value → Shared → Prop} (C : Cx w B g rs s) (u : Upd rs I (rTit l i) (rTit l (i + 1)) rs') (hl : s.heap.IsTuple l vs.toArray) (hx : vs[i]? = some v)
    (h : ∀ s', Cx w B g rs' s' → Q (some v) s') : wpAny (model prog w) A (pyNext (.ref I)) Q E s := by
  obtain ⟨o, ho, h1, h2⟩ := C.get u.mem
  refine wpAny_pyNext_tuple_item ⟨o, ho, h1, h2⟩ hl (by simpa using hx) fun h' hit hs => h _ (C.upd u hs.extBut ?_ s.toks)
  obtain ⟨o', ho', h1', h2'⟩ := hit
  exact ⟨o', ho', h1', h2'⟩
theorem x_end_tup {I l : Addr} {i : Nat} {vs : List Value} {Q : Option Value → Shared → Prop} (hh : A.handled = none) (C : Cx w B g rs s) (u : Rm rs I (rTit l i) rs') (hl : s.heap.IsTuple l vs.toArray) (hx : vs.length ≤ i)
    (h : ∀ s', Cx w B g rs' s' → Q none s') : wpAny (model prog w) A (pyNext (.ref I)) Q E s := by
  obtain ⟨o, ho, h1, h2⟩ := C.get u.mem
  exact wpAny_pyNext_tuple_end hh ⟨o, ho, h1, h2⟩ hl (by simpa using hx) fun h' hs => h _ (C.rm u hs s.toks)
theorem x_self_tup {I l : Addr} {i : Nat} (C : Cx w B g rs s) (hm : (I, rTit l i) ∈ rs) : ∀ (Q' : Value → Shared → Prop) (E' : Value → Shared → Prop), Q' (.ref I) s → wpAny (model prog w) A (pyIter (.ref I)) Q' E' s := by
  obtain ⟨o, ho, h1, h2⟩ := C.get hm
  exact fun Q' E' h => wpAny_pyIter_tupleiter (i := i) ⟨o, ho, h1, h2⟩ h
/-- a comprehension over a tuple, one item at a time -/
theorem x_cmapT {elt iter : Expr} {x : Str} {px : Pos} {scope : Scope} {pos : Pos} {R : Result → Shared → Prop} {Cc D I l : Addr} {items : List Value} (F : Heap → Nat → Value → Prop)
    (hh : A.handled = none) (C : Cx w B g ((Cc, rLoc []) :: (D, rLst []) :: (I, rTit l 0) :: rs) s) (hl : g.IsTuple l items.toArray) (hsz : items.length ≤ 1000000) (hF : ∀ g₁ g₂ i v, Le g₁ g₂ → F g₁ i v → F g₂ i v)
    (he : env.locals = Cc)
    (step : ∀ i v g₁ ys s', items[i]? = some v → Le g g₁ → Cx w B g₁ ((Cc, rLoc [(x, v)]) :: (D, rLst ys) :: (I, rTit l (i + 1)) :: rs) s' →
      wpAny (model prog w) A (eval elt env) (fun y s₄ => ∃ g₂, Le g₁ g₂ ∧ F g₂ i y ∧ Cx w B g₂ ((Cc, rLoc [(x, v)]) :: (D, rLst ys) :: (I, rTit l (i + 1)) :: rs) s₄) nE s')
    (fin : ∀ g₁ ys s', Le g g₁ → ys.length = items.length → (∀ (i : Nat) (y : Value), ys[i]? = some y → F g₁ i y) → Cx w B g₁ ((Cc, rLoc []) :: (D, rLst ys) :: rs) s' → R (.ok .next) s')
    (hk : env.scope.kind = .function := by rfl) (hkx : env.kindOf x = some .local := by rfl) :
    codeAny (model prog w) A (.compLoop (.ListComp elt [⟨.Name x px, iter, [], 0⟩] scope pos) 0 (.ref I) (.ref D) env) R s := by
  subst he
  refine x_cloop (fun i s' => ∃ g₁ ys, Le g g₁ ∧ ys.length = i ∧ (∀ (j : Nat) (y : Value), ys[j]? = some y → F g₁ j y) ∧ Cx w B g₁ ((env.locals, rLoc []) :: (D, rLst ys) :: (I, rTit l i) :: rs) s') items.length ?_ ?_ ⟨g, [], fun _ _ e => e, rfl, fun j y e => (by cases e), C⟩
  · rintro i s' hi ⟨g₁, ys, hg, hly, hys, C⟩
    obtain ⟨v, hv⟩ : ∃ v, items[i]? = some v := ⟨_, List.getElem?_eq_getElem hi⟩
    refine x_next_tup C (.tl (.tl .hd)) (C.ft (isTuple_keeps hl hg)) hv ?_
    intro s' C
    refine ⟨_, rfl, x_letgoN (x_assignN (x_store C .hd .nil (fun s' C => x_tests0 ?_) hk hkx))⟩
    refine (if_pos rfl).mpr ?_
    refine wpAny_mono (step i v g₁ ys s' hv hg C) (fun y s₄ q => ?_) fun _ _ x => x
    obtain ⟨g₂, hg2, hy, C⟩ := q
    refine x_append C (.tl .hd) (by rw [sizeLine_eq]; omega) fun s' C => ⟨g₂, ys ++ [y], hg.trans hg2, by simp [hly], ?_, C.weakAt .hd (rLoc_sub List.nodup_nil fun _ h => (nomatch h))⟩
    intro j z e
    rcases Nat.lt_or_ge j ys.length with hj | hj
    · rw [List.getElem?_append_left hj] at e
      exact hF _ _ _ _ hg2 (hys j z e)
    · rw [List.getElem?_append_right hj] at e
      have : j - ys.length = 0 := by
        rcases Nat.eq_zero_or_pos (j - ys.length) with h | h
        · exact h
        · rw [List.getElem?_eq_none (by simp; omega)] at e; cases e
      rw [this] at e
      cases e
      rw [show j = i by omega]
      exact hy
  · rintro s' ⟨g₁, ys, hg, hly, hys, C⟩
    refine x_end_tup hh C (.tl (.tl .hd)) (C.ft (isTuple_keeps hl hg)) (Nat.le_refl _) fun s' C => ⟨rfl, fin g₁ ys s' hg hly hys C⟩
end
end
section
noncomputable def leadStr (z : Nat) : Str := ⟨(List.replicate z 32).toArray⟩ ++ ⟨#[9]⟩
theorem empty_eq : Str.ofString "" = ⟨#[]⟩ := by kernel_rfl
theorem leadStr_cps (z : Nat) : (leadStr z).cps.toList = List.replicate z 32 ++ [9] := by
  show ((List.replicate z 32).toArray ++ #[9]).toList = _
  simp
theorem str_join0 : ∀ ys : List Str, (Str.join ⟨#[]⟩ ys).cps.toList = ys.flatMap fun y => y.cps.toList
  | [] => rfl
  | [x] => by show x.cps.toList = _; simp
  | x :: y :: r => by
    show (x.cps ++ #[] ++ (Str.join ⟨#[]⟩ (y :: r)).cps).toList = _
    have := str_join0 (y :: r)
    rw [List.flatMap_cons, ← this]
    simp
theorem lead_join (zl : List Nat) : (Txt.join ⟨#[]⟩ (zl.map leadStr)).cps.toList = leadCps zl := by
  unfold Txt.join
  rw [StrLaws.glued_eq_join, str_join0]
  unfold leadCps
  rw [List.flatMap_map]
  congr 1
  funext z
  exact leadStr_cps z
theorem leadStr_len (z : Nat) : (leadStr z).length = z + 1 := by
  show (leadStr z).cps.size = _
  rw [← Array.length_toList, leadStr_cps]; simp
theorem lead_sum {zl : List Nat} (h : ∀ z ∈ zl, z ≤ 4) (hl : zl.length ≤ 8) : ((zl.map leadStr).map (·.length)).sum + (zl.map leadStr).length ≤ 60 ∧ (leadCps zl).length ≤ 50 := by
  have key : ∀ zl : List Nat, (∀ z ∈ zl, z ≤ 4) → ((zl.map leadStr).map (·.length)).sum ≤ 5 * zl.length ∧ (leadCps zl).length ≤ 5 * zl.length := by
    intro zl
    induction zl with
    | nil => intro _; exact ⟨Nat.le_refl _, Nat.le_refl _⟩
    | cons z r ih =>
      intro h
      have h1 := ih fun y hy => h y (.tail _ hy)
      have h2 := h z (.head _)
      simp only [List.map_cons, List.sum_cons, leadStr_len, List.length_cons]
      constructor
      · omega
      · have : leadCps (z :: r) = (List.replicate z 32 ++ [9]) ++ leadCps r := rfl
        rw [this]
        simp only [List.length_append, List.length_replicate, List.length_singleton]
        omega
  have := key zl h
  simp only [List.length_map]
  omega
theorem lead_mem {zl : List Nat} : ∀ c ∈ leadCps zl, c = 32 ∨ c = 9 := by
  intro c hc
  obtain ⟨z, _, hz⟩ := List.mem_flatMap.mp hc
  rcases List.mem_append.mp hz with h | h
  · exact .inl (List.eq_of_mem_replicate h)
  · exact .inr (List.mem_singleton.mp h)
/-- a list of strs from a comprehension -/
theorem sa_of_get {vs : List Value} : ∀ {ys : List Str}, vs.length = ys.length → (∀ (k : Nat) (v : Value), vs[k]? = some v → ∃ t, v = .str (ys.getD k ⟨#[]⟩) t) → StrsAre vs ys := by
  induction vs with
  | nil => intro ys hl _; cases ys with | nil => exact .nil | cons => cases hl
  | cons v r ih =>
    intro ys hl hg
    cases ys with
    | nil => cases hl
    | cons x ys =>
      obtain ⟨t, e⟩ := hg 0 v rfl
      rw [e]
      exact .cons x t (ih (by simpa using hl) fun k u hu => hg (k + 1) u hu)
theorem worth_bits : ∀ (l : List Nat) (k : Nat) (a : Int) (sums : List Int) (m : Nat), (∀ x ∈ sums, x.natAbs < 2 ^ 60) → a.natAbs < 2 ^ m → (∀ z ∈ l, z ≤ 4) → (worthF sums k l a).natAbs < 2 ^ (m + 240 * l.length) := by
  intro l
  induction l with
  | nil => intro k a sums m _ ha _; simpa [worthF] using ha
  | cons z r ih =>
    intro k a sums m hs ha hz
    show (worthF sums (k + 1) r (a * sums.getD k 0 ^ z)).natAbs < _
    have hx : (sums.getD k 0).natAbs < 2 ^ 60 := by
      rw [List.getD_eq_getElem?_getD]
      cases e : sums[k]? with
      | none => decide
      | some x => exact hs x (List.mem_of_getElem? e)
    have hp : (sums.getD k 0 ^ z).natAbs ≤ 2 ^ 240 := by
      rw [Int.natAbs_pow]
      refine Nat.le_trans (Nat.pow_le_pow_left (Nat.le_of_lt hx) z) ?_
      rw [← Nat.pow_mul]
      exact Nat.pow_le_pow_right (by decide) (by have := hz z (.head _); omega)
    have := ih (k + 1) (a * sums.getD k 0 ^ z) sums (m + 240) hs (by
      rw [Int.natAbs_mul, Nat.pow_add]
      exact Nat.lt_of_le_of_lt (Nat.mul_le_mul_left _ hp) (Nat.mul_lt_mul_of_pos_right ha (Nat.two_pow_pos _))) fun y hy => hz y (.tail _ hy)
    rw [List.length_cons]
    rwa [show m + 240 * (r.length + 1) = m + 240 + 240 * r.length by omega]
theorem worthF_snoc : ∀ (l : List Nat) (k : Nat) (a : Int) (sums : List Int) (z : Nat), worthF sums k (l ++ [z]) a = worthF sums k l a * sums.getD (k + l.length) 0 ^ z := by
  intro l
  induction l with
  | nil => intro k a sums z; rfl
  | cons y r ih =>
    intro k a sums z
    show worthF sums (k + 1) (r ++ [z]) _ = worthF sums (k + 1) r _ * _
    rw [ih, List.length_cons, show k + (r.length + 1) = k + 1 + r.length by omega]
theorem intBits_small {x : Int} {n : Nat} (h : x.natAbs < 2 ^ n) : Builtin.Int.intBits x ≤ n := by
  unfold Builtin.Int.intBits
  split
  · exact Nat.zero_le _
  · rename_i hx
    have hx0 : x.natAbs ≠ 0 := by simpa using hx
    exact Nat.succ_le_of_lt ((Nat.log2_lt hx0).mpr h)
end
section
open PySem.W PySem.Calls PyProof.Rows
noncomputable def TupAt (g : Heap) (v : Value) (z : List Nat) : Prop := ∃ r us, v = .ref r ∧ g.IsTuple r (List.toArray us) ∧ IntsAre us (zs z)
theorem TupAt.keeps {g g' : Heap} {v : Value} {z : List Nat} (h : TupAt g v z) (k : Le g g') : TupAt g' v z := let ⟨r, us, a, b, c⟩ := h; ⟨r, us, a, isTuple_keeps b k, c⟩
theorem tupAt_of {g : Heap} {r : Addr} {us : List Value} {z : List Nat} (h : ∃ o, g.get? r = some o ∧ rTup us o) (i : IntsAre us (zs z)) : TupAt g (.ref r) z := ⟨r, us, rfl, isTuple_of h, i⟩
noncomputable def KindAt (g : Heap) (v : Value) (p : (List Nat × Nat) × Int) : Prop := ∃ r lv t, v = .ref r ∧ g.IsTuple r (List.toArray [lv, .int p.2 t]) ∧ WsAt g lv p.1
theorem KindAt.keeps {g g' : Heap} {v : Value} {p : (List Nat × Nat) × Int} (h : KindAt g v p) (k : Le g g') : KindAt g' v p := let ⟨r, lv, t, a, b, c⟩ := h; ⟨r, lv, t, a, isTuple_keeps b k, c.keeps k⟩
theorem filt1 (kp : (List Nat × Nat) × Int) (N : List Nat × Nat) : ([kp].filter fun p => decide (p.1 = N)).map (·.2) = if kp.1 = N then [kp.2] else [] := by
  by_cases h : kp.1 = N
  · rw [if_pos h, List.filter_cons, if_pos (decide_eq_true h)]; rfl
  · rw [if_neg h, List.filter_cons, if_neg (by simpa using h)]; rfl
theorem shapes_ok : ∀ z ∈ shapes, (∀ y ∈ z, y ≤ 4) ∧ z.length ≤ 8 ∧ (kindOf z).1.length ≤ 5 ∧ (∀ y ∈ (kindOf z).1, y ≤ 4) := by decide
section
variable {prog : Program} {w : World} {A : Around} {E : Value → Shared → Prop} {s s' : Shared} {env : Env} {B : Shared} {g : Heap} {rs rs' : Rs}
theorem x_letgoT {elts : List Expr} {k : Nat} {pos : Pos} {I l T : Addr} {i : Nat} {Q : Unit → Shared → Prop} (C : Cx w B g rs s) (hm : (I, rLit l i) ∈ rs) (h : Q () s) : wpAny (model prog w) A (letOwnedTupleGo (.Tuple elts k pos) (.ref I) (.ref T)) Q E s := by
  obtain ⟨o, ho, h1, h2⟩ := C.get hm
  exact wpAny_letOwnedTupleGo_listiter (i := i) ⟨o, ho, h1, h2⟩ h
theorem c_worths {rl sl : Addr} {rv sv : List Value} {rows : List (List Nat)} {sums : List Int} {Q : Value → Shared → Prop} (R : Room 4 A) (C : Cx w B g rs s)
    (hrl : g.IsList rl rv.toArray) (hrows : Ea (fun v row => RowAt g v (zs row)) rv rows) (hsl : g.IsList sl sv.toArray) (hs : IntsAre sv sums) (hs5 : sums.length = 5) (hsb : ∀ x ∈ sums, x.natAbs < 2 ^ 60)
    (hrb : rows.length ≤ 100) (hrow : ∀ row ∈ rows, row.length ≤ 8 ∧ (∀ h ∈ row, h < 16) ∧ ∃ n, worthOf sums row = some n)
    (h : ∀ d ds s', IntsAre ds (rows.map fun row => (worthOf sums row).getD 0) → Cx w B g ((d, rLst ds) :: rs) s' → Q (.ref d) s') :
    wpAny (model prog w) A (call (.ref 187) [.ref rl, .ref sl]) Q E s := by
  have W := C.wf
  refine x_enterK ["rows", "sums"] ["lead"] [("rows", .ref rl), ("sums", .ref sl)] [("rows", .ref rl), ("sums", .ref sl)] (fun n => [("lead", n)]) (fun n => (n, rCell none) :: rs) R.room C rfl (by kernel_rfl) rfl rfl (fun _ => by kernel_rfl) (fun _ => rfl) (by decide) (by decide) (by kernel_rfl) (by simp only [List.map]; decide) (fun _ => by kernel_rfl) ?_
  intro L c s' q cd hL C
  repeat kts_caught
  rename_i sh _ C
  obtain ⟨g1, k1, hl5, C⟩ := C.freeze1 .hd
  obtain ⟨g2, k2, t5, C⟩ := C.freeze1 .hd
  obtain ⟨g3, k3, t4, C⟩ := C.freeze1 .hd
  obtain ⟨g4, k4, t3, C⟩ := C.freeze1 .hd
  obtain ⟨g5, k5, t2, C⟩ := C.freeze1 .hd
  obtain ⟨g6, k6, t1, C⟩ := C.freeze1 .hd
  have P1 := tupAt_of (z := [1, 1, 1, 1]) t1 (.cons _ _ (.cons _ _ (.cons _ _ (.cons _ _ .nil))))
  have P2 := (tupAt_of (z := [2, 1, 1]) t2 (.cons _ _ (.cons _ _ (.cons _ _ .nil)))).keeps k6
  have P3 := (tupAt_of (z := [2, 2]) t3 (.cons _ _ (.cons _ _ .nil))).keeps (k5.trans k6)
  have P4 := (tupAt_of (z := [3, 1]) t4 (.cons _ _ (.cons _ _ .nil))).keeps (k4.trans (k5.trans k6))
  have P5 := (tupAt_of (z := [4]) t5 (.cons _ _ .nil)).keeps (k3.trans (k4.trans (k5.trans k6)))
  have HP : Ea (TupAt g6) _ shapes := .cons P1 (.cons P2 (.cons P3 (.cons P4 (.cons P5 .nil))))
  have hshl := isList_keeps (isList_of hl5) (k2.trans (k3.trans (k4.trans (k5.trans k6))))
  have k06 : Le g g6 := k1.trans (k2.trans (k3.trans (k4.trans (k5.trans k6))))
  clear t1 t2 t3 t4 t5 hl5 P1 P2 P3 P4 P5 k1 k2 k3 k4 k5 k6
  generalize hpv : ([_, _, _, _, _] : List Value) = pv at hshl HP
  clear hpv
  refine x_iter_list C (C.fl hshl) ?_
  intro I s' C
  refine x_loop (fun i s' => ∃ g' kl kvs vo, Le g6 g' ∧ Ea (KindAt g') kvs ((kindsOf sums).take i) ∧ Cx w B g' ((I, rLit sh i) :: (kl, rLst kvs) :: (L, rLoc [("rows", .ref rl), ("sums", .ref sl), ("kinds", .ref kl)]) :: (c, rCell vo) :: rs) s') 5 ?_ ?_ ⟨g6, _, [], none, fun _ _ e => e, .nil, C.sel (by kwd_rel)⟩
  · rintro i s' hi ⟨g', kl, kvs, vo, k6', hkv, C⟩
    obtain ⟨v, hv, hz⟩ := HP.at [] (k := i) hi
    have hzm : shapes.getD i [] ∈ shapes := by rw [List.getD_eq_getElem?_getD, List.getElem?_eq_getElem hi]; exact List.getElem_mem hi
    obtain ⟨hz4, hz8, hk6, hk4⟩ := shapes_ok _ hzm
    refine x_next_list C (by tb_start) (C.fl (isList_keeps hshl k6')) hv ?_
    intro s' C
    refine ⟨_, rfl, ?_⟩
    have hkz : (kindsOf sums).take (i + 1) = (kindsOf sums).take i ++ [(kindOf (shapes.getD i []), worthF sums 0 (kindOf (shapes.getD i [])).1 1)] := by
      rw [List.take_add_one]
      congr 1
      unfold kindsOf
      rw [List.getElem?_map, List.getD_eq_getElem?_getD, List.getElem?_eq_getElem hi]; rfl
    generalize shapes.getD i [] = z at hz hz4 hz8 hk6 hk4 hkz
    obtain ⟨zr, zu, rfl, hzt, hzi⟩ := hz.keeps k6'
    repeat kts_caught
    refine x_iter_tup (by assumption) (Cx.ft (by assumption) hzt) ?_
    intro J s' C
    refine ⟨_, _, _, C, fun D Cc s' C => ⟨x_self_tup C (by ktr_rel), ?_⟩⟩
    have hzl : zu.length = z.length := by rw [ia_len hzi, zs_len]
    refine x_cmapT (fun g i v => ∃ t, v = .str (leadStr (z.getD i 0)) t) R.hh C hzt (by omega) (fun _ _ _ _ k h => h) rfl ?_ ?_
    · intro j v g₁ ys s' hv hg C
      have hj : j < z.length := by
        rcases Nat.lt_or_ge j zu.length with h | h
        · omega
        · rw [List.getElem?_eq_none h] at hv; cases hv
      obtain ⟨tv, hv'⟩ := ia_getN hzi hj
      rw [hv'] at hv
      cases hv
      have hy : z.getD j 0 ≤ 4 := hz4 _ (by rw [List.getD_eq_getElem?_getD, List.getElem?_eq_getElem hj]; exact List.getElem_mem hj)
      generalize z.getD j 0 = y at hy C
      repeat kts_caught
      refine x_spaces (by assumption) hy ?_
      intro t s' C
      repeat kts_caught
      rw [tab_eq]
      refine x_stradd (by assumption) (by show (List.replicate y 32).toArray.size + 1 ≤ _; simp; omega) ?_
      intro t s' C
      exact ⟨g₁, fun _ _ e => e, ⟨_, rfl⟩, C⟩
    · intro g₁ dv s' hg1 hlen hF C
      have hsa : StrsAre dv (z.map leadStr) := sa_of_get (by rw [List.length_map, hlen, hzl]) fun k v e => by
        obtain ⟨t, ht⟩ := hF k v e
        refine ⟨t, ?_⟩
        have hk : k < z.length := by
          rcases Nat.lt_or_ge k dv.length with h | h
          · omega
          · rw [List.getElem?_eq_none h] at e; cases e
        rw [ht]
        simp only [List.getD_eq_getElem?_getD, List.getElem?_map, List.getElem?_eq_getElem hk, Option.map_some, Option.getD_some]
      obtain ⟨hsum, hcpl⟩ := lead_sum hz4 hz8
      repeat kts_caught
      rw [empty_eq]
      refine x_join (by assumption) (Cx.lst (by assumption) (by ktr_rel)) hsa (by decide) (by omega) ?_
      intro t s' C
      repeat kts_caught
      refine ⟨Cx.wfs (by assumption), c_ws (by ktr_room) (by assumption) (by rw [lead_join]; exact lead_mem) (by rw [← Array.length_toList, lead_join]; omega) ?_⟩
      intro lv g2 s' k2 hws C
      rw [lead_join] at hws
      have hws' := hws
      obtain ⟨wi, wl, wp, wq, wu, wt, rfl, hwI, hwl, hwe, hwp, hwq, hwu⟩ := hws'
      repeat kts_caught
      refine x_getAttr (by assumption) (hwI.keeps (Cx.keep (by assumption))) hwl rfl (by kernel_rfl) ?_
      intro s' C
      repeat kts_caught
      refine x_idxT (k := 0) (Cx.ft (by assumption) hwp) (by decide) rfl ?_
      repeat kts_caught
      refine x_enumT (by assumption) (Cx.ft (by assumption) hwq) ?_
      intro e it s' C
      refine x_self_enum C (by ktr_rel) _ _ ?_
      have C := C.loc [("rows", _), ("sums", _), ("kinds", _), ("worth", _)] (by tb_start) (by kts_caughtN) (by simp only [List.map]; decide)
      have hN : ∀ y ∈ (kindOf z).1, y ≤ 4 := hk4
      have hkN : wsNorm (leadCps z) = kindOf z := rfl
      rw [hkN] at hws hwp hwu
      have hwul : wu.length = (kindOf z).1.length := by rw [ia_len hwu, zs_len]
      refine x_loop (fun n s' => ∃ tw, Cx w B g2 ((e, rEnum it n) :: (it, rTit wq n) :: (L, rLoc [("rows", .ref rl), ("sums", .ref sl), ("kinds", .ref kl), ("worth", .int (worthF sums 0 ((kindOf z).1.take n) 1) tw)]) :: (c, rCell (some (.ref wi))) :: (I, rLit sh (i + 1)) :: (kl, rLst kvs) :: rs) s') (kindOf z).1.length ?_ ?_  ⟨_, C.sel (rs' := _ :: _ :: (L, rLoc [("rows", .ref rl), ("sums", .ref sl), ("kinds", .ref kl), ("worth", .int 1 _)]) :: (c, rCell (some (.ref wi))) :: (I, rLit sh (i + 1)) :: (kl, rLst kvs) :: rs) (by kwd_rel)⟩
      · rintro n s' hn ⟨tw, C⟩
        obtain ⟨tn, hn'⟩ := ia_getN hwu hn
        refine x_next_enumT R.hh C (by kwd_inv) hwq hn' ?_
        intro t s' C
        have hk02 : Le g g2 := k06.trans (k6'.trans (hg1.trans k2))
        have hn5 : n < sums.length := by omega
        obtain ⟨tsv, hsv⟩ := ia_get hs n hn5
        have hsx : (sums.getD n 0).natAbs < 2 ^ 60 := hsb _ (by rw [List.getD_eq_getElem?_getD, List.getElem?_eq_getElem hn5]; exact List.getElem_mem hn5)
        have hmx : (kindOf z).1.getD n 0 ≤ 4 := hN _ (by rw [List.getD_eq_getElem?_getD, List.getElem?_eq_getElem hn]; exact List.getElem_mem hn)
        have hwb := worth_bits ((kindOf z).1.take n) 0 1 sums 1 hsb (by decide) (fun y hy => hN y (List.mem_of_mem_take hy))
        have hwn := worthF_snoc ((kindOf z).1.take n) 0 1 sums ((kindOf z).1.getD n 0)
        rw [← take_succ_getD _ 0 n hn, List.length_take, Nat.min_eq_left (Nat.le_of_lt hn), Nat.zero_add] at hwn
        rw [List.length_take, Nat.min_eq_left (Nat.le_of_lt hn)] at hwb
        generalize (kindOf z).1.getD n 0 = mx at hmx C hwn ⊢
        rw [hwn]
        generalize worthF sums 0 ((kindOf z).1.take n) 1 = wo at hwb C ⊢
        generalize sums.getD n 0 = sx at hsx hsv ⊢
        repeat kts_caught
        refine x_idx (k := n) (Cx.fl (by assumption) (isList_keeps hsl hk02)) (by omega) hsv ?_
        repeat kts_caught
        refine c_ipow (by ktr_room) (by assumption) (by omega) (by omega) (by omega) ?_
        intro t s' C
        repeat kts_caught
        have hp : (sx ^ mx).natAbs < 2 ^ 241 := by
          rw [Int.natAbs_pow]
          refine Nat.lt_of_le_of_lt (Nat.pow_le_pow_left (Nat.le_of_lt hsx) mx) ?_
          rw [← Nat.pow_mul]
          exact Nat.pow_lt_pow_right (by decide) (by omega)
        refine c_mul (by ktr_room) (by assumption) (.of_bits (Nat.le_trans (intBits_small hwb) (by omega)) (Nat.le_trans (intBits_small (n := 241) hp) (by decide))) ?_
        intro t s' C
        repeat kts_caught
        rename_i C
        exact ⟨_, C.loc _ (by tb_start) (by kts_caughtN) (by simp only [List.map]; decide)⟩
      · rintro s' ⟨tw, C⟩
        rw [List.take_length] at C
        refine x_end_enumT R.hh C (by kwd_inv) hwq hwul ?_
        intro s' C
        refine ⟨rfl, ?_⟩
        repeat kts_caught
        rename_i kt _ C
        have hkvl : kvs.length ≤ 5 := by
          rw [hkv.1, List.length_take]
          omega
        refine x_append C (by tb_start) (by rw [sizeLine_eq]; omega) ?_
        intro s' C
        repeat kts_caught
        obtain ⟨g3, k3, hkt, C⟩ := C.freeze1 .hd
        have C := C.loc [("rows", _), ("sums", _), ("kinds", _)] (by tb_start) (by kts_caughtN) (by simp only [List.map]; decide)
        refine ⟨g3, kl, _, _, k6'.trans (hg1.trans (k2.trans k3)), ?_, C.sel (rs' := _ :: _ :: (L, _) :: (c, _) :: rs) (by kwd_rel)⟩
        rw [hkz]
        exact (hkv.mono fun v p h => h.keeps (hg1.trans (k2.trans k3))).snoc ⟨kt, _, _, rfl, isTuple_of hkt, hws.keeps k3⟩
  · rintro s' ⟨g', kl, kvs, vo, k6', hkv, C⟩
    rw [List.take_of_length_le (by unfold kindsOf; rw [List.length_map]; decide)] at hkv
    refine x_end_list R.hh C (by tb_start) (C.fl (isList_keeps hshl k6')) (by rw [HP.1]; decide) ?_
    intro s' C
    refine ⟨rfl, ?_⟩
    obtain ⟨g7, k7, hklo, C⟩ := C.freeze1 .hd
    have hkl := isList_of hklo
    have hkv := hkv.mono fun v p h => h.keeps k7
    have k07 : Le g g7 := k06.trans (k6'.trans k7)
    have hkvl : kvs.length = 5 := hkv.1
    clear hklo k6' k7 k06 hshl HP
    repeat kts_caught
    refine x_iter_list (by assumption) (Cx.fl (by assumption) (isList_keeps hrl k07)) ?_
    intro I2 s' C
    have C := C.loc [("rows", _), ("sums", _), ("kinds", _), ("worths", _)] (by tb_start) (by kts_caughtN) (by simp only [List.map]; decide)
    refine x_loop (fun i s' => ∃ g' wl ws vo, Le g7 g' ∧ IntsAre ws ((rows.take i).map fun row => (worthOf sums row).getD 0) ∧ Cx w B g' ((I2, rLit rl i) :: (wl, rLst ws) :: (L, rLoc [("rows", .ref rl), ("sums", .ref sl), ("kinds", .ref kl), ("worths", .ref wl)]) :: (c, rCell vo) :: rs) s') rows.length ?_ ?_ ⟨g7, _, [], vo, fun _ _ e => e, .nil, C.sel (by kwd_rel)⟩
    · rintro i s' hi ⟨g', wl, ws, vo, k7', hwi, C⟩
      obtain ⟨v, hv, hrow'⟩ := hrows.at [] hi
      refine x_next_list C (by tb_start) (C.fl (isList_keeps hrl (k07.trans k7'))) hv ?_
      intro s' C
      refine ⟨_, rfl, ?_⟩
      obtain ⟨hr, hu, rfl, hrt, hri⟩ := hrow'.keeps (k07.trans k7')
      have hrm : rows.getD i [] ∈ rows := by rw [List.getD_eq_getElem?_getD, List.getElem?_eq_getElem hi]; exact List.getElem_mem hi
      obtain ⟨hr8, hr16, wn, hwn⟩ := hrow _ hrm
      have hrs : (rows.take (i + 1)).map (fun row => (worthOf sums row).getD 0) = (rows.take i).map (fun row => (worthOf sums row).getD 0) ++ [(worthOf sums (rows.getD i [])).getD 0] := by
        rw [take_succ_getD _ [] i hi, List.map_append]; rfl
      generalize rows.getD i [] = row at hri hr8 hr16 hwn hrs
      have hrul : hu.length = row.length := by rw [ia_len hri, zs_len]
      repeat kts_caught
      refine x_iter_list (by assumption) (Cx.fl (by assumption) hrt) ?_
      intro J s' C
      refine ⟨_, _, _, C, fun D Cc s' C => ⟨x_self_list C (by ktr_rel), ?_⟩⟩
      refine x_cmap (fun g j v => ∃ t, v = .int ((szs (row.getD j 0) : Nat) : Int) t) R.hh C hrt (by omega) (fun _ _ _ _ k h => h) rfl ?_ ?_
      · intro j v g₁ ys s' hv hg C
        have hj : j < row.length := by
          rcases Nat.lt_or_ge j hu.length with h | h
          · omega
          · rw [List.getElem?_eq_none h] at hv; cases hv
        obtain ⟨tv, hv'⟩ := ia_getN hri hj
        rw [hv'] at hv
        cases hv
        have hy : row.getD j 0 < 16 := hr16 _ (by rw [List.getD_eq_getElem?_getD, List.getElem?_eq_getElem hj]; exact List.getElem_mem hj)
        generalize row.getD j 0 = y at hy C
        repeat kts_caught
        rename_i ta _ C
        obtain ⟨g8, k8, ht, C⟩ := C.freeze1 .hd
        obtain ⟨r', us', e', hT, hI'⟩ := tupAt_of (z := [0, 1, 1, 2, 1, 2, 2, 3, 1, 2, 2, 3, 2, 3, 3, 4]) ht
          (.cons _ _ (.cons _ _ (.cons _ _ (.cons _ _ (.cons _ _ (.cons _ _ (.cons _ _ (.cons _ _ (.cons _ _ (.cons _ _ (.cons _ _ (.cons _ _ (.cons _ _ (.cons _ _ (.cons _ _ (.cons _ _ .nil))))))))))))))))
        cases e'
        obtain ⟨ty, hx⟩ := ia_getN hI' (i := y) hy
        refine x_idxT (k := y) (C.ft hT) (by omega) hx ?_
        exact ⟨g8, k8, ⟨_, rfl⟩, C⟩
      · intro g₁ zv s' hg1 hlen hF C
        have hzi : IntsAre zv (zs (row.map szs)) := ia_of_get (by rw [List.length_map, List.length_map, hlen, hrul]) fun k v e => by
          obtain ⟨t, ht⟩ := hF k v e
          refine ⟨t, ?_⟩
          have hk : k < row.length := by
            rcases Nat.lt_or_ge k zv.length with h | h
            · omega
            · rw [List.getElem?_eq_none h] at e; cases e
          rw [ht, zs_getD]
          simp only [List.getD_eq_getElem?_getD, List.getElem?_map, List.getElem?_eq_getElem hk, Option.map_some, Option.getD_some]
        clear hF
        obtain ⟨g2, k2, hzo, C⟩ := C.freeze1 (.tl .hd)
        have hzt := isList_of hzo
        clear hzo
        have hz4 : ∀ z ∈ row.map szs, z ≤ 4 := by
          intro z hz
          obtain ⟨x, _, rfl⟩ := List.mem_map.mp hz
          unfold szs
          rcases Nat.lt_or_ge x 16 with h | h
          · exact (by decide : ∀ x : Fin 16, [0, 1, 1, 2, 1, 2, 2, 3, 1, 2, 2, 3, 2, 3, 3, 4].getD x.val 0 ≤ 4) ⟨x, h⟩
          · rw [List.getD_eq_getElem?_getD, List.getElem?_eq_none (by simpa using h)]; exact Nat.zero_le _
        have hz8 : (row.map szs).length ≤ 8 := by rw [List.length_map]; exact hr8
        have hwe : worthOf sums row = (((kindsOf sums).filter fun p => decide (p.1 = wsNorm (leadCps (row.map szs)))).map (·.2)).head? := rfl
        generalize row.map szs = z at hzi hz4 hz8 hwe
        have hzl : zv.length = z.length := by rw [ia_len hzi, zs_len]
        repeat kts_caught
        refine x_iter_list (by assumption) (Cx.fl (by assumption) hzt) ?_
        intro J2 s' C
        refine ⟨_, _, _, C, fun D2 Cc2 s' C => ⟨x_self_list C (by ktr_rel), ?_⟩⟩
        refine x_cmap (fun g i v => ∃ t, v = .str (leadStr (z.getD i 0)) t) R.hh C hzt (by omega) (fun _ _ _ _ k h => h) rfl ?_ ?_
        · intro j v g₁ ys s' hv hg C
          have hj : j < z.length := by
            rcases Nat.lt_or_ge j zv.length with h | h
            · omega
            · rw [List.getElem?_eq_none h] at hv; cases hv
          obtain ⟨tv, hv'⟩ := ia_getN hzi hj
          rw [hv'] at hv
          cases hv
          have hy : z.getD j 0 ≤ 4 := hz4 _ (by rw [List.getD_eq_getElem?_getD, List.getElem?_eq_getElem hj]; exact List.getElem_mem hj)
          generalize z.getD j 0 = y at hy C
          repeat kts_caught
          refine x_spaces (by assumption) hy ?_
          intro t s' C
          repeat kts_caught
          rw [tab_eq]
          refine x_stradd (by assumption) (by show (List.replicate y 32).toArray.size + 1 ≤ _; simp; omega) ?_
          intro t s' C
          exact ⟨g₁, fun _ _ e => e, ⟨_, rfl⟩, C⟩
        · intro g₃ dv s' hg3 hlen2 hF C
          have hsa : StrsAre dv (z.map leadStr) := sa_of_get (by rw [List.length_map, hlen2, hzl]) fun k v e => by
            obtain ⟨t, ht⟩ := hF k v e
            refine ⟨t, ?_⟩
            have hk : k < z.length := by
              rcases Nat.lt_or_ge k dv.length with h | h
              · omega
              · rw [List.getElem?_eq_none h] at e; cases e
            rw [ht]
            simp only [List.getD_eq_getElem?_getD, List.getElem?_map, List.getElem?_eq_getElem hk, Option.map_some, Option.getD_some]
          obtain ⟨hsum, hcpl⟩ := lead_sum hz4 hz8
          clear hF
          repeat kts_caught
          rw [empty_eq]
          refine x_join (by assumption) (Cx.lst (by assumption) (by ktr_rel)) hsa (by decide) (by omega) ?_
          intro t s' C
          repeat kts_caught
          refine ⟨Cx.wfs (by assumption), c_ws (by ktr_room) (by assumption) (by rw [lead_join]; exact lead_mem) (by rw [← Array.length_toList, lead_join]; omega) ?_⟩
          intro lv g4 s' k4 hws C
          rw [lead_join] at hws
          have k74 : Le g7 g4 := k7'.trans (hg1.trans (k2.trans (hg3.trans k4)))
          have hkl4 := isList_keeps hkl k74
          have hkv4 := hkv.mono fun v p h => h.keeps k74
          repeat kts_caught
          refine x_iter_list (by assumption) (Cx.fl (by assumption) hkl4) ?_
          intro J3 s' C
          refine ⟨_, _, _, C, fun D3 Cc3 s' C => ⟨x_self_list C (by ktr_rel), ?_⟩⟩
          have C := C.loc (L := L) [("rows", _), ("sums", _), ("kinds", _), ("worths", _)] (by tb_start) (by kts_caughtN) (by simp only [List.map]; decide)
          have hks : (kindsOf sums).length = 5 := by unfold kindsOf; rw [List.length_map]; rfl
          generalize wsNorm (leadCps z) = N at hws hwe
          refine x_cloop (fun n s' => ∃ kw, IntsAre kw ((((kindsOf sums).take n).filter fun p => decide (p.1 = N)).map (·.2)) ∧ kw.length ≤ n ∧
            Cx w B g4 ((Cc3, rLoc []) :: (D3, rLst kw) :: (J3, rLit kl n) :: (c, rCell (some lv)) :: (I2, rLit rl (i + 1)) :: (wl, rLst ws) :: (L, rLoc [("rows", .ref rl), ("sums", .ref sl), ("kinds", .ref kl), ("worths", .ref wl)]) :: rs) s') 5 ?_ ?_ ⟨[], .nil, Nat.le_refl _, C.sel (by kwd_rel)⟩
          · rintro n s' hn ⟨kw, hkw, hkwl, C⟩
            obtain ⟨kv, hkx, kr, klv, kt, rfl, hktup, hkws⟩ := hkv4.at (([], 0), 0) (k := n) (by omega)
            refine x_next_list C (by tb_start) (C.fl hkl4) hkx ?_
            intro s' C
            refine ⟨_, rfl, x_letgoT C (by ktr_rel) ?_⟩
            refine x_unpack R.hh C (C.ft hktup) fun s' C => x_two ?_
            have hkf : ((((kindsOf sums).take (n + 1)).filter fun p => decide (p.1 = N)).map (·.2)) = ((((kindsOf sums).take n).filter fun p => decide (p.1 = N)).map (·.2)) ++ (if ((kindsOf sums).getD n (([], 0), 0)).1 = N then [((kindsOf sums).getD n (([], 0), 0)).2] else []) := by
              rw [take_succ_getD _ (([], 0), 0) n (by omega), List.filter_append, List.map_append]
              rw [filt1]
            generalize (kindsOf sums).getD n (([], 0), 0) = kp at hkf hktup hkws C ⊢
            repeat kts_caught
            refine MethodCall_ ?_
            repeat kts_caught
            refine x_getMeth (by assumption) hkws ?_
            refine x_callM ?_
            repeat kts_caught
            refine ⟨Cx.wfs (by assumption), c_equal (by ktr_room) (by assumption) hkws hws ?_⟩
            intro s' C
            repeat kts_caught
            by_cases hN : kp.1 = N
            · rw [if_pos (decide_eq_true hN)]
              rw [if_pos hN] at hkf
              repeat kts_caught
              refine x_append (by assumption) (by tb_start) (by rw [sizeLine_eq]; omega) ?_
              intro s' C
              rw [hkf]
              exact ⟨_, IntsAre.append hkw (.cons _ _ .nil), by rw [List.length_append, List.length_singleton]; omega, C.loc _ (by tb_start) (by kts_caughtN) (by simp only [List.map]; decide)⟩
            · rw [if_neg (by simpa using hN)]
              rw [if_neg hN, List.append_nil] at hkf
              rw [hkf]
              exact ⟨kw, hkw, by omega, Cx.loc (by assumption) _ (by tb_start) (by kts_caughtN) (by simp only [List.map]; decide)⟩
          · rintro s' ⟨kw, hkw, hkwl, C⟩
            rw [List.take_of_length_le (by omega)] at hkw
            refine x_end_list R.hh C (by tb_start) (C.fl hkl4) (by omega) ?_
            intro s' C
            refine ⟨rfl, ?_⟩
            have hwn0 := hwn
            rw [hwe] at hwn
            generalize (((kindsOf sums).filter fun p => decide (p.1 = N)).map (·.2)) = xs at hkw hwn
            cases hkw with
            | nil => cases hwn
            | cons x tx hkw' =>
              cases hwn
              repeat kts_caught
              refine x_idx (k := 0) (Cx.lst (by assumption) (by ktr_rel)) (by decide) rfl ?_
              have hwsl : ws.length ≤ 100 := by rw [ia_len hwi, List.length_map, List.length_take]; omega
              refine x_append (by assumption) (by tb_start) (by rw [sizeLine_eq]; omega) ?_
              intro s' C
              repeat kts_caught
              rw [hrs, hwn0, Option.getD_some]
              exact ⟨g4, wl, _, _, k74, IntsAre.append hwi (.cons _ _ .nil), C.sel (by kwd_rel)⟩
    · rintro s' ⟨g', wl, ws, vo, k7', hwi, C⟩
      rw [List.take_length] at hwi
      refine x_end_list R.hh C (by tb_start) (C.fl (isList_keeps hrl (k07.trans k7'))) (by rw [hrows.1]; exact Nat.le_refl _) ?_
      intro s' C
      refine ⟨rfl, ?_⟩
      repeat kts_caught
      rename_i C
      exact h _ _ _ hwi ((C.thaw (k07.trans k7') W).sel (by kwd_rel))
end
end
section
noncomputable def rDic (prog : Program) (w : World) (kvs : List (Int × Value)) : Res := fun o => o.IsDictOf (intKind prog w) kvs
section
variable {prog : Program} {w : World} {A : Around} {E : Value → Shared → Prop} {s s' : Shared} {env : Env} {B : Shared} {g : Heap} {rs rs' : Rs}
theorem Cx.dic (C : Cx w B g rs s) {d : Addr} {kvs : List (Int × Value)} (hm : (d, rDic prog w kvs) ∈ rs) : s.heap.DictOf (intKind prog w) d kvs := Heap.dictOf_iff.mpr (C.get hm)
theorem dic_of {h : Heap} {d : Addr} {kvs : List (Int × Value)} (hd : ∃ o, h.get? d = some o ∧ rDic prog w kvs o) : h.DictOf (intKind prog w) d kvs := Heap.dictOf_iff.mpr hd
theorem Cx.fd (C : Cx w B g rs s) {d : Addr} {kvs : List (Int × Value)} (hd : g.DictOf (intKind prog w) d kvs) : s.heap.DictOf (intKind prog w) d kvs := hd.keep C.keep
theorem x_dset {d : Addr} {kvs : List (Int × Value)} {k : Int} {t : Tok} {v : Value} {Q : Unit → Shared → Prop} (C : Cx w B g rs s) (u : Upd rs d (rDic prog w kvs) (rDic prog w (stored kvs k v)) rs') (hsz : kvs.length ≤ 100000)
    (h : ∀ s', Cx w B g rs' s' → Q () s') : wpAny (model prog w) A (dictSet d (.int k t) v) Q E s :=
  wpAny_dictSet_pairs (intKind_is prog w k t) (C.dic u.mem) (fun h' hd hs => h _ (C.upd u hs.extBut (Heap.dictOf_iff.mp hd) _)) (by rw [sizeLine_eq]; omega)
theorem x_dstore {d : Addr} {kvs : List (Int × Value)} {k : Int} {t : Tok} {v : Value} {Q : Unit → Shared → Prop} (C : Cx w B g rs s) (u : Upd rs d (rDic prog w kvs) (rDic prog w (stored kvs k v)) rs') (hsz : kvs.length ≤ 100000)
    (h : ∀ s', Cx w B g rs' s' → Q () s') : wpAny (model prog w) A (setItem (.ref d) (.int k t) v) Q E s :=
  wpAny_setItem_pairs (intKind_is prog w k t) (C.dic u.mem) (fun h' hd hs => h _ (C.upd u hs.extBut (Heap.dictOf_iff.mp hd) _)) (by rw [sizeLine_eq]; omega)
theorem x_dget {d : Addr} {kvs : List (Int × Value)} {k : Int} {t : Tok} {v : Value} {Q : Value → Shared → Prop} (C : Cx w B g rs s) (hd : s.heap.DictOf (intKind prog w) d kvs) (hv : valueAt kvs k = some v)
    (h : ∀ s', Cx w B g rs s' → Q v s') : wpAny (model prog w) A (getItem (.ref d) (.int k t)) Q E s :=
  wpAny_getItem_of (intKind_is prog w k t) hd.mapOf hv (h _ (C.tok _))
theorem x_ditem {value slice : Expr} {d : Addr} {kvs : List (Int × Value)} {k : Int} {t : Tok} {v : Value} {Q : Value → Shared → Prop} (C : Cx w B g rs s) (hd : s.heap.DictOf (intKind prog w) d kvs) (hv : valueAt kvs k = some v)
    (h : ∀ s', Cx w B g rs s' → Q v s') (hs : subscripted slice false (.ref d) (.int k t) = operate [.ref d, .int k t] (getItem (.ref d) (.int k t)) := by with_unfolding_all rfl) :
    wpAny (model prog w) A (subscriptTail value slice (.ref d) (.int k t)) Q E s :=
  tail_any hd.typeIs slot_dict_getitem.lookup (wpAny_getItem_of (intKind_is prog w k t) hd.mapOf hv (h _ (C.tok _))) hs
theorem x_newDict {Q : Value → Shared → Prop} {M : Model} (C : Cx w B g rs s) (h : ∀ a s', Cx w B g ((a, rDic prog w []) :: rs) s' → Q (.ref a) s') : wpAny M A newDict Q E s := by
  refine wpAny_newObj_type (h _ _ (C.push _ ?_)) (Nat.zero_le _)
  exact ⟨#[], 0, ⟨rfl, rfl, rfl⟩, rfl, fun _ he => by simp at he, Pairs.nil, List.nodup_nil⟩
/-- the dict of a comprehension goes to a name -/
theorem x_cdc {kx vx target iter : Expr} {ifs : List Expr} {gs : List Comprehension} {scope : Scope} {pos spos py : Pos} {y : Str} {rest : List Stmt} {cl : List (Str × Addr)} {Q : Flow → Shared → Prop}
    (h : wpAny (model prog w) A (eval iter env) (fun x s₁ => wpAny (model prog w) A (pyIter x) (fun it s₂ => ∃ B g rs, Cx w B g rs s₂ ∧ ∀ D Cc s₃, Cx w B g ((Cc, rLoc []) :: (D, rDic prog w []) :: rs) s₃ →
      (∀ Q' E', Q' it s₃ → wpAny (model prog w) A (pyIter it) Q' E' s₃) ∧ codeAny (model prog w) A (.compLoop (.DictComp kx vx (⟨target, iter, ifs, 0⟩ :: gs) scope pos) 0 it (.ref D) (envC scope cl Cc env)) (cRa (model prog w) w A env y rest Q E D Cc) s₃) E s₁) E s)
    (hsw : swapsWith (.DictComp kx vx (⟨target, iter, ifs, 0⟩ :: gs) scope pos) (some (.Name y py)) spos.line env = pure true := by with_unfolding_all rfl)
    (hclos : closureFor scope env = pure cl := by with_unfolding_all rfl) (hcell : ∀ y ∈ scope.names, y.2 ≠ .cell := by decide) (hkind : scope.kind = .function := by rfl)
    (hnames : ∀ y ∈ scope.names, y.2 = .local → scope.names.lookup y.1 = some .local := by decide) (hs : ∀ x, foldedSetIterable iter env x = pure x := by intro _; rfl) :
    wpAny (model prog w) A (execs (.Assign [.Name y py] (.DictComp kx vx (⟨target, iter, ifs, 0⟩ :: gs) scope pos) spos :: rest) env) Q E s := by
  refine x_seq ?_
  rw [exec_Assign_Name_used _ _ _ _ hsw]
  refine wpAny_bind (wpAny_standAt (wpAny_bind ?_))
  show wpAny _ A (do let _ ← comprehension (.DictComp kx vx (⟨target, iter, ifs, 0⟩ :: gs) scope pos) scope env _ newDict false (eval iter env) (some (assign (.Name y py) env))) _ _ s
  refine wpAny_bind (wpAny_mono (wpAny_comprehension_free (use := some (assign (.Name y py) env)) (Q := fun _ s' => wpAny (model prog w) A (execs rest env) Q E s') rfl hs hclos hkind hnames
    (wpAny_mono h (fun xv s₁ h₁ => wpAny_mono h₁ (fun it s₂ h₂ => ?_) fun _ _ e => e) fun _ _ e => e)) (fun _ s' hq => wpAny_pure (wpAny_pure hq)) fun _ _ e => e)
  obtain ⟨B, g, rs, C, h₂⟩ := h₂
  refine x_newDict (prog := prog) C fun D s₃ C => newCompEnv C hcell hkind fun Cc s₄ C => ?_
  obtain ⟨hself, hloop⟩ := h₂ D Cc s₄ C
  have hloop' := codeAny_mono hloop (R' := compPost (model prog w) A E (some (assign (.Name y py) env)) (fun _ s' => wpAny (model prog w) A (execs rest env) Q E s') (.ref D) Cc) fun r s' q => by
    cases r with
    | error e => exact q.elim
    | ok f =>
      cases f with
      | next =>
        refine wpAny_assign_Name (wpAny_mono q (fun _ s'' q => ?_) fun _ _ x => x.elim)
        obtain ⟨B, g, vs, rs', C, hQ⟩ := q
        obtain ⟨m, hn, _, _⟩ := C.ns (.head _)
        exact ⟨m, hn, fun h' hs => hQ _ (C.rm .hd hs.extBut s''.toks)⟩
      | _ => exact q.elim
  exact codeAny_compStart_dict hloop' (hself _ _ hloop')
theorem x_dc {kx vx target iter : Expr} {ifs : List Expr} {gs : List Comprehension} {scope : Scope} {pos : Pos} {cl : List (Str × Addr)} {Q : Value → Shared → Prop}
    (h : wpAny (model prog w) A (eval iter env) (fun x s₁ => wpAny (model prog w) A (pyIter x) (fun it s₂ => ∃ B g rs, Cx w B g rs s₂ ∧ ∀ D Cc s₃, Cx w B g ((Cc, rLoc []) :: (D, rDic prog w []) :: rs) s₃ →
      (∀ Q' E', Q' it s₃ → wpAny (model prog w) A (pyIter it) Q' E' s₃) ∧ codeAny (model prog w) A (.compLoop (.DictComp kx vx (⟨target, iter, ifs, 0⟩ :: gs) scope pos) 0 it (.ref D) (envC scope cl Cc env)) (cRv w Q D Cc) s₃) E s₁) E s)
    (hclos : closureFor scope env = pure cl := by with_unfolding_all rfl) (hcell : ∀ y ∈ scope.names, y.2 ≠ .cell := by decide) (hkind : scope.kind = .function := by rfl)
    (hnames : ∀ y ∈ scope.names, y.2 = .local → scope.names.lookup y.1 = some .local := by decide) (hs : ∀ x, foldedSetIterable iter env x = pure x := by intro _; rfl) :
    wpAny (model prog w) A (eval (.DictComp kx vx (⟨target, iter, ifs, 0⟩ :: gs) scope pos) env) Q E s := by
  rw [arm_eval_DictComp]
  refine wpAny_comprehension_free (use := none) rfl hs hclos hkind hnames (wpAny_mono h (fun x s₁ h₁ => wpAny_mono h₁ (fun it s₂ h₂ => ?_) fun _ _ e => e) fun _ _ e => e)
  obtain ⟨B, g, rs, C, h₂⟩ := h₂
  refine x_newDict (prog := prog) C fun D s₃ C => newCompEnv C hcell hkind fun Cc s₄ C => ?_
  obtain ⟨hself, hloop⟩ := h₂ D Cc s₄ C
  have hloop' := codeAny_mono hloop (R' := compPost (model prog w) A E none Q (.ref D) Cc) fun r s' q => by
    cases r with
    | error e => exact q.elim
    | ok f =>
      cases f with
      | next =>
        obtain ⟨B, g, vs, rs', C, hQ⟩ := q
        obtain ⟨m, hn, _, _⟩ := C.ns (.head _)
        exact ⟨m, hn, fun h' hs => hQ _ (C.rm .hd hs.extBut s'.toks)⟩
      | _ => exact q.elim
  exact codeAny_compStart_dict hloop' (hself _ _ hloop')
theorem x_dloop {kx vx iter : Expr} {x : Str} {px : Pos} {scope : Scope} {pos : Pos} {it : Value} {D : Addr} {R : Result → Shared → Prop} (J : Nat → Shared → Prop) (n : Nat)
    (turn : ∀ i s, i < n → J i s → wpAny (model prog w) A (pyNext it) (fun r s₁ => ∃ v, r = some v ∧ wpAny (model prog w) A (storeName env x v) (fun _ s₂ =>
      wpAny (model prog w) A (eval kx env) (fun kv s₄ => wpAny (model prog w) A (eval vx env) (fun vv s₅ => wpAny (model prog w) A (dictSet D kv vv) (fun _ s₆ => J (i + 1) s₆) nE s₅) nE s₄) nE s₂) nE s₁) nE s)
    (fin : ∀ s, J n s → wpAny (model prog w) A (pyNext it) (fun r s₁ => r = none ∧ R (.ok .next) s₁) nE s) (h : J 0 s) :
    codeAny (model prog w) A (.compLoop (.DictComp kx vx [⟨.Name x px, iter, [], 0⟩] scope pos) 0 it (.ref D) env) R s := by
  refine codeAny_compLoop_testsD (fun k s => ∃ i, i ≤ n ∧ k = n - i ∧ J i s) ?_ n ⟨0, Nat.zero_le _, rfl, h⟩
  rintro k s ⟨i, hi, rfl, hJ⟩
  by_cases hlt : i < n
  · refine wpAny_mono (turn i s hlt hJ) (fun r s₁ h₁ => ?_) fun _ _ x => x.elim
    obtain ⟨v, rfl, h₁⟩ := h₁
    refine wpAny_assign_Name (wpAny_mono h₁ (fun _ s₂ h₂ => wpAny_tests_nil ?_) fun _ _ x => x.elim)
    refine (if_pos rfl).mpr (wpAny_mono h₂ (fun kv s₃ h₃ => wpAny_mono h₃ (fun vv s₄ h₄ => wpAny_mono h₄ (fun _ s₅ h₅ => ⟨n - (i + 1), by omega, i + 1, hlt, rfl, h₅⟩) fun _ _ x => x.elim) fun _ _ x => x.elim) fun _ _ x => x.elim)
  · obtain rfl : i = n := by omega
    refine wpAny_mono (fin s hJ) (fun r s₁ h₁ => ?_) fun _ _ x => x.elim
    obtain ⟨rfl, h₁⟩ := h₁
    exact h₁
end
end
section
noncomputable def rRg (x n : Nat) : Res := rRit (x : Int) ((n - x : Nat) : Int)
section
variable {prog : Program} {w : World} {A : Around} {E : Value → Shared → Prop} {s s' : Shared} {env : Env} {B : Shared} {g : Heap} {rs rs' : Rs} {I : Addr} {x n : Nat}
theorem x_iter_rg {r : Addr} {a b : Nat} {Q : Value → Shared → Prop} (C : Cx w B g rs s) (u : Rm rs r (rRng (a : Int) (b : Int)) rs') (ha : a ≤ 1000000) (hb : b ≤ 1000000)
    (h : ∀ I s', Cx w B g ((I, rRg a b) :: rs') s' → Q (.ref I) s') : wpAny (model prog w) A (pyIter (.ref r)) Q E s := x_iter_range C u ha hb h
theorem upd_conv {rs rs' : Rs} {I : Addr} {r r' q q' : Res} (u : Upd rs I r r' rs') (h1 : r = q) (h2 : r' = q') : Upd rs I q q' rs' := h1 ▸ h2 ▸ u
theorem rm_conv {rs rs' : Rs} {I : Addr} {r q : Res} (u : Rm rs I r rs') (h1 : r = q) : Rm rs I q rs' := h1 ▸ u
theorem x_next_rg {Q : Option Value → Shared → Prop} (C : Cx w B g rs s) (hx : x < n) (u : Upd rs I (rRg x n) (rRg (x + 1) n) rs')
    (h : ∀ t s', Cx w B g rs' s' → Q (some (.int (x : Int) t)) s') : wpAny (model prog w) A (pyNext (.ref I)) Q E s := by
  refine x_next_range (left := n - (x + 1)) C (upd_conv u ?_ rfl) h
  unfold rRg
  rw [show n - (x + 1) + 1 = n - x by omega]
theorem x_end_rg {Q : Option Value → Shared → Prop} (hh : A.handled = none) (C : Cx w B g rs s) (u : Rm rs I (rRg n n) rs')
    (h : ∀ s', Cx w B g rs' s' → Q none s') : wpAny (model prog w) A (pyNext (.ref I)) Q E s := by
  refine x_end_range (x := (n : Int)) hh C (rm_conv u ?_) h
  unfold rRg
  rw [Nat.sub_self]
theorem x_self_rg (C : Cx w B g rs s) (hm : (I, rRg x n) ∈ rs) : ∀ (Q' : Value → Shared → Prop) (E' : Value → Shared → Prop), Q' (.ref I) s → wpAny (model prog w) A (pyIter (.ref I)) Q' E' s := x_self_range C hm
end
end
section
noncomputable def wOf (sums : List Int) (n : Nat) : Int := (worthOf sums (dg n)).getD 0
noncomputable def jn (L : List Nat) (a b : Nat) : Nat := num (tg (dg (L.getD a 0)) (dg (L.getD b 0)))
noncomputable def tE (sums : List Int) (L : List Nat) (i k : Nat) : Int := wOf sums (jn L (max i k) (min i k))
noncomputable def tRow (sums : List Int) (L : List Nat) (i : Nat) : List Int := (List.range L.length).map (tE sums L i)
noncomputable def tabF (sums : List Int) (L : List Nat) : List (List Int) := (List.range L.length).map (tRow sums L)
noncomputable def DicW (prog : Program) (w : World) (h : Heap) (d : Addr) (sums : List Int) (l : List Nat) : Prop := ∃ kvs, h.DictOf (intKind prog w) d kvs ∧ ∀ m ∈ l, ∃ t, valueAt kvs ((m : Nat) : Int) = some (.int (wOf sums m) t)
theorem valueAt_stored (kvs : List (Int × Value)) (k : Int) (v : Value) (x : Int) : valueAt (stored kvs k v) x = if k = x then some v else valueAt kvs x := by
  unfold stored valueAt
  by_cases ha : kvs.any (fun kv => decide (kv.1 = k)) = true
  · rw [if_pos ha]
    induction kvs with
    | nil => simp at ha
    | cons p r ih =>
      rw [List.map_cons, List.find?_cons, List.find?_cons]
      by_cases hp : p.1 = k
      · rw [if_pos hp]
        by_cases hx : k = x
        · subst hx; simp [hp]
        · have h1 : decide (p.1 = x) = false := decide_eq_false (by rw [hp]; exact hx)
          rw [if_neg hx, h1]
          dsimp only
          by_cases hr : r.any (fun kv => decide (kv.1 = k)) = true
          · have := ih hr; rwa [if_neg hx] at this
          · have : (r.map fun kv => if kv.1 = k then (kv.1, v) else kv) = r := by
              refine (List.map_congr_left fun q hq => ?_).trans (List.map_id _)
              have : ¬ q.1 = k := fun e => hr (List.any_eq_true.mpr ⟨q, hq, decide_eq_true e⟩)
              simp [this]
            rw [this]
      · rw [if_neg hp]
        by_cases hx : p.1 = x
        · rw [decide_eq_true hx, if_neg (fun e => hp (hx.trans e.symm))]
        · rw [decide_eq_false hx]
          dsimp only
          refine ih ?_
          rw [List.any_cons, decide_eq_false hp, Bool.false_or] at ha
          exact ha
  · rw [if_neg ha, List.find?_append]
    have : (kvs.find? fun kv => decide (kv.1 = x)) = none ∨ x ≠ k := by
      by_cases hx : x = k
      · left
        rw [List.find?_eq_none]
        intro q hq e
        exact ha (List.any_eq_true.mpr ⟨q, hq, by rw [← hx]; exact e⟩)
      · exact .inr hx
    by_cases hx : k = x
    · subst hx
      rcases this with h | h
      · rw [h, if_pos rfl]; simp
      · exact absurd rfl h
    · rw [if_neg hx]
      cases e : kvs.find? fun kv => decide (kv.1 = x) with
      | none => simp [hx]
      | some q => rfl
theorem Cx.cut3 {w : World} {B s : Shared} {g : Heap} {p1 p2 p3 : Addr × Res} {X : Rs} (C : Cx w B g (p1 :: p2 :: p3 :: X) s) : ∃ Y, Y = X ∧ Cx w B g (p1 :: p2 :: p3 :: Y) s := ⟨_, rfl, C⟩
theorem Cx.cut4 {w : World} {B s : Shared} {g : Heap} {p1 p2 p3 p4 : Addr × Res} {X : Rs} (C : Cx w B g (p1 :: p2 :: p3 :: p4 :: X) s) : ∃ Y, Y = X ∧ Cx w B g (p1 :: p2 :: p3 :: p4 :: Y) s := ⟨_, rfl, C⟩
theorem stored_len (kvs : List (Int × Value)) (k : Int) (v : Value) : (stored kvs k v).length ≤ kvs.length + 1 := by
  unfold stored; split <;> simp
theorem tabF_len (sums : List Int) (L : List Nat) : (tabF sums L).length = L.length := by unfold tabF; rw [List.length_map, List.length_range]
theorem tRow_len (sums : List Int) (L : List Nat) (i : Nat) : (tRow sums L i).length = L.length := by unfold tRow; rw [List.length_map, List.length_range]
theorem tabF_get (sums : List Int) (L : List Nat) {i : Nat} (h : i < L.length) : (tabF sums L)[i]? = some (tRow sums L i) := by
  unfold tabF; rw [List.getElem?_map, List.getElem?_range h]; rfl
theorem tRow_get (sums : List Int) (L : List Nat) (i : Nat) {k : Nat} (h : k < L.length) : (tRow sums L i)[k]? = some (tE sums L i k) := by
  unfold tRow; rw [List.getElem?_map, List.getElem?_range h]; rfl
theorem tE_sym (sums : List Int) (L : List Nat) (i k : Nat) : tE sums L i k = tE sums L k i := by
  unfold tE; rw [Nat.max_comm, Nat.min_comm]
theorem take_succG {α : Type} {l : List α} {i : Nat} {x : α} (h : l[i]? = some x) : l.take (i + 1) = l.take i ++ [x] := by
  rw [List.take_add_one, h]; rfl
theorem getD_of {α : Type} {l : List α} {i : Nat} {x d : α} (h : l[i]? = some x) : l.getD i d = x := by
  rw [List.getD_eq_getElem?_getD, h]; rfl
section
variable {prog : Program} {w : World} {A : Around} {E : Value → Shared → Prop} {s s' : Shared} {env : Env} {B : Shared} {g : Heap} {rs rs' : Rs}
theorem c_table {ol sl : Addr} {ov sv : List Value} {L : List Nat} {sums : List Int} {Q : Value → Shared → Prop} (R : Room 6 A) (C : Cx w B g rs s)
    (hol : g.IsList ol ov.toArray) (hO : IntsAre ov (zs L)) (hsl : g.IsList sl sv.toArray) (hs : IntsAre sv sums) (hs5 : sums.length = 5) (hsb : ∀ x ∈ sums, x.natAbs < 2 ^ 60)
    (hL : L.length ≤ 20) (hLb : ∀ n ∈ L, n ≤ 1000000 ∧ 0 < (dg n).length ∧ ∃ v, worthOf sums (dg n) = some v) (hkey : ∀ a b, b ≤ a → a < L.length → jn L a b ∈ L)
    (h : ∀ d ds g' s', Le g g' → RowsAre g' ds (tabF sums L) → Cx w B g' ((d, rLst ds) :: rs) s' → Q (.ref d) s') :
    wpAny (model prog w) A (call (.ref 192) [.ref ol, .ref sl]) Q E s := by
  refine x_enterK ["order", "sums"] ["i", "table", "worths", "order"] [("order", .ref ol), ("sums", .ref sl)] [("sums", .ref sl)] (fun n => [("i", n + 3), ("table", n + 2), ("worths", n + 1), ("order", n)])
    (fun n => (n + 3, rCell none) :: (n + 2, rCell none) :: (n + 1, rCell none) :: (n, rCell (some (.ref ol))) :: rs) R.room C rfl (by kernel_rfl) rfl rfl (fun _ => by kernel_rfl) (fun _ => rfl) (by decide) (by decide) (by kernel_rfl) (by simp only [List.map]; decide) (fun _ => by kernel_rfl) ?_
  intro F c s' q cd hF C
  repeat kts_caught
  have hvl : ov.length = L.length := by rw [ia_len hO, zs_len]
  refine x_iter_list (by assumption) (Cx.fl (by assumption) hol) ?_
  intro I s' C
  refine ⟨_, _, _, C, fun D Cc s' C => ⟨x_self_list C (by ktr_rel), ?_⟩⟩
  refine x_cmap (fun g i v => RowAt g v (zs (dg (L.getD i 0)))) R.hh C hol (by omega) (fun _ _ _ _ k h => h.keeps k) rfl ?_ ?_
  · intro i v g₁ ys s' hv hg C
    have hi : i < L.length := by
      rcases Nat.lt_or_ge i ov.length with h | h
      · omega
      · rw [List.getElem?_eq_none h] at hv; cases hv
    obtain ⟨tv, hv'⟩ := ia_getN hO hi
    rw [hv'] at hv
    cases hv
    have hn := (hLb _ (show L.getD i 0 ∈ L by rw [List.getD_eq_getElem?_getD, List.getElem?_eq_getElem hi]; exact List.getElem_mem hi)).1
    generalize L.getD i 0 = n at hn C
    obtain ⟨Y, hY, C⟩ := C.cut3
    repeat kts_caught
    refine c_int2ap (by ktr_room) (by assumption) hn ?_
    intro tb s' C
    repeat kts_caught
    refine x_iter_bytes (by assumption) ?_
    intro J s' C
    refine ⟨_, _, _, C, fun D2 Cc2 s' C => ⟨x_self_bytes C (by ktr_rel), ?_⟩⟩
    obtain ⟨Z, hZ, C⟩ := C.cut3
    have hdl := dg_len hn
    refine x_cloop (fun j s' => ∃ hs, IntsAre hs (zs ((dg n).take j)) ∧ Cx w B g₁ ((Cc2, rLoc []) :: (D2, rLst hs) :: (J, rBit (apB (dg n)) tb j) :: Z) s') (dg n).length ?_ ?_ ⟨[], .nil, C⟩
    · rintro j s' hj ⟨hs', hhs, C⟩
      refine x_next_bytes C (by tb_start) (apB_get hj) ?_
      intro t8 s' C
      refine ⟨_, rfl, ?_⟩
      repeat kts_caught
      rw [apB_toNat (dg_lt (by rw [List.getD_eq_getElem?_getD, List.getElem?_eq_getElem hj]; exact List.getElem_mem hj))]
      have hsl : hs'.length ≤ 5 := by rw [ia_len hhs, zs_len, List.length_take]; omega
      refine x_append (by assumption) (by tb_start) (by rw [sizeLine_eq]; omega) ?_
      intro s' C
      rw [take_succN _ _ hj]
      exact ⟨_, ia_snoc hhs, C.loc _ (by tb_start) (by kts_caughtN) (by simp only [List.map]; decide)⟩
    · rintro s' ⟨hs', hhs, C⟩
      rw [List.take_length] at hhs
      refine x_end_bytes R.hh C (by tb_start) (by rw [apB_size]; exact Nat.le_refl _) ?_
      intro s' C
      refine ⟨rfl, ?_⟩
      repeat kts_caught
      rename_i C
      obtain ⟨g2, k2, ho, C⟩ := C.freeze1 .hd
      subst hZ hY
      exact ⟨g2, k2, ⟨D2, _, rfl, isList_of ho, hhs⟩, C⟩
  · intro g₁ hv s' hg1 hlen hF C
    have W := C.wf
    obtain ⟨g2, k2, hDo, C⟩ := C.freeze1 (.tl .hd)
    have hDl := isList_of hDo
    have hrows : Ea (fun v row => RowAt g2 v (zs row)) hv (L.map dg) := by
      refine ⟨by rw [List.length_map, hlen, hvl], fun k row e => ?_⟩
      rw [List.getElem?_map] at e
      obtain ⟨x, hx, rfl⟩ := Option.map_eq_some_iff.mp e
      have hk : k < L.length := by
        rcases Nat.lt_or_ge k L.length with h | h
        · exact h
        · rw [List.getElem?_eq_none h] at hx; cases hx
      have hk' : k < hv.length := by omega
      refine ⟨_, List.getElem?_eq_getElem hk', ?_⟩
      have := (hF k _ (List.getElem?_eq_getElem hk')).keeps k2
      rwa [show L.getD k 0 = x by rw [List.getD_eq_getElem?_getD, hx]; rfl] at this
    clear hF hDo
    have k02 := hg1.trans k2
    repeat kts_caught
    refine ⟨Cx.wfs (by assumption), c_worths (by ktr_room) (by assumption) hDl hrows (isList_keeps hsl k02) hs hs5 hsb (by rw [List.length_map]; omega) (fun row hr => ?_) ?_⟩
    · obtain ⟨x, hx, rfl⟩ := List.mem_map.mp hr
      exact ⟨Nat.le_trans (dg_len (hLb x hx).1) (by decide), fun d hd => dg_lt hd, (hLb x hx).2.2⟩
    intro wd wv s' hwv C
    rw [List.map_map] at hwv
    have hwv : IntsAre wv (L.map (wOf sums)) := hwv
    obtain ⟨g3, k3, hwo, C⟩ := C.freeze1 .hd
    have hwl := isList_of hwo
    have k03 := k02.trans k3
    repeat kts_caught
    refine x_len (by assumption) (Cx.fl (by assumption) (isList_keeps hol k03)) (by omega) ?_
    intro t s' C
    rw [hvl]
    repeat kts_caught
    refine x_rangeN (by assumption) ?_
    intro r s' C
    refine x_iter_rg (by assumption) (by tb_start) (by decide) (by omega) ?_
    intro J s' C
    refine ⟨_, _, _, C, fun D2 Cc2 s' C => ⟨x_self_rg C (by ktr_rel), ?_⟩⟩
    have C := C.loc (L := F) [("sums", _), ("heaps", _)] (by tb_start) (by kts_caughtN) (by simp only [List.map]; decide)
    refine x_dloop (fun i s' => ∃ kvs, kvs.length ≤ i ∧ (∀ m ∈ L.take i, ∃ t, valueAt kvs ((m : Nat) : Int) = some (.int (wOf sums m) t)) ∧
      Cx w B g3 ((Cc2, rLoc []) :: (D2, rDic prog w kvs) :: (J, rRg i L.length) :: (c + 1, rCell (some (.ref wd))) :: (c, rCell (some (.ref ol))) :: (F, rLoc [("sums", .ref sl), ("heaps", .ref D)]) :: (c + 3, rCell none) :: (c + 2, rCell none) :: rs) s') L.length ?_ ?_
      ⟨[], Nat.le_refl _, fun m hm => (by simp at hm), C.sel (by kwd_rel)⟩
    · rintro i s' hi ⟨kvs, hkl, hkv, C⟩
      refine x_next_rg C hi (by tb_start) ?_
      intro t s' C
      refine ⟨_, rfl, ?_⟩
      obtain ⟨to, ho⟩ := ia_getN hO hi
      obtain ⟨tw, hw⟩ := ia_get hwv i (by rw [List.length_map]; exact hi)
      rw [show (L.map (wOf sums)).getD i 0 = wOf sums (L.getD i 0) by simp [List.getD_eq_getElem?_getD, List.getElem?_map, List.getElem?_eq_getElem hi]] at hw
      have htk : L.take (i + 1) = L.take i ++ [L.getD i 0] := take_succN _ _ hi
      generalize L.getD i 0 = m at ho hw htk
      repeat kts_caught
      refine x_idx (k := i) (Cx.fl (by assumption) (isList_keeps hol k03)) (by omega) ho ?_
      repeat kts_caught
      refine x_idx (k := i) (Cx.fl (by assumption) hwl) (by omega) hw ?_
      refine x_dset (by assumption) (by tb_start) (by omega) ?_
      intro s' C
      refine ⟨stored kvs ((m : Nat) : Int) (.int (wOf sums m) tw), Nat.le_trans (stored_len kvs _ _) (by omega), fun x hx => ?_, C.loc _ (by tb_start) (by kts_caughtN) (by simp only [List.map]; decide)⟩
      rw [valueAt_stored]
      by_cases hxm : ((m : Nat) : Int) = ((x : Nat) : Int)
      · rw [if_pos hxm]
        have : m = x := by exact_mod_cast hxm
        exact ⟨_, by rw [this]⟩
      · rw [if_neg hxm]
        rw [htk] at hx
        rcases List.mem_append.mp hx with hx | hx
        · exact hkv x hx
        · exact absurd (by rw [List.mem_singleton.mp hx]) hxm
    · rintro s' ⟨kvs, hkl, hkv, C⟩
      rw [List.take_length] at hkv
      refine x_end_rg R.hh C (by tb_start) ?_
      intro s' C
      refine ⟨rfl, ?_⟩
      obtain ⟨g4, k4, hdo, C⟩ := C.freeze1 (.tl .hd)
      have hdd : g4.DictOf (intKind prog w) D2 kvs := dic_of hdo
      have k04 := k03.trans k4
      have hDl := isList_keeps hDl (k3.trans k4)
      have hrows := hrows.mono fun v row h => h.keeps (k3.trans k4)
      clear hdo hwl hwv
      repeat kts_caught
      refine x_len (by assumption) (Cx.fl (by assumption) (isList_keeps hol k04)) (by omega) ?_
      intro t s' C
      rw [hvl]
      repeat kts_caught
      refine x_rangeN (by assumption) ?_
      intro r s' C
      refine x_iter_rg (by assumption) (by tb_start) (by decide) (by omega) ?_
      intro I2 s' C
      have C := C.loc (L := F) [("sums", _), ("heaps", _), ("worth_of", _)] (by tb_start) (by kts_caughtN) (by simp only [List.map]; decide)
      have hTl := tabF_len sums L
      refine x_loop (fun i s' => ∃ g' tl tv vi, Le g4 g' ∧ Ea (RowAt g') tv ((tabF sums L).take i) ∧ Cx w B g' ((I2, rRg i L.length) :: (tl, rLst tv) :: (F, rLoc [("sums", .ref sl), ("heaps", .ref D), ("worth_of", .ref D2)]) :: (c + 3, rCell vi) :: (c + 2, rCell (some (.ref tl))) :: (c + 1, rCell (some (.ref wd))) :: (c, rCell (some (.ref ol))) :: rs) s') L.length ?_ ?_
        ⟨g4, _, [], none, fun _ _ e => e, .nil, C.sel (by kwd_rel)⟩
      · rintro i s' hi ⟨g', tl, tv, vi, k4', htv, C⟩
        have htvl : tv.length = i := by rw [htv.1, List.length_take, hTl]; omega
        refine x_next_rg C hi (by tb_start) ?_
        intro ti s' C
        refine ⟨_, rfl, ?_⟩
        repeat kts_caught
        refine x_rangeN (by assumption) ?_
        intro r s' C
        refine x_iter_rg (by assumption) (by tb_start) (by decide) (by omega) ?_
        intro J s' C
        refine ⟨_, _, _, C, fun D3 Cc3 s' C => ⟨x_self_rg C (by ktr_rel), ?_⟩⟩
        refine x_cloop (fun k s' => ∃ rv, IntsAre rv ((tRow sums L i).take k) ∧ Cx w B g' ((Cc3, rLoc []) :: (D3, rLst rv) :: (J, rRg k i) :: (I2, rRg (i + 1) L.length) :: (tl, rLst tv) :: (F, rLoc [("sums", .ref sl), ("heaps", .ref D), ("worth_of", .ref D2)]) :: (c + 3, rCell (some (.int (i : Nat) ti))) :: (c + 2, rCell (some (.ref tl))) :: (c + 1, rCell (some (.ref wd))) :: (c, rCell (some (.ref ol))) :: rs) s') i ?_ ?_
          ⟨[], .nil, C.sel (by kwd_rel)⟩
        · rintro k s' hk ⟨rv, hrv, C⟩
          refine x_next_rg C hk (by tb_start) ?_
          intro tk s' C
          refine ⟨_, rfl, ?_⟩
          have hkL : k < L.length := by omega
          have htk : ((tabF sums L).take i)[k]? = some (tRow sums L k) := by rw [List.getElem?_take_of_lt hk]; exact tabF_get sums L hkL
          obtain ⟨v, hv, rr, ru, rfl, hrl, hri⟩ := htv.2 k _ htk
          obtain ⟨te, he⟩ := ia_get hri i (by rw [tRow_len]; exact hi)
          rw [getD_of (tRow_get sums L k hi), tE_sym] at he
          have hrvl : rv.length ≤ 20 := by rw [ia_len hrv, List.length_take, tRow_len]; omega
          repeat kts_caught
          refine x_idx (k := k) (Cx.lst (by assumption) (by ktr_rel)) (by omega) hv ?_
          repeat kts_caught
          refine x_idx (k := i) (Cx.fl (by assumption) hrl) (by omega) he ?_
          refine x_append (by assumption) (by tb_start) (by rw [sizeLine_eq]; omega) ?_
          intro s' C
          rw [take_succG (tRow_get sums L i hkL)]
          exact ⟨_, ia_snocI hrv, C.loc _ (by tb_start) (by kts_caughtN) (by simp only [List.map]; decide)⟩
        · rintro s' ⟨rv, hrv, C⟩
          refine x_end_rg R.hh C (by tb_start) ?_
          intro s' C
          refine ⟨rfl, ?_⟩
          repeat kts_caught
          refine x_len (by assumption) (Cx.fl (by assumption) (isList_keeps hol (k04.trans k4'))) (by omega) ?_
          intro t s' C
          rw [hvl]
          repeat kts_caught
          refine x_range2N (by assumption) ?_
          intro r s' C
          refine x_iter_rg (by assumption) (by tb_start) (by omega) (by omega) ?_
          intro J3 s' C
          have C := C.loc (L := F) [("sums", _), ("heaps", _), ("worth_of", _), ("row", _)] (by tb_start) (by kts_caughtN) (by simp only [List.map]; decide)
          refine x_loop (fun j s' => ∃ rv, IntsAre rv ((tRow sums L i).take (i + j)) ∧ Cx w B g' ((J3, rRg (i + j) L.length) :: (D3, rLst rv) :: (I2, rRg (i + 1) L.length) :: (tl, rLst tv) :: (F, rLoc [("sums", .ref sl), ("heaps", .ref D), ("worth_of", .ref D2), ("row", .ref D3)]) :: (c + 3, rCell (some (.int (i : Nat) ti))) :: (c + 2, rCell (some (.ref tl))) :: (c + 1, rCell (some (.ref wd))) :: (c, rCell (some (.ref ol))) :: rs) s') (L.length - i) ?_ ?_
            ⟨rv, hrv, C⟩
          · rintro j s' hj ⟨rv, hrv, C⟩
            obtain ⟨k, hk⟩ : ∃ k, k = i + j := ⟨_, rfl⟩
            have hkL : k < L.length := by omega
            have hik : i ≤ k := by omega
            rw [show i + (j + 1) = k + 1 by omega]
            rw [← hk] at hrv C
            refine x_next_rg C hkL (by tb_start) ?_
            intro tk s' C
            refine ⟨_, rfl, ?_⟩
            have hrw := hrows.mono fun v row h => h.keeps k4'
            have hmk : ∀ x, x < L.length → (L.map dg)[x]? = some (dg (L.getD x 0)) ∧ (dg (L.getD x 0)).length ≤ 5 ∧ 0 < (dg (L.getD x 0)).length := fun x hx => by
              have hm : L.getD x 0 ∈ L := by rw [List.getD_eq_getElem?_getD, List.getElem?_eq_getElem hx]; exact List.getElem_mem hx
              refine ⟨?_, dg_len (hLb _ hm).1, (hLb _ hm).2.1⟩
              rw [List.getElem?_map, List.getElem?_eq_getElem hx, List.getD_eq_getElem?_getD, List.getElem?_eq_getElem hx]; rfl
            obtain ⟨vk, hvk, ak, uk, rfl, hlk, hik'⟩ := hrw.2 k _ (hmk k hkL).1
            obtain ⟨vi', hvi, ai, ui, rfl, hli, hii⟩ := hrw.2 i _ (hmk i hi).1
            have l1 := (hmk k hkL).2.1
            have l2 := (hmk i hi).2
            have hkeyk := hkey k i hik hkL
            have hte : tE sums L i k = wOf sums (jn L k i) := by unfold tE; rw [Nat.max_eq_right hik, Nat.min_eq_left hik]
            have hrvl : rv.length ≤ 20 := by rw [ia_len hrv, List.length_take, tRow_len]; omega
            have hjn : jn L k i = num (tg (dg (L.getD k 0)) (dg (L.getD i 0))) := rfl
            generalize dg (L.getD k 0) = xk at hik' l1 hjn
            generalize dg (L.getD i 0) = xi at hii l2 hjn
            repeat kts_caught
            refine x_idx (k := k) (Cx.fl (by assumption) (isList_keeps hDl k4')) (by omega) hvk ?_
            repeat kts_caught
            refine x_idx (k := i) (Cx.fl (by assumption) (isList_keeps hDl k4')) (by omega) hvi ?_
            repeat kts_caught
            refine c_together (by ktr_room) (by assumption) (Cx.fl (by assumption) hlk) hik' (Cx.fl (by assumption) hli) hii (by omega) (by omega) (by omega) ?_
            intro rr us s' hus C
            have htl := tg_len xi xk
            repeat kts_caught
            refine c_number (by ktr_room) (by assumption) (Cx.lst (by assumption) (by ktr_rel)) hus (by omega) ?_
            intro tn s' C
            obtain ⟨tw, hw⟩ := hkv _ hkeyk
            rw [← hjn]
            refine x_ditem (by assumption) (Cx.fd (by assumption) (hdd.keep k4')) hw ?_
            intro s' C
            rw [← hte]
            refine x_append (by assumption) (by tb_start) (by rw [sizeLine_eq]; omega) ?_
            intro s' C
            repeat kts_caught
            rename_i C
            rw [take_succG (tRow_get sums L i hkL)]
            exact ⟨_, ia_snocI hrv, (C.drop .hd).loc (L := F) _ (by tb_start) (by kts_caughtN) (by simp only [List.map]; decide)⟩
          · rintro s' ⟨rv, hrv, C⟩
            rw [show i + (L.length - i) = L.length by omega] at hrv C
            rw [List.take_of_length_le (by rw [tRow_len]; exact Nat.le_refl _)] at hrv
            refine x_end_rg R.hh C (by tb_start) ?_
            intro s' C
            refine ⟨rfl, ?_⟩
            repeat kts_caught
            refine x_append (by assumption) (by tb_start) (by rw [sizeLine_eq]; omega) ?_
            intro s' C
            repeat kts_caught
            rename_i C
            obtain ⟨g5, k5, hro, C⟩ := C.freeze1 .hd
            have C := C.loc (L := F) [("sums", _), ("heaps", _), ("worth_of", _)] (by tb_start) (by kts_caughtN) (by simp only [List.map]; decide)
            refine ⟨g5, tl, _, _, k4'.trans k5, ?_, C⟩
            rw [take_succG (tabF_get sums L hi)]
            exact (htv.mono fun v row h => h.keeps k5).snoc ⟨D3, _, rfl, isList_of hro, hrv⟩
      · rintro s' ⟨g', tl, tv, vi, k4', htv, C⟩
        rw [List.take_of_length_le (by omega)] at htv
        refine x_end_rg R.hh C (by tb_start) ?_
        intro s' C
        refine ⟨rfl, ?_⟩
        repeat kts_caught
        rename_i C
        exact h _ _ _ _ (k04.trans k4') htv (C.sel (by kwd_rel))
end
end
section
/-! the order of a set -/
theorem erase_perm {α : Type} : ∀ (l : List α) (i : Nat) (h : i < l.length), (l[i] :: l.eraseIdx i).Perm l
  | [], _, h => absurd h (Nat.not_lt_zero _)
  | x :: r, 0, _ => .refl _
  | x :: r, i + 1, h => by
    have h' : i < r.length := by simpa using h
    have ih := erase_perm r i h'
    show (r[i] :: x :: r.eraseIdx i).Perm (x :: r)
    exact (List.Perm.swap x r[i] _).trans (ih.cons x)
theorem pickOrder_go_perm {α : Type} (next : Nat → Nat) : ∀ (fuel k : Nat) (left : List α) (out : Array α), left.length ≤ fuel → (pickOrder.go next fuel k left out).toList.Perm (out.toList ++ left)
  | 0, k, left, out, h => by
    have : left = [] := List.length_eq_zero_iff.mp (by omega)
    subst this
    unfold pickOrder.go
    simp
  | fuel + 1, k, left, out, h => by
    unfold pickOrder.go
    cases left with
    | nil => simp
    | cons x r =>
      have hlt : next k % (x :: r).length < (x :: r).length := Nat.mod_lt _ (by simp)
      rw [List.getElem?_eq_getElem hlt]
      dsimp only
      have ih := pickOrder_go_perm next fuel (k + 1) ((x :: r).eraseIdx (next k % (x :: r).length)) (out.push (x :: r)[next k % (x :: r).length]) (by
        rw [List.length_eraseIdx_of_lt hlt]
        simp only [List.length_cons] at h ⊢
        omega)
      refine ih.trans ?_
      rw [Array.toList_push, List.append_assoc]
      refine List.Perm.append_left _ ?_
      exact erase_perm _ _ hlt
theorem pickOrder_perm {α : Type} (next : Nat → Nat) (xs : Array α) : (pickOrder next xs).toList.Perm xs.toList := by
  unfold pickOrder
  have := pickOrder_go_perm next xs.size 0 xs.toList #[] (by simp)
  simpa using this
/-- the places of a table of eight -/
noncomputable def plL (m : Nat) : List Nat := (List.range 8).filter fun j => m.testBit j
noncomputable def pl (m : Nat) : Array Nat := (plL m).toArray
noncomputable def tb (bt : Bool) (m : Nat) : SetTable := { mask := 7, place := pl m, dummies := #[], finger := 0, led := !bt, moves := 0, plain := true }
theorem pl_put : ∀ m : Fin 256, (plL m.val).length ≤ 3 → ∀ j : Fin 8, m.val.testBit j.val = false → SetTable.insertAt (pl m.val) (SetTable.below (pl m.val) j.val) j.val = pl (m.val + 2 ^ j.val) ∧ SetTable.below (pl m.val) j.val ≤ (pl m.val).size ∧ ((pl m.val)[SetTable.below (pl m.val) j.val]? == some j.val) = false
    ∧ m.val + 2 ^ j.val < 256 := by decide +kernel
theorem insert_list {α : Type} (xs : Array α) (p : Nat) (x : α) : (SetTable.insertAt xs p x).toList = xs.toList.take p ++ x :: xs.toList.drop p := by
  unfold SetTable.insertAt
  simp only [Array.toList_append, Array.toList_push, Array.toList_extract]
  simp
  exact List.take_of_length_le (by rw [List.length_drop]; simp)
noncomputable def startOf (m k : Nat) : Nat := if k = 0 then 0 else (plL m).getD (k - 1) 0 + 1
theorem pl_next : ∀ m : Fin 256, (plL m.val).length ≤ 4 → ∀ k : Fin 9, k.val ≤ (pl m.val).size → SetTable.below (pl m.val) (startOf m.val k.val) = k.val := by decide +kernel
theorem plL_mem {m j : Nat} : j ∈ plL m ↔ j < 8 ∧ m.testBit j = true := by
  unfold plL; rw [List.mem_filter, List.mem_range]
/-- the entries of a set of small ints -/
inductive Ents : List (Int × Value) → List Nat → Prop
  | nil : Ents [] []
  | cons (y : Nat) (t : Tok) {l ys} : Ents l ys → Ents (((y : Int), .int (y : Int) t) :: l) (y :: ys)
theorem Ents.length {l ys} (h : Ents l ys) : l.length = ys.length := by
  induction h with
  | nil => rfl
  | cons _ _ _ ih => simp [ih]
theorem Ents.append {l l' ys ys'} (h : Ents l ys) (k : Ents l' ys') : Ents (l ++ l') (ys ++ ys') := by
  induction h with
  | nil => exact k
  | cons y t _ ih => exact .cons y t ih
theorem Ents.take {l ys} (h : Ents l ys) : ∀ n, Ents (l.take n) (ys.take n) := by
  induction h with
  | nil => intro n; simp; exact .nil
  | cons y t _ ih =>
    intro n
    cases n with
    | zero => exact .nil
    | succ n => exact .cons y t (ih n)
theorem Ents.drop {l ys} (h : Ents l ys) : ∀ n, Ents (l.drop n) (ys.drop n) := by
  induction h with
  | nil => intro n; simp; exact .nil
  | cons y t h ih =>
    intro n
    cases n with
    | zero => exact .cons y t h
    | succ n => exact ih n
theorem Ents.ints {l ys} (h : Ents l ys) : IntsAre (l.map (·.2)) (zs ys) := by
  induction h with
  | nil => exact .nil
  | cons y t _ ih => exact .cons (y : Int) t ih
theorem Ents.mem {l ys} (h : Ents l ys) : ∀ e ∈ l, ∃ (y : Nat) (t : Tok), y ∈ ys ∧ e = ((y : Int), .int (y : Int) t) := by
  induction h with
  | nil => intro e he; cases he
  | cons y t _ ih =>
    intro e he
    rcases List.mem_cons.mp he with rfl | he
    · exact ⟨y, t, .head _, rfl⟩
    · obtain ⟨z, u, hz, e'⟩ := ih e he
      exact ⟨z, u, .tail _ hz, e'⟩
theorem Ents.has {l ys} (h : Ents l ys) : ∀ y ∈ ys, ∃ t, ((y : Int), Value.int (y : Int) t) ∈ l := by
  induction h with
  | nil => intro e he; cases he
  | cons y t _ ih =>
    intro z hz
    rcases List.mem_cons.mp hz with rfl | hz
    · exact ⟨t, .head _⟩
    · obtain ⟨u, hu⟩ := ih z hz
      exact ⟨u, .tail _ hu⟩
theorem hash_small : ∀ y : Fin 16, hashInt (y.val : Int) = (y.val : Int) := by decide +kernel
theorem bits_small : ∀ y : Fin 16, SetTable.bits (y.val : Int) = y.val := by decide +kernel
/-- what stands in a set of ints below 16 -/
structure SG (bt : Bool) (o : Obj) (ys : List Nat) : Prop where
  ex : ∃ es ep m, o = { cls := .type "set", dict := none, data := .set es ep (tb bt m), slots := #[] } ∧ Ents es.toList ys ∧ ys.map (· % 8) = plL m ∧ m < 256
  nd : ys.Nodup
  lt : ∀ y ∈ ys, y < 16
  four : ys.length ≤ 4
theorem freeSlot_at {bt : Bool} {m y : Nat} (hm : m < 256) (h3 : (plL m).length ≤ 3) (hy : y < 16) (h : m.testBit (y % 8) = false) : (tb bt m).freeSlot (y : Int) = some (y % 8, false) := by
  have hb := bits_small ⟨y, hy⟩
  obtain ⟨_, _, h3, _⟩ := pl_put ⟨m, hm⟩ h3 ⟨y % 8, Nat.mod_lt _ (by decide)⟩ h
  dsimp only at hb h3
  have hs : (tb bt m).slot (y % 8) = .empty := by
    unfold SetTable.slot tb
    dsimp only
    rw [h3]
    simp only [Bool.false_eq_true, if_false]
    have : SetTable.has #[] (y % 8) = false := by unfold SetTable.has; simp
    rw [this]; rfl
  unfold SetTable.freeSlot SetTable.probe SetTable.probeStart
  have ht : SetTable.turns (tb bt m).mask = 22 := rfl
  rw [ht, hb]
  show (match SetTable.probe.go (tb bt m) (fun _ => (y : Int) + 1) (y : Int) (219 + 1) _ with | some (.empty j dummy) => _ | _ => _) = _
  unfold SetTable.probe.go
  dsimp only
  have hmk : (tb bt m).mask + 1 = 8 := rfl
  rw [hmk, hs]
  rfl
theorem layNew_at {bt : Bool} {m y : Nat} {es : Array (Int × Value)} {x : Value} (hm : m < 256) (hy : y < 16) (h : m.testBit (y % 8) = false) (he : es.size = (pl m).size) (h4 : es.size ≤ 3) :
    layNew (tb bt m) es (y : Int) x = (SetTable.insertAt es (SetTable.below (pl m) (y % 8)) ((y : Int), x), tb bt (m + 2 ^ (y % 8)), false, false) := by
  have hl3 : (plL m).length ≤ 3 := by have : (pl m).size = (plL m).length := by simp [pl]
                                      omega
  obtain ⟨h1, h2, h3, h5⟩ := pl_put ⟨m, hm⟩ hl3 ⟨y % 8, Nat.mod_lt _ (by decide)⟩ h
  dsimp only at h1 h2 h3 h5
  unfold layNew
  rw [freeSlot_at hm hl3 hy h]
  dsimp only
  have hput : (tb bt m).put (y % 8) = (tb bt (m + 2 ^ (y % 8)), SetTable.below (pl m) (y % 8)) := by
    unfold SetTable.put
    have : SetTable.has (tb bt m).dummies (y % 8) = false := by unfold SetTable.has tb; simp
    rw [this]
    simp only [Bool.false_eq_true, if_false]
    unfold tb
    dsimp only
    rw [h1]
  rw [hput]
  dsimp only
  have hsz : (SetTable.insertAt es (SetTable.below (pl m) (y % 8)) ((y : Int), x)).size = es.size + 1 := by
    unfold SetTable.insertAt
    simp only [Array.size_append, Array.size_push, Array.size_extract]
    omega
  have hps : (pl (m + 2 ^ (y % 8))).size = (pl m).size + 1 := by
    rw [← h1]
    unfold SetTable.insertAt
    simp only [Array.size_append, Array.size_push, Array.size_extract]
    omega
  have hf : (tb bt (m + 2 ^ (y % 8))).fits (SetTable.insertAt es (SetTable.below (pl m) (y % 8)) ((y : Int), x)).size = true := by
    unfold SetTable.fits SetTable.fill tb
    dsimp only
    rw [hsz, hps, he]
    simp
    omega
  unfold SetTable.orStandIn
  rw [hf]
  simp
end
section
noncomputable def ddup (xs : List Nat) : List Nat := xs.foldl (fun acc x => if x ∈ acc then acc else acc ++ [x]) []
section
variable {prog : Program} {w : World} {A : Around} {E : Value → Shared → Prop} {s s' : Shared}
theorem SG.exact {bt : Bool} {o : Obj} {ys : List Nat} (h : SG bt o ys) : o.ExactSet := by
  obtain ⟨es, ep, m, rfl, _⟩ := h.ex
  exact ⟨rfl, rfl, rfl⟩
theorem ents_elems {l : List (Int × Value)} {ys : List Nat} (h : Ents l ys) (hlt : ∀ y ∈ ys, y < 16) : ElemsOf (intKind prog w) l := by
  intro e he
  obtain ⟨y, t, hy, rfl⟩ := h.mem e he
  refine ⟨⟨(y : Int), intKind_is prog w y t, ?_⟩, rfl⟩
  show (y : Int) = hashInt (y : Int)
  exact (hash_small ⟨y, hlt y hy⟩).symm
theorem ents_find {l : List (Int × Value)} {ys : List Nat} (h : Ents l ys) (x : Nat) : (l.findIdx? fun e => (intKind prog w).is (x : Int) e.2) = ys.findIdx? fun y => decide (x = y) := by
  induction h with
  | nil => rfl
  | cons y t _ ih =>
    rw [List.findIdx?_cons, List.findIdx?_cons, ih]
    have : (intKind prog w).is (x : Int) (.int (y : Int) t) = decide (x = y) := by
      show ((y : Int) == (x : Int)) = _
      rw [Bool.eq_iff_iff, beq_iff_eq, decide_eq_true_eq]
      omega
    rw [this]
theorem sg_add {a : Addr} {o : Obj} {ys : List Nat} {x : Nat} {t : Tok} {bt : Bool} {Q : Bool → Shared → Prop} (ho : s.heap.get? a = some o) (hS : SG bt o ys) (hx : x < 16) (h8 : x ∉ ys → ∀ y ∈ ys, y % 8 ≠ x % 8) (h4 : x ∉ ys → ys.length ≤ 3)
    (h : ∀ b h' o' ys', Heap.SameBut a s.heap h' → h'.get? a = some o' → SG bt o' ys' → (ys'.Perm (if x ∈ ys then ys else ys ++ [x])) → Q b { s with heap := h' }) :
    wpAny (model prog w) A (setAddHashed a (.int (x : Int) t) ((intKind prog w).hash (x : Int))) Q E s := by
  have hash : (intKind prog w).hash (x : Int) = (x : Int) := hash_small ⟨x, hx⟩
  have hkey := intKind_is prog w (x : Int) t
  obtain ⟨es, ep, m, rfl, hent, hpl, hm⟩ := hS.ex
  have hel : ElemsOf (intKind prog w) es.toList := ents_elems hent hS.lt
  have hlen : es.size = ys.length := by rw [← Array.length_toList]; exact hent.length
  have hpsz : (pl m).size = ys.length := by
    have := congrArg List.length hpl
    rw [List.length_map] at this
    simp [pl, this]
  have hf : (tb bt m).fits es.size = true := by
    unfold SetTable.fits SetTable.fill tb
    have := hS.four
    simp [hlen, hpsz]
    omega
  have hb : es.size < scanBound := by have := hS.four; unfold scanBound; omega
  unfold setAddHashed setAddHashedIn
  refine wpAny_holding (wpAny_bind (wpAny_setState_of ho rfl hf ?_))
  dsimp only
  rw [byScan_of rfl hb hel]
  simp only [↓reduceIte]
  unfold setAddByScan
  refine wpAny_bind ?_
  refine wpAny_bind (wpAny_rule ?_)
  refine wpAny_bind (wpAny_setScan_of hkey ho rfl hf hel ?_)
  rw [ents_find hent x]
  by_cases hin : x ∈ ys
  · obtain ⟨j, hj⟩ : ∃ j, ys.findIdx? (fun y => decide (x = y)) = some j := by
      cases e : ys.findIdx? (fun y => decide (x = y)) with
      | some j => exact ⟨j, rfl⟩
      | none =>
        have := List.findIdx?_eq_none_iff.mp e x hin
        simp at this
    rw [hj]
    dsimp only
    refine wpAny_pure (wpAny_pure ?_)
    have e : s = { s with heap := s.heap } := by cases s; rfl
    rw [e]
    exact h false s.heap _ ys (Heap.SameBut.refl a s.heap) ho hS (by rw [if_pos hin])
  · have hj : ys.findIdx? (fun y => decide (x = y)) = none := by
      rw [List.findIdx?_eq_none_iff]
      intro y hy
      exact decide_eq_false (fun e => hin (e ▸ hy))
    rw [hj]
    dsimp only
    have ht : m.testBit (x % 8) = false := by
      cases e : m.testBit (x % 8) with
      | false => rfl
      | true =>
        have : x % 8 ∈ plL m := plL_mem.mpr ⟨Nat.mod_lt _ (by decide), e⟩
        rw [← hpl] at this
        obtain ⟨y, hy, he⟩ := List.mem_map.mp this
        exact absurd he (h8 hin y hy)
    have h3 : es.size ≤ 3 := by rw [hlen]; exact h4 hin
    rw [hash, layNew_at hm hx ht (by rw [hlen, hpsz]) h3]
    have hl3 : (plL m).length ≤ 3 := by rw [← hpl, List.length_map]; exact h4 hin
    obtain ⟨p1, p2, p3, p5⟩ := pl_put ⟨m, hm⟩ hl3 ⟨x % 8, Nat.mod_lt _ (by decide)⟩ ht
    dsimp only at p1 p2 p3 p5
    generalize hp : SetTable.below (pl m) (x % 8) = p at p1 p2 p3
    dsimp only
    refine wpAny_bind (wpAny_pure ?_)
    have hpt : (tb bt (m + 2 ^ (x % 8))).plain = true := rfl
    simp only [hpt, ↓reduceIte]
    rw [hashByValue_scannable 8 rfl]
    refine wpAny_bind (wpAny_pure ?_)
    have hk : plainKind (.int (x : Int) t) = true := rfl
    simp only [hk, ↓reduceIte]
    have hent' : Ents (SetTable.insertAt es p ((x : Int), .int (x : Int) t)).toList (ys.take p ++ x :: ys.drop p) := by
      rw [insert_list]
      exact (hent.take p).append (.cons x t (hent.drop p))
    have hperm : (ys.take p ++ x :: ys.drop p).Perm (ys ++ [x]) := by
      refine List.perm_middle.trans ?_
      rw [List.take_append_drop]
      exact (List.perm_append_singleton x ys).symm
    have hl' : (ys.take p ++ x :: ys.drop p).length = ys.length + 1 := by rw [hperm.length_eq]; simp
    have hpl' : (ys.take p ++ x :: ys.drop p).map (· % 8) = plL (m + 2 ^ (x % 8)) := by
      have := congrArg Array.toList p1
      rw [insert_list] at this
      have e1 : (pl m).toList = plL m := by simp [pl]
      have e2 : (pl (m + 2 ^ (x % 8))).toList = plL (m + 2 ^ (x % 8)) := by simp [pl]
      rw [e1, e2, ← hpl] at this
      rw [← this, List.map_append, List.map_cons, List.map_take, List.map_drop]
    have hsz : (SetTable.insertAt es p ((x : Int), Value.int (x : Int) t)).size = ys.length + 1 := by
      rw [← Array.length_toList, hent'.length, hl']
    have hnew : SG bt { cls := .type "set", dict := none, data := .set (SetTable.insertAt es p ((x : Int), .int (x : Int) t)) (ep + 1) (tb bt (m + 2 ^ (x % 8))), slots := #[] } (ys.take p ++ x :: ys.drop p) := by
      refine ⟨⟨_, _, _, rfl, hent', hpl', p5⟩, ?_, ?_, ?_⟩
      · refine hperm.nodup_iff.mpr ?_
        rw [List.nodup_append]
        refine ⟨hS.nd, by simp, ?_⟩
        intro y hy z hz e
        rw [List.mem_singleton.mp hz] at e
        exact hin (e ▸ hy)
      · intro y hy
        rcases List.mem_append.mp (hperm.mem_iff.mp hy) with hy | hy
        · exact hS.lt y hy
        · rw [List.mem_singleton.mp hy]; exact hx
      · rw [hl']; have := h4 hin; omega
    refine wpAny_bind (wpAny_storeSet_of ho rfl ?_ (by rw [hsz]; have := hS.four; rw [sizeLine_eq]; omega))
    have htf : (tb bt (m + 2 ^ (x % 8))).tooFull = false := by
      unfold SetTable.tooFull SetTable.fill tb
      have : (pl (m + 2 ^ (x % 8))).size = ys.length + 1 := by
        have := congrArg List.length hpl'
        rw [List.length_map, hl'] at this
        simp [pl, ← this]
      have h3' := h4 hin
      simp [this]
      omega
    rw [htf]
    simp only [Bool.not_false, Bool.and_false, Bool.false_eq_true, ↓reduceIte]
    refine wpAny_pure (wpAny_pure ?_)
    have hg : (s.heap.update a (Obj.putSet (SetTable.insertAt es p ((x : Int), .int (x : Int) t)) (tb bt (m + 2 ^ (x % 8))))).get? a = some { cls := .type "set", dict := none, data := .set (SetTable.insertAt es p ((x : Int), .int (x : Int) t)) (ep + 1) (tb bt (m + 2 ^ (x % 8))), slots := #[] } := by
      have := Heap.get?_update_self (Obj.putSet (SetTable.insertAt es p ((x : Int), .int (x : Int) t)) (tb bt (m + 2 ^ (x % 8)))) ho rfl
      exact this
    exact h true _ _ _ (Heap.SameBut.update s.heap a _) hg hnew (by rw [if_neg hin]; exact hperm)
end
end
section
open PySem PySem.W PySem.Calls PyProof.Rows PySem.Spec
theorem ddup_snoc (l : List Nat) (x : Nat) : ddup (l ++ [x]) = if x ∈ ddup l then ddup l else ddup l ++ [x] := by
  unfold ddup; rw [List.foldl_append]; rfl
theorem snoc_ind {P : List Nat → Prop} (h0 : P []) (h1 : ∀ l x, P l → P (l ++ [x])) : ∀ l, P l := by
  intro l
  rw [← List.reverse_reverse l]
  induction l.reverse with
  | nil => exact h0
  | cons x r ih => rw [List.reverse_cons]; exact h1 _ _ ih
theorem mem_ddup (x : Nat) : ∀ l, x ∈ ddup l ↔ x ∈ l := by
  refine snoc_ind (by simp [ddup]) fun l y ih => ?_
  rw [ddup_snoc, List.mem_append, List.mem_singleton]
  split
  · rename_i h
    rw [ih]
    constructor
    · exact .inl
    · rintro (h' | rfl)
      · exact h'
      · exact ih.mp h
  · rw [List.mem_append, List.mem_singleton, ih]
theorem ddup_len : ∀ l, (ddup l).length ≤ l.length := by
  refine snoc_ind (by simp [ddup]) fun l y ih => ?_
  rw [ddup_snoc, List.length_append]
  split
  · omega
  · rw [List.length_append]; simpa using ih
section
variable {prog : Program} {w : World} {A : Around} {R : Result → Shared → Prop} {I : Addr} {fp wr : List Addr} {G : Array GenState → Array GenState → Prop} {n : Nat} {P : Nat → Value → Prop} {St : Nat → Shared → Prop}
theorem update_loopG {bt : Bool} (W : WalksS prog w A.in1 I fp wr G n P St) (S : Addr) (hSf : S ∉ fp) (val : Nat → Nat) (hval : ∀ i v, P i v → ∃ t, v = .int (val i : Int) t) (h16 : ∀ i, i < n → val i < 16)
    (h8 : ∀ i j, i < n → j < n → val i ≠ val j → val i % 8 ≠ val j % 8) (h4 : n ≤ 4) :
    ∀ (k i : Nat) (s : Shared) (o : Obj) (ys : List Nat), n - i = k → i ≤ n → St i s → s.heap.get? S = some o → SG bt o ys → ys.Perm (ddup ((List.range i).map val)) →
      (∀ s' o' ys', Moved (S :: wr) G s s' → s'.heap.get? S = some o' → SG bt o' ys' → ys'.Perm (ddup ((List.range n).map val)) → R (.ok (.ret .none)) s') →
      codeAny (model prog w) A (.builtin "set.update.loop" ⟨[.ref S, .ref I], []⟩) R s := by
  have hSw : S ∉ wr := fun h => hSf (W.sub _ h)
  have hsub : ∀ b ∈ wr, b ∈ S :: wr := fun b hb => List.mem_cons_of_mem _ hb
  intro k
  induction k with
  | zero =>
    intro i s o ys hk hi hst ho hS hp hR
    have hin : i = n := by omega
    subst hin
    refine codeAny_builtin F.entry_set_update_loop ?_
    rw [Around.under_plainId F.plain_set_update_loop _]
    show wpAny _ A.in1 (pyNext (.ref I) >>= _) _ _ s
    refine wpAny_bind (W.done s _ _ hst fun s' hm => ?_)
    show wpAny _ A.in1 (ret Value.none) _ _ s'
    exact wpAny_pure (hR s' o ys (hm.mono hsub) (hm.heap S _ hSw ho) hS hp)
  | succ k ih =>
    intro i s o ys hk hi hst ho hS hp hR
    have hlt : i < n := by omega
    refine codeAny_builtin F.entry_set_update_loop ?_
    rw [Around.under_plainId F.plain_set_update_loop _]
    show wpAny _ A.in1 (pyNext (.ref I) >>= _) _ _ s
    refine wpAny_bind (W.item i s _ _ hlt hst fun v s' hP hst' hm => ?_)
    obtain ⟨t, rfl⟩ := hval i v hP
    have ho' := hm.heap S _ hSw ho
    show wpAny _ A.in1 (holding [Value.int (val i : Int) t] (setAdd S (.int (val i : Int) t)) >>= _) _ _ s'
    refine wpAny_bind (wpAny_holding ?_)
    unfold setAdd
    refine wpAny_holding ?_
    refine wpAny_bind ((intKind prog w).pyHash (k := (val i : Int)) (intKind_is _ _ _ _) ?_)
    have hmem : ∀ y ∈ ys, ∃ j, j < i ∧ y = val j := fun y hy => by
      have := (mem_ddup y _).mp (hp.mem_iff.mp hy)
      obtain ⟨j, hj, e⟩ := List.mem_map.mp this
      exact ⟨j, List.mem_range.mp hj, e.symm⟩
    refine sg_add (bt := bt) (s := { s' with toks := s'.toks + 1 }) ho' hS (h16 i hlt) (fun hn y hy => ?_) (fun hn => ?_) fun b h' o' ys' hsb ho2 hS2 hp2 => ?_
    · obtain ⟨j, hj, rfl⟩ := hmem y hy
      exact h8 j i (by omega) hlt (fun e => hn (e ▸ hy))
    · have := hp.length_eq
      have h2 := ddup_len ((List.range i).map val)
      rw [List.length_map, List.length_range] at h2
      omega
    have hSi : ys'.Perm (ddup ((List.range (i + 1)).map val)) := by
      rw [List.range_succ, List.map_append, List.map_cons, List.map_nil, ddup_snoc]
      refine hp2.trans ?_
      by_cases hx : val i ∈ ys
      · rw [if_pos hx, if_pos (hp.mem_iff.mp hx)]; exact hp
      · rw [if_neg hx, if_neg (fun h => hx (hp.mem_iff.mpr h))]; exact hp.append_right _
    refine wpAny_pure ⟨plainId_quiet F.plain_set_update_loop _, ih (i + 1) _ o' ys' (by omega) hlt (W.frame _ s' _ _ hst' (Nat.le_succ _) fun b hb o e => ?_) ho2 hS2 hSi fun s'' o3 ys3 hm'' ho3 hS3 hp3 => ?_⟩
    · rw [hsb.2 b (fun h : b = S => hSf (by rw [← h]; exact hb))]; exact e
    · refine hR s'' o3 ys3 (Moved.trans W.gtrans ((hm.mono hsub).then_heap (Nat.le_succ _) fun b o hb e => ?_) hm'') ho3 hS3 hp3
      rw [hsb.2 b (fun h : b = S => hb (by rw [h]; exact List.mem_cons_self))]; exact e
end
noncomputable abbrev btOf (w : World) : Bool := w.params.followText "set-order"
theorem tb_zero (bt : Bool) : SetTable.fresh 0 0 (!bt) = tb bt 0 := by
  unfold SetTable.fresh tb
  rw [show pl 0 = #[] from by decide +kernel]
theorem sg_nil (bt : Bool) : SG bt { cls := .type "set", dict := none, data := .set #[] 0 (.fresh 0 0 (!bt)) } [] :=
  ⟨⟨#[], 0, 0, by rw [tb_zero], .nil, by decide +kernel, by decide⟩, List.nodup_nil, fun _ h => (nomatch h), Nat.zero_le _⟩
section
variable {prog : Program} {w : World} {A : Around} {E : Value → Shared → Prop} {s : Shared}
theorem set_newG (a : Value) {Q₁ : Value → Shared → Prop}
    (h : Q₁ (.ref s.heap.objs.size) { s with heap := s.heap.push { cls := .type "set", dict := none, data := .set #[] 0 (.fresh 0 0 (!(btOf w))) } }) :
    codeAny (model prog w) A (.call (.builtin "set.__new__") ⟨[.type "set", a], []⟩) (wants Q₁ E) s := by
  refine codeAny_of_tree ?_
  show wpAny _ A.in1 (do checkBuiltinCall "set.__new__" ⟨[.type "set", a], []⟩; again (.builtin "set.__new__" ⟨[.type "set", a], []⟩)) _ _ s
  refine wpAny_bind (wpAny_of_eq (PySem.F.newCall_set_1 a) (wpAny_pure ⟨plainId_quiet PySem.F.plain_set_new _, codeAny_builtin PySem.F.entry_set_new ?_⟩))
  rw [Around.under_plainId PySem.F.plain_set_new _]
  unfold Builtin.«set.__new__» Builtin.Frozenset.newClass
  have hsub := sub_set_self
  obtain ⟨hp, g, d, tk, os⟩ := s
  dsimp only
  wp_walk
  refine wpAny_askSetting (wpAny_pure ?_)
  dsimp only
  simp only [newObj]
  refine wpAny_bind (wpAny_alloc (wpAny_pure ?_))
  exact wpAny_pure h
end
end
section
open PySem PySem.W PySem.Calls PyProof.Rows PySem.Spec
section
variable {prog : Program} {w : World} {A : Around} {E : Value → Shared → Prop} {s : Shared}
theorem range_val (xs : List Nat) : (List.range xs.length).map (fun i => xs.getD i 0) = xs := by
  refine List.ext_getElem (by simp) fun i h1 h2 => ?_
  simp [List.getD_eq_getElem?_getD, h2]
set_option maxHeartbeats 4000000 in
theorem call_setG {l : Addr} {vs : List Value} {xs : List Nat} {Q : Value → Shared → Prop} (hh : A.handled = none) (hl : s.heap.IsList l vs.toArray) (hi : IntsAre vs (zs xs)) (h16 : ∀ x ∈ xs, x < 16)
    (h8 : ∀ x ∈ xs, ∀ y ∈ xs, x ≠ y → x % 8 ≠ y % 8) (h4 : xs.length ≤ 4)
    (h : ∀ (h' : Heap) (tk : Nat) (o : Obj) (ys : List Nat), h'.get? s.heap.objs.size = some o → SG (btOf w) o ys → ys.Perm (ddup xs) → (∀ b o, b < s.heap.objs.size → s.heap.get? b = some o → h'.get? b = some o) → Q (.ref s.heap.objs.size) { s with heap := h', toks := tk }) :
    wpAny (model prog w) A (call (.type "set") [.ref l]) Q E s := by
  have hvl : vs.length = xs.length := by rw [ia_len hi, zs_len]
  obtain ⟨c, tl, hmro⟩ := PySem.F.called_set.mro
  have hmade := PySem.F.called_set.made
  have hsub := PySem.F.called_set.sub
  refine wpAny_call (codeAny_of_tree ?_)
  show wpAny _ _ (callAny (.type "set") _) _ _ _
  refine wpAny_pure ⟨Code.quiet_builtin _ (by decide +kernel), codeAny_builtin PySem.F.entry_type_call ?_⟩
  rw [Around.under_plain (weight_type_call_type "set" [.ref l] []) rfl]
  have h1 := PySem.F.called_set.notType
  have h2 := PySem.F.called_set.canCreate
  have hct := PySem.F.typeCall_set_1 (.ref l)
  repeat (any_goals (first | assumption | wp_step))
  refine codeAny_mono (set_newG (.ref l) (E := E) (Q₁ := fun obj s₁ => obj = .ref s.heap.objs.size ∧ s₁ = { s with heap := s.heap.push { cls := .type "set", dict := none, data := .set #[] 0 (.fresh 0 0 (!(btOf w))) } }) ⟨rfl, rfl⟩) fun r s₁ hr => ?_
  cases r with
  | error e => exact hr
  | ok fl =>
    cases fl with
    | ret obj =>
      obtain ⟨rfl, rfl⟩ := hr
      have hS : (s.heap.push { cls := .type "set", dict := none, data := .set #[] 0 (.fresh 0 0 (!(btOf w))) }).get? s.heap.objs.size = some { cls := .type "set", dict := none, data := .set #[] 0 (.fresh 0 0 (!(btOf w))) } := Heap.get?_push_size _ rfl
      have hT : Shared.TypeIs { s with heap := s.heap.push { cls := .type "set", dict := none, data := .set #[] 0 (.fresh 0 0 (!(btOf w))) } } (.ref s.heap.objs.size) "set" := ⟨_, hS, rfl⟩
      have hli := PySem.F.called_set.init.lookup
      have hbi := PySem.F.called_set.init.bind (.ref s.heap.objs.size)
      repeat (any_goals (first | assumption | wp_step))
      refine codeAny_mono (codeAny_call_builtin (R := wants (fun r s₂ => r = .none ∧ ∃ h' tk o ys, s₂ = { s with heap := h', toks := tk } ∧ h'.get? s.heap.objs.size = some o ∧ SG (btOf w) o ys ∧ ys.Perm (ddup xs) ∧
          (∀ b o, b < s.heap.objs.size → s.heap.get? b = some o → h'.get? b = some o)) E) PySem.F.called_set.init.plain PySem.F.entry_set_init (check_set_init_1 hT ?_)) fun r₂ s₂ hr₂ => ?_
      · obtain ⟨ol, hol, hcl, nl, hdl⟩ := id hl
        obtain ⟨ocls, odict, odata, oslots⟩ := ol
        simp only at hcl hdl
        subst hcl; subst hdl
        have hol' : (s.heap.push { cls := .type "set", dict := none, data := .set #[] 0 (.fresh 0 0 (!(btOf w))) }).get? l = some { cls := .type "list", dict := odict, data := .seq vs.toArray nl, slots := oslots } := Heap.get?_push_of_some _ hol
        have hsls := PySem.F.sub_list_set
        have hslf := PySem.F.sub_list_frozenset
        have hne : (Value.type "list" == Value.type "dict") = false := by decide
        have hl1 : (s.heap.push { cls := .type "set", dict := none, data := .set #[] 0 (.fresh 0 0 (!(btOf w))) }).IsList l vs.toArray := ⟨_, hol', rfl, nl, rfl⟩
        unfold Builtin.«set.__init__» noKeywords Builtin.Frozenset.updateFrom
        generalize hPI : pyIter = PI
        wp_walk
        subst hPI
        refine wpAny_pyIter_list hl1 ?_
        refine wpAny_bind (wpAny_runValue ?_)
        have hlS : l < s.heap.objs.size := Heap.lt_size hol
        have hh3 : A.in1.in1.in1.handled = none := by simp [hh]
        have hneI : l ≠ (s.heap.push { cls := .type "set", dict := none, data := .set #[] 0 (.fresh 0 0 (!(btOf w))) }).objs.size := by
          rw [Heap.size_push]; exact Nat.ne_of_lt (Nat.lt_succ_of_lt hlS)
        have hSf : s.heap.objs.size ∉ [(s.heap.push { cls := .type "set", dict := none, data := .set #[] 0 (.fresh 0 0 (!(btOf w))) }).objs.size, l] := by
          rw [Heap.size_push]; simp only [List.mem_cons, List.mem_singleton, List.not_mem_nil, or_false, not_or]
          exact ⟨Nat.ne_of_lt (Nat.lt_succ_self _), Nat.ne_of_gt hlS⟩
        have hval : ∀ (i : Nat) (v : Value), vs.toArray[i]? = some v → ∃ t, v = .int (((fun i => xs.getD i 0) i : Nat) : Int) t := fun i v hv => by
          obtain ⟨t, e⟩ := PyProof.Rows.IntsAre.int_at hi i v (by simpa using hv)
          exact ⟨t, by rw [e, zs_getD]⟩
        have hget : ((s.heap.push { cls := .type "set", dict := none, data := .set #[] 0 (.fresh 0 0 (!(btOf w))) }).push { cls := .type "list_iterator", data := .fields #[.ref l, .int 0 0] }).get? s.heap.objs.size
              = some { cls := .type "set", dict := none, data := .set #[] 0 (.fresh 0 0 (!(btOf w))) } := Heap.get?_push_of_some _ hS
        have hsz : vs.toArray.size = xs.length := by simpa using hvl
        have gm : ∀ i, i < xs.length → xs.getD i 0 ∈ xs := fun i hi => by rw [List.getD_eq_getElem?_getD, List.getElem?_eq_getElem hi]; exact List.getElem_mem hi
        refine update_loopG (bt := btOf w) ((Walks.list hh3 _ l hneI vs.toArray).toS) s.heap.objs.size
          hSf (fun i => xs.getD i 0) hval (fun i hi => h16 _ (gm i (by omega))) (fun i j hi hj hne => h8 _ (gm i (by omega)) _ (gm j (by omega)) hne) (by omega) (vs.toArray.size - 0) 0 _ _ [] (by omega) (Nat.zero_le _)
          ⟨⟨_, Heap.get?_push_size _ rfl, rfl, rfl⟩, (hl1.push _)⟩ hget (sg_nil _) (by simp [ddup]) ?hR
        case hR =>
          intro s' o' ys' hm ho' hS' hp'
          rw [hsz, range_val] at hp'
          obtain ⟨h', g', d', tk', os'⟩ := s'
          have eg : g' = s.gens := hm.gens
          have ed : d' = s.drawn := hm.drawn
          have eo : os' = s.os := hm.os
          subst eg; subst ed; subst eo
          show wpAny _ _ _ _ _ _
          refine wpAny_pure ?_
          show wpAny _ _ (ret Value.none) _ _ _
          refine wpAny_pure ⟨rfl, h', tk', o', ys', rfl, ho', hS', hp', fun b o hb e => ?_⟩
          have hb1 : b ≠ s.heap.objs.size := Nat.ne_of_lt hb
          have hb2 : b ≠ (s.heap.push { cls := .type "set", dict := none, data := .set #[] 0 (.fresh 0 0 (!(btOf w))) }).objs.size := by
            rw [Heap.size_push]; exact Nat.ne_of_lt (Nat.lt_succ_of_lt hb)
          exact hm.heap b o (by simp only [List.mem_cons, List.mem_singleton, List.not_mem_nil, or_false, not_or]; exact ⟨hb1, hb2⟩) (Heap.get?_push_of_some _ (Heap.get?_push_of_some _ e))
      · cases r₂ with
        | error e => exact hr₂
        | ok fl₂ =>
          cases fl₂ with
          | ret r =>
            obtain ⟨rfl, h', tk, o', ys', rfl, ho', hS', hp', hk'⟩ := hr₂
            repeat (any_goals (first | assumption | wp_step))
            exact h _ _ _ _ ho' hS' hp' hk'
          | _ => exact hr₂.elim
    | _ => exact hr.elim
variable {B : Shared} {g : Heap} {rs rs' : Rs}
noncomputable def rSet (bt : Bool) (ys : List Nat) : Res := fun o => SG bt o ys
theorem x_set {l : Addr} {vs : List Value} {xs : List Nat} {Q : Value → Shared → Prop} (hh : A.handled = none) (C : Cx w B g rs s) (hl : s.heap.IsList l vs.toArray) (hi : IntsAre vs (zs xs)) (h16 : ∀ x ∈ xs, x < 16)
    (h8 : ∀ x ∈ xs, ∀ y ∈ xs, x ≠ y → x % 8 ≠ y % 8) (h4 : xs.length ≤ 4) (h : ∀ S ys s', ys.Perm (ddup xs) → Cx w B g ((S, rSet (btOf w) ys) :: rs) s' → Q (.ref S) s') : wpAny (model prog w) A (call (.type "set") [.ref l]) Q E s := by
  refine call_setG hh hl hi h16 h8 h4 fun h' tk o ys ho hS hp hk => h _ ys _ hp (C.add (fun b o e => hk b o (Heap.lt_size e) e) (not_at_size _) ho hS tk)
end
end
section
open PySem PySem.W PySem.Calls PyProof.Rows PySem.Spec
theorem entry_set_iter : entryFor table "set.__iter__" = some Builtin.«frozenset.__iter__» :=
  entryFor_alias (id' := "frozenset.__iter__") (by kernel_rfl) rfl (by decide +kernel) (by kernel_rfl)
theorem slot_setit_next : Slot "set_iterator" "__next__" "set_iterator.__next__" :=
  .of (owner := "set_iterator") (n := "__next__") (by rw [typeLookup_type, builtinLookup_eq_fast]; kernel_rfl) (by decide +kernel) (by decide +kernel) (by decide +kernel)
    (by first | exact .inl (by decide +kernel) | exact .inr (by decide +kernel)) (by rw [isSubtype_type]; kernel_rfl)
theorem slot_setit_iter : Slot "set_iterator" "__iter__" "set_iterator.__iter__" :=
  .of (owner := "set_iterator") (n := "__iter__") (by rw [typeLookup_type, builtinLookup_eq_fast]; kernel_rfl) (by decide +kernel) (by decide +kernel) (by decide +kernel)
    (by first | exact .inl (by decide +kernel) | exact .inr (by decide +kernel)) (by rw [isSubtype_type]; kernel_rfl)
theorem entry_setit_next : entryFor table "set_iterator.__next__" = some Builtin.«set_iterator.__next__» := entryFor_of_fast (by kernel_rfl)
theorem entry_setit_iter : entryFor table "set_iterator.__iter__" = some Builtin.«dict_keyiterator.__iter__» :=
  entryFor_alias (id' := "dict_keyiterator.__iter__") (by kernel_rfl) rfl (by decide +kernel) (by kernel_rfl)
theorem args_setit_next (a : Value) : argsOk "set_iterator.__next__" ⟨[a], []⟩ := by unfold argsOk; kernel_rfl
theorem args_setit_iter (a : Value) : argsOk "set_iterator.__iter__" ⟨[a], []⟩ := by unfold argsOk; kernel_rfl
noncomputable def itObj (slot i n ep : Nat) (S : Addr) : Obj := { cls := .type "set_iterator", dict := none, data := .fields #[rawInt slot, rawInt i, .ref S, rawInt n, rawInt ep], slots := #[] }
noncomputable abbrev setObj (bt : Bool) (es : Array (Int × Value)) (ep m : Nat) : Obj := { cls := .type "set", dict := none, data := .set es ep (tb bt m), slots := #[] }
noncomputable def ordOf (w : World) (S : Addr) (es : Array (Int × Value)) (ep : Nat) : Array (Int × Value) := if btOf w then pickOrder (w.params.setOrder S ep) es else es
theorem ordOf_perm (w : World) (S : Addr) (es : Array (Int × Value)) (ep : Nat) : (ordOf w S es ep).toList.Perm es.toList := by
  unfold ordOf
  split
  · exact pickOrder_perm _ _
  · exact .refl _
noncomputable def slotAt (w : World) (m i : Nat) : Nat := if btOf w then 0 else startOf m i
section
variable {prog : Program} {w : World} {A : Around} {E : Value → Shared → Prop} {s : Shared} {S I : Addr} {es : Array (Int × Value)} {ep m i : Nat}
theorem pyIter_set {Q : Value → Shared → Prop} (ho : s.heap.get? S = some (setObj (btOf w) es ep m)) (hf : (tb (btOf w) m).fits es.size = true)
    (h : Q (.ref s.heap.objs.size) { s with heap := s.heap.push (itObj 0 0 es.size ep S) }) : wpAny (model prog w) A (pyIter (.ref S)) Q E s := by
  have hT : s.TypeIs (.ref S) "set" := ⟨_, ho, rfl⟩
  refine wpAny_pyIter_slot hT PySem.F.slot_set_iter (wpAny_call_entry PySem.F.slot_set_iter hT entry_set_iter ?_ (PySem.F.args_set_iter_1 _))
  unfold Builtin.«frozenset.__iter__»
  refine wpAny_bind (wpAny_pure ?_)
  refine wpAny_bind ?_
  unfold Builtin.Frozenset.sizeOf
  refine wpAny_bind (wpAny_setEntries_of ho rfl hf (wpAny_pure ?_))
  refine wpAny_bind (m := setDrawn S) ?_
  unfold setDrawn
  refine wpAny_bind (m := setState S) (wpAny_setState_of ho rfl hf ?_)
  refine wpAny_bind (m := setsByText) ?_
  unfold setsByText
  refine wpAny_bind (wpAny_askSetting (wpAny_pure ?_))
  refine wpAny_pure ?_
  refine wpAny_ite_split (fun hab => absurd (show (false && decide (es.size > 1)) = true from (Bool.and_eq_true_iff.mp hab).2) (by simp)) (fun _ => ?_)
  refine wpAny_bind (wpAny_pure ?_)
  refine wpAny_bind (wpAny_setEpoch_of ho rfl hf ?_)
  refine wpAny_bind (wpAny_newObj_type (wpAny_pure ⟨_, rfl, "set_iterator", _, ⟨_, Heap.get?_push_size _ rfl, rfl⟩, slot_setit_next.lookup, h⟩) (by size_fits))
end
end
section
open PySem PySem.W PySem.Calls PyProof.Rows PySem.Spec
section
variable {prog : Program} {w : World} {A : Around} {E : Value → Shared → Prop} {s : Shared} {S I : Addr} {es : Array (Int × Value)} {ep m i : Nat}
theorem setNext_at {Q : Option (Value × Nat) → Shared → Prop} (ho : s.heap.get? S = some (setObj (btOf w) es ep m)) (hf : (tb (btOf w) m).fits es.size = true) (hm : m < 256) (h4 : es.size ≤ 4) (hi : i ≤ es.size)
    (h : Q (((ordOf w S es ep)[i]?).map fun e => (e.2, slotAt w m (i + 1))) s) : wpAny (model prog w) A (setNext S (slotAt w m i) i ep) Q E s := by
  have hps : (pl m).size = es.size := by
    unfold SetTable.fits tb at hf
    simp only [Bool.and_eq_true, beq_iff_eq] at hf
    exact hf.1
  have hpl : (plL m).length = es.size := by rw [← hps]; simp [pl]
  unfold setNext
  refine wpAny_bind (m := setState S) (wpAny_setState_of ho rfl hf ?_)
  refine wpAny_bind (m := setsByText) ?_
  unfold setsByText
  refine wpAny_bind (wpAny_askSetting (wpAny_pure ?_))
  refine wpAny_ite_split (fun hbt => ?_) (fun hbt => ?_)
  · have hbt : btOf w = true := hbt
    refine wpAny_ite_split (fun hab => absurd hab (by simp)) (fun _ => ?_)
    refine wpAny_bind (m := setWalk S) ?_
    unfold setWalk
    refine wpAny_bind (m := setState S) (wpAny_setState_of ho rfl hf ?_)
    refine wpAny_bind (m := setsByText) ?_
    unfold setsByText
    refine wpAny_bind (wpAny_askSetting (wpAny_pure ?_))
    refine wpAny_ite_split (fun _ => ?_) (fun hab => absurd hbt hab)
    refine wpAny_bind (wpAny_askSetting (wpAny_pure ?_))
    refine wpAny_pure ?_
    have e1 : ordOf w S es ep = pickOrder (w.params.setOrder S ep) es := by unfold ordOf; rw [if_pos hbt]
    have e2 : ∀ k, slotAt w m k = 0 := fun k => by unfold slotAt; rw [if_pos hbt]
    rw [e1, e2] at h
    rw [e2]
    exact h
  · have hbt : ¬ btOf w = true := hbt
    have hbf : btOf w = false := by simpa using hbt
    refine wpAny_ite_split (fun hab => absurd (show (false && decide (es.size > 1)) = true from hab) (by simp)) (fun _ => ?_)
    refine wpAny_bind ?_
    refine wpAny_ite_split (fun hab => absurd (show (!(!(btOf w)) && !es.isEmpty) = true from hab) (by rw [hbf]; simp)) (fun _ => ?_)
    refine wpAny_pure ?_
    refine wpAny_pure ?_
    have e1 : ordOf w S es ep = es := by unfold ordOf; rw [if_neg hbt]
    have e2 : ∀ k, slotAt w m k = startOf m k := fun k => by unfold slotAt; rw [if_neg hbt]
    rw [e1, e2] at h
    rw [e2]
    have hb := pl_next ⟨m, hm⟩ (by rw [hpl]; exact h4) ⟨i, by omega⟩ (by rw [hps]; exact hi)
    dsimp only at hb
    show Q (match es[SetTable.below (pl m) (startOf m i)]?, (pl m)[SetTable.below (pl m) (startOf m i)]? with | some (_, x), some j => some (x, j + 1) | _, _ => none) s
    rw [hb]
    rcases Nat.lt_or_ge i es.size with hlt | hge
    · have h1 : (pl m)[i]? = some ((plL m).getD i 0) := by
        have : i < (plL m).length := by omega
        simp [pl, List.getD_eq_getElem?_getD, this]
      have h2 : es[i]? = some es[i] := Array.getElem?_eq_getElem hlt
      rw [h1, h2]
      rw [h2] at h
      have h3 : startOf m (i + 1) = (plL m).getD i 0 + 1 := by unfold startOf; rw [if_neg (Nat.succ_ne_zero i)]; rfl
      rw [h3] at h
      exact h
    · have h2 : es[i]? = none := Array.getElem?_eq_none hge
      rw [h2] at h ⊢
      exact h
theorem next_set_item {e : Int × Value} {Q : Option Value → Shared → Prop} (hit : s.heap.get? I = some (itObj (slotAt w m i) i es.size ep S)) (ho : s.heap.get? S = some (setObj (btOf w) es ep m)) (hf : (tb (btOf w) m).fits es.size = true) (hm : m < 256) (h4 : es.size ≤ 4) (hi : i < es.size)
    (he : (ordOf w S es ep)[i]? = some e) (h : ∀ h', h'.get? I = some (itObj (slotAt w m (i + 1)) (i + 1) es.size ep S) → Heap.SameBut I s.heap h' → Q (some e.2) { s with heap := h' }) : wpAny (model prog w) A (pyNext (.ref I)) Q E s := by
  have hT : s.TypeIs (.ref I) "set_iterator" := ⟨_, hit, rfl⟩
  unfold pyNext
  refine wpAny_bind (wpAny_attempt (wpAny_callSpecial?_slot (name := Str.ofString "__next__") hT slot_setit_next (wpAny_call_entry slot_setit_next hT entry_setit_next ?_ (args_setit_next _))))
  unfold Builtin.«set_iterator.__next__»
  refine wpAny_bind (wpAny_pure ?_)
  refine wpAny_bind (m := fieldsOf (.ref I)) (wpAny_fieldsOf hit rfl ?_)
  show wpAny _ _ (setEntries S >>= _) _ _ s
  refine wpAny_bind (wpAny_setEntries_of ho rfl hf ?_)
  refine wpAny_ite_split (fun hab => absurd hab (by simp)) (fun _ => ?_)
  show wpAny _ _ (setNext S ((slotAt w m i : Nat) : Int).toNat ((i : Nat) : Int).toNat ((ep : Nat) : Int).toNat >>= _) _ _ s
  simp only [Int.toNat_natCast]
  refine wpAny_bind (setNext_at ho hf hm h4 (Nat.le_of_lt hi) ?_)
  rw [he]
  show wpAny _ _ (setField (.ref I) 0 (rawInt ((slotAt w m (i + 1) : Nat) : Int)) >>= _) _ _ s
  refine wpAny_bind (wpAny_setField hit rfl (by simp) ?_)
  have g1 := Heap.get?_update_self (h := s.heap) (Obj.mapFields (·.setIfInBounds 0 (rawInt ((slotAt w m (i + 1) : Nat) : Int)))) hit rfl
  refine wpAny_bind (wpAny_setField (s := { s with heap := s.heap.update I (Obj.mapFields (·.setIfInBounds 0 (rawInt ((slotAt w m (i + 1) : Nat) : Int)))) }) g1 rfl (by simp) ?_)
  have g2 := Heap.get?_update_self (h := s.heap.update I (Obj.mapFields (·.setIfInBounds 0 (rawInt ((slotAt w m (i + 1) : Nat) : Int))))) (Obj.mapFields (·.setIfInBounds 1 (rawInt ((i : Nat) + 1 : Int)))) g1 rfl
  refine wpAny_pure ⟨e.2, rfl, wpAny_pure (h _ g2 ((Heap.SameBut.update s.heap I _).trans (Heap.SameBut.update _ I _)))⟩
theorem next_set_end {Q : Option Value → Shared → Prop} (hh : A.handled = none) (hit : s.heap.get? I = some (itObj (slotAt w m es.size) es.size es.size ep S)) (ho : s.heap.get? S = some (setObj (btOf w) es ep m)) (hf : (tb (btOf w) m).fits es.size = true) (hm : m < 256) (h4 : es.size ≤ 4)
    (hsz : (ordOf w S es ep).size = es.size) (h : ∀ h', Heap.ExtBut I s.heap h' → Q none { s with heap := h' }) : wpAny (model prog w) A (pyNext (.ref I)) Q E s := by
  have hT : s.TypeIs (.ref I) "set_iterator" := ⟨_, hit, rfl⟩
  unfold pyNext
  refine wpAny_bind (wpAny_attempt (wpAny_callSpecial?_slot (name := Str.ofString "__next__") hT slot_setit_next (wpAny_call_entry slot_setit_next hT entry_setit_next ?_ (args_setit_next _))))
  unfold Builtin.«set_iterator.__next__»
  refine wpAny_bind (wpAny_pure ?_)
  refine wpAny_bind (m := fieldsOf (.ref I)) (wpAny_fieldsOf hit rfl ?_)
  show wpAny _ _ (setEntries S >>= _) _ _ s
  refine wpAny_bind (wpAny_setEntries_of ho rfl hf ?_)
  refine wpAny_ite_split (fun hab => absurd hab (by simp)) (fun _ => ?_)
  show wpAny _ _ (setNext S ((slotAt w m es.size : Nat) : Int).toNat ((es.size : Nat) : Int).toNat ((ep : Nat) : Int).toNat >>= _) _ _ s
  simp only [Int.toNat_natCast]
  refine wpAny_bind (setNext_at ho hf hm h4 (Nat.le_refl _) ?_)
  rw [Array.getElem?_eq_none (by omega)]
  show wpAny _ _ (setField (.ref I) 2 .none >>= _) _ _ s
  refine wpAny_bind (wpAny_setField hit rfl (by simp) ?_)
  show wpAny _ _ (newExc (.type "StopIteration") [] >>= _) _ _ _
  refine wpAny_bind ?_
  simp only [newExc, newTuple]
  refine wpAny_bind (wpAny_newObj_type ?_ (by size_fits))
  refine wpAny_bind (m := firstArgMember _ _) (wpAny_of_eq (a := Value.none) (by first | rfl | (simp only [firstArgMember]; rfl)) ?_)
  refine wpAny_newObj_type ?_ (by size_fits)
  simp only [raiseNew]
  refine wpAny_bind (wpAny_handled ?_)
  rw [show A.in1.handled = none from hh]
  refine wpAny_bind (wpAny_pure (wpAny_throw ?_))
  refine wpAny_bind (wpAny_isInstance (T := "StopIteration") (b := true) ⟨_, Heap.get?_push_size _ rfl, rfl⟩ isSubtype_stop ?_)
  exact wpAny_pure (h _ (((Heap.SameBut.update ..).extBut.push _).push _))
end
end
section
open PySem PySem.W PySem.Calls PyProof.Rows PySem.Spec
theorem num_perm {a b : List Nat} (h : a.Perm b) : num a = num b := by
  unfold num
  rw [isort_uniq (l := b) ((isort_perm a).trans h) (isort_sorted a)]
section
variable {prog : Program} {w : World} {A : Around} {E : Value → Shared → Prop} {s : Shared} {S I : Addr} {es : Array (Int × Value)} {ep m i : Nat}
theorem hint_set {Q : Bool → Shared → Prop} (hT : s.TypeIs (.ref S) "set") (h : Q false s) : wpAny (model prog w) A (Builtin.List.listLengthHint (.ref S)) Q E s := by
  unfold Builtin.List.listLengthHint
  refine wpAny_bind (wpAny_specialOf hT PySem.F.slot_set_len.lookup ?_)
  generalize hid : ("set.__len__" : String) = id0
  wp_delta
  rw [show splitId id0 = some ("set", "__len__") from by subst hid; decide +kernel]
  subst hid
  refine wpAny_bind (wpAny_isInstance (T := "set") (b := true) hT (by rw [isSubtype_type]; kernel_rfl) ?_)
  refine wpAny_ite_split (fun hab => absurd hab (by decide)) (fun _ => ?_)
  refine wpAny_ite_split (fun _ => ?_) (fun hab => absurd (by decide +kernel) hab)
  refine wpAny_bind (wpAny_typeOf hT ?_)
  exact wpAny_pure h
theorem pyIter_self {n : Nat} {sl : Nat} {Q : Value → Shared → Prop} (hit : s.heap.get? I = some (itObj sl i n ep S)) (h : Q (.ref I) s) : wpAny (model prog w) A (pyIter (.ref I)) Q E s := by
  have hT : s.TypeIs (.ref I) "set_iterator" := ⟨_, hit, rfl⟩
  refine wpAny_pyIter_slot hT slot_setit_iter (wpAny_call_entry slot_setit_iter hT entry_setit_iter ?_ (args_setit_iter _))
  show wpAny _ _ (ret (.ref I)) _ _ s
  exact wpAny_pure ⟨_, rfl, "set_iterator", _, hT, slot_setit_next.lookup, h⟩
theorem ord_size (w : World) (S : Addr) (es : Array (Int × Value)) (ep : Nat) : (ordOf w S es ep).size = es.size := by
  rw [← Array.length_toList, (ordOf_perm w S es ep).length_eq, Array.length_toList]
theorem walksSet (hh : A.handled = none) (hne : S ≠ I) (hf : (tb (btOf w) m).fits es.size = true) (hm : m < 256) (h4 : es.size ≤ 4) :
    Walks prog w A I [I, S] [I] es.size (fun i v => ∃ e, (ordOf w S es ep)[i]? = some e ∧ v = e.2) (fun i h => h.get? I = some (itObj (slotAt w m i) i es.size ep S) ∧ h.get? S = some (setObj (btOf w) es ep m)) where
  sub := fun b hb => by simp at hb; simp [hb]
  frame := fun _ _ _ st hk => ⟨hk I (by simp) _ st.1, hk S (by simp) _ st.2⟩
  item := fun i s Q E hi st hQ => by
    have hlt : i < (ordOf w S es ep).size := by rw [ord_size]; exact hi
    refine next_set_item st.1 st.2 hf hm h4 hi (Array.getElem?_eq_getElem hlt) fun h' hit' hs' => ?_
    exact hQ _ h' s.toks ⟨_, Array.getElem?_eq_getElem hlt, rfl⟩ ⟨hit', hs'.extBut _ _ hne st.2⟩ fun b o hb e => hs'.extBut b o (fun h => hb (by simp [h])) e
  done := fun s Q E st hQ => next_set_end hh st.1 st.2 hf hm h4 (ord_size _ _ _ _) fun h' he' => hQ h' s.toks fun b o hb e => he' b o (fun h => hb (by simp [h])) e
  self := fun _ _ _ _ st hQ => pyIter_self st.1 hQ
theorem srcSet (hf : (tb (btOf w) m).fits es.size = true) (hm : m < 256) (h4 : es.size ≤ 4) :
    KdlSrc prog w "set" S S es.size (fun i v => ∃ e, (ordOf w S es ep)[i]? = some e ∧ v = e.2) (fun h => h.get? S = some (setObj (btOf w) es ep m)) where
  type := fun _ ho => ⟨_, ho, rfl⟩
  there := fun _ ho => ⟨Heap.lt_size ho, Heap.lt_size ho⟩
  keep := fun _ _ ho hk => hk S (.inl rfl) _ ho
  notList := by decide
  notTuple := by decide
  hint := fun _ _ _ _ ho hq => hint_set ⟨_, ho, rfl⟩ hq
  iter := fun A s hh ho => ⟨_, _, (fun _ _ hq => pyIter_set ho hf hq), walksSet hh (Nat.ne_of_lt (Heap.lt_size ho)) hf hm h4, by
    refine ⟨?_, Heap.get?_push_of_some _ ho⟩
    have : slotAt w m 0 = 0 := by unfold slotAt startOf; split <;> rfl
    rw [this]
    exact Heap.get?_push_size _ rfl⟩
theorem ents_of_perm : ∀ {l : List (Int × Value)} {l' : List (Int × Value)} {ys : List Nat}, Ents l ys → l'.Perm l → ∃ ys', ys'.Perm ys ∧ Ents l' ys' := by
  intro l l' ys he hp
  have key : ∀ {l l' : List (Int × Value)}, l.Perm l' → ∀ ys, Ents l ys → ∃ ys', ys'.Perm ys ∧ Ents l' ys' := by
    intro l l' hp
    induction hp with
    | nil => exact fun ys h => ⟨ys, .refl _, h⟩
    | @cons x l l' _ ih =>
      intro ys h
      cases h with
      | cons y t h =>
        obtain ⟨ys', p, h'⟩ := ih _ h
        exact ⟨y :: ys', p.cons y, .cons y t h'⟩
    | swap x y l =>
      intro ys h
      cases h with
      | cons a t h =>
        cases h with
        | cons b u h => exact ⟨b :: a :: _, .swap .., .cons b u (.cons a t h)⟩
    | trans _ _ ih1 ih2 =>
      intro ys h
      obtain ⟨y1, p1, h1⟩ := ih1 ys h
      obtain ⟨y2, p2, h2⟩ := ih2 y1 h1
      exact ⟨y2, p2.trans p1, h2⟩
  exact key hp.symm ys he
variable {B : Shared} {g : Heap} {rs rs' : Rs}
theorem x_sortedS {ys : List Nat} {Q : Value → Shared → Prop} (hh : A.handled = none) (C : Cx w B g rs s) (hS : ∃ o, s.heap.get? S = some o ∧ SG (btOf w) o ys)
    (h : ∀ a us s', IntsAre us (zs (isort ys)) → Cx w B g ((a, rLst us) :: rs) s' → Q (.ref a) s') : wpAny (model prog w) A (call (.builtin "sorted") [.ref S]) Q E s := by
  obtain ⟨o, ho, hG⟩ := hS
  obtain ⟨es, ep, m, rfl, hent, hpl, hm⟩ := hG.ex
  have h4 : es.size ≤ 4 := by rw [← Array.length_toList, hent.length]; exact hG.four
  have hf : (tb (btOf w) m).fits es.size = true := by
    have h1 := congrArg List.length hpl
    rw [List.length_map, ← hent.length, Array.length_toList] at h1
    unfold SetTable.fits SetTable.fill tb
    simp [pl, ← h1]
    omega
  refine Calls.call_function_entry kind_sorted plain_sorted entry_sorted (args_sorted1 _) ?_
  unfold Builtin.«sorted»
  refine wpAny_bind (m := checkCount "sorted" 1 1 _) (wpAny_pure ?_)
  refine wpAny_bind (kdu_collect (srcSet (prog := prog) (ep := ep) hf hm h4) (by simpa using hh) ho (by rw [sizeLine_eq]; omega) fun h' tk acc hk hacc => ?_)
  obtain ⟨ys', hp', hent'⟩ := ents_of_perm hent (ordOf_perm w S es ep)
  have hall : acc.toList = (ordOf w S es ep).toList.map (·.2) := by
    refine List.ext_getElem? fun k => ?_
    rw [Array.getElem?_toList, List.getElem?_map, Array.getElem?_toList]
    rcases Nat.lt_or_ge k acc.size with hlt | hge
    · obtain ⟨e, he, hv⟩ := hacc.2 k acc[k] (Array.getElem?_eq_getElem hlt)
      rw [he, Array.getElem?_eq_getElem hlt, hv]; rfl
    · rw [Array.getElem?_eq_none hge, Array.getElem?_eq_none (by rw [ord_size, ← hacc.1]; exact hge)]; rfl
  have hints : IntsAre acc.toList (zs ys') := by rw [hall]; exact hent'.ints
  have hlen : acc.toList.length ≤ 4 := by rw [Array.length_toList, hacc.1]; exact h4
  refine wpAny_bind (wpAny_newList (s := { s with heap := h', toks := tk }) ?_ (hsz := by rw [sizeLine_eq]; omega))
  have hoL : (h'.push (seqObj "list" acc.toList.toArray 0)).get? h'.objs.size = some (seqObj "list" acc.toList.toArray 0) := Heap.get?_push_size _ rfl
  refine wpAny_bind (wpAny_holding (wpAny_call_entry slot_list_sort ⟨_, hoL, rfl⟩ entry_list_sort (list_sort_tree hoL hints (by omega) fun out ns' a1 a2 a3 => ⟨_, rfl, ?_⟩) (args_list_sort _)))
  refine wpAny_pure ⟨_, rfl, ?_⟩
  obtain ⟨zs', rfl⟩ := intsAre_zs a1 fun n hn => by
    obtain ⟨k, _, rfl⟩ := List.mem_map.mp (a2.mem_iff.mp hn)
    exact Int.natCast_nonneg k
  have e : zs' = isort ys := isort_uniq (by
    have := a2.map Int.toNat
    rw [zs_nat, zs_nat] at this
    exact this.trans hp') (by
    have := a3
    simp only [zs, List.pairwise_map] at this
    exact this.imp fun h => Int.ofNat_le.mp h)
  subst e
  obtain ⟨e, he⟩ := sortedHeap_at (vs := acc.toList) (out := out) hoL
  have hkk : Le s.heap (sortedHeap (h'.push (seqObj "list" acc.toList.toArray 0)) h'.objs.size acc.toList out) := by
    intro b o eb
    have hb := hk b o eb
    have hlt := Heap.lt_size hb
    rw [sortedHeap_old (Nat.ne_of_lt hlt) (by rw [size_push']; exact Nat.lt_succ_of_lt hlt)]
    exact Heap.get?_push_of_some _ hb
  refine h _ out.toList _ a1 (C.add hkk ?_ he ⟨e, by simp [seqObj]⟩ tk)
  cases q : s.heap.get? h'.objs.size with
  | none => rfl
  | some o' => exact absurd (Heap.lt_size (hk _ _ q)) (Nat.lt_irrefl _)
end
end
section
section
variable {prog : Program} {w : World} {s : Shared} {A : Around} {E : Value → Shared → Prop}
theorem number_specS {S : Addr} {ys : List Nat} {Q : Value → Shared → Prop} (R : Room 1 A) (W : Wf w s.heap) (hS : ∃ o, s.heap.get? S = some o ∧ SG (btOf w) o ys)
    (h : ∀ t s', Gr s s' → Q (.int (num ys) t) s') : wpAny (model prog w) A (call (.ref 170) [.ref S]) Q E s := by
  refine x_enter ["heaps"] [("heaps", .ref S)] R W rfl (by kernel_rfl) rfl rfl (by decide) (by decide) (by decide) ?_
  intro L s' q cd hL C
  repeat kts_caught
  obtain ⟨oS, hoS, hG⟩ := hS
  refine x_sortedS R.hh (by assumption) ⟨oS, Cx.keep (by assumption) _ _ hoS, hG⟩ ?_
  intro a us s' hus C
  refine x_iter_list C (C.lst (.head _)) ?_
  intro I s' C
  refine x_loop (fun i s' => ∃ t, Cx w s s.heap [(I, rLit a i), (a, rLst us), (L, rLoc [("heaps", .ref S), ("number", .int (((isort ys).take i).foldl (fun n h => 16 * n + h) 0 : Nat) t)])] s') (isort ys).length ?_ ?_ ⟨_, C⟩
  · rintro i s' hi' ⟨t, C⟩
    obtain ⟨u, hu⟩ := ia_get hus i (by rw [zs_len]; exact hi')
    refine x_next_list C (by tb_start) (C.lst (by ktr_rel)) hu ?_
    intro s' C
    refine ⟨_, rfl, ?_⟩
    repeat kts_caught
    refine x_mulN (by assumption) (.of_left (by decide)) ?_
    intro t s' C
    repeat kts_caught
    rename_i C
    have e : (16 * ((((isort ys).take i).foldl (fun n h => 16 * n + h) 0 : Nat) : Int) + (zs (isort ys)).getD i 0) = (((isort ys).take (i + 1)).foldl (fun n h => 16 * n + h) 0 : Nat) := by
      rw [foldl_take_succ _ 0 _ _ _ hi', zs_getD]
      simp
    rw [e] at C
    exact ⟨_, C.loc _ (by tb_start) (by kts_caughtN) (by simp only [List.map]; decide)⟩
  · rintro s' ⟨t, C⟩
    refine x_end_list R.hh C (by tb_start) (C.lst (by ktr_rel)) (by rw [ia_len hus, zs_len]; exact Nat.le_refl _) ?_
    intro s' C
    refine ⟨rfl, ?_⟩
    repeat kts_caught
    rw [List.take_length]
    exact h _ _ C.back
theorem c_numberS {B : Shared} {g : Heap} {rs : Rs} {S : Addr} {ys : List Nat} {Q : Value → Shared → Prop} (R : Room 1 A) (C : Cx w B g rs s) (hm : (S, rSet (btOf w) ys) ∈ rs)
    (h : ∀ t s', Cx w B g rs s' → Q (.int (num ys : Nat) t) s') : Wf w s.heap ∧ wpAny (model prog w) A (call (.ref 170) [.ref S]) Q E s :=
  ⟨C.wfs, number_specS R C.wfs (C.get hm) fun t s' hg => h t s' (C.gr hg)⟩
end
end
section
noncomputable abbrev two (elt t1 i1 t2 i2 : Expr) (scope : Scope) (pos : Pos) : Expr := .ListComp elt [⟨t1, i1, [], 0⟩, ⟨t2, i2, [], 0⟩] scope pos
theorem compTurn_two0 (elt t1 i1 t2 i2 : Expr) (ifs1 ifs2 : List Expr) (scope : Scope) (pos : Pos) (it acc : Value) (env : Env) :
    compTurn (.ListComp elt [⟨t1, i1, ifs1, 0⟩, ⟨t2, i2, ifs2, 0⟩] scope pos) 0 it acc env = (do
      standAt i1.pos
      match ← pyNext it with
      | none => pure (.done .next)
      | some v =>
        letOwnedTupleGo t1 it v
        assign t1 env v
        let mut ok := true
        for c in ifs1 do
          if ok then ok ← isTrue c env (eval c env)
        if ok then
          let x ← eval i2 env
          standAt i2.pos
          let x ← foldedSetIterable i2 env x
          let _ ← runOwn (.compStart (.ListComp elt [⟨t1, i1, ifs1, 0⟩, ⟨t2, i2, ifs2, 0⟩] scope pos) 1 (← holding [x] (pyIter x)) acc env) env
        again (.compLoop (.ListComp elt [⟨t1, i1, ifs1, 0⟩, ⟨t2, i2, ifs2, 0⟩] scope pos) 0 it acc env)) := by rfl
theorem compTurn_two1 (elt t1 i1 t2 i2 : Expr) (ifs1 ifs2 : List Expr) (scope : Scope) (pos : Pos) (it acc : Value) (env : Env) :
    compTurn (.ListComp elt [⟨t1, i1, ifs1, 0⟩, ⟨t2, i2, ifs2, 0⟩] scope pos) 1 it acc env = (do
      standAt i2.pos
      match ← pyNext it with
      | none => pure (.done .next)
      | some v =>
        letOwnedTupleGo t2 it v
        assign t2 env v
        let mut ok := true
        for c in ifs2 do
          if ok then ok ← isTrue c env (eval c env)
        if ok then
          (do let _ ← call (.builtin "list.append") [acc, ← eval elt env])
        again (.compLoop (.ListComp elt [⟨t1, i1, ifs1, 0⟩, ⟨t2, i2, ifs2, 0⟩] scope pos) 1 it acc env)) := by rfl
section
variable {prog : Program} {w : World} {A : Around} {E : Value → Shared → Prop} {s : Shared} {env : Env}
theorem x_cloop20 {elt t1 i1 t2 i2 : Expr} {scope : Scope} {pos : Pos} {it acc : Value} {R : Result → Shared → Prop} (J : Nat → Shared → Prop) (n : Nat)
    (turn : ∀ i s, i < n → J i s → wpAny (model prog w) A (pyNext it) (fun r s₁ => ∃ v, r = some v ∧ wpAny (model prog w) A (letOwnedTupleGo t1 it v) (fun _ s₁' => wpAny (model prog w) A (assign t1 env v) (fun _ s₂ =>
      wpAny (model prog w) A (eval i2 env) (fun x s₃ => wpAny (model prog w) A (pyIter x) (fun it' s₄ =>
        (∀ Q' E', Q' it' s₄ → wpAny (model prog w) A (pyIter it') Q' E' s₄) ∧ codeAny (model prog w) A (.compLoop (two elt t1 i1 t2 i2 scope pos) 1 it' acc env) (fun r s₅ => r = .ok .next ∧ J (i + 1) s₅) s₄) nE s₃) nE s₂) nE s₁') nE s₁) nE s)
    (fin : ∀ s, J n s → wpAny (model prog w) A (pyNext it) (fun r s₁ => r = none ∧ R (.ok .next) s₁) nE s) (h : J 0 s) (hs : ∀ x, foldedSetIterable i2 env x = pure x := by intro _; rfl) :
    codeAny (model prog w) A (.compLoop (two elt t1 i1 t2 i2 scope pos) 0 it acc env) R s := by
  refine codeAny_loop rfl (fun k s => ∃ i, i ≤ n ∧ k = n - i ∧ J i s) ?_ n ⟨0, Nat.zero_le _, rfl, h⟩
  rintro k s ⟨i, hi, rfl, hJ⟩
  show wpAny _ A ((compTurn (two elt t1 i1 t2 i2 scope pos) 0 it acc env).onRaise (fun x => do noteFrame x env; theTreesLotGoes x)) _ _ s
  refine wpAny_noted ?_
  rw [compTurn_two0]
  refine wpAny_bind (wpAny_standAt (wpAny_bind ?_))
  by_cases hlt : i < n
  · refine wpAny_mono (turn i s hlt hJ) (fun r s₁ h₁ => ?_) fun _ _ x => x.elim
    obtain ⟨v, rfl, h₁⟩ := h₁
    refine wpAny_bind (wpAny_mono h₁ (fun _ s₁' h₂ => wpAny_bind (wpAny_mono h₂ (fun _ s₂ h₃ => wpAny_bind (wpAny_tests_nil ?_)) fun _ _ x => x.elim)) fun _ _ x => x.elim)
    refine wpAny_ite_split (fun _ => ?_) (fun hab => absurd rfl hab)
    refine wpAny_bind (wpAny_mono h₃ (fun x s₃ h₄ => wpAny_bind (wpAny_standAt (wpAny_bind (wpAny_of_eq (hs x) (wpAny_bind (wpAny_holding (wpAny_mono h₄ (fun it' s₄ h₅ => ?_) fun _ _ x => x.elim))))))) fun _ _ x => x.elim)
    obtain ⟨hself, hcode⟩ := h₅
    refine wpAny_bind (wpAny_runOwn ?_)
    have hc2 := codeAny_mono hcode (R' := fun r s' => match r with
      | .ok f => wpAny (model prog w) A (again (.compLoop (two elt t1 i1 t2 i2 scope pos) 0 it acc env))
        (fun fin s' => match fin with | .done f => R (.ok f) s' | .again c' => c' = .compLoop (two elt t1 i1 t2 i2 scope pos) 0 it acc env ∧ ∃ m, m < n - i ∧ ∃ j, j ≤ n ∧ m = n - j ∧ J j s')
        (notedBy (model prog w) A env fun e s' => R (.error e) s') s'
      | .error e => cameBackBy (model prog w) A env (notedBy (model prog w) A env fun e s' => R (.error e) s') e s') fun r s' q => by
        obtain ⟨rfl, hJ'⟩ := q
        exact wpAny_pure ⟨rfl, n - (i + 1), by omega, i + 1, hlt, rfl, hJ'⟩
    refine codeAny_of_tree ?_
    show wpAny _ A ((compStart (two elt t1 i1 t2 i2 scope pos) 1 it' acc env).onRaise (fun x => do noteFrame x env; standAt theWindowsPlace)) _ _ s₄
    refine wpAny_notedAt ?_
    unfold compStart
    show wpAny _ A (ask >>= _) _ _ s₄
    refine wpAny_bind (wpAny_askSetting (wpAny_ite ?_))
    split
    · exact wpAny_bind (wpAny_pure (wpAny_pure (And.intro rfl hc2)))
    · refine wpAny_bind (wpAny_rule ?_)
      show wpAny _ _ (standAt i2.pos >>= _) _ _ s₄
      exact wpAny_bind (wpAny_standAt (wpAny_bind (hself _ _ (wpAny_pure (And.intro rfl hc2)))))
  · obtain rfl : i = n := by omega
    refine wpAny_mono (fin s hJ) (fun r s₁ h₁ => ?_) fun _ _ x => x.elim
    obtain ⟨rfl, h₁⟩ := h₁
    exact wpAny_pure h₁
theorem x_cloop21 {elt t1 i1 t2 i2 : Expr} {scope : Scope} {pos : Pos} {it acc : Value} {R : Result → Shared → Prop} (J : Nat → Shared → Prop) (n : Nat)
    (turn : ∀ i s, i < n → J i s → wpAny (model prog w) A (pyNext it) (fun r s₁ => ∃ v, r = some v ∧ wpAny (model prog w) A (letOwnedTupleGo t2 it v) (fun _ s₁' => wpAny (model prog w) A (assign t2 env v) (fun _ s₂ =>
      wpAny (model prog w) A (eval elt env) (fun x s₄ => wpAny (model prog w) A (call (.builtin "list.append") [acc, x]) (fun _ s₅ => J (i + 1) s₅) nE s₄) nE s₂) nE s₁') nE s₁) nE s)
    (fin : ∀ s, J n s → wpAny (model prog w) A (pyNext it) (fun r s₁ => r = none ∧ R (.ok .next) s₁) nE s) (h : J 0 s) :
    codeAny (model prog w) A (.compLoop (two elt t1 i1 t2 i2 scope pos) 1 it acc env) R s := by
  refine codeAny_loop rfl (fun k s => ∃ i, i ≤ n ∧ k = n - i ∧ J i s) ?_ n ⟨0, Nat.zero_le _, rfl, h⟩
  rintro k s ⟨i, hi, rfl, hJ⟩
  show wpAny _ A ((compTurn (two elt t1 i1 t2 i2 scope pos) 1 it acc env).onRaise (fun x => do noteFrame x env; theTreesLotGoes x)) _ _ s
  refine wpAny_noted ?_
  rw [compTurn_two1]
  refine wpAny_bind (wpAny_standAt (wpAny_bind ?_))
  by_cases hlt : i < n
  · refine wpAny_mono (turn i s hlt hJ) (fun r s₁ h₁ => ?_) fun _ _ x => x.elim
    obtain ⟨v, rfl, h₁⟩ := h₁
    refine wpAny_bind (wpAny_mono h₁ (fun _ s₁' h₂ => wpAny_bind (wpAny_mono h₂ (fun _ s₂ h₃ => wpAny_bind (wpAny_tests_nil ?_)) fun _ _ x => x.elim)) fun _ _ x => x.elim)
    refine wpAny_ite_split (fun _ => ?_) (fun hab => absurd rfl hab)
    exact wpAny_bind (wpAny_bind (wpAny_mono h₃ (fun x s₄ h₅ => wpAny_bind (wpAny_mono h₅ (fun _ s₅ h₆ => wpAny_pure (wpAny_pure ⟨rfl, n - (i + 1), by omega, i + 1, hlt, rfl, h₆⟩)) fun _ _ x => x.elim)) fun _ _ x => x.elim))
  · obtain rfl : i = n := by omega
    refine wpAny_mono (fin s hJ) (fun r s₁ h₁ => ?_) fun _ _ x => x.elim
    obtain ⟨rfl, h₁⟩ := h₁
    exact wpAny_pure h₁
end
end
section
noncomputable def stepRows (m : Nat) (rows : List (List Nat)) : List (List Nat) := rows.flatMap fun row => (List.range m).map fun p => row ++ [p]
noncomputable def rowsK (m : Nat) : Nat → List (List Nat)
  | 0 => [[]]
  | k + 1 => stepRows m (rowsK m k)
noncomputable def pStep (row : List Nat) (heaps : List Nat) (t : Nat × Nat) : List Nat :=
  if row.getD t.1 0 = row.getD t.2 0 ∧ heaps.getD t.1 0 ≠ heaps.getD t.2 0 then
    heaps.map fun h => if h = heaps.getD t.1 0 ∨ h = heaps.getD t.2 0 then heaps.getD t.1 0 + heaps.getD t.2 0 else h
  else heaps
noncomputable def pHeaps (row : List Nat) (ties : List (Nat × Nat)) : List Nat := ties.foldl (pStep row) [1, 2, 4, 8]
noncomputable def pNum (row : List Nat) (ties : List (Nat × Nat)) : Nat := num (ddup (pHeaps row ties))
noncomputable def pWorth (ws : List Int) (row : List Nat) : Int := row.foldl (fun a p => a * ws.getD p 0) 1
noncomputable def tStep (ties : List (Nat × Nat)) (ws : List Int) (n : Nat) (a : Int) (row : List Nat) : Int := if pNum row ties = n then a + pWorth ws row else a
noncomputable def tOf (ties : List (Nat × Nat)) (ws : List Int) (rows : List (List Nat)) (n : Nat) : Int := rows.foldl (tStep ties ws n) 0
noncomputable def paintF (L : List Nat) (ties : List (Nat × Nat)) (ws : List Int) : List Int := L.map (tOf ties ws (rowsK ws.length 4))
theorem pStep_len (row heaps : List Nat) (t : Nat × Nat) : (pStep row heaps t).length = heaps.length := by
  unfold pStep; split <;> simp
theorem pFold_len (row : List Nat) : ∀ (ties : List (Nat × Nat)) (heaps : List Nat), (ties.foldl (pStep row) heaps).length = heaps.length
  | [], _ => rfl
  | t :: r, heaps => by rw [List.foldl_cons, pFold_len row r, pStep_len]
theorem stepRows_len (m : Nat) : ∀ rows, (stepRows m rows).length = m * rows.length := by
  intro rows
  unfold stepRows
  induction rows with
  | nil => rfl
  | cons r l ih => rw [List.flatMap_cons, List.length_append, ih, List.length_map, List.length_range, List.length_cons, Nat.mul_succ, Nat.add_comm]
theorem rowsK_len (m k : Nat) : (rowsK m k).length = m ^ k := by
  induction k with
  | zero => rfl
  | succ k ih =>
    show (stepRows m (rowsK m k)).length = _
    rw [stepRows_len, ih, Nat.pow_succ, Nat.mul_comm]
theorem rowsK_mem {m k : Nat} {row : List Nat} (h : row ∈ rowsK m k) : row.length = k ∧ ∀ p ∈ row, p < m := by
  induction k generalizing row with
  | zero =>
    obtain rfl := List.mem_singleton.mp h
    exact ⟨rfl, fun p hp => (nomatch hp)⟩
  | succ k ih =>
    obtain ⟨r, hr, h⟩ := List.mem_flatMap.mp h
    obtain ⟨p, hp, rfl⟩ := List.mem_map.mp h
    obtain ⟨h1, h2⟩ := ih hr
    refine ⟨by simp [h1], fun q hq => ?_⟩
    rcases List.mem_append.mp hq with hq | hq
    · exact h2 q hq
    · rw [List.mem_singleton.mp hq]; exact List.mem_range.mp hp
theorem stepRows_take {m : Nat} {rows : List (List Nat)} {i : Nat} {row : List Nat} (h : rows[i]? = some row) : stepRows m (rows.take (i + 1)) = stepRows m (rows.take i) ++ (List.range m).map fun p => row ++ [p] := by
  rw [take_succG h]
  unfold stepRows
  rw [List.flatMap_append, List.flatMap_cons, List.flatMap_nil, List.append_nil]
/-- a row of a list that only lists stand for -/
noncomputable def RowP (g : Heap) (v : Value) (row : List Nat) : Prop := ∃ r us, v = .ref r ∧ g.PlainList r (List.toArray us) ∧ IntsAre us (zs row)
theorem RowP.keeps {g g' : Heap} {v : Value} {row : List Nat} (h : RowP g v row) (k : Le g g') : RowP g' v row := let ⟨r, us, e, p, i⟩ := h; ⟨r, us, e, p.at fun o => k _ o, i⟩
theorem plain_of {g : Heap} {r : Addr} {vs : List Value} (h : ∃ o, g.get? r = some o ∧ rLst vs o) : g.PlainList r vs.toArray := by
  obtain ⟨o, ho, n, rfl⟩ := h
  exact ⟨n, ho⟩
section
variable {prog : Program} {w : World} {A : Around} {E : Value → Shared → Prop} {s s' : Shared} {B : Shared} {g : Heap} {rs rs' : Rs}
theorem x_in {l : Addr} {vs : List Value} {xs : List Nat} {k : Nat} {t : Tok} {Q : Value → Shared → Prop} (hl : s.heap.IsList l vs.toArray) (hi : IntsAre vs (zs xs)) (h : Q (.bool (decide (k ∈ xs))) s) : wpAny (model prog w) A (compareOp .In (.int (k : Int) t) (.ref l)) Q E s := by
  refine in_list_ints hl hi ?_
  have e : ((zs xs).any (· == (k : Int))) = decide (k ∈ xs) := by
    rw [Bool.eq_iff_iff, decide_eq_true_eq, List.any_eq_true]
    constructor
    · rintro ⟨x, hx, e⟩
      obtain ⟨y, hy, rfl⟩ := List.mem_map.mp hx
      have := beq_iff_eq.mp e
      exact Int.ofNat.inj this ▸ hy
    · intro hk
      exact ⟨(k : Int), List.mem_map_of_mem hk, beq_self_eq_true _⟩
  rw [e]; exact h
end
end
section
section
variable {prog : Program} {w : World} {A : Around} {E : Value → Shared → Prop} {s s' : Shared} {env : Env} {B : Shared} {g : Heap} {rs rs' : Rs}
theorem c_paint {ol tl wl : Addr} {ov tv wv : List Value} {L : List Nat} {ties : List (Nat × Nat)} {ws : List Int} {Q : Value → Shared → Prop} (R : Room 4 A) (C : Cx w B g rs s)
    (hol : g.IsList ol ov.toArray) (hO : IntsAre ov (zs L)) (htl : g.IsList tl tv.toArray) (hT : Ea (PairAt g) tv ties) (hwl : g.IsList wl wv.toArray) (hW : IntsAre wv ws)
    (hL : L.length ≤ 20) (hw3 : ws.length ≤ 3) (hwb : ∀ x ∈ ws, x.natAbs < 2 ^ 60) (htn : ties.length ≤ 10) (ht4 : ∀ p ∈ ties, p.1 < 4 ∧ p.2 < 4)
    (hkey : ∀ row ∈ rowsK ws.length 4, pNum row ties ∈ L ∧ (∀ x ∈ pHeaps row ties, x < 16) ∧ (∀ x ∈ pHeaps row ties, ∀ y ∈ pHeaps row ties, x ≠ y → x % 8 ≠ y % 8))
    (h : ∀ d ds s', IntsAre ds (paintF L ties ws) → Cx w B g ((d, rLst ds) :: rs) s' → Q (.ref d) s') :
    wpAny (model prog w) A (call (.ref 202) [.ref ol, .ref tl, .ref wl]) Q E s := by
  have W := C.wf
  refine x_enterK ["order", "ties", "weights"] ["both", "told", "weights"] [("order", .ref ol), ("ties", .ref tl), ("weights", .ref wl)] [("order", .ref ol), ("ties", .ref tl)] (fun n => [("both", n + 2), ("told", n + 1), ("weights", n)])
    (fun n => (n + 2, rCell none) :: (n + 1, rCell none) :: (n, rCell (some (.ref wl))) :: rs) R.room C rfl (by kernel_rfl) rfl rfl (fun _ => by kernel_rfl) (fun _ => rfl) (by decide) (by decide) (by kernel_rfl) (by simp only [List.map]; decide) (fun _ => by kernel_rfl) ?_
  intro F c s' q cd hF C
  have hwvl : wv.length = ws.length := ia_len hW
  repeat kts_caught
  rename_i C
  obtain ⟨g1, k1, hbo, C⟩ := C.freeze1 (.tl .hd)
  have hrow0 : RowP g1 _ [] := ⟨_, _, rfl, plain_of hbo, .nil⟩
  refine x_rangeN (n := 4) C ?_
  intro r s' C
  refine x_iter_rg (a := 0) (b := 4) C (by tb_start) (by decide) (by decide) ?_
  intro I s' C
  have C := C.loc (L := F) [("order", _), ("ties", _), ("rows", _)] (by tb_start) (by kts_caughtN) (by simp only [List.map]; decide)
  refine x_loop (fun k s' => ∃ g' ra rv, Le g1 g' ∧ Ea (RowP g') rv (rowsK ws.length k) ∧ Cx w B g' ((I, rRg k 4) :: (ra, rLst rv) :: (F, rLoc [("order", .ref ol), ("ties", .ref tl), ("rows", .ref ra)]) :: (c + 2, rCell none) :: (c + 1, rCell none) :: (c, rCell (some (.ref wl))) :: rs) s') 4 ?_ ?_ ⟨g1, _, _, fun _ _ e => e, .cons hrow0 .nil, C.sel (by kwd_rel)⟩
  · rintro k s' hk ⟨g', ra, rv, k1', hrv, C⟩
    refine x_next_rg C hk (by tb_start) ?_
    intro tk s' C
    refine ⟨_, rfl, ?_⟩
    obtain ⟨g2, k2, hro, C⟩ := C.freeze1 (.tl .hd)
    have hrl := isList_of hro
    have hrv2 := hrv.mono fun v row h => h.keeps k2
    have k02 : Le g g2 := k1.trans (k1'.trans k2)
    have hrvl : rv.length = ws.length ^ k := by rw [hrv.1, rowsK_len]
    have hpk : ws.length ^ k ≤ 27 := by
      refine Nat.le_trans (Nat.pow_le_pow_left hw3 k) ?_
      exact Nat.le_trans (Nat.pow_le_pow_right (by decide) (show k ≤ 3 by omega)) (by decide)
    repeat kts_caught
    refine x_iter_list (by assumption) (Cx.fl (by assumption) hrl) ?_
    intro J s' C
    refine ⟨_, _, _, C, fun D Cc s' C => ⟨x_self_list C (by ktr_rel), ?_⟩⟩
    refine x_cloop20 (fun i s' => ∃ g3 ds, Le g2 g3 ∧ Ea (RowP g3) ds (stepRows ws.length ((rowsK ws.length k).take i)) ∧
      Cx w B g3 ((Cc, rLoc []) :: (D, rLst ds) :: (J, rLit ra i) :: (I, rRg (k + 1) 4) :: (F, rLoc [("order", .ref ol), ("ties", .ref tl), ("rows", .ref ra)]) :: (c + 2, rCell none) :: (c + 1, rCell none) :: (c, rCell (some (.ref wl))) :: rs) s') (ws.length ^ k) ?_ ?_
      ⟨g2, [], fun _ _ e => e, .nil, (C.loc (L := F) [("order", _), ("ties", _), ("rows", _)] (by tb_start) (by kts_caughtN) (by simp only [List.map]; decide)).sel (by kwd_rel)⟩
    · rintro i s' hi ⟨g3, ds, k3, hds, C⟩
      obtain ⟨v, hv, hvr⟩ := hrv2.at [] (k := i) (by rw [rowsK_len]; exact hi)
      have hrg : (rowsK ws.length k)[i]? = some ((rowsK ws.length k).getD i []) := by
        rw [List.getD_eq_getElem?_getD, List.getElem?_eq_getElem (by rw [rowsK_len]; exact hi)]; rfl
      have hst := stepRows_take (m := ws.length) hrg
      have hrml := (rowsK_mem (List.mem_of_getElem? hrg)).1
      have hdl : ds.length ≤ 81 := by
        rw [hds.1, stepRows_len, List.length_take]
        have : ws.length * min i (rowsK ws.length k).length ≤ 3 * 27 := Nat.mul_le_mul hw3 (by omega)
        omega
      generalize (rowsK ws.length k).getD i [] = row at hvr hst hrml
      obtain ⟨rr, ru, rfl, hrp, hri⟩ := hvr.keeps k3
      refine x_next_list C (by tb_start) (C.fl (isList_keeps hrl k3)) hv ?_
      intro s' C
      refine ⟨_, rfl, ?_⟩
      repeat kts_caught
      refine x_len (by assumption) (Cx.fl (by assumption) (isList_keeps hwl (k02.trans k3))) (by omega) ?_
      intro t s' C
      rw [hwvl]
      repeat kts_caught
      refine x_rangeN (by assumption) ?_
      intro r s' C
      refine x_iter_rg (by assumption) (by tb_start) (by decide) (by omega) ?_
      intro I2 s' C
      refine ⟨x_self_rg C (by ktr_rel), ?_⟩
      have hru : ru.length ≤ 100 := by rw [ia_len hri, zs_len]; omega
      refine x_cloop21 (fun j s' => ∃ g4 ds, Le g3 g4 ∧ Ea (RowP g4) ds (stepRows ws.length ((rowsK ws.length k).take i) ++ ((List.range ws.length).take j).map fun p => row ++ [p]) ∧
        Cx w B g4 ((I2, rRg j ws.length) :: (Cc, rLoc [("row", .ref rr)]) :: (D, rLst ds) :: (J, rLit ra (i + 1)) :: (I, rRg (k + 1) 4) :: (F, rLoc [("order", .ref ol), ("ties", .ref tl), ("rows", .ref ra)]) :: (c + 2, rCell none) :: (c + 1, rCell none) :: (c, rCell (some (.ref wl))) :: rs) s') ws.length ?_ ?_
        ⟨g3, ds, fun _ _ e => e, by simpa using hds, C⟩
      · rintro j s' hj ⟨g4, ds, k4, hds, C⟩
        have hdl : ds.length ≤ 90 := by
          rw [hds.1, List.length_append, stepRows_len, List.length_take, List.length_map, List.length_take]
          have : ws.length * min i (rowsK ws.length k).length ≤ 3 * 27 := Nat.mul_le_mul hw3 (by omega)
          omega
        refine x_next_rg C hj (by tb_start) ?_
        intro tp s' C
        refine ⟨_, rfl, ?_⟩
        repeat kts_caught
        refine x_cat (by assumption) (Cx.flp (by assumption) (hrp.at fun o => k4 _ o)) (Cx.plain (by assumption) (by ktr_rel)) (by rw [sizeLine_eq, List.length_singleton]; omega) ?_
        intro nr s' C
        refine x_append (by assumption) (by tb_start) (by rw [sizeLine_eq]; omega) ?_
        intro s' C
        obtain ⟨g5, k5, hno, C⟩ := C.freeze1 .hd
        have C := C.loc (L := Cc) [("row", _)] (by tb_start) (by kts_caughtN) (by simp only [List.map]; decide)
        refine ⟨g5, _, k4.trans k5, ?_, C.sel (by kwd_rel)⟩
        rw [take_succG (show (List.range ws.length)[j]? = some j by rw [List.getElem?_range hj]), List.map_append, ← List.append_assoc]
        exact (hds.mono fun v row h => h.keeps k5).snoc ⟨nr, _, rfl, plain_of hno, ia_snoc hri⟩
      · rintro s' ⟨g4, ds, k4, hds, C⟩
        refine x_end_rg R.hh C (by tb_start) ?_
        intro s' C
        refine ⟨rfl, rfl, g4, ds, k3.trans k4, ?_, C.loc _ (by tb_start) (by kts_caughtN) (by simp only [List.map]; decide)⟩
        rw [hst]
        rw [show (List.range ws.length).take ws.length = List.range ws.length from List.take_of_length_le (by simp)] at hds
        exact hds
    · rintro s' ⟨g3, ds, k3, hds, C⟩
      rw [List.take_of_length_le (by rw [rowsK_len]; exact Nat.le_refl _)] at hds
      refine x_end_list R.hh C (by tb_start) (C.fl (isList_keeps hrl k3)) (by omega) ?_
      intro s' C
      refine ⟨rfl, ?_⟩
      repeat kts_caught
      rename_i C
      have C := C.loc (L := F) [("order", _), ("ties", _), ("rows", _)] (by tb_start) (by kts_caughtN) (by simp only [List.map]; decide)
      exact ⟨g3, D, ds, k1'.trans (k2.trans k3), hds, C.sel (by kwd_rel)⟩
  · rintro s' ⟨g', ra, rv, k1', hrv, C⟩
    refine x_end_rg R.hh C (by tb_start) ?_
    intro s' C
    refine ⟨rfl, ?_⟩
    obtain ⟨g2, k2, hro, C⟩ := C.freeze1 .hd
    have hrl := isList_of hro
    have hrv := hrv.mono fun v row h => h.keeps k2
    have k02 : Le g g2 := k1.trans (k1'.trans k2)
    have hovl : ov.length = L.length := by rw [ia_len hO, zs_len]
    clear hro hrow0 hbo
    repeat kts_caught
    refine x_iter_list (by assumption) (Cx.fl (by assumption) (isList_keeps hol k02)) ?_
    intro J s' C
    refine ⟨_, _, _, C, fun D Cc s' C => ⟨x_self_list C (by ktr_rel), ?_⟩⟩
    refine x_dloop (fun i s' => ∃ kvs, kvs.length ≤ i ∧ (∀ m ∈ L.take i, ∃ t, valueAt kvs ((m : Nat) : Int) = some (.int 0 t)) ∧
      Cx w B g2 ((Cc, rLoc []) :: (D, rDic prog w kvs) :: (J, rLit ol i) :: (F, rLoc [("order", .ref ol), ("ties", .ref tl), ("rows", .ref ra)]) :: (c + 2, rCell none) :: (c + 1, rCell none) :: (c, rCell (some (.ref wl))) :: rs) s') L.length ?_ ?_
      ⟨[], Nat.le_refl _, fun m hm => (by simp at hm), C⟩
    · rintro i s' hi ⟨kvs, hkl, hkv, C⟩
      obtain ⟨to, ho⟩ := ia_getN hO hi
      refine x_next_list C (by tb_start) (C.fl (isList_keeps hol k02)) ho ?_
      intro s' C
      refine ⟨_, rfl, ?_⟩
      have htk : L.take (i + 1) = L.take i ++ [L.getD i 0] := take_succN _ _ hi
      generalize L.getD i 0 = m at htk C
      repeat kts_caught
      rename_i t0 _ C
      refine x_dset C (by tb_start) (by omega) ?_
      intro s' C
      refine ⟨stored kvs ((m : Nat) : Int) (.int 0 t0), Nat.le_trans (stored_len kvs _ _) (by omega), fun x hx => ?_, C.loc _ (by tb_start) (by kts_caughtN) (by simp only [List.map]; decide)⟩
      rw [valueAt_stored]
      by_cases hxm : ((m : Nat) : Int) = ((x : Nat) : Int)
      · rw [if_pos hxm]; exact ⟨_, rfl⟩
      · rw [if_neg hxm]
        rw [htk] at hx
        rcases List.mem_append.mp hx with hx | hx
        · exact hkv x hx
        · exact absurd (by rw [List.mem_singleton.mp hx]) hxm
    · rintro s' ⟨kvs, hkl, hkv, C⟩
      rw [List.take_length] at hkv
      refine x_end_list R.hh C (by tb_start) (C.fl (isList_keeps hol k02)) (by omega) ?_
      intro s' C
      refine ⟨rfl, ?_⟩
      repeat kts_caught
      refine x_iter_list (by assumption) (Cx.fl (by assumption) hrl) ?_
      intro I2 s' C
      have hrvl : rv.length = ws.length ^ 4 := by rw [hrv.1, rowsK_len]
      have hp4 : ws.length ^ 4 ≤ 81 := Nat.le_trans (Nat.pow_le_pow_left hw3 4) (by decide)
      refine x_loop (fun i s' => ∃ g' kvs vb, Le g2 g' ∧ kvs.length ≤ 30 + i ∧ (∀ m ∈ L, ∃ t, valueAt kvs ((m : Nat) : Int) = some (.int (tOf ties ws ((rowsK ws.length 4).take i) m) t)) ∧
        Cx w B g' ((I2, rLit ra i) :: (D, rDic prog w kvs) :: (F, rLoc [("order", .ref ol), ("ties", .ref tl), ("rows", .ref ra)]) :: (c + 2, rCell vb) :: (c + 1, rCell (some (.ref D))) :: (c, rCell (some (.ref wl))) :: rs) s') (ws.length ^ 4) ?_ ?_
        ⟨g2, kvs, none, fun _ _ e => e, by omega, hkv, (C.loc (L := F) [("order", _), ("ties", _), ("rows", _)] (by tb_start) (by kts_caughtN) (by simp only [List.map]; decide)).sel (by kwd_rel)⟩
      · rintro i s' hi ⟨g', kvs, vb, k2', hkl, hkv, C⟩
        have hi' : i < (rowsK ws.length 4).length := by rw [rowsK_len]; exact hi
        obtain ⟨v, hv, hvr⟩ := hrv.at [] hi'
        have hrg : (rowsK ws.length 4)[i]? = some ((rowsK ws.length 4).getD i []) := by
          rw [List.getD_eq_getElem?_getD, List.getElem?_eq_getElem hi']; rfl
        have hrm := List.mem_of_getElem? hrg
        have htoS : ∀ m, tOf ties ws ((rowsK ws.length 4).take (i + 1)) m = tStep ties ws m (tOf ties ws ((rowsK ws.length 4).take i) m) ((rowsK ws.length 4).getD i []) := fun m => by
          rw [take_succG hrg]; unfold tOf; rw [List.foldl_append]; rfl
        obtain ⟨hrl4, hrlt⟩ := rowsK_mem hrm
        have hky := hkey _ hrm
        have hnum : ∀ row, pNum row ties = num (ddup (pHeaps row ties)) := fun _ => rfl
        generalize (rowsK ws.length 4).getD i [] = row at hvr htoS hrl4 hrlt hky
        obtain ⟨rr, ru, rfl, hrp, hri⟩ := hvr.keeps k2'
        have hrul : ru.length = 4 := by rw [ia_len hri, zs_len, hrl4]
        refine x_next_list C (by tb_start) (C.fl (isList_keeps hrl k2')) hv ?_
        intro s' C
        refine ⟨_, rfl, ?_⟩
        repeat kts_caught
        refine x_iter_list (by assumption) (Cx.fl (by assumption) (isList_keeps htl (k02.trans k2'))) ?_
        intro I3 s' C
        have htvl : tv.length = ties.length := hT.1
        refine x_loop (fun j s' => ∃ g4 hl hv vb, Le g' g4 ∧ IntsAre hv (zs ((ties.take j).foldl (pStep row) [1, 2, 4, 8])) ∧
          Cx w B g4 ((I3, rLit tl j) :: (hl, rLst hv) :: (I2, rLit ra (i + 1)) :: (D, rDic prog w kvs) :: (F, rLoc [("order", .ref ol), ("ties", .ref tl), ("rows", .ref ra), ("row", .ref rr), ("heaps", .ref hl)]) :: (c + 2, rCell vb) :: (c + 1, rCell (some (.ref D))) :: (c, rCell (some (.ref wl))) :: rs) s') ties.length ?_ ?_
          ⟨g', _, _, vb, fun _ _ e => e, .cons 1 _ (.cons 2 _ (.cons 4 _ (.cons 8 _ .nil))), (C.loc (L := F) [("order", _), ("ties", _), ("rows", _), ("row", _), ("heaps", _)] (by tb_start) (by kts_caughtN) (by simp only [List.map]; decide)).sel (by kwd_rel)⟩
        · rintro j s' hj ⟨g4, hl, hv, vb, k4, hhv, C⟩
          have k04 : Le g g4 := k02.trans (k2'.trans k4)
          obtain ⟨tvv, htv, tr, tt, tu, rfl, htup⟩ := hT.at (0, 0) hj
          have hpm : ties.getD j (0, 0) ∈ ties := by rw [List.getD_eq_getElem?_getD, List.getElem?_eq_getElem hj]; exact List.getElem_mem hj
          obtain ⟨hu4, hv4⟩ := ht4 _ hpm
          have hst := foldl_take_succ (pStep row) (0, 0) ties j [1, 2, 4, 8] hj
          have hll := pFold_len row (ties.take j) [1, 2, 4, 8]
          generalize ties.getD j (0, 0) = p at htup hu4 hv4 hst
          generalize (ties.take j).foldl (pStep row) [1, 2, 4, 8] = hs at hhv hst hll
          generalize (ties.take (j + 1)).foldl (pStep row) [1, 2, 4, 8] = hs' at hst ⊢
          subst hst
          have hll : hs.length = 4 := hll
          refine x_next_list C (by tb_start) (C.fl (isList_keeps htl k04)) htv ?_
          intro s' C
          refine ⟨_, rfl, x_letgoT C (by ktr_rel) ?_⟩
          refine x_unpack R.hh C (C.ft (isTuple_keeps htup k04)) fun s' C => x_two ?_
          repeat kts_caught
          obtain ⟨ta, ea⟩ := ia_getN hri (i := p.1) (by omega)
          obtain ⟨tb', eb⟩ := ia_getN hri (i := p.2) (by omega)
          obtain ⟨tc, ec⟩ := ia_getN hhv (i := p.1) (by omega)
          obtain ⟨td, ed⟩ := ia_getN hhv (i := p.2) (by omega)
          have hrpl := (hrp.at fun o => k4 _ o).isList
          have hps : pStep row hs p = if row.getD p.1 0 = row.getD p.2 0 ∧ hs.getD p.1 0 ≠ hs.getD p.2 0 then hs.map (fun h => if h = hs.getD p.1 0 ∨ h = hs.getD p.2 0 then hs.getD p.1 0 + hs.getD p.2 0 else h) else hs := rfl
          refine x_idx (k := p.1) (Cx.fl (by assumption) hrpl) (by omega) ea ?_
          repeat kts_caught
          refine x_idx (k := p.2) (Cx.fl (by assumption) hrpl) (by omega) eb ?_
          generalize row.getD p.1 0 = pa at hps ⊢
          generalize row.getD p.2 0 = pb at hps ⊢
          generalize hs.getD p.1 0 = ha at ec hps
          generalize hs.getD p.2 0 = hb at ed hps
          repeat kts_caught
          by_cases hab : pa = pb
          · rw [if_pos (by rw [hab]; exact beq_self_eq_true _)]
            repeat kts_caught
            refine x_idx (k := p.1) (Cx.lst (by assumption) (by ktr_rel)) (by omega) ec ?_
            repeat kts_caught
            refine x_idx (k := p.2) (Cx.lst (by assumption) (by ktr_rel)) (by omega) ed ?_
            repeat kts_caught
            by_cases hne : ha = hb
            · rw [if_neg (by rw [hne]; simp)]
              repeat kts_caught
              rename_i C
              refine ⟨g4, hl, hv, vb, k4, by rw [hps, if_neg (fun h => h.2 hne)]; exact hhv, C.loc (L := F) _ (by tb_start) (by kts_caughtN) (by simp only [List.map]; decide)⟩
            · rw [if_pos (by simp; omega)]
              repeat kts_caught
              refine x_idx (k := p.1) (Cx.lst (by assumption) (by ktr_rel)) (by omega) ec ?_
              repeat kts_caught
              refine x_idx (k := p.2) (Cx.lst (by assumption) (by ktr_rel)) (by omega) ed ?_
              repeat kts_caught
              rename_i C
              obtain ⟨g5, k5, hbo, C⟩ := C.freeze1 .hd
              obtain ⟨g6, k6, hho, C⟩ := C.freeze1 (.tl .hd)
              have hbl := isList_keeps (isList_of hbo) k6
              have hhl := isList_of hho
              have hbi : IntsAre [.int ha tc, .int hb td] (zs [ha, hb]) := .cons (ha : Int) _ (.cons (hb : Int) _ .nil)
              have hhvl : hv.length = 4 := by rw [ia_len hhv, zs_len, hll]
              clear hbo hho
              refine x_iter_list C (C.fl hhl) ?_
              intro I4 s' C
              refine ⟨_, _, _, C, fun D2 Cc2 s' C => ⟨x_self_list C (by ktr_rel), ?_⟩⟩
              refine x_cmap (fun g k v => ∃ t, v = .int (((if hs.getD k 0 = ha ∨ hs.getD k 0 = hb then ha + hb else hs.getD k 0 : Nat)) : Int) t) R.hh C hhl (by omega) (fun _ _ _ _ k h => h) rfl ?_ ?_
              · intro k v g₁ ys s' hv' hg C
                have hk : k < hs.length := by
                  rcases Nat.lt_or_ge k hv.length with h | h
                  · omega
                  · rw [List.getElem?_eq_none h] at hv'; cases hv'
                obtain ⟨tv', hv2⟩ := ia_getN hhv hk
                rw [hv2] at hv'
                cases hv'
                generalize hs.getD k 0 = y at C
                repeat kts_caught
                refine x_in (Cx.fl (by assumption) (isList_keeps hbl hg)) hbi ?_
                repeat kts_caught
                by_cases hy : y = ha ∨ y = hb
                · rw [if_pos (decide_eq_true (by simpa using hy)), if_pos hy]
                  repeat kts_caught
                  refine x_idx (k := 0) (Cx.fl (by assumption) (isList_keeps hbl hg)) (by decide) rfl ?_
                  repeat kts_caught
                  refine x_idx (k := 1) (Cx.fl (by assumption) (isList_keeps hbl hg)) (by decide) rfl ?_
                  repeat kts_caught
                  rename_i C
                  exact ⟨g₁, fun _ _ e => e, ⟨_, by rw [Int.natCast_add]⟩, C⟩
                · rw [if_neg (by simpa using hy), if_neg hy]
                  repeat kts_caught
                  rename_i C
                  exact ⟨g₁, fun _ _ e => e, ⟨_, rfl⟩, C⟩
              · intro g₁ nv s' hg1 hlen hF C
                have hnv : IntsAre nv (zs (pStep row hs p)) := by
                  rw [hps, if_pos ⟨hab, hne⟩]
                  exact ia_of_get (by rw [List.length_map, List.length_map, hlen, hhvl, hll]) fun k v e => by
                    obtain ⟨t, ht⟩ := hF k v e
                    refine ⟨t, ?_⟩
                    have hk : k < hs.length := by
                      rcases Nat.lt_or_ge k nv.length with h | h
                      · omega
                      · rw [List.getElem?_eq_none h] at e; cases e
                    rw [ht, zs_getD]
                    simp only [List.getD_eq_getElem?_getD, List.getElem?_map, List.getElem?_eq_getElem hk, Option.map_some, Option.getD_some]
                repeat kts_caught
                rename_i C
                have C := C.loc (L := F) [("order", _), ("ties", _), ("rows", _), ("row", _), ("heaps", _)] (by tb_start) (by kts_caughtN) (by simp only [List.map]; decide)
                exact ⟨g₁, D2, nv, _, k4.trans (k5.trans (k6.trans hg1)), hnv, C.sel (by kwd_rel)⟩
          · rw [if_neg (by rw [beq_iff_eq]; omega)]
            repeat kts_caught
            rename_i C
            refine ⟨g4, hl, hv, vb, k4, by rw [hps, if_neg (fun h => hab h.1)]; exact hhv, C.loc (L := F) _ (by tb_start) (by kts_caughtN) (by simp only [List.map]; decide)⟩
        · rintro s' ⟨g4, hl, hv, vb, k4, hhv, C⟩
          rw [List.take_length] at hhv
          have k04 : Le g g4 := k02.trans (k2'.trans k4)
          refine x_end_list R.hh C (by tb_start) (C.fl (isList_keeps htl k04)) (by omega) ?_
          intro s' C
          refine ⟨rfl, ?_⟩
          repeat kts_caught
          have hrpl := (hrp.at fun o => k4 _ o).isList
          refine x_iter_list (by assumption) (Cx.fl (by assumption) hrpl) ?_
          intro I5 s' C
          have C := C.loc (L := F) [("order", _), ("ties", _), ("rows", _), ("heaps", _), ("worth", _)] (by tb_start) (by kts_caughtN) (by simp only [List.map]; decide)
          refine x_loop (fun k s' => ∃ tw, Cx w B g4 ((I5, rLit rr k) :: (hl, rLst hv) :: (I2, rLit ra (i + 1)) :: (D, rDic prog w kvs) :: (F, rLoc [("order", .ref ol), ("ties", .ref tl), ("rows", .ref ra), ("heaps", .ref hl), ("worth", .int ((row.take k).foldl (fun a p => a * ws.getD p 0) 1) tw)]) :: (c + 2, rCell vb) :: (c + 1, rCell (some (.ref D))) :: (c, rCell (some (.ref wl))) :: rs) s') 4 ?_ ?_ ⟨_, C⟩
          · rintro k s' hk ⟨tw, C⟩
            have hkr : k < row.length := by omega
            obtain ⟨tp, hp⟩ := ia_getN hri hkr
            have hpl : row.getD k 0 < ws.length := hrlt _ (by rw [List.getD_eq_getElem?_getD, List.getElem?_eq_getElem hkr]; exact List.getElem_mem hkr)
            have hst := foldl_take_succ (fun a p => a * ws.getD p 0) 0 row k (1 : Int) hkr
            generalize row.getD k 0 = p at hp hpl hst
            obtain ⟨tx, hx⟩ := ia_get hW p hpl
            have hxb : (ws.getD p 0).natAbs < 2 ^ 60 := hwb _ (by rw [List.getD_eq_getElem?_getD, List.getElem?_eq_getElem hpl]; exact List.getElem_mem hpl)
            rw [hst]
            generalize ws.getD p 0 = x at hx hxb ⊢
            refine x_next_list C (by tb_start) (C.fl hrpl) hp ?_
            intro s' C
            refine ⟨_, rfl, ?_⟩
            repeat kts_caught
            refine x_idx (k := p) (Cx.fl (by assumption) (isList_keeps hwl k04)) (by omega) hx ?_
            refine x_mulN (by assumption) (.of_right (Nat.le_trans (intBits_small hxb) (by decide))) ?_
            intro t s' C
            repeat kts_caught
            rename_i C
            exact ⟨_, C.loc (L := F) _ (by tb_start) (by kts_caughtN) (by simp only [List.map]; decide)⟩
          · rintro s' ⟨tw, C⟩
            rw [List.take_of_length_le (by omega)] at C
            refine x_end_list R.hh C (by tb_start) (C.fl hrpl) (by omega) ?_
            intro s' C
            refine ⟨rfl, ?_⟩
            have hpw : row.foldl (fun a p => a * ws.getD p 0) 1 = pWorth ws row := rfl
            rw [hpw] at C
            have hhp : (ties.foldl (pStep row) [1, 2, 4, 8]) = pHeaps row ties := rfl
            rw [hhp] at hhv
            repeat kts_caught
            refine x_set R.hh (by assumption) (Cx.lst (by assumption) (by ktr_rel)) hhv hky.2.1 hky.2.2 (by rw [← hhp, pFold_len]; decide) ?_
            intro S ys s' hys C
            repeat kts_caught
            refine c_numberS (by ktr_room) (by assumption) (by ktr_rel) ?_
            intro tn s' C
            rw [num_perm hys, ← hnum row] at *
            obtain ⟨to, ho⟩ := hkv _ hky.1
            refine x_dget (prog := prog) (by assumption) (Cx.dic (by assumption) (by ktr_rel)) ho ?_
            intro s' C
            repeat kts_caught
            rename_i t9 _ C
            refine x_dstore (prog := prog) C (by tb_start) (by omega) ?_
            intro s' C
            repeat kts_caught
            rename_i C
            refine ⟨g4, stored kvs ((pNum row ties : Nat) : Int) (.int (tOf ties ws ((rowsK ws.length 4).take i) (pNum row ties) + pWorth ws row) t9), vb, k2'.trans k4, Nat.le_trans (stored_len kvs _ _) (by omega), fun m hm => ?_, (C.loc (L := F) [("order", _), ("ties", _), ("rows", _)] (by tb_start) (by kts_caughtN) (by simp only [List.map]; decide)).sel (by kwd_rel)⟩
            rw [valueAt_stored, htoS m]
            unfold tStep
            by_cases hxm : pNum row ties = m
            · subst hxm
              rw [if_pos rfl, if_pos rfl]
              exact ⟨_, rfl⟩
            · rw [if_neg (by omega), if_neg hxm]
              exact hkv m hm
      · rintro s' ⟨g', kvs, vb, k2', hkl, hkv, C⟩
        rw [List.take_of_length_le (by rw [rowsK_len]; exact Nat.le_refl _)] at hkv
        refine x_end_list R.hh C (by tb_start) (C.fl (isList_keeps hrl k2')) (by omega) ?_
        intro s' C
        refine ⟨rfl, ?_⟩
        have k03 := k02.trans k2'
        repeat kts_caught
        refine x_iter_list (by assumption) (Cx.fl (by assumption) (isList_keeps hol k03)) ?_
        intro J s' C
        refine ⟨_, _, _, C, fun D2 Cc2 s' C => ⟨x_self_list C (by ktr_rel), ?_⟩⟩
        refine x_cmap (fun g k v => ∃ t, v = .int (tOf ties ws (rowsK ws.length 4) (L.getD k 0)) t) R.hh C (isList_keeps hol k03) (by omega) (fun _ _ _ _ k h => h) rfl ?_ ?_
        · intro k v g₁ ys s' hv' hg C
          have hk : k < L.length := by
            rcases Nat.lt_or_ge k ov.length with h | h
            · omega
            · rw [List.getElem?_eq_none h] at hv'; cases hv'
          obtain ⟨tv', hv2⟩ := ia_getN hO hk
          rw [hv2] at hv'
          cases hv'
          obtain ⟨to, ho⟩ := hkv (L.getD k 0) (by rw [List.getD_eq_getElem?_getD, List.getElem?_eq_getElem hk]; exact List.getElem_mem hk)
          generalize L.getD k 0 = m at ho C
          repeat kts_caught
          refine x_ditem (by assumption) (Cx.dic (by assumption) (by ktr_rel)) ho ?_
          intro s' C
          exact ⟨g₁, fun _ _ e => e, ⟨_, rfl⟩, C⟩
        · intro g₁ nv s' hg1 hlen hF C
          have hnv : IntsAre nv (paintF L ties ws) := ia_of_get (by unfold paintF; rw [List.length_map, hlen, hovl]) fun k v e => by
            obtain ⟨t, ht⟩ := hF k v e
            refine ⟨t, ?_⟩
            have hk : k < L.length := by
              rcases Nat.lt_or_ge k nv.length with h | h
              · omega
              · rw [List.getElem?_eq_none h] at e; cases e
            rw [ht]
            unfold paintF
            simp only [List.getD_eq_getElem?_getD, List.getElem?_map, List.getElem?_eq_getElem hk, Option.map_some, Option.getD_some]
          repeat kts_caught
          rename_i C
          exact h _ _ _ hnv ((C.thaw (k03.trans hg1) W).sel (by kwd_rel))
end
end
section
open PySem PySem.W PySem.Calls PyProof.Rows PySem.Spec PySem.SeqAt
section
variable {prog : Program} {w : World} {A : Around} {E : Value → Shared → Prop} {s s' : Shared} {env : Env} {B : Shared} {g : Heap} {rs rs' : Rs}
theorem x_stri {value slice : Expr} {x : Str} {c k : Nat} {t u : Tok} {Q : Value → Shared → Prop} (C : Cx w B g rs s) (hk : k < x.length) (hs : x.length ≤ 1000) (hx : x.cps[k]? = some c) (h : ∀ t s', Cx w B g rs s' → Q (.str ⟨#[c]⟩ t) s')
    (hsub : subscripted slice false (.str x t) (.int (k : Int) u) = operate [.str x t, .int (k : Int) u] (getItem (.str x t) (.int (k : Int) u)) := by with_unfolding_all rfl) :
    wpAny (model prog w) A (subscriptTail value slice (.str x t) (.int (k : Int) u)) Q E s := by
  refine tail_any (typeIs_str s x t) slot_str_getitem.lookup (getItem_str (c := c) ?_ ?_ (h _ _ (C.tok _))) hsub
  · simp; omega
  · have hj : seqIndex? (k : Int) x.length = some k := by
      unfold seqIndex?
      have e : ¬ ((k : Int) < 0) := by omega
      simp only [e, if_false]
      have e2 : (decide (0 ≤ (k : Int)) && decide ((k : Int) < (x.length : Int))) = true := by simp; omega
      rw [if_pos e2, Int.toNat_natCast]
    rw [hj]
    exact hx
theorem x_sum {l : Addr} {vs : List Value} {ns : List Int} {Q : Value → Shared → Prop} (hh : A.handled = none) (C : Cx w B g rs s) (hl : s.heap.IsList l vs.toArray) (hi : IntsAre vs ns) (h : ∀ t s', Cx w B g rs s' → Q (.int ns.sum t) s') :
    wpAny (model prog w) A (call (.builtin "sum") [.ref l]) Q E s := by
  obtain ⟨xs, hx⟩ := hi.allInts.items
  have hl' : s.heap.IsList l (intItems xs) := hx ▸ hl
  refine sum_intListG hh hl' fun h' tk t' hk => ?_
  have e1 : ns = xs.toList.map (·.1) := by
    rw [← nums_intItems, ← hx]
    exact (show numsOf vs.toArray.toList = ns from hi.numsOf).symm
  have e2 : preSum (numAt xs) xs.size = ns.sum := by
    rw [preSum_eq, List.take_of_length_le (by simp), e1]
  rw [e2]
  exact h t' _ (C.grow hk tk)
theorem x_eqL {l b : Addr} {vs us : List Value} {xs : List Int} {Q : Value → Shared → Prop} (hl : s.heap.IsList l vs.toArray) (hb : s.heap.IsList b us.toArray) (i1 : IntsAre vs xs) (i2 : IntsAre us xs) (hu : A.units < cLine) (h : Q (.bool true) s) :
    wpAny (model prog w) A (compareOp .Eq (.ref l) (.ref b)) Q E s := by
  have hl1 : vs.length = xs.length := ia_len i1
  have hl2 : us.length = xs.length := ia_len i2
  refine eq_listAt (e := fun _ => true) hl hb (by simp [hl1, hl2]) hu (fun j h1 h2 => ?_) (by rw [List.all_eq_true.mpr fun _ _ => rfl]; exact h)
  simp only [List.size_toArray] at h1 h2
  obtain ⟨t, e⟩ := ia_get i1 j (by omega)
  obtain ⟨t', e'⟩ := ia_get i2 j (by omega)
  rw [List.getElem?_eq_getElem h1] at e
  rw [List.getElem?_eq_getElem h2] at e'
  injection e with e
  injection e' with e'
  simp only [List.getElem_toArray, e, e']
  have := EqAt.int_int (A := A.in1) (s := s) (xs.getD j 0) t (xs.getD j 0) t'
  rwa [show ((xs.getD j 0) == (xs.getD j 0)) = true from beq_self_eq_true _] at this
theorem c_order {l : Addr} {vs : List Value} {masks res : List Nat} {Q : Value → Shared → Prop} (R : Room 3 A) (C : Cx w B g rs s) (hl : s.heap.IsList l vs.toArray) (hi : IntsAre vs (zs masks)) (hml : masks.length ≤ 100)
    (ho : order masks = some res) (hres : ∀ x ∈ res, x ≤ 1000000) (h : ∀ r us s', IntsAre us (zs res) → Cx w B g ((r, rLst us) :: rs) s' → Q (.ref r) s') : Wf w s.heap ∧ wpAny (model prog w) A (call (.ref 182) [.ref l]) Q E s :=
  ⟨C.wfs, order_spec R C.wfs hl hi hml ho hres fun r us s' hi hg hn ⟨o, ho, hr⟩ => h r us s' hi (C.addGr hg hn ho hr)⟩
/-- the block of a comprehension with one cell of its own -/
theorem newCompEnv1 {M : Model} {scope : Scope} {cl : List (Str × Addr)} {x : Str} {Q : Env → Shared → Prop} (C : Cx w B g rs s) (hcf : ∀ n, cellsFrom n scope.names cl = (x, n) :: cl) (hpc : ∀ h, pushCells h scope.names = h.push { cls := .type "cell", data := .cell none })
    (h : ∀ Cc c s', Cx w B g ((c, rCell none) :: (Cc, rLoc []) :: rs) s' → Q { scope, locals := Cc, globals := env.globals, cells := (x, c) :: cl, qual := env.qual, func := none, code := env.code, frame := env.frame, builtins := env.builtins } s') :
    wpAny M A (newFunctionEnv scope env.globals cl [] env.qual none .none (some env)) Q E s := by
  simp only [newFunctionEnv, Option.isSome_some, if_true]
  refine wpAny_bind (wpAny_alloc ?_)
  refine wpAny_bind (wpAny_layCells _ (fun name kind cells => by cases hkc : kind == NameKind.cell <;> simp [hkc]) _ _ _ _ ?_)
  rw [hcf, hpc]
  refine wpAny_bind ?_
  rw [List.forIn_nil]
  refine wpAny_pure (wpAny_pure ?_)
  have C1 := C.push (r := rLoc []) { cls := .type "dict", data := .dict #[] } (by
    obtain ⟨o, ho, hr⟩ := rLoc_of_ns (vs := []) (Heap.Ns.new s.heap (.type "dict")) List.nodup_nil (fun _ h => (nomatch h))
    rw [Heap.get?_push_size _ rfl] at ho
    cases ho
    exact hr)
  have C2 := C1.push (r := rCell none) { cls := .type "cell", data := .cell none } rfl
  exact h _ _ _ C2
/-- the comprehension's list goes to a name; its own variable is a cell -/
theorem x_clcK {elt target iter : Expr} {ifs : List Expr} {gs : List Comprehension} {scope : Scope} {pos spos py : Pos} {y : Str} {rest : List Stmt} {cl : List (Str × Addr)} (x : Str) {Q : Flow → Shared → Prop}
    (h : wpAny (model prog w) A (eval iter env) (fun xv s₁ => wpAny (model prog w) A (pyIter xv) (fun it s₂ => ∃ B g rs, Cx w B g rs s₂ ∧ ∀ D Cc c s₃, Cx w B g ((c, rCell none) :: (Cc, rLoc []) :: (D, rLst []) :: rs) s₃ →
      (∀ Q' E', Q' it s₃ → wpAny (model prog w) A (pyIter it) Q' E' s₃) ∧ codeAny (model prog w) A (.compLoop (.ListComp elt (⟨target, iter, ifs, 0⟩ :: gs) scope pos) 0 it (.ref D) (envC scope ((x, c) :: cl) Cc env)) (cRa (model prog w) w A env y rest Q E D Cc) s₃) E s₁) E s)
    (hcf : ∀ n, cellsFrom n scope.names cl = (x, n) :: cl) (hpc : ∀ h, pushCells h scope.names = h.push { cls := .type "cell", data := .cell none })
    (hsw : swapsWith (.ListComp elt (⟨target, iter, ifs, 0⟩ :: gs) scope pos) (some (.Name y py)) spos.line env = pure true := by with_unfolding_all rfl)
    (hclos : closureFor scope env = pure cl := by with_unfolding_all rfl) (hkind : scope.kind = .function := by rfl)
    (hnames : ∀ y ∈ scope.names, y.2 = .local → scope.names.lookup y.1 = some .local := by decide) (hs : ∀ x, foldedSetIterable iter env x = pure x := by intro _; rfl) :
    wpAny (model prog w) A (execs (.Assign [.Name y py] (.ListComp elt (⟨target, iter, ifs, 0⟩ :: gs) scope pos) spos :: rest) env) Q E s := by
  refine x_seq ?_
  rw [exec_Assign_Name_used _ _ _ _ hsw]
  refine wpAny_bind (wpAny_standAt (wpAny_bind ?_))
  show wpAny _ A (do let _ ← comprehension (.ListComp elt (⟨target, iter, ifs, 0⟩ :: gs) scope pos) scope env _ (newList []) false (eval iter env) (some (assign (.Name y py) env))) _ _ s
  refine wpAny_bind (wpAny_mono (wpAny_comprehension_free (use := some (assign (.Name y py) env)) (Q := fun _ s' => wpAny (model prog w) A (execs rest env) Q E s') rfl hs hclos hkind hnames
    (wpAny_mono h (fun xv s₁ h₁ => wpAny_mono h₁ (fun it s₂ h₂ => ?_) fun _ _ e => e) fun _ _ e => e)) (fun _ s' hq => wpAny_pure (wpAny_pure hq)) fun _ _ e => e)
  obtain ⟨B, g, rs, C, h₂⟩ := h₂
  refine x_newList C (Nat.zero_le _) fun D s₃ C => newCompEnv1 C hcf hpc fun Cc c s₄ C => ?_
  obtain ⟨hself, hloop⟩ := h₂ D Cc c s₄ C
  have hloop' := codeAny_mono hloop (R' := compPost (model prog w) A E (some (assign (.Name y py) env)) (fun _ s' => wpAny (model prog w) A (execs rest env) Q E s') (.ref D) Cc) fun r s' q => by
    cases r with
    | error e => exact q.elim
    | ok f =>
      cases f with
      | next =>
        refine wpAny_assign_Name (wpAny_mono q (fun _ s'' q => ?_) fun _ _ x => x.elim)
        obtain ⟨B, g, vs, rs', C, hQ⟩ := q
        obtain ⟨m, hn, _, _⟩ := C.ns (.head _)
        exact ⟨m, hn, fun h' hs => hQ _ (C.rm .hd hs.extBut s''.toks)⟩
      | _ => exact q.elim
  exact codeAny_compStart_list hloop' (hself _ _ hloop')
end
end
section
noncomputable def pairStr (p : Nat × Nat) : Str := (⟨#[97 + p.1]⟩ : Str) ++ ⟨#[97 + p.2]⟩
noncomputable def tieCps (ties : List (Nat × Nat)) : List Nat := (Txt.join ⟨#[44]⟩ (ties.map pairStr)).cps.toList
noncomputable def sumsOf (ws : List Int) : List Int := (List.range 5).map fun k => (ws.map fun x => x ^ k).sum
theorem g_law (P : Params) : nsIn (KP P) mainGlobals "law" = some (some (.ref 207)) := by kernel_rfl
noncomputable def textL : List (Nat × Nat) → List Nat
  | [] => []
  | [p] => [97 + p.1, 97 + p.2]
  | p :: r => [97 + p.1, 97 + p.2] ++ 44 :: textL r
theorem pairStr_cps (p : Nat × Nat) : (pairStr p).cps.toList = [97 + p.1, 97 + p.2] := rfl
theorem tieCps_eq : ∀ ties, tieCps ties = textL ties := by
  intro ties
  unfold tieCps Txt.join
  rw [StrLaws.glued_eq_join]
  induction ties with
  | nil => rfl
  | cons p r ih =>
    cases r with
    | nil => rfl
    | cons q l =>
      show (pairStr p ++ ⟨#[44]⟩ ++ Str.join ⟨#[44]⟩ ((q :: l).map pairStr)).cps.toList = [97 + p.1, 97 + p.2] ++ 44 :: textL (q :: l)
      rw [← ih]
      show ((pairStr p).cps ++ #[44] ++ (Str.join ⟨#[44]⟩ ((q :: l).map pairStr)).cps).toList = _
      simp [pairStr_cps]
theorem textL_mem : ∀ ties : List (Nat × Nat), (∀ p ∈ ties, p.1 < 4 ∧ p.2 < 4) → ∀ c ∈ textL ties, c = 44 ∨ (97 ≤ c ∧ c ≤ 200)
  | [], _, c, hc => (nomatch hc)
  | [p], h, c, hc => by
    have := h p (.head _)
    simp only [textL, List.mem_cons, List.not_mem_nil, or_false] at hc
    omega
  | p :: q :: r, h, c, hc => by
    have := h p (.head _)
    have ih := textL_mem (q :: r) fun x hx => h x (.tail _ hx)
    simp only [textL, List.mem_append, List.mem_cons, List.not_mem_nil, or_false] at hc
    rcases hc with hc | hc | hc
    · omega
    · exact .inl hc
    · exact ih c (by simpa [textL] using hc)
theorem textL_len : ∀ ties : List (Nat × Nat), (textL ties).length ≤ 3 * ties.length
  | [] => by simp [textL]
  | [p] => by simp [textL]
  | p :: q :: r => by
    have ih := textL_len (q :: r)
    show ([97 + p.1, 97 + p.2] ++ 44 :: textL (q :: r)).length ≤ _
    simp only [List.length_append, List.length_cons, List.length_nil] at ih ⊢
    omega
noncomputable def maskOf (p : Nat × Nat) : Nat := 2 ^ p.1 ||| 2 ^ p.2
theorem sym_pt {u : Nat} (h : u < 4) : symOf (97 + u) = 256 + u := by unfold symOf; rw [if_neg (by omega)]; omega
theorem mk_pt (acc : List Nat) (m u : Nat) : mkStep (acc, m) (256 + u) = (acc, m ||| 2 ^ u) := by
  unfold mkStep
  rw [if_neg (by omega), if_pos (by omega), show 256 + u - 256 = u by omega]
theorem mk_fold : ∀ (ties : List (Nat × Nat)) (acc : List Nat), ties ≠ [] → (∀ p ∈ ties, p.1 < 4 ∧ p.2 < 4) → ((textL ties).map symOf ++ [0]).foldl mkStep (acc, 0) = (acc ++ ties.map maskOf, 0)
  | [], _, h, _ => absurd rfl h
  | [p], acc, _, h => by
    have := h p (.head _)
    show (([97 + p.1, 97 + p.2].map symOf) ++ [0]).foldl mkStep (acc, 0) = _
    simp only [List.map_cons, List.map_nil, sym_pt this.1, sym_pt this.2, List.cons_append, List.nil_append, List.foldl_cons, List.foldl_nil, mk_pt, Nat.zero_or]
    rfl
  | p :: q :: r, acc, _, h => by
    have := h p (.head _)
    show (([97 + p.1, 97 + p.2] ++ 44 :: textL (q :: r)).map symOf ++ [0]).foldl mkStep (acc, 0) = _
    rw [List.map_append, List.map_cons, List.append_assoc, List.cons_append]
    simp only [List.map_cons, List.map_nil, sym_pt this.1, sym_pt this.2, List.cons_append, List.nil_append, List.foldl_cons, mk_pt, Nat.zero_or]
    rw [show symOf 44 = 12 from rfl, show mkStep (acc, 2 ^ p.1 ||| 2 ^ p.2) 12 = (acc ++ [maskOf p], 0) from rfl]
    rw [mk_fold (q :: r) _ (by simp) fun x hx => h x (.tail _ hx)]
    simp
theorem masks_eq {ties : List (Nat × Nat)} (h0 : ties ≠ []) (h : ∀ p ∈ ties, p.1 < 4 ∧ p.2 < 4) : masksOf (tieCps ties) = ties.map maskOf := by
  unfold masksOf
  rw [tieCps_eq, mk_fold ties [] h0 h]
  rfl
structure LawFacts (ns : List Int) (L : List Nat) : Prop where
  ord : order ((tiesOf ns).map maskOf) = some L
  len : L.length ≤ 20
  bnd : ∀ n ∈ L, n ≤ 1000000 ∧ 0 < (dg n).length ∧ ∃ v, worthOf (sumsOf (weightsOf ns)) (dg n) = some v
  key : ∀ a b, b ≤ a → a < L.length → jn L a b ∈ L
  paint : ∀ row ∈ rowsK (weightsOf ns).length 4, pNum row (tiesOf ns) ∈ L ∧ (∀ x ∈ pHeaps row (tiesOf ns), x < 16) ∧ (∀ x ∈ pHeaps row (tiesOf ns), ∀ y ∈ pHeaps row (tiesOf ns), x ≠ y → x % 8 ≠ y % 8)
  diag : diagF (tabF (sumsOf (weightsOf ns)) L) = some (paintF L (tiesOf ns) (weightsOf ns))
theorem tiesOf_len (ns : List Int) : 3 ≤ (tiesOf ns).length ∧ (tiesOf ns).length ≤ 4 := by
  unfold tiesOf
  rw [List.length_map, List.length_take, cells_len]
  split <;> omega
theorem tiesOf_mem (ns : List Int) : ∀ p ∈ tiesOf ns, p ∈ prs := by
  intro p hp
  obtain ⟨c, _, rfl⟩ := List.mem_map.mp hp
  have h1 := Int.emod_nonneg c (show (6 : Int) ≠ 0 by decide)
  have h2 := Int.emod_lt_of_pos c (show (0 : Int) < 6 by decide)
  have h3 : (c % 6).toNat < prs.length := by show _ < 6; omega
  rw [List.getD_eq_getElem?_getD, List.getElem?_eq_getElem h3]
  exact List.getElem_mem h3
theorem prs_lt : ∀ p ∈ prs, p.1 < 4 ∧ p.2 < 4 := by decide
theorem weightsOf_len (ns : List Int) : 2 ≤ (weightsOf ns).length ∧ (weightsOf ns).length ≤ 3 := by
  unfold weightsOf
  rw [List.length_map, List.length_drop, List.length_take, cells_len]
  split <;> omega
theorem weightsOf_bnd (ns : List Int) : ∀ x ∈ weightsOf ns, -6 ≤ x ∧ x ≤ 12 := by
  intro x hx
  obtain ⟨c, _, rfl⟩ := List.mem_map.mp hx
  have h1 := Int.emod_nonneg c (show (19 : Int) ≠ 0 by decide)
  have h2 := Int.emod_lt_of_pos c (show (0 : Int) < 19 by decide)
  omega
theorem pow_abs {x : Int} {k : Nat} (h : -6 ≤ x ∧ x ≤ 12) (hk : k ≤ 4) : (x ^ k).natAbs ≤ 20736 := by
  rw [Int.natAbs_pow]
  have h1 : x.natAbs ≤ 12 := by omega
  refine Nat.le_trans (Nat.pow_le_pow_left h1 k) ?_
  exact Nat.le_trans (Nat.pow_le_pow_right (by decide) hk) (by decide)
theorem sum_abs : ∀ (l : List Int) (b : Nat), (∀ x ∈ l, x.natAbs ≤ b) → l.sum.natAbs ≤ b * l.length
  | [], b, _ => by simp
  | x :: r, b, h => by
    have ih := sum_abs r b fun y hy => h y (.tail _ hy)
    have hx := h x (.head _)
    rw [List.sum_cons, List.length_cons, Nat.mul_succ]
    omega
theorem sumsOf_len (ws : List Int) : (sumsOf ws).length = 5 := rfl
theorem sumsOf_bnd (ns : List Int) : ∀ x ∈ sumsOf (weightsOf ns), x.natAbs < 2 ^ 60 := by
  intro x hx
  obtain ⟨k, hk, rfl⟩ := List.mem_map.mp hx
  have hk := List.mem_range.mp hk
  have := sum_abs ((weightsOf ns).map fun x => x ^ k) 20736 (fun y hy => by
    obtain ⟨z, hz, rfl⟩ := List.mem_map.mp hy
    exact pow_abs (weightsOf_bnd ns z hz) (by omega))
  rw [List.length_map] at this
  have h3 := (weightsOf_len ns).2
  have : 20736 * (weightsOf ns).length ≤ 20736 * 3 := Nat.mul_le_mul_left _ h3
  omega
end
section
section
variable {prog : Program} {w : World} {A : Around} {E : Value → Shared → Prop} {s s' : Shared} {env : Env} {B : Shared} {g : Heap} {rs rs' : Rs}
theorem abcd_get : ∀ k : Fin 4, (Str.ofString "abcd").cps[k.val]? = some (97 + k.val) := by decide +kernel
theorem abcd_len : (Str.ofString "abcd").length = 4 := by kernel_rfl
theorem sa_snoc {vs : List Value} {ys : List Str} {y : Str} {t : Tok} (h : StrsAre vs ys) : StrsAre (vs ++ [.str y t]) (ys ++ [y]) := by
  induction h with
  | nil => exact .cons y t .nil
  | cons z u _ ih => exact .cons z u ih
theorem sa_len {vs : List Value} {ys : List Str} (h : StrsAre vs ys) : vs.length = ys.length := by
  induction h with
  | nil => rfl
  | cons z u _ ih => simp [ih]
theorem pair_sum (ties : List (Nat × Nat)) : ((ties.map pairStr).map (·.length)).sum = 2 * ties.length := by
  induction ties with
  | nil => rfl
  | cons p r ih =>
    rw [List.map_cons, List.map_cons, List.sum_cons, ih, List.length_cons]
    show 2 + _ = _
    omega
theorem tab_sq (sums : List Int) (L : List Nat) : Sq L.length (tabF sums L) := ⟨tabF_len sums L, fun row hr => by
  obtain ⟨i, _, rfl⟩ := List.mem_map.mp hr
  exact tRow_len sums L i⟩
theorem c_law {l : Addr} {vs : List Value} {ns : List Int} {L : List Nat} {Q : Value → Shared → Prop} (R : Room 9 A) (C : Cx w B g rs s) (hl : g.IsList l vs.toArray) (hi : IntsAre vs ns) (hn : ns.length ≤ 63) (F : LawFacts ns L)
    (h : ∀ s', Cx w B g rs s' → Q (.bool true) s') :
    wpAny (model prog w) A (call (.ref 207) [.ref l]) Q E s := by
  have W := C.wf
  refine x_enterK ["script"] ["weights"] [("script", .ref l)] [("script", .ref l)] (fun n => [("weights", n)]) (fun n => (n, rCell none) :: rs) R.room C rfl (by kernel_rfl) rfl rfl (fun _ => by kernel_rfl) (fun _ => rfl) (by decide) (by decide) (by kernel_rfl) (by simp only [List.map]; decide) (fun _ => by kernel_rfl) ?_
  intro Lo c s' q cd hLo C
  have ht3 := tiesOf_len ns
  have htm : ∀ p ∈ tiesOf ns, p.1 < 4 ∧ p.2 < 4 := fun p hp => prs_lt p (tiesOf_mem ns p hp)
  have hwl := weightsOf_len ns
  have hwb := weightsOf_bnd ns
  have hsb := sumsOf_bnd ns
  have hmk := masks_eq (ties := tiesOf ns) (fun h => by rw [h] at ht3; simp at ht3) htm
  obtain ⟨ford, flen, fbnd, fkey, fpaint, fdiag⟩ := F
  rw [← hmk] at ford
  repeat kts_caught
  refine ⟨Cx.wfs (by assumption), c_drawn (by ktr_room) (by assumption) hl hi hn ?_⟩
  intro p ta wa tv wv g1 s' k1 hp hta hwa hT hW C
  generalize tiesOf ns = ties at *
  generalize weightsOf ns = ws at *
  refine x_unpack R.hh C (C.ft hp) fun s' C => x_two ?_
  repeat kts_caught
  have htvl : tv.length = ties.length := hT.1
  refine x_iter_list (by assumption) (Cx.fl (by assumption) hta) ?_
  intro I s' C
  refine ⟨_, _, _, C, fun D Cc s' C => ⟨x_self_list C (by ktr_rel), ?_⟩⟩
  obtain ⟨Z, hZ, C⟩ := C.cut3
  refine x_cloop (fun i s' => ∃ sv, StrsAre sv ((ties.take i).map pairStr) ∧ Cx w B g1 ((Cc, rLoc []) :: (D, rLst sv) :: (I, rLit ta i) :: Z) s') ties.length ?_ ?_ ⟨[], .nil, C⟩
  · rintro i s' hi' ⟨sv, hsv, C⟩
    obtain ⟨v, hv, tr, tt, tu, rfl, htup⟩ := hT.at (0, 0) hi'
    have hpm : ties.getD i (0, 0) ∈ ties := by rw [List.getD_eq_getElem?_getD, List.getElem?_eq_getElem hi']; exact List.getElem_mem hi'
    obtain ⟨hu4, hv4⟩ := htm _ hpm
    have hts : (ties.take (i + 1)).map pairStr = (ties.take i).map pairStr ++ [pairStr (ties.getD i (0, 0))] := by
      rw [take_succ_getD _ (0, 0) i hi', List.map_append]; rfl
    generalize ties.getD i (0, 0) = p at htup hu4 hv4 hts
    have hsl : sv.length ≤ 10 := by rw [sa_len hsv, List.length_map, List.length_take]; omega
    refine x_next_list C (by tb_start) (C.fl hta) hv ?_
    intro s' C
    refine ⟨_, rfl, x_letgoT C (by ktr_rel) ?_⟩
    refine x_unpack R.hh C (C.ft htup) fun s' C => x_two ?_
    repeat kts_caught
    refine x_stri (k := p.1) (by assumption) (by rw [abcd_len]; exact hu4) (by rw [abcd_len]; decide) (abcd_get ⟨p.1, hu4⟩) ?_
    intro t s' C
    repeat kts_caught
    refine x_stri (k := p.2) (by assumption) (by rw [abcd_len]; exact hv4) (by rw [abcd_len]; decide) (abcd_get ⟨p.2, hv4⟩) ?_
    intro t s' C
    repeat kts_caught
    refine x_stradd (by assumption) (by show 1 + 1 ≤ _; decide) ?_
    intro t s' C
    refine x_append C (by tb_start) (by rw [sizeLine_eq]; omega) ?_
    intro s' C
    rw [hts]
    have C : Cx w B g1 ((Cc, _) :: (D, rLst (sv ++ [Value.str (pairStr p) t])) :: (I, rLit ta (i + 1)) :: Z) s' := C
    exact ⟨_, sa_snoc hsv, C.loc _ (by tb_start) (by kts_caughtN) (by simp only [List.map]; decide)⟩
  · rintro s' ⟨sv, hsv, C⟩
    rw [List.take_length] at hsv
    refine x_end_list R.hh C (by tb_start) (C.fl hta) (by omega) ?_
    intro s' C
    refine ⟨rfl, ?_⟩
    subst hZ
    repeat kts_caught
    rw [comma_eq]
    refine x_join (by assumption) (Cx.lst (by assumption) (by ktr_rel)) hsv (by decide) (by rw [pair_sum, List.length_map]; omega) ?_
    intro t s' C
    have htx := textL_len ties
    have hcp : (Txt.join ⟨#[44]⟩ (ties.map pairStr)).cps.toList = tieCps ties := rfl
    repeat kts_caught
    refine ⟨Cx.wfs (by assumption), c_masks (by ktr_room) (by assumption) (by rw [hcp, tieCps_eq]; exact textL_mem ties htm) (by rw [← Array.length_toList, hcp, tieCps_eq]; omega) ?_⟩
    intro md mv s' hmv C
    rw [hcp] at hmv
    repeat kts_caught
    refine c_order (by ktr_room) (by assumption) (Cx.lst (by assumption) (by ktr_rel)) hmv (by rw [hmk, List.length_map]; omega) ford (fun n hn => (fbnd n hn).1) ?_
    intro od ov s' hO C
    obtain ⟨g2, k2, hoo, C⟩ := C.freeze1 .hd
    have hol := isList_of hoo
    have k02 := k1.trans k2
    clear hoo
    repeat kts_caught
    have C := Cx.loc (L := Lo) (by assumption) [("ties", _), ("order", _)] (by tb_start) (by kts_caughtN) (by simp only [List.map]; decide)
    refine x_clcK "size" (cl := [("weights", c)]) ?_ (fun _ => by kernel_rfl) (fun _ => rfl)
    have hwvl : wv.length = ws.length := ia_len hW
    repeat kts_caught
    rename_i C
    refine x_rangeN (n := 5) C ?_
    intro r s' C
    refine x_iter_rg (a := 0) (b := 5) C (by tb_start) (by decide) (by decide) ?_
    intro I2 s' C
    refine ⟨_, _, _, C, fun D2 Cc2 c2 s' C => ⟨x_self_rg C (by ktr_rel), ?_⟩⟩
    refine x_cloop (fun k s' => ∃ sv vo, IntsAre sv ((sumsOf ws).take k) ∧ Cx w B g2 ((c2, rCell vo) :: (Cc2, rLoc []) :: (D2, rLst sv) :: (I2, rRg k 5) :: (c, rCell (some (.ref wa))) :: (Lo, rLoc [("ties", .ref ta), ("order", .ref od)]) :: rs) s') 5 ?_ ?_ ⟨[], none, .nil, C.sel (by kwd_rel)⟩
    · rintro k s' hk ⟨sv, vo, hsv, C⟩
      have hsl : sv.length ≤ 5 := by rw [ia_len hsv, List.length_take, sumsOf_len]; omega
      have hsk : (sumsOf ws)[k]? = some ((ws.map fun x => x ^ k).sum) := by unfold sumsOf; rw [List.getElem?_map, List.getElem?_range hk]; rfl
      refine x_next_rg C hk (by tb_start) ?_
      intro tk s' C
      refine ⟨_, rfl, ?_⟩
      repeat kts_caught
      refine x_iter_list (by assumption) (Cx.fl (by assumption) (isList_keeps hwa k2)) ?_
      intro I3 s' C
      refine ⟨_, _, _, C, fun D3 Cc3 s' C => ⟨x_self_list C (by ktr_rel), ?_⟩⟩
      refine x_cmap (fun g i v => ∃ t, v = .int (ws.getD i 0 ^ k) t) R.hh C (isList_keeps hwa k2) (by omega) (fun _ _ _ _ k h => h) rfl ?_ ?_
      · intro i v g₁ ys s' hv hg C
        have hi2 : i < ws.length := by
          rcases Nat.lt_or_ge i wv.length with h | h
          · omega
          · rw [List.getElem?_eq_none h] at hv; cases hv
        obtain ⟨tv', hv'⟩ := ia_get hW i hi2
        rw [hv'] at hv
        cases hv
        have hxb := hwb (ws.getD i 0) (by rw [List.getD_eq_getElem?_getD, List.getElem?_eq_getElem hi2]; exact List.getElem_mem hi2)
        generalize ws.getD i 0 = x at hxb C
        repeat kts_caught
        refine c_ipow (by ktr_room) (by assumption) (by omega) (by omega) (by omega) ?_
        intro t s' C
        exact ⟨g₁, fun _ _ e => e, ⟨_, rfl⟩, C⟩
      · intro g₁ pv s' hg1 hlen hF C
        have hpv : IntsAre pv (ws.map fun x => x ^ k) := ia_of_get (by rw [List.length_map, hlen, hwvl]) fun j v e => by
          obtain ⟨t, ht⟩ := hF j v e
          refine ⟨t, ?_⟩
          have hj : j < ws.length := by
            rcases Nat.lt_or_ge j pv.length with h | h
            · omega
            · rw [List.getElem?_eq_none h] at e; cases e
          rw [ht]
          simp only [List.getD_eq_getElem?_getD, List.getElem?_map, List.getElem?_eq_getElem hj, Option.map_some, Option.getD_some]
        have Wg := C.wf
        have C := C.thaw hg1 (Wf.keeps W k02)
        repeat kts_caught
        refine x_sum R.hh (by assumption) (Cx.lst (by assumption) (by ktr_rel)) hpv ?_
        intro t s' C
        refine x_append C (by tb_start) (by rw [sizeLine_eq]; omega) ?_
        intro s' C
        rw [take_succG hsk]
        exact ⟨_, _, ia_snocI hsv, C.sel (by kwd_rel)⟩
    · rintro s' ⟨sv, vo, hsv, C⟩
      rw [List.take_of_length_le (by rw [sumsOf_len]; exact Nat.le_refl _)] at hsv
      refine x_end_rg R.hh C (by tb_start) ?_
      intro s' C
      refine ⟨rfl, ?_⟩
      repeat kts_caught
      rename_i C
      refine ⟨_, _, _, _, C.sel (rs' := (Cc2, _) :: (D2, _) :: (c, _) :: (Lo, _) :: rs) (by kwd_rel), ?_⟩
      intro s' C
      obtain ⟨g3, k3, hso, C⟩ := C.freeze1 .hd
      have hsl := isList_of hso
      have k03 := k02.trans k3
      clear hso
      repeat kts_caught
      refine ⟨Cx.wfs (by assumption), c_table (by ktr_room) (by assumption) (isList_keeps hol k3) hO hsl hsv (sumsOf_len ws) hsb flen fbnd fkey ?_⟩
      intro td tabv g4 s' k4 hrows C
      repeat kts_caught
      refine ⟨Cx.wfs (by assumption), c_diag (by ktr_room) (by assumption) (by tb_start) hrows (tab_sq _ _) (by omega) fdiag ?_⟩
      intro dd dv s' hdv C
      repeat kts_caught
      have k14 := k2.trans (k3.trans k4)
      refine ⟨Cx.wfs (by assumption), c_paint (by ktr_room) (by assumption) (isList_keeps hol (k3.trans k4)) hO (isList_keeps hta k14) (hT.mono fun v p h => h.keeps k14) (isList_keeps hwa k14) hW flen hwl.2
        (fun x hx => by have := hwb x hx; omega) (by omega) htm fpaint ?_⟩
      intro pd pv s' hpv C
      repeat kts_caught
      refine x_eqL (Cx.lst (by assumption) (by ktr_rel)) (Cx.lst (by assumption) (by ktr_rel)) hdv hpv (Room.u (n := 8) (R.deeper _)) ?_
      repeat kts_caught
      rename_i C
      exact h _ ((C.thaw (k03.trans k4) W).sel (by kwd_rel))
end
end
section
theorem room_caller : Room 9 callerA := ⟨rfl, by decide +kernel, by decide +kernel⟩
theorem top_of (H : ∀ ns : List Int, ∃ L, LawFacts ns L) : PySem.Challenge.rw_wj0065_01.Holds := hd rfl rfl rfl (by
  intro w s₀ s₁ mg mb G Y fa o pm cd doc dV kV ho hd' hcd hD hmg hg args vals as hpre hlay hrd hwl hlo
  have KX := kIn_of Y
  refine Ground.open G ?_
  intro T B D TE TW
  wrow_args hpre hlay hrd hwl hlo
  clear hd' hcd hD
  replace hmg : mg "law" = some (.ref fa) := hmg
  have h207 : mg "law" = some (.ref 207) := mg_of KX (Top.g T) (g_law _)
  rw [hmg] at h207
  injection h207 with h207
  injection h207 with h207
  subst h207
  have W : Wf w s₁.heap := ⟨KX, ⟨mg, mb, Top.g T, Top.b T, Top.builtins T⟩, Top.nolimit T⟩
  rename_i ns _ _ _ _ _ _ _ la lvs _ hL _ _ _ hI _ hcond _
  obtain ⟨L, F⟩ := H ns
  refine c_law (E := _) room_caller (Cx.start W) hL hI (by omega) F fun s' C => ?_
  refine GoodW.toG ⟨.inl ⟨_, .bool true, [], rfl, ?_, .bool true, ?_, unshared_nil⟩, C.keep, C.os, by rw [C.gens]; exact hg⟩
  · exact raisesW_false (by wrow_none_raised)
  · exact postW_of rfl rfl (by decide +kernel))
end
section
noncomputable def sS (Z : Nat → Nat → Int) (d : Nat → Int) : Nat → Nat → Nat → Nat → Int
  | 0, _, _, _ => 0
  | f + 1, i, k, c => Z k i * Z c i * d i + sS Z d f (i + 1) k c
noncomputable def rowf (n : Nat) (g : Nat → Int) : List Int := (List.range n).map g
theorem sS_zero {Z : Nat → Nat → Int} {d : Nat → Int} {k c : Nat} : ∀ (f i : Nat), (∀ j, i ≤ j → j < i + f → Z k j = 0 ∨ Z c j = 0) → sS Z d f i k c = 0
  | 0, _, _ => rfl
  | f + 1, i, h => by
    have ih := sS_zero (Z := Z) (d := d) (k := k) (c := c) f (i + 1) fun j h1 h2 => h j (by omega) (by omega)
    show Z k i * Z c i * d i + _ = 0
    rw [ih]
    rcases h i (Nat.le_refl _) (by omega) with e | e <;> rw [e] <;> simp
theorem rowf_get {n : Nat} {g : Nat → Int} {c : Nat} (h : c < n) : (rowf n g).getD c 0 = g c := by
  unfold rowf
  rw [List.getD_eq_getElem?_getD, List.getElem?_map, List.getElem?_range h]; rfl
theorem sub_rowf (n : Nat) (g h : Nat → Int) : subRow (rowf n g) (rowf n h) = rowf n fun c => g c - h c := by
  unfold subRow rowf
  induction List.range n with
  | nil => rfl
  | cons x r ih => rw [List.map_cons, List.map_cons, List.zipWith_cons_cons, ih, List.map_cons]
theorem rowf_congr {n : Nat} {g h : Nat → Int} (e : ∀ c, c < n → g c = h c) : rowf n g = rowf n h := by
  unfold rowf
  exact List.map_congr_left fun c hc => e c (List.mem_range.mp hc)
theorem getD_row {T : List (List Int)} {k : Nat} {r : List Int} (h : T[k]? = some r) : T.getD k [] = r := by
  rw [List.getD_eq_getElem?_getD, h]; rfl
theorem ent_of {T : List (List Int)} {n k i : Nat} {g : Nat → Int} (h : T[k]? = some (rowf n g)) (hi : i < n) : ent T k i = g i := by
  unfold ent
  rw [getD_row h]
  exact rowf_get hi
section
variable {Z : Nat → Nat → Int} {d : Nat → Int} {n : Nat}
theorem dIn_ok (hz : ∀ i k, Z i k = 0 ∨ Z i k = 1) (h1 : ∀ i, i < n → Z i i = 1) (hup : ∀ i j, i < j → j < n → Z i j = 0) {i : Nat} (hi : i < n) :
    ∀ (f k : Nat) (T : List (List Int)), k + f = n → i < k → T.length = n → T[i]? = some (rowf n (sS Z d (n - i) i i)) → (∀ r, i < r → r < k → T[r]? = some (rowf n (sS Z d (n - (i + 1)) (i + 1) r))) →
      (∀ r, k ≤ r → r < n → T[r]? = some (rowf n (sS Z d (n - i) i r))) →
      ∃ T', dIn f k i T = some T' ∧ T'.length = n ∧ ∀ r, i < r → r < n → T'[r]? = some (rowf n (sS Z d (n - (i + 1)) (i + 1) r)) := by
  have hni : n - i = (n - (i + 1)) + 1 := by omega
  intro f
  induction f with
  | zero =>
    intro k T hk _ hl _ hd _
    exact ⟨T, rfl, hl, fun r h2 h3 => hd r h2 (by omega)⟩
  | succ f ih =>
    intro k T hk hik hl hTi hd hu
    have hkn : k < n := by omega
    have hTk := hu k (Nat.le_refl _) hkn
    have hk0 : sS Z d (n - (i + 1)) (i + 1) k i = 0 := sS_zero _ _ fun j h2 h3 => .inr (hup i j (by omega) (by omega))
    have hi0 : ∀ c, sS Z d (n - (i + 1)) (i + 1) i c = 0 := fun c => sS_zero _ _ fun j h2 h3 => .inl (hup i j (by omega) (by omega))
    have hentk : ent T k i = Z k i * d i := by
      rw [ent_of hTk hi, hni]
      show Z k i * Z i i * d i + sS Z d (n - (i + 1)) (i + 1) k i = _
      rw [hk0, h1 i hi, Int.mul_one, Int.add_zero]
    have keep : ∀ r, r ≠ k → ∀ X, (T.set k X)[r]? = T[r]? := fun r hr X => List.getElem?_set_ne (Ne.symm hr)
    unfold dIn dStep
    by_cases hz0 : ent T k i = 0
    · rw [if_pos hz0]
      refine ih (k + 1) T (by omega) (by omega) hl hTi (fun r h2 h3 => ?_) fun r h2 h3 => hu r (by omega) h3
      rcases Nat.lt_or_ge r k with hr | hr
      · exact hd r h2 hr
      · obtain rfl : r = k := by omega
        rw [hTk]
        refine congrArg some (rowf_congr fun c hc => ?_)
        rw [hni]
        show Z r i * Z c i * d i + _ = _
        rw [hentk] at hz0
        have : Z r i * Z c i * d i = 0 := by rw [Int.mul_assoc, Int.mul_comm (Z c i), ← Int.mul_assoc, hz0, Int.zero_mul]
        rw [this, Int.zero_add]
    · rw [if_neg hz0]
      have hZ1 : Z k i = 1 := by
        rcases hz k i with e | e
        · exact absurd (by rw [hentk, e, Int.zero_mul]) hz0
        · exact e
      have hnew : subRow (T.getD k []) (T.getD i []) = rowf n (sS Z d (n - (i + 1)) (i + 1) k) := by
        rw [getD_row hTk, getD_row hTi, sub_rowf]
        refine rowf_congr fun c hc => ?_
        rw [hni]
        show (Z k i * Z c i * d i + _) - (Z i i * Z c i * d i + _) = _
        rw [hi0 c, hZ1, h1 i hi]
        omega
      rw [hnew]
      have hTk' : (T.set k (rowf n (sS Z d (n - (i + 1)) (i + 1) k)))[k]? = some (rowf n (sS Z d (n - (i + 1)) (i + 1) k)) := by
        rw [List.getElem?_set_self (by omega)]
      rw [if_pos (by rw [ent_of hTk' hi]; exact hk0)]
      refine ih (k + 1) _ (by omega) (by omega) (by rw [List.length_set]; exact hl) (by rw [keep i (by omega)]; exact hTi) (fun r h2 h3 => ?_) fun r h2 h3 => by rw [keep r (by omega)]; exact hu r (by omega) h3
      rcases Nat.lt_or_ge r k with hr | hr
      · rw [keep r (by omega)]; exact hd r h2 hr
      · obtain rfl : r = k := by omega
        exact hTk'
theorem dOut_ok (hz : ∀ i k, Z i k = 0 ∨ Z i k = 1) (h1 : ∀ i, i < n → Z i i = 1) (hup : ∀ i j, i < j → j < n → Z i j = 0) :
    ∀ (f i : Nat) (T : List (List Int)) (acc : List Int), i + f = n → T.length = n → (∀ r, i ≤ r → r < n → T[r]? = some (rowf n (sS Z d (n - i) i r))) →
      dOut f i T acc = some (acc ++ (List.range' i f).map d) := by
  intro f
  induction f with
  | zero => intro i T acc _ _ _; simp [dOut]
  | succ f ih =>
    intro i T acc hi hl hT
    have hin : i < n := by omega
    obtain ⟨T', h2, h3, h4⟩ := dIn_ok hz h1 hup hin f (i + 1) T (by omega) (by omega) hl (hT i (Nat.le_refl _) hin) (fun r h5 h6 => by omega) fun r h5 h6 => hT r (by omega) h6
    have he : ent T i i = d i := by
      rw [ent_of (hT i (Nat.le_refl _) hin) hin, show n - i = (n - (i + 1)) + 1 by omega]
      show Z i i * Z i i * d i + _ = _
      rw [sS_zero _ _ fun j h5 h6 => .inl (hup i j (by omega) (by omega)), h1 i hin]
      omega
    show (dIn f (i + 1) i T).bind _ = _
    rw [h2]
    show dOut f (i + 1) T' (acc ++ [ent T i i]) = _
    rw [ih (i + 1) T' _ (by omega) h3 fun r h5 h6 => h4 r (by omega) h6, he, List.range'_succ, List.map_cons, List.append_assoc]
    rfl
theorem diag_ok (hz : ∀ i k, Z i k = 0 ∨ Z i k = 1) (h1 : ∀ i, i < n → Z i i = 1) (hup : ∀ i j, i < j → j < n → Z i j = 0) :
    diagF ((List.range n).map fun i => rowf n (sS Z d n 0 i)) = some ((List.range n).map d) := by
  unfold diagF
  rw [List.length_map, List.length_range, dOut_ok hz h1 hup n 0 _ [] (by omega) (by simp) fun r _ h3 => by rw [List.getElem?_map, List.getElem?_range h3]; rfl]
  rw [List.nil_append, List.range_eq_range']
end
end
section
noncomputable def codeT : List Nat := [4680, 300, 330, 360, 585, 600, 840, 30, 45, 60, 75, 90, 105, 120, 15]
noncomputable def edT : List Nat := [0, 32, 16, 8, 4, 2, 1, 56, 38, 33, 21, 18, 12, 11, 63]
noncomputable def rkT : List Nat := [0, 1, 1, 1, 1, 1, 1, 2, 2, 2, 2, 2, 2, 2, 3]
noncomputable def hpT : List (List Nat) := [[1, 2, 4, 8], [1, 2, 12, 12], [1, 10, 4, 10], [1, 6, 6, 8], [9, 2, 4, 9], [5, 2, 5, 8], [3, 3, 4, 8], [1, 14, 14, 14], [13, 2, 13, 13], [3, 3, 12, 12], [11, 11, 4, 11], [5, 10, 5, 10], [9, 6, 6, 9], [7, 7, 7, 8], [15, 15, 15, 15]]
noncomputable def jtT : List (List Nat) := [[6, 5, 4, 3, 2, 1], [9, 8, 8, 7, 7, 1], [10, 11, 10, 7, 2, 7], [13, 13, 12, 3, 7, 7], [10, 8, 4, 12, 10, 8], [13, 5, 8, 13, 11, 8], [6, 13, 10, 13, 10, 9], [14, 14, 14, 7, 7, 7], [14, 8, 8, 14, 14, 8], [9, 14, 14, 14, 14, 9], [10, 14, 10, 14, 10, 14], [14, 11, 14, 14, 11, 14], [14, 14, 12, 12, 14, 14], [13, 13, 14, 13, 14, 14], [14, 14, 14, 14, 14, 14]]
noncomputable def jjT : List (List Nat) := [[0, 1, 2, 3, 4, 5, 6, 7, 8, 9, 10, 11, 12, 13, 14], [1, 1, 7, 7, 8, 8, 9, 7, 8, 9, 14, 14, 14, 14, 14], [2, 7, 2, 7, 10, 11, 10, 7, 14, 14, 10, 11, 14, 14, 14], [3, 7, 7, 3, 12, 13, 13, 7, 14, 14, 14, 14, 12, 13, 14], [4, 8, 10, 12, 4, 8, 10, 14, 8, 14, 10, 14, 12, 14, 14], [5, 8, 11, 13, 8, 5, 13, 14, 8, 14, 14, 11, 14, 13, 14], [6, 9, 10, 13, 10, 13, 6, 14, 14, 9, 10, 14, 14, 13, 14], [7, 7, 7, 7, 14, 14, 14, 7, 14, 14, 14, 14, 14, 14, 14], [8, 8, 14, 14, 8, 8, 14, 14, 8, 14, 14, 14, 14, 14, 14], [9, 9, 14, 14, 14, 14, 9, 14, 14, 9, 14, 14, 14, 14, 14], [10, 14, 10, 14, 10, 14, 10, 14, 14, 14, 10, 14, 14, 14, 14], [11, 14, 11, 14, 14, 11, 14, 14, 14, 14, 14, 11, 14, 14, 14], [12, 14, 14, 12, 12, 14, 14, 14, 14, 14, 14, 14, 12, 14, 14], [13, 14, 14, 13, 14, 13, 13, 14, 14, 14, 14, 14, 14, 13, 14], [14, 14, 14, 14, 14, 14, 14, 14, 14, 14, 14, 14, 14, 14, 14]]
noncomputable def shT : List (List Nat) := [[1, 1, 1, 1], [2, 1, 1], [2, 1, 1], [2, 1, 1], [2, 1, 1], [2, 1, 1], [2, 1, 1], [3, 1], [3, 1], [2, 2], [3, 1], [2, 2], [2, 2], [3, 1], [4]]
noncomputable def code (i : Nat) : Nat := codeT.getD i 0
noncomputable def ed (i : Nat) : Nat := edT.getD i 0
noncomputable def rk (i : Nat) : Nat := rkT.getD i 0
noncomputable def hp (i : Nat) : List Nat := hpT.getD i []
noncomputable def jt (i k : Nat) : Nat := (jtT.getD i []).getD k 0
noncomputable def jj (i j : Nat) : Nat := (jjT.getD i []).getD j 0
noncomputable def prk (k : Nat) : Nat × Nat := prs.getD k (0, 0)
noncomputable def has (e k : Nat) : Bool := e.testBit k
noncomputable def leqE (a b : Nat) : Bool := a &&& b == a
noncomputable def leq (i r : Nat) : Bool := leqE (ed i) (ed r)
theorem t_jt : ∀ i : Fin 15, ∀ k : Fin 6, num (tg (dg (code i.val)) [maskOf (prk k.val)]) = code (jt i.val k.val) ∧ jt i.val k.val < 15 := by decide +kernel
theorem t_jj : ∀ i : Fin 15, ∀ j : Fin 15, num (tg (dg (code i.val)) (dg (code j.val))) = code (jj i.val j.val) ∧ jj i.val j.val < 15 := by decide +kernel
theorem t_code : ∀ i : Fin 15, ∀ j : Fin 15, code i.val = code j.val → i = j := by decide +kernel
theorem t_bnd : ∀ i : Fin 15, code i.val ≤ 1000000 ∧ 0 < (dg (code i.val)).length := by decide +kernel
theorem t_hp : ∀ i : Fin 15, ∀ k : Fin 6, (if (hp i.val).getD (prk k.val).1 0 ≠ (hp i.val).getD (prk k.val).2 0 then (hp i.val).map (fun h => if h = (hp i.val).getD (prk k.val).1 0 ∨ h = (hp i.val).getD (prk k.val).2 0 then (hp i.val).getD (prk k.val).1 0 + (hp i.val).getD (prk k.val).2 0 else h) else hp i.val) = hp (jt i.val k.val) := by decide +kernel
theorem t_num : ∀ i : Fin 15, num (ddup (hp i.val)) = code i.val ∧ (∀ x ∈ hp i.val, x < 16) ∧ (∀ x ∈ hp i.val, ∀ y ∈ hp i.val, x ≠ y → x % 8 ≠ y % 8) := by decide +kernel
theorem a_jt : ∀ i : Fin 15, ∀ k : Fin 6, ∀ r : Fin 15, leq (jt i.val k.val) r.val = (leq i.val r.val && has (ed r.val) k.val) := by decide +kernel
theorem a_jj : ∀ i : Fin 15, ∀ j : Fin 15, ∀ r : Fin 15, leq (jj i.val j.val) r.val = (leq i.val r.val && leq j.val r.val) := by decide +kernel
theorem a_anti : ∀ i : Fin 15, ∀ j : Fin 15, leq i.val j.val = true → leq j.val i.val = true → i = j := by decide +kernel
theorem a_rk : ∀ i : Fin 15, ∀ j : Fin 15, leq i.val j.val = true → rk i.val ≤ rk j.val ∧ (rk i.val = rk j.val → i = j) := by decide +kernel
theorem a_up : ∀ i : Fin 15, ∀ k : Fin 6, jt i.val k.val = i.val ∨ rk (jt i.val k.val) = rk i.val + 1 := by decide +kernel
theorem a_ed : ∀ i : Fin 15, ∀ r : Fin 15, leq i.val r.val = true ↔ ∀ k : Fin 6, has (ed i.val) k.val = true → has (ed r.val) k.val = true := by decide +kernel
end
section
noncomputable def ordStepI (i : Nat) (found : List Nat) (k : Nat) : List Nat := if jt i k ∈ found then found else found ++ [jt i k]
noncomputable def bfsI : Nat → List Nat → Nat → List Nat → Option (List Nat)
  | 0, _, _, _ => none
  | f + 1, K, place, found => if place < found.length then bfsI f K (place + 1) (K.foldl (ordStepI (found.getD place 0)) found) else some found
theorem code_inj {i j : Nat} (hi : i < 15) (hj : j < 15) (h : code i = code j) : i = j := by
  have := t_code ⟨i, hi⟩ ⟨j, hj⟩ h
  injection this
theorem code_mem {i : Nat} (hi : i < 15) : ∀ {l : List Nat}, (∀ x ∈ l, x < 15) → (code i ∈ l.map code ↔ i ∈ l) := by
  intro l hl
  constructor
  · intro h
    obtain ⟨j, hj, e⟩ := List.mem_map.mp h
    have := code_inj (hl j hj) hi e
    exact this ▸ hj
  · exact fun h => List.mem_map_of_mem h
theorem jt_lt {i k : Nat} (hi : i < 15) (hk : k < 6) : jt i k < 15 := (t_jt ⟨i, hi⟩ ⟨k, hk⟩).2
theorem step_lt {i : Nat} (hi : i < 15) : ∀ (K found : List Nat), (∀ k ∈ K, k < 6) → (∀ x ∈ found, x < 15) → ∀ x ∈ K.foldl (ordStepI i) found, x < 15
  | [], _, _, h => h
  | k :: r, found, hK, h => by
    rw [List.foldl_cons]
    refine step_lt hi r _ (fun q hq => hK q (.tail _ hq)) ?_
    unfold ordStepI
    split
    · exact h
    · intro x hx
      rcases List.mem_append.mp hx with hx | hx
      · exact h x hx
      · rw [List.mem_singleton.mp hx]; exact jt_lt hi (hK k (.head _))
theorem step_map {i : Nat} (hi : i < 15) : ∀ (K found : List Nat), (∀ k ∈ K, k < 6) → (∀ x ∈ found, x < 15) →
    (K.map fun k => maskOf (prk k)).foldl (ordStep (dg (code i))) (found.map code) = (K.foldl (ordStepI i) found).map code
  | [], _, _, _ => rfl
  | k :: r, found, hK, h => by
    rw [List.map_cons, List.foldl_cons, List.foldl_cons]
    have hk := hK k (.head _)
    have hj := t_jt ⟨i, hi⟩ ⟨k, hk⟩
    have e : ordStep (dg (code i)) (found.map code) (maskOf (prk k)) = (ordStepI i found k).map code := by
      unfold ordStep ordStepI
      rw [hj.1]
      by_cases hm : jt i k ∈ found
      · rw [if_pos ((code_mem hj.2 h).mpr hm), if_pos hm]
      · rw [if_neg (fun h' => hm ((code_mem hj.2 h).mp h')), if_neg hm, List.map_append]; rfl
    rw [e]
    refine step_map hi r _ (fun q hq => hK q (.tail _ hq)) ?_
    exact step_lt hi [k] found (fun q hq => by rw [List.mem_singleton.mp hq]; exact hk) h
theorem bfs_map : ∀ (f : Nat) (K : List Nat) (place : Nat) (found : List Nat), (∀ k ∈ K, k < 6) → (∀ x ∈ found, x < 15) →
    bfs f (K.map fun k => maskOf (prk k)) place (found.map code) = (bfsI f K place found).map (List.map code)
  | 0, _, _, _, _, _ => rfl
  | f + 1, K, place, found, hK, h => by
    unfold bfs bfsI
    rw [List.length_map]
    by_cases hp : place < found.length
    · rw [if_pos hp, if_pos hp]
      have hi : found.getD place 0 < 15 := h _ (by rw [List.getD_eq_getElem?_getD, List.getElem?_eq_getElem hp]; exact List.getElem_mem hp)
      have e : (found.map code).getD place 0 = code (found.getD place 0) := by
        simp only [List.getD_eq_getElem?_getD, List.getElem?_map, List.getElem?_eq_getElem hp, Option.map_some, Option.getD_some]
      rw [e, step_map hi K found hK h]
      exact bfs_map f K (place + 1) _ hK (step_lt hi K found hK h)
    · rw [if_neg hp, if_neg hp]; rfl
noncomputable def Gen (K : List Nat) (i : Nat) : Prop := ∀ r, r < 15 → (leq i r = true ↔ ∀ k ∈ K, has (ed i) k = true → has (ed r) k = true)
theorem leq_ed {i r : Nat} (hi : i < 15) (hr : r < 15) : leq i r = true ↔ ∀ k, k < 6 → has (ed i) k = true → has (ed r) k = true := by
  have := a_ed ⟨i, hi⟩ ⟨r, hr⟩
  rw [this]
  exact ⟨fun h k hk => h ⟨k, hk⟩, fun h k => h k.val k.isLt⟩
theorem leq_refl {i : Nat} (hi : i < 15) : leq i i = true := (leq_ed hi hi).mpr fun _ _ h => h
theorem leq_trans {i j r : Nat} (hi : i < 15) (hj : j < 15) (hr : r < 15) (h1 : leq i j = true) (h2 : leq j r = true) : leq i r = true :=
  (leq_ed hi hr).mpr fun k hk h => (leq_ed hj hr).mp h2 k hk ((leq_ed hi hj).mp h1 k hk h)
theorem leq_jt {i k r : Nat} (hi : i < 15) (hk : k < 6) (hr : r < 15) : leq (jt i k) r = true ↔ leq i r = true ∧ has (ed r) k = true := by
  have := a_jt ⟨i, hi⟩ ⟨k, hk⟩ ⟨r, hr⟩
  dsimp only at this
  rw [this, Bool.and_eq_true]
theorem leq_jj {i j r : Nat} (hi : i < 15) (hj : j < 15) (hr : r < 15) : leq (jj i j) r = true ↔ leq i r = true ∧ leq j r = true := by
  have := a_jj ⟨i, hi⟩ ⟨j, hj⟩ ⟨r, hr⟩
  dsimp only at this
  rw [this, Bool.and_eq_true]
theorem gen_zero (K : List Nat) : Gen K 0 := by
  intro r hr
  have h0 : ∀ k, has (ed 0) k = false := fun k => by show Nat.testBit 0 k = false; exact Nat.zero_testBit k
  constructor
  · intro _ k _ h; rw [h0] at h; cases h
  · intro _
    exact (leq_ed (by decide) hr).mpr fun k _ h => by rw [h0] at h; cases h
theorem gen_jt {K : List Nat} (hK : ∀ k ∈ K, k < 6) {i k : Nat} (hi : i < 15) (hk : k ∈ K) (g : Gen K i) : Gen K (jt i k) := by
  intro r hr
  have hj := jt_lt hi (hK k hk)
  constructor
  · intro h q hq hh
    exact (leq_ed hj hr).mp h q (hK q hq) hh
  · intro h
    have hs := (leq_jt hi (hK k hk) hj).mp (leq_refl hj)
    refine (leq_jt hi (hK k hk) hr).mpr ⟨(g r hr).mpr fun q hq hh => h q hq ((leq_ed hi hj).mp hs.1 q (hK q hq) hh), h k hk hs.2⟩
structure Inv (K found : List Nat) : Prop where
  zero : 0 ∈ found
  lt : ∀ x ∈ found, x < 15
  gen : ∀ x ∈ found, Gen K x
  nd : found.Nodup
  sorted : found.Pairwise fun a b => rk a ≤ rk b
theorem fold_inv {K : List Nat} (hK : ∀ k ∈ K, k < 6) {i : Nat} : ∀ (K' found : List Nat), (∀ k ∈ K', k ∈ K) → Inv K found → i ∈ found → (∀ x ∈ found, rk x ≤ rk i + 1) →
    Inv K (K'.foldl (ordStepI i) found) ∧ (∃ ext, K'.foldl (ordStepI i) found = found ++ ext) ∧ (∀ x ∈ K'.foldl (ordStepI i) found, rk x ≤ rk i + 1) ∧ ∀ k ∈ K', jt i k ∈ K'.foldl (ordStepI i) found
  | [], found, _, h, _, hr => ⟨h, ⟨[], by simp⟩, hr, fun _ h => (nomatch h)⟩
  | k :: r, found, hsub, h, hif, hr => by
    rw [List.foldl_cons]
    have hk := hsub k (.head _)
    have hi := h.lt i hif
    have key : Inv K (ordStepI i found k) ∧ (∃ ext, ordStepI i found k = found ++ ext) ∧ (∀ x ∈ ordStepI i found k, rk x ≤ rk i + 1) ∧ jt i k ∈ ordStepI i found k := by
      unfold ordStepI
      by_cases hm : jt i k ∈ found
      · rw [if_pos hm]
        exact ⟨h, ⟨[], by simp⟩, hr, hm⟩
      · rw [if_neg hm]
        have hne : jt i k ≠ i := fun e => hm (by rw [e]; exact hif)
        have hrk : rk (jt i k) = rk i + 1 := (a_up ⟨i, hi⟩ ⟨k, hK k hk⟩).resolve_left hne
        refine ⟨⟨List.mem_append_left _ h.zero, fun x hx => ?_, fun x hx => ?_, ?_, ?_⟩, ⟨_, rfl⟩, fun x hx => ?_, List.mem_append_right _ (List.mem_singleton.mpr rfl)⟩
        · rcases List.mem_append.mp hx with hx | hx
          · exact h.lt x hx
          · rw [List.mem_singleton.mp hx]; exact jt_lt hi (hK k hk)
        · rcases List.mem_append.mp hx with hx | hx
          · exact h.gen x hx
          · rw [List.mem_singleton.mp hx]; exact gen_jt hK hi hk (h.gen i hif)
        · rw [List.nodup_append]
          refine ⟨h.nd, by simp, fun a ha b hb e => ?_⟩
          rw [List.mem_singleton.mp hb] at e
          exact hm (e ▸ ha)
        · rw [List.pairwise_append]
          refine ⟨h.sorted, by simp, fun a ha b hb => ?_⟩
          rw [List.mem_singleton.mp hb, hrk]
          exact hr a ha
        · rcases List.mem_append.mp hx with hx | hx
          · exact hr x hx
          · rw [List.mem_singleton.mp hx, hrk]; exact Nat.le_refl _
    obtain ⟨k1, ⟨e1, he1⟩, k3, k4⟩ := key
    obtain ⟨r1, ⟨e2, he2⟩, r3, r4⟩ := fold_inv hK r (ordStepI i found k) (fun q hq => hsub q (.tail _ hq)) k1 (by rw [he1]; exact List.mem_append_left _ hif) k3
    refine ⟨r1, ⟨e1 ++ e2, by rw [he2, he1, List.append_assoc]⟩, r3, fun q hq => ?_⟩
    rcases List.mem_cons.mp hq with rfl | hq
    · rw [he2]; exact List.mem_append_left _ k4
    · exact r4 q hq
theorem nodup_len : ∀ (n : Nat) (l : List Nat), l.Nodup → (∀ x ∈ l, x < n) → l.length ≤ n
  | 0, l, _, h => by
    cases l with
    | nil => exact Nat.le_refl _
    | cons x r => exact absurd (h x (.head _)) (Nat.not_lt_zero _)
  | n + 1, l, hd, h => by
    by_cases hn : n ∈ l
    · have := nodup_len n (l.erase n) (hd.erase n) fun x hx => by
        have := (hd.mem_erase_iff).mp hx
        have h2 := h x this.2
        have h3 := this.1
        omega
      rw [List.length_erase_of_mem hn] at this
      omega
    · have := nodup_len n l hd fun x hx => by
        have h2 := h x hx
        have : x ≠ n := fun e => hn (e ▸ hx)
        omega
      omega
theorem bfs_inv {K : List Nat} (hK : ∀ k ∈ K, k < 6) : ∀ (f place : Nat) (found : List Nat), f + place = 17 → Inv K found → place ≤ found.length → (∀ p, p < place → ∀ k ∈ K, jt (found.getD p 0) k ∈ found) →
    (place < found.length → ∀ x ∈ found, rk x ≤ rk (found.getD place 0) + 1) →
    ∃ F, bfsI f K place found = some F ∧ Inv K F ∧ ∀ i ∈ F, ∀ k ∈ K, jt i k ∈ F := by
  intro f
  induction f with
  | zero =>
    intro place found hf h hp _ _
    have := nodup_len 15 found h.nd h.lt
    omega
  | succ f ih =>
    intro place found hf h hp hdone hrank
    unfold bfsI
    by_cases hlt : place < found.length
    · rw [if_pos hlt]
      have hif : found.getD place 0 ∈ found := by rw [List.getD_eq_getElem?_getD, List.getElem?_eq_getElem hlt]; exact List.getElem_mem hlt
      obtain ⟨r1, ⟨ext, he⟩, r3, r4⟩ := fold_inv hK K found (fun _ h => h) h hif (hrank hlt)
      have hget : ∀ p, p < found.length → (K.foldl (ordStepI (found.getD place 0)) found).getD p 0 = found.getD p 0 := fun p hp' => by
        rw [he, List.getD_eq_getElem?_getD, List.getElem?_append_left hp', List.getD_eq_getElem?_getD]
      refine ih (place + 1) _ (by omega) r1 (by rw [he, List.length_append]; omega) (fun p hp' k hk => ?_) fun hlt' x hx => ?_
      · rw [hget p (by omega)]
        rcases Nat.lt_or_ge p place with h1 | h1
        · rw [he]; exact List.mem_append_left _ (hdone p h1 k hk)
        · obtain rfl : p = place := by omega
          exact r4 k hk
      · have h1 := r3 x hx
        have hs := r1.sorted
        have h2 : rk (found.getD place 0) ≤ rk ((K.foldl (ordStepI (found.getD place 0)) found).getD (place + 1) 0) := by
          have hgp := hget place hlt
          generalize K.foldl (ordStepI (found.getD place 0)) found = G at hs hlt' hgp ⊢
          rw [← hgp]
          rw [List.pairwise_iff_getElem] at hs
          have := hs place (place + 1) (by omega) hlt' (by omega)
          simpa [List.getD_eq_getElem?_getD, List.getElem?_eq_getElem hlt', List.getElem?_eq_getElem (show place < G.length by omega)] using this
        omega
    · rw [if_neg hlt]
      refine ⟨found, rfl, h, fun i hi k hk => ?_⟩
      obtain ⟨p, hp', rfl⟩ := List.getElem_of_mem hi
      have := hdone p (by omega) k hk
      rwa [List.getD_eq_getElem?_getD, List.getElem?_eq_getElem hp'] at this
theorem order_ok {K : List Nat} (hK : ∀ k ∈ K, k < 6) : ∃ F, order (K.map fun k => maskOf (prk k)) = some ((F.reverse).map code) ∧ Inv K F ∧ ∀ i ∈ F, ∀ k ∈ K, jt i k ∈ F := by
  obtain ⟨F, hF, hI, hc⟩ := bfs_inv hK 17 0 [0] rfl ⟨.head _, by simp, fun x hx => by rw [List.mem_singleton.mp hx]; exact gen_zero K, by simp, by simp⟩ (by simp) (fun p hp => absurd hp (Nat.not_lt_zero _)) (fun _ x hx => by
    rw [List.mem_singleton.mp hx]; exact Nat.le_succ _)
  refine ⟨F, ?_, hI, hc⟩
  unfold order
  rw [show ([num [1, 2, 4, 8]] : List Nat) = [0].map code by decide +kernel, bfs_map 17 K 0 [0] hK (by simp), hF]
  rw [Option.map_some, Option.map_some, List.map_reverse]
end
section
noncomputable def er (row : List Nat) (k : Nat) : Bool := row.getD (prk k).1 0 == row.getD (prk k).2 0
noncomputable def clStep (row : List Nat) (i k : Nat) : Nat := if er row k then jt i k else i
noncomputable def clI (row : List Nat) (K : List Nat) : Nat := K.foldl (clStep row) 0
noncomputable def kr (row : List Nat) : Nat := ((List.range 15).find? fun q => (List.range 6).all fun k => has (ed q) k == er row k).getD 0
theorem cl_lt {row : List Nat} : ∀ (K : List Nat) (i : Nat), (∀ k ∈ K, k < 6) → i < 15 → K.foldl (clStep row) i < 15
  | [], _, _, h => h
  | k :: r, i, hK, h => by
    rw [List.foldl_cons]
    refine cl_lt r _ (fun q hq => hK q (.tail _ hq)) ?_
    unfold clStep
    split
    · exact jt_lt h (hK k (.head _))
    · exact h
theorem pStep_hp {row : List Nat} {i k : Nat} (hi : i < 15) (hk : k < 6) : pStep row (hp i) (prk k) = hp (clStep row i k) := by
  have := t_hp ⟨i, hi⟩ ⟨k, hk⟩
  dsimp only at this
  unfold pStep clStep er
  by_cases he : row.getD (prk k).1 0 = row.getD (prk k).2 0
  · rw [if_pos (beq_iff_eq.mpr he), ← this]
    by_cases hn : (hp i).getD (prk k).1 0 ≠ (hp i).getD (prk k).2 0
    · rw [if_pos ⟨he, hn⟩, if_pos hn]
    · rw [if_neg (fun h => hn h.2), if_neg hn]
  · rw [if_neg (fun h => he h.1), if_neg (fun h => he (beq_iff_eq.mp h))]
theorem pHeaps_hp {row : List Nat} : ∀ (K : List Nat) (i : Nat), (∀ k ∈ K, k < 6) → i < 15 → (K.map prk).foldl (pStep row) (hp i) = hp (K.foldl (clStep row) i)
  | [], _, _, _ => rfl
  | k :: r, i, hK, h => by
    rw [List.map_cons, List.foldl_cons, List.foldl_cons, pStep_hp h (hK k (.head _))]
    exact pHeaps_hp r _ (fun q hq => hK q (.tail _ hq)) (cl_lt [k] i (fun q hq => by rw [List.mem_singleton.mp hq]; exact hK k (.head _)) h)
theorem pHeaps_cl {row K : List Nat} (hK : ∀ k ∈ K, k < 6) : pHeaps row (K.map prk) = hp (clI row K) := by
  unfold pHeaps clI
  rw [show ([1, 2, 4, 8] : List Nat) = hp 0 from rfl]
  exact pHeaps_hp K 0 hK (by decide)
theorem clI_lt {row K : List Nat} (hK : ∀ k ∈ K, k < 6) : clI row K < 15 := cl_lt K 0 hK (by decide)
theorem pNum_cl {row K : List Nat} (hK : ∀ k ∈ K, k < 6) : pNum row (K.map prk) = code (clI row K) := by
  unfold pNum
  rw [pHeaps_cl hK]
  exact (t_num ⟨_, clI_lt hK⟩).1
theorem leq_cl {row : List Nat} {r : Nat} (hr : r < 15) : ∀ (K : List Nat) (i : Nat), (∀ k ∈ K, k < 6) → i < 15 → (leq (K.foldl (clStep row) i) r = true ↔ leq i r = true ∧ ∀ k ∈ K, er row k = true → has (ed r) k = true)
  | [], _, _, _ => ⟨fun h => ⟨h, fun _ h => (nomatch h)⟩, fun h => h.1⟩
  | k :: q, i, hK, h => by
    have hk := hK k (.head _)
    have hi' : clStep row i k < 15 := cl_lt [k] i (fun q hq => by rw [List.mem_singleton.mp hq]; exact hk) h
    rw [List.foldl_cons, leq_cl hr q _ (fun x hx => hK x (.tail _ hx)) hi']
    unfold clStep
    by_cases he : er row k = true
    · rw [if_pos he, leq_jt h hk hr]
      constructor
      · rintro ⟨⟨h1, h2⟩, h3⟩
        refine ⟨h1, fun x hx => ?_⟩
        rcases List.mem_cons.mp hx with rfl | hx
        · exact fun _ => h2
        · exact h3 x hx
      · rintro ⟨h1, h2⟩
        exact ⟨⟨h1, h2 k (.head _) he⟩, fun x hx => h2 x (.tail _ hx)⟩
    · rw [if_neg he]
      constructor
      · rintro ⟨h1, h3⟩
        refine ⟨h1, fun x hx => ?_⟩
        rcases List.mem_cons.mp hx with rfl | hx
        · exact fun h => absurd h he
        · exact h3 x hx
      · rintro ⟨h1, h2⟩
        exact ⟨h1, fun x hx => h2 x (.tail _ hx)⟩
theorem leq_clI {row K : List Nat} {r : Nat} (hK : ∀ k ∈ K, k < 6) (hr : r < 15) : leq (clI row K) r = true ↔ ∀ k ∈ K, er row k = true → has (ed r) k = true := by
  unfold clI
  rw [leq_cl hr K 0 hK (by decide)]
  exact ⟨fun h => h.2, fun h => ⟨(gen_zero [] r hr).mpr fun _ h => (nomatch h), h⟩⟩
theorem cl_mem {row K F : List Nat} (h0 : 0 ∈ F) (hc : ∀ i ∈ F, ∀ k ∈ K, jt i k ∈ F) : clI row K ∈ F := by
  have key : ∀ (K' : List Nat) (i : Nat), (∀ k ∈ K', k ∈ K) → i ∈ F → K'.foldl (clStep row) i ∈ F := by
    intro K'
    induction K' with
    | nil => exact fun i _ h => h
    | cons k r ih =>
      intro i hs h
      rw [List.foldl_cons]
      refine ih _ (fun x hx => hs x (.tail _ hx)) ?_
      unfold clStep
      split
      · exact hc i h k (hs k (.head _))
      · exact h
  exact key K 0 (fun _ h => h) h0
/-- the join of two found ones is found -/
theorem jj_mem {K F : List Nat} (hK : ∀ k ∈ K, k < 6) (hI : Inv K F) (hc : ∀ i ∈ F, ∀ k ∈ K, jt i k ∈ F) {i j : Nat} (hi : i ∈ F) (hj : j ∈ F) : jj i j ∈ F := by
  have hi' := hI.lt i hi
  have hj' := hI.lt j hj
  have hjj : jj i j < 15 := (t_jj ⟨i, hi'⟩ ⟨j, hj'⟩).2
  have key : ∀ (K' : List Nat) (a : Nat), (∀ k ∈ K', k ∈ K) → a ∈ F → ∃ x ∈ F, ∀ r, r < 15 → (leq x r = true ↔ leq a r = true ∧ ∀ k ∈ K', has (ed j) k = true → has (ed r) k = true) := by
    intro K'
    induction K' with
    | nil => exact fun a _ h => ⟨a, h, fun r hr => ⟨fun h => ⟨h, fun _ h => (nomatch h)⟩, fun h => h.1⟩⟩
    | cons k r ih =>
      intro a hs h
      by_cases hk : has (ed j) k = true
      · obtain ⟨x, hx, hxr⟩ := ih (jt a k) (fun x hx => hs x (.tail _ hx)) (hc a h k (hs k (.head _)))
        refine ⟨x, hx, fun q hq => ?_⟩
        rw [hxr q hq, leq_jt (hI.lt a h) (hK k (hs k (.head _))) hq]
        constructor
        · rintro ⟨⟨h1, h2⟩, h3⟩
          refine ⟨h1, fun y hy => ?_⟩
          rcases List.mem_cons.mp hy with rfl | hy
          · exact fun _ => h2
          · exact h3 y hy
        · rintro ⟨h1, h2⟩
          exact ⟨⟨h1, h2 k (.head _) hk⟩, fun y hy => h2 y (.tail _ hy)⟩
      · obtain ⟨x, hx, hxr⟩ := ih a (fun x hx => hs x (.tail _ hx)) h
        refine ⟨x, hx, fun q hq => ?_⟩
        rw [hxr q hq]
        constructor
        · rintro ⟨h1, h3⟩
          refine ⟨h1, fun y hy => ?_⟩
          rcases List.mem_cons.mp hy with rfl | hy
          · exact fun h => absurd h hk
          · exact h3 y hy
        · rintro ⟨h1, h2⟩
          exact ⟨h1, fun y hy => h2 y (.tail _ hy)⟩
  obtain ⟨x, hx, hxr⟩ := key K i (fun _ h => h) hi
  have hx' := hI.lt x hx
  have hg := hI.gen j hj
  have e : ∀ r, r < 15 → (leq x r = true ↔ leq (jj i j) r = true) := fun r hr => by
    rw [hxr r hr, leq_jj hi' hj' hr, hg r hr]
  have h1 := (e x hx').mp (leq_refl hx')
  have h2 := (e (jj i j) hjj).mpr (leq_refl hjj)
  have : (⟨jj i j, hjj⟩ : Fin 15) = ⟨x, hx'⟩ := a_anti _ _ h1 h2
  injection this with this
  rw [this]; exact hx
theorem kr_ok3 : ∀ row ∈ rowsK 3 4, kr row < 15 ∧ ∀ k : Fin 6, has (ed (kr row)) k.val = er row k.val := by decide +kernel
theorem kr_ok2 : ∀ row ∈ rowsK 2 4, kr row < 15 ∧ ∀ k : Fin 6, has (ed (kr row)) k.val = er row k.val := by decide +kernel
theorem kr_ok {m : Nat} (hm : 2 ≤ m ∧ m ≤ 3) : ∀ row ∈ rowsK m 4, kr row < 15 ∧ ∀ k, k < 6 → has (ed (kr row)) k = er row k := by
  have : m = 2 ∨ m = 3 := by omega
  rcases this with rfl | rfl
  · exact fun row h => ⟨(kr_ok2 row h).1, fun k hk => (kr_ok2 row h).2 ⟨k, hk⟩⟩
  · exact fun row h => ⟨(kr_ok3 row h).1, fun k hk => (kr_ok3 row h).2 ⟨k, hk⟩⟩
/-- a found partition is finer than a painting just if it is finer than what its ties hold together -/
theorem leq_kr {m : Nat} (hm : 2 ≤ m ∧ m ≤ 3) {K : List Nat} (hK : ∀ k ∈ K, k < 6) {p : Nat} (hp : p < 15) (g : Gen K p) {row : List Nat} (hr : row ∈ rowsK m 4) : leq p (kr row) = leq p (clI row K) := by
  obtain ⟨h1, h2⟩ := kr_ok hm row hr
  have hc := clI_lt (row := row) hK
  rw [Bool.eq_iff_iff]
  constructor
  · intro h
    refine (g _ hc).mpr fun k hk hh => ?_
    have h3 := (leq_ed hp h1).mp h k (hK k hk) hh
    rw [h2 k (hK k hk)] at h3
    exact (leq_clI hK hc).mp (leq_refl hc) k hk h3
  · intro h
    refine leq_trans hp hc h1 h ((leq_clI hK h1).mpr fun k hk hh => ?_)
    rw [h2 k (hK k hk)]; exact hh
end
section
open PyProof.Rows PySem
noncomputable def cntT : List (List Nat) := [[0, 4], [0, 2, 1], [0, 2, 1], [0, 2, 1], [0, 2, 1], [0, 2, 1], [0, 2, 1], [0, 1, 0, 1], [0, 1, 0, 1], [0, 0, 2], [0, 1, 0, 1], [0, 0, 2], [0, 0, 2], [0, 1, 0, 1], [0, 0, 0, 0, 1]]
theorem worth_p (sums : List Int) {p : Nat} (hp : p < 15) : worthOf sums (dg (code p)) = some (worthF sums 0 (cntT.getD p []) 1) := by
  have : p = 0 ∨ p = 1 ∨ p = 2 ∨ p = 3 ∨ p = 4 ∨ p = 5 ∨ p = 6 ∨ p = 7 ∨ p = 8 ∨ p = 9 ∨ p = 10 ∨ p = 11 ∨ p = 12 ∨ p = 13 ∨ p = 14 := by omega
  rcases this with rfl | rfl | rfl | rfl | rfl | rfl | rfl | rfl | rfl | rfl | rfl | rfl | rfl | rfl | rfl <;> kernel_rfl
theorem id2_0 (x y : Int) : (((rowsK 2 4).filter fun row => leq 0 (kr row)).map (pWorth [x, y])).sum = worthF (sumsOf [x, y]) 0 [0,4] 1 := by
  rw [show (rowsK 2 4).filter (fun row => leq 0 (kr row)) = [[0,0,0,0],[0,0,0,1],[0,0,1,0],[0,0,1,1],[0,1,0,0],[0,1,0,1],[0,1,1,0],[0,1,1,1],[1,0,0,0],[1,0,0,1],[1,0,1,0],[1,0,1,1],[1,1,0,0],[1,1,0,1],[1,1,1,0],[1,1,1,1]] from by decide +kernel]
  simp only [List.map_cons, List.map_nil, List.sum_cons, List.sum_nil, pWorth, List.foldl_cons, List.foldl_nil, worthF, sumsOf, List.getD_cons_zero, List.getD_cons_succ, List.range, List.range.loop]
  grind
theorem id2_1 (x y : Int) : (((rowsK 2 4).filter fun row => leq 1 (kr row)).map (pWorth [x, y])).sum = worthF (sumsOf [x, y]) 0 [0,2,1] 1 := by
  rw [show (rowsK 2 4).filter (fun row => leq 1 (kr row)) = [[0,0,0,0],[0,0,1,1],[0,1,0,0],[0,1,1,1],[1,0,0,0],[1,0,1,1],[1,1,0,0],[1,1,1,1]] from by decide +kernel]
  simp only [List.map_cons, List.map_nil, List.sum_cons, List.sum_nil, pWorth, List.foldl_cons, List.foldl_nil, worthF, sumsOf, List.getD_cons_zero, List.getD_cons_succ, List.range, List.range.loop]
  grind
theorem id2_2 (x y : Int) : (((rowsK 2 4).filter fun row => leq 2 (kr row)).map (pWorth [x, y])).sum = worthF (sumsOf [x, y]) 0 [0,2,1] 1 := by
  rw [show (rowsK 2 4).filter (fun row => leq 2 (kr row)) = [[0,0,0,0],[0,0,1,0],[0,1,0,1],[0,1,1,1],[1,0,0,0],[1,0,1,0],[1,1,0,1],[1,1,1,1]] from by decide +kernel]
  simp only [List.map_cons, List.map_nil, List.sum_cons, List.sum_nil, pWorth, List.foldl_cons, List.foldl_nil, worthF, sumsOf, List.getD_cons_zero, List.getD_cons_succ, List.range, List.range.loop]
  grind
theorem id2_3 (x y : Int) : (((rowsK 2 4).filter fun row => leq 3 (kr row)).map (pWorth [x, y])).sum = worthF (sumsOf [x, y]) 0 [0,2,1] 1 := by
  rw [show (rowsK 2 4).filter (fun row => leq 3 (kr row)) = [[0,0,0,0],[0,0,0,1],[0,1,1,0],[0,1,1,1],[1,0,0,0],[1,0,0,1],[1,1,1,0],[1,1,1,1]] from by decide +kernel]
  simp only [List.map_cons, List.map_nil, List.sum_cons, List.sum_nil, pWorth, List.foldl_cons, List.foldl_nil, worthF, sumsOf, List.getD_cons_zero, List.getD_cons_succ, List.range, List.range.loop]
  grind
theorem id2_4 (x y : Int) : (((rowsK 2 4).filter fun row => leq 4 (kr row)).map (pWorth [x, y])).sum = worthF (sumsOf [x, y]) 0 [0,2,1] 1 := by
  rw [show (rowsK 2 4).filter (fun row => leq 4 (kr row)) = [[0,0,0,0],[0,0,1,0],[0,1,0,0],[0,1,1,0],[1,0,0,1],[1,0,1,1],[1,1,0,1],[1,1,1,1]] from by decide +kernel]
  simp only [List.map_cons, List.map_nil, List.sum_cons, List.sum_nil, pWorth, List.foldl_cons, List.foldl_nil, worthF, sumsOf, List.getD_cons_zero, List.getD_cons_succ, List.range, List.range.loop]
  grind
theorem id2_5 (x y : Int) : (((rowsK 2 4).filter fun row => leq 5 (kr row)).map (pWorth [x, y])).sum = worthF (sumsOf [x, y]) 0 [0,2,1] 1 := by
  rw [show (rowsK 2 4).filter (fun row => leq 5 (kr row)) = [[0,0,0,0],[0,0,0,1],[0,1,0,0],[0,1,0,1],[1,0,1,0],[1,0,1,1],[1,1,1,0],[1,1,1,1]] from by decide +kernel]
  simp only [List.map_cons, List.map_nil, List.sum_cons, List.sum_nil, pWorth, List.foldl_cons, List.foldl_nil, worthF, sumsOf, List.getD_cons_zero, List.getD_cons_succ, List.range, List.range.loop]
  grind
theorem id2_6 (x y : Int) : (((rowsK 2 4).filter fun row => leq 6 (kr row)).map (pWorth [x, y])).sum = worthF (sumsOf [x, y]) 0 [0,2,1] 1 := by
  rw [show (rowsK 2 4).filter (fun row => leq 6 (kr row)) = [[0,0,0,0],[0,0,0,1],[0,0,1,0],[0,0,1,1],[1,1,0,0],[1,1,0,1],[1,1,1,0],[1,1,1,1]] from by decide +kernel]
  simp only [List.map_cons, List.map_nil, List.sum_cons, List.sum_nil, pWorth, List.foldl_cons, List.foldl_nil, worthF, sumsOf, List.getD_cons_zero, List.getD_cons_succ, List.range, List.range.loop]
  grind
theorem id2_7 (x y : Int) : (((rowsK 2 4).filter fun row => leq 7 (kr row)).map (pWorth [x, y])).sum = worthF (sumsOf [x, y]) 0 [0,1,0,1] 1 := by
  rw [show (rowsK 2 4).filter (fun row => leq 7 (kr row)) = [[0,0,0,0],[0,1,1,1],[1,0,0,0],[1,1,1,1]] from by decide +kernel]
  simp only [List.map_cons, List.map_nil, List.sum_cons, List.sum_nil, pWorth, List.foldl_cons, List.foldl_nil, worthF, sumsOf, List.getD_cons_zero, List.getD_cons_succ, List.range, List.range.loop]
  grind
theorem id2_8 (x y : Int) : (((rowsK 2 4).filter fun row => leq 8 (kr row)).map (pWorth [x, y])).sum = worthF (sumsOf [x, y]) 0 [0,1,0,1] 1 := by
  rw [show (rowsK 2 4).filter (fun row => leq 8 (kr row)) = [[0,0,0,0],[0,1,0,0],[1,0,1,1],[1,1,1,1]] from by decide +kernel]
  simp only [List.map_cons, List.map_nil, List.sum_cons, List.sum_nil, pWorth, List.foldl_cons, List.foldl_nil, worthF, sumsOf, List.getD_cons_zero, List.getD_cons_succ, List.range, List.range.loop]
  grind
theorem id2_9 (x y : Int) : (((rowsK 2 4).filter fun row => leq 9 (kr row)).map (pWorth [x, y])).sum = worthF (sumsOf [x, y]) 0 [0,0,2] 1 := by
  rw [show (rowsK 2 4).filter (fun row => leq 9 (kr row)) = [[0,0,0,0],[0,0,1,1],[1,1,0,0],[1,1,1,1]] from by decide +kernel]
  simp only [List.map_cons, List.map_nil, List.sum_cons, List.sum_nil, pWorth, List.foldl_cons, List.foldl_nil, worthF, sumsOf, List.getD_cons_zero, List.getD_cons_succ, List.range, List.range.loop]
  grind
theorem id2_10 (x y : Int) : (((rowsK 2 4).filter fun row => leq 10 (kr row)).map (pWorth [x, y])).sum = worthF (sumsOf [x, y]) 0 [0,1,0,1] 1 := by
  rw [show (rowsK 2 4).filter (fun row => leq 10 (kr row)) = [[0,0,0,0],[0,0,1,0],[1,1,0,1],[1,1,1,1]] from by decide +kernel]
  simp only [List.map_cons, List.map_nil, List.sum_cons, List.sum_nil, pWorth, List.foldl_cons, List.foldl_nil, worthF, sumsOf, List.getD_cons_zero, List.getD_cons_succ, List.range, List.range.loop]
  grind
theorem id2_11 (x y : Int) : (((rowsK 2 4).filter fun row => leq 11 (kr row)).map (pWorth [x, y])).sum = worthF (sumsOf [x, y]) 0 [0,0,2] 1 := by
  rw [show (rowsK 2 4).filter (fun row => leq 11 (kr row)) = [[0,0,0,0],[0,1,0,1],[1,0,1,0],[1,1,1,1]] from by decide +kernel]
  simp only [List.map_cons, List.map_nil, List.sum_cons, List.sum_nil, pWorth, List.foldl_cons, List.foldl_nil, worthF, sumsOf, List.getD_cons_zero, List.getD_cons_succ, List.range, List.range.loop]
  grind
theorem id2_12 (x y : Int) : (((rowsK 2 4).filter fun row => leq 12 (kr row)).map (pWorth [x, y])).sum = worthF (sumsOf [x, y]) 0 [0,0,2] 1 := by
  rw [show (rowsK 2 4).filter (fun row => leq 12 (kr row)) = [[0,0,0,0],[0,1,1,0],[1,0,0,1],[1,1,1,1]] from by decide +kernel]
  simp only [List.map_cons, List.map_nil, List.sum_cons, List.sum_nil, pWorth, List.foldl_cons, List.foldl_nil, worthF, sumsOf, List.getD_cons_zero, List.getD_cons_succ, List.range, List.range.loop]
  grind
theorem id2_13 (x y : Int) : (((rowsK 2 4).filter fun row => leq 13 (kr row)).map (pWorth [x, y])).sum = worthF (sumsOf [x, y]) 0 [0,1,0,1] 1 := by
  rw [show (rowsK 2 4).filter (fun row => leq 13 (kr row)) = [[0,0,0,0],[0,0,0,1],[1,1,1,0],[1,1,1,1]] from by decide +kernel]
  simp only [List.map_cons, List.map_nil, List.sum_cons, List.sum_nil, pWorth, List.foldl_cons, List.foldl_nil, worthF, sumsOf, List.getD_cons_zero, List.getD_cons_succ, List.range, List.range.loop]
  grind
theorem id2_14 (x y : Int) : (((rowsK 2 4).filter fun row => leq 14 (kr row)).map (pWorth [x, y])).sum = worthF (sumsOf [x, y]) 0 [0,0,0,0,1] 1 := by
  rw [show (rowsK 2 4).filter (fun row => leq 14 (kr row)) = [[0,0,0,0],[1,1,1,1]] from by decide +kernel]
  simp only [List.map_cons, List.map_nil, List.sum_cons, List.sum_nil, pWorth, List.foldl_cons, List.foldl_nil, worthF, sumsOf, List.getD_cons_zero, List.getD_cons_succ, List.range, List.range.loop]
  grind
theorem id3_0 (x y z : Int) : (((rowsK 3 4).filter fun row => leq 0 (kr row)).map (pWorth [x, y, z])).sum = worthF (sumsOf [x, y, z]) 0 [0,4] 1 := by
  rw [show (rowsK 3 4).filter (fun row => leq 0 (kr row)) = [[0,0,0,0],[0,0,0,1],[0,0,0,2],[0,0,1,0],[0,0,1,1],[0,0,1,2],[0,0,2,0],[0,0,2,1],[0,0,2,2],[0,1,0,0],[0,1,0,1],[0,1,0,2],[0,1,1,0],[0,1,1,1],[0,1,1,2],[0,1,2,0],[0,1,2,1],[0,1,2,2],[0,2,0,0],[0,2,0,1],[0,2,0,2],[0,2,1,0],[0,2,1,1],[0,2,1,2],[0,2,2,0],[0,2,2,1],[0,2,2,2],[1,0,0,0],[1,0,0,1],[1,0,0,2],[1,0,1,0],[1,0,1,1],[1,0,1,2],[1,0,2,0],[1,0,2,1],[1,0,2,2],[1,1,0,0],[1,1,0,1],[1,1,0,2],[1,1,1,0],[1,1,1,1],[1,1,1,2],[1,1,2,0],[1,1,2,1],[1,1,2,2],[1,2,0,0],[1,2,0,1],[1,2,0,2],[1,2,1,0],[1,2,1,1],[1,2,1,2],[1,2,2,0],[1,2,2,1],[1,2,2,2],[2,0,0,0],[2,0,0,1],[2,0,0,2],[2,0,1,0],[2,0,1,1],[2,0,1,2],[2,0,2,0],[2,0,2,1],[2,0,2,2],[2,1,0,0],[2,1,0,1],[2,1,0,2],[2,1,1,0],[2,1,1,1],[2,1,1,2],[2,1,2,0],[2,1,2,1],[2,1,2,2],[2,2,0,0],[2,2,0,1],[2,2,0,2],[2,2,1,0],[2,2,1,1],[2,2,1,2],[2,2,2,0],[2,2,2,1],[2,2,2,2]] from by decide +kernel]
  simp only [List.map_cons, List.map_nil, List.sum_cons, List.sum_nil, pWorth, List.foldl_cons, List.foldl_nil, worthF, sumsOf, List.getD_cons_zero, List.getD_cons_succ, List.range, List.range.loop]
  grind
theorem id3_1 (x y z : Int) : (((rowsK 3 4).filter fun row => leq 1 (kr row)).map (pWorth [x, y, z])).sum = worthF (sumsOf [x, y, z]) 0 [0,2,1] 1 := by
  rw [show (rowsK 3 4).filter (fun row => leq 1 (kr row)) = [[0,0,0,0],[0,0,1,1],[0,0,2,2],[0,1,0,0],[0,1,1,1],[0,1,2,2],[0,2,0,0],[0,2,1,1],[0,2,2,2],[1,0,0,0],[1,0,1,1],[1,0,2,2],[1,1,0,0],[1,1,1,1],[1,1,2,2],[1,2,0,0],[1,2,1,1],[1,2,2,2],[2,0,0,0],[2,0,1,1],[2,0,2,2],[2,1,0,0],[2,1,1,1],[2,1,2,2],[2,2,0,0],[2,2,1,1],[2,2,2,2]] from by decide +kernel]
  simp only [List.map_cons, List.map_nil, List.sum_cons, List.sum_nil, pWorth, List.foldl_cons, List.foldl_nil, worthF, sumsOf, List.getD_cons_zero, List.getD_cons_succ, List.range, List.range.loop]
  grind
theorem id3_2 (x y z : Int) : (((rowsK 3 4).filter fun row => leq 2 (kr row)).map (pWorth [x, y, z])).sum = worthF (sumsOf [x, y, z]) 0 [0,2,1] 1 := by
  rw [show (rowsK 3 4).filter (fun row => leq 2 (kr row)) = [[0,0,0,0],[0,0,1,0],[0,0,2,0],[0,1,0,1],[0,1,1,1],[0,1,2,1],[0,2,0,2],[0,2,1,2],[0,2,2,2],[1,0,0,0],[1,0,1,0],[1,0,2,0],[1,1,0,1],[1,1,1,1],[1,1,2,1],[1,2,0,2],[1,2,1,2],[1,2,2,2],[2,0,0,0],[2,0,1,0],[2,0,2,0],[2,1,0,1],[2,1,1,1],[2,1,2,1],[2,2,0,2],[2,2,1,2],[2,2,2,2]] from by decide +kernel]
  simp only [List.map_cons, List.map_nil, List.sum_cons, List.sum_nil, pWorth, List.foldl_cons, List.foldl_nil, worthF, sumsOf, List.getD_cons_zero, List.getD_cons_succ, List.range, List.range.loop]
  grind
theorem id3_3 (x y z : Int) : (((rowsK 3 4).filter fun row => leq 3 (kr row)).map (pWorth [x, y, z])).sum = worthF (sumsOf [x, y, z]) 0 [0,2,1] 1 := by
  rw [show (rowsK 3 4).filter (fun row => leq 3 (kr row)) = [[0,0,0,0],[0,0,0,1],[0,0,0,2],[0,1,1,0],[0,1,1,1],[0,1,1,2],[0,2,2,0],[0,2,2,1],[0,2,2,2],[1,0,0,0],[1,0,0,1],[1,0,0,2],[1,1,1,0],[1,1,1,1],[1,1,1,2],[1,2,2,0],[1,2,2,1],[1,2,2,2],[2,0,0,0],[2,0,0,1],[2,0,0,2],[2,1,1,0],[2,1,1,1],[2,1,1,2],[2,2,2,0],[2,2,2,1],[2,2,2,2]] from by decide +kernel]
  simp only [List.map_cons, List.map_nil, List.sum_cons, List.sum_nil, pWorth, List.foldl_cons, List.foldl_nil, worthF, sumsOf, List.getD_cons_zero, List.getD_cons_succ, List.range, List.range.loop]
  grind
theorem id3_4 (x y z : Int) : (((rowsK 3 4).filter fun row => leq 4 (kr row)).map (pWorth [x, y, z])).sum = worthF (sumsOf [x, y, z]) 0 [0,2,1] 1 := by
  rw [show (rowsK 3 4).filter (fun row => leq 4 (kr row)) = [[0,0,0,0],[0,0,1,0],[0,0,2,0],[0,1,0,0],[0,1,1,0],[0,1,2,0],[0,2,0,0],[0,2,1,0],[0,2,2,0],[1,0,0,1],[1,0,1,1],[1,0,2,1],[1,1,0,1],[1,1,1,1],[1,1,2,1],[1,2,0,1],[1,2,1,1],[1,2,2,1],[2,0,0,2],[2,0,1,2],[2,0,2,2],[2,1,0,2],[2,1,1,2],[2,1,2,2],[2,2,0,2],[2,2,1,2],[2,2,2,2]] from by decide +kernel]
  simp only [List.map_cons, List.map_nil, List.sum_cons, List.sum_nil, pWorth, List.foldl_cons, List.foldl_nil, worthF, sumsOf, List.getD_cons_zero, List.getD_cons_succ, List.range, List.range.loop]
  grind
theorem id3_5 (x y z : Int) : (((rowsK 3 4).filter fun row => leq 5 (kr row)).map (pWorth [x, y, z])).sum = worthF (sumsOf [x, y, z]) 0 [0,2,1] 1 := by
  rw [show (rowsK 3 4).filter (fun row => leq 5 (kr row)) = [[0,0,0,0],[0,0,0,1],[0,0,0,2],[0,1,0,0],[0,1,0,1],[0,1,0,2],[0,2,0,0],[0,2,0,1],[0,2,0,2],[1,0,1,0],[1,0,1,1],[1,0,1,2],[1,1,1,0],[1,1,1,1],[1,1,1,2],[1,2,1,0],[1,2,1,1],[1,2,1,2],[2,0,2,0],[2,0,2,1],[2,0,2,2],[2,1,2,0],[2,1,2,1],[2,1,2,2],[2,2,2,0],[2,2,2,1],[2,2,2,2]] from by decide +kernel]
  simp only [List.map_cons, List.map_nil, List.sum_cons, List.sum_nil, pWorth, List.foldl_cons, List.foldl_nil, worthF, sumsOf, List.getD_cons_zero, List.getD_cons_succ, List.range, List.range.loop]
  grind
theorem id3_6 (x y z : Int) : (((rowsK 3 4).filter fun row => leq 6 (kr row)).map (pWorth [x, y, z])).sum = worthF (sumsOf [x, y, z]) 0 [0,2,1] 1 := by
  rw [show (rowsK 3 4).filter (fun row => leq 6 (kr row)) = [[0,0,0,0],[0,0,0,1],[0,0,0,2],[0,0,1,0],[0,0,1,1],[0,0,1,2],[0,0,2,0],[0,0,2,1],[0,0,2,2],[1,1,0,0],[1,1,0,1],[1,1,0,2],[1,1,1,0],[1,1,1,1],[1,1,1,2],[1,1,2,0],[1,1,2,1],[1,1,2,2],[2,2,0,0],[2,2,0,1],[2,2,0,2],[2,2,1,0],[2,2,1,1],[2,2,1,2],[2,2,2,0],[2,2,2,1],[2,2,2,2]] from by decide +kernel]
  simp only [List.map_cons, List.map_nil, List.sum_cons, List.sum_nil, pWorth, List.foldl_cons, List.foldl_nil, worthF, sumsOf, List.getD_cons_zero, List.getD_cons_succ, List.range, List.range.loop]
  grind
theorem id3_7 (x y z : Int) : (((rowsK 3 4).filter fun row => leq 7 (kr row)).map (pWorth [x, y, z])).sum = worthF (sumsOf [x, y, z]) 0 [0,1,0,1] 1 := by
  rw [show (rowsK 3 4).filter (fun row => leq 7 (kr row)) = [[0,0,0,0],[0,1,1,1],[0,2,2,2],[1,0,0,0],[1,1,1,1],[1,2,2,2],[2,0,0,0],[2,1,1,1],[2,2,2,2]] from by decide +kernel]
  simp only [List.map_cons, List.map_nil, List.sum_cons, List.sum_nil, pWorth, List.foldl_cons, List.foldl_nil, worthF, sumsOf, List.getD_cons_zero, List.getD_cons_succ, List.range, List.range.loop]
  grind
theorem id3_8 (x y z : Int) : (((rowsK 3 4).filter fun row => leq 8 (kr row)).map (pWorth [x, y, z])).sum = worthF (sumsOf [x, y, z]) 0 [0,1,0,1] 1 := by
  rw [show (rowsK 3 4).filter (fun row => leq 8 (kr row)) = [[0,0,0,0],[0,1,0,0],[0,2,0,0],[1,0,1,1],[1,1,1,1],[1,2,1,1],[2,0,2,2],[2,1,2,2],[2,2,2,2]] from by decide +kernel]
  simp only [List.map_cons, List.map_nil, List.sum_cons, List.sum_nil, pWorth, List.foldl_cons, List.foldl_nil, worthF, sumsOf, List.getD_cons_zero, List.getD_cons_succ, List.range, List.range.loop]
  grind
theorem id3_9 (x y z : Int) : (((rowsK 3 4).filter fun row => leq 9 (kr row)).map (pWorth [x, y, z])).sum = worthF (sumsOf [x, y, z]) 0 [0,0,2] 1 := by
  rw [show (rowsK 3 4).filter (fun row => leq 9 (kr row)) = [[0,0,0,0],[0,0,1,1],[0,0,2,2],[1,1,0,0],[1,1,1,1],[1,1,2,2],[2,2,0,0],[2,2,1,1],[2,2,2,2]] from by decide +kernel]
  simp only [List.map_cons, List.map_nil, List.sum_cons, List.sum_nil, pWorth, List.foldl_cons, List.foldl_nil, worthF, sumsOf, List.getD_cons_zero, List.getD_cons_succ, List.range, List.range.loop]
  grind
theorem id3_10 (x y z : Int) : (((rowsK 3 4).filter fun row => leq 10 (kr row)).map (pWorth [x, y, z])).sum = worthF (sumsOf [x, y, z]) 0 [0,1,0,1] 1 := by
  rw [show (rowsK 3 4).filter (fun row => leq 10 (kr row)) = [[0,0,0,0],[0,0,1,0],[0,0,2,0],[1,1,0,1],[1,1,1,1],[1,1,2,1],[2,2,0,2],[2,2,1,2],[2,2,2,2]] from by decide +kernel]
  simp only [List.map_cons, List.map_nil, List.sum_cons, List.sum_nil, pWorth, List.foldl_cons, List.foldl_nil, worthF, sumsOf, List.getD_cons_zero, List.getD_cons_succ, List.range, List.range.loop]
  grind
theorem id3_11 (x y z : Int) : (((rowsK 3 4).filter fun row => leq 11 (kr row)).map (pWorth [x, y, z])).sum = worthF (sumsOf [x, y, z]) 0 [0,0,2] 1 := by
  rw [show (rowsK 3 4).filter (fun row => leq 11 (kr row)) = [[0,0,0,0],[0,1,0,1],[0,2,0,2],[1,0,1,0],[1,1,1,1],[1,2,1,2],[2,0,2,0],[2,1,2,1],[2,2,2,2]] from by decide +kernel]
  simp only [List.map_cons, List.map_nil, List.sum_cons, List.sum_nil, pWorth, List.foldl_cons, List.foldl_nil, worthF, sumsOf, List.getD_cons_zero, List.getD_cons_succ, List.range, List.range.loop]
  grind
theorem id3_12 (x y z : Int) : (((rowsK 3 4).filter fun row => leq 12 (kr row)).map (pWorth [x, y, z])).sum = worthF (sumsOf [x, y, z]) 0 [0,0,2] 1 := by
  rw [show (rowsK 3 4).filter (fun row => leq 12 (kr row)) = [[0,0,0,0],[0,1,1,0],[0,2,2,0],[1,0,0,1],[1,1,1,1],[1,2,2,1],[2,0,0,2],[2,1,1,2],[2,2,2,2]] from by decide +kernel]
  simp only [List.map_cons, List.map_nil, List.sum_cons, List.sum_nil, pWorth, List.foldl_cons, List.foldl_nil, worthF, sumsOf, List.getD_cons_zero, List.getD_cons_succ, List.range, List.range.loop]
  grind
theorem id3_13 (x y z : Int) : (((rowsK 3 4).filter fun row => leq 13 (kr row)).map (pWorth [x, y, z])).sum = worthF (sumsOf [x, y, z]) 0 [0,1,0,1] 1 := by
  rw [show (rowsK 3 4).filter (fun row => leq 13 (kr row)) = [[0,0,0,0],[0,0,0,1],[0,0,0,2],[1,1,1,0],[1,1,1,1],[1,1,1,2],[2,2,2,0],[2,2,2,1],[2,2,2,2]] from by decide +kernel]
  simp only [List.map_cons, List.map_nil, List.sum_cons, List.sum_nil, pWorth, List.foldl_cons, List.foldl_nil, worthF, sumsOf, List.getD_cons_zero, List.getD_cons_succ, List.range, List.range.loop]
  grind
theorem id3_14 (x y z : Int) : (((rowsK 3 4).filter fun row => leq 14 (kr row)).map (pWorth [x, y, z])).sum = worthF (sumsOf [x, y, z]) 0 [0,0,0,0,1] 1 := by
  rw [show (rowsK 3 4).filter (fun row => leq 14 (kr row)) = [[0,0,0,0],[1,1,1,1],[2,2,2,2]] from by decide +kernel]
  simp only [List.map_cons, List.map_nil, List.sum_cons, List.sum_nil, pWorth, List.foldl_cons, List.foldl_nil, worthF, sumsOf, List.getD_cons_zero, List.getD_cons_succ, List.range, List.range.loop]
  grind
theorem id2 (x y : Int) {p : Nat} (hp : p < 15) : (((rowsK 2 4).filter fun row => leq p (kr row)).map (pWorth [x, y])).sum = worthF (sumsOf [x, y]) 0 (cntT.getD p []) 1 := by
  have : p = 0 ∨ p = 1 ∨ p = 2 ∨ p = 3 ∨ p = 4 ∨ p = 5 ∨ p = 6 ∨ p = 7 ∨ p = 8 ∨ p = 9 ∨ p = 10 ∨ p = 11 ∨ p = 12 ∨ p = 13 ∨ p = 14 := by omega
  rcases this with rfl | rfl | rfl | rfl | rfl | rfl | rfl | rfl | rfl | rfl | rfl | rfl | rfl | rfl | rfl
  · exact id2_0 x y
  · exact id2_1 x y
  · exact id2_2 x y
  · exact id2_3 x y
  · exact id2_4 x y
  · exact id2_5 x y
  · exact id2_6 x y
  · exact id2_7 x y
  · exact id2_8 x y
  · exact id2_9 x y
  · exact id2_10 x y
  · exact id2_11 x y
  · exact id2_12 x y
  · exact id2_13 x y
  · exact id2_14 x y
theorem id3 (x y z : Int) {p : Nat} (hp : p < 15) : (((rowsK 3 4).filter fun row => leq p (kr row)).map (pWorth [x, y, z])).sum = worthF (sumsOf [x, y, z]) 0 (cntT.getD p []) 1 := by
  have : p = 0 ∨ p = 1 ∨ p = 2 ∨ p = 3 ∨ p = 4 ∨ p = 5 ∨ p = 6 ∨ p = 7 ∨ p = 8 ∨ p = 9 ∨ p = 10 ∨ p = 11 ∨ p = 12 ∨ p = 13 ∨ p = 14 := by omega
  rcases this with rfl | rfl | rfl | rfl | rfl | rfl | rfl | rfl | rfl | rfl | rfl | rfl | rfl | rfl | rfl
  · exact id3_0 x y z
  · exact id3_1 x y z
  · exact id3_2 x y z
  · exact id3_3 x y z
  · exact id3_4 x y z
  · exact id3_5 x y z
  · exact id3_6 x y z
  · exact id3_7 x y z
  · exact id3_8 x y z
  · exact id3_9 x y z
  · exact id3_10 x y z
  · exact id3_11 x y z
  · exact id3_12 x y z
  · exact id3_13 x y z
  · exact id3_14 x y z
theorem wsum_p {ws : List Int} (hm : 2 ≤ ws.length ∧ ws.length ≤ 3) {p : Nat} (hp : p < 15) : (((rowsK ws.length 4).filter fun row => leq p (kr row)).map (pWorth ws)).sum = wOf (sumsOf ws) (code p) := by
  unfold wOf
  rw [worth_p _ hp, Option.getD_some]
  match ws, hm with
  | [x, y], _ => exact id2 x y hp
  | [x, y, z], _ => exact id3 x y z hp
  | [], h => simp at h
  | [_], h => simp at h
  | _ :: _ :: _ :: _ :: _, h => simp at h
end
section
theorem int_add4 (a b c d : Int) : a + b + (c + d) = a + c + (b + d) := by omega
/-- a sum by cases over what one of a list's members each row has -/
theorem sum_pick {l : List Nat} (nd : l.Nodup) {c : Nat} (hc : c ∈ l) (g : Nat → Int) (w : Int) : (l.map fun x => g x * (if c = x then w else 0)).sum = g c * w := by
  induction l with
  | nil => cases hc
  | cons x r ih =>
    rw [List.nodup_cons] at nd
    rw [List.map_cons, List.sum_cons]
    rcases List.mem_cons.mp hc with rfl | hc
    · rw [if_pos rfl]
      have : (r.map fun x => g x * (if c = x then w else 0)).sum = 0 := by
        have : ∀ y ∈ r, g y * (if c = y then w else 0) = 0 := fun y hy => by
          rw [if_neg (fun e : c = y => nd.1 (by rw [e]; exact hy)), Int.mul_zero]
        clear ih hc nd
        induction r with
        | nil => rfl
        | cons z q ih => rw [List.map_cons, List.sum_cons, this z (.head _), ih fun y hy => this y (.tail _ hy)]; rfl
      rw [this, Int.add_zero]
    · rw [if_neg (fun e : c = x => nd.1 (by rw [← e]; exact hc)), Int.mul_zero, Int.zero_add, ih nd.2 hc]
theorem sum_split {α : Type} {l : List Nat} (nd : l.Nodup) (g : Nat → Int) (f : α → Nat) (w : α → Int) : ∀ rows : List α, (∀ r ∈ rows, f r ∈ l) →
    (rows.map fun r => g (f r) * w r).sum = (l.map fun x => g x * (rows.map fun r => if f r = x then w r else 0).sum).sum
  | [], _ => by
    have : ∀ l : List Nat, (l.map fun x => g x * (([] : List α).map fun r => if f r = x then w r else 0).sum).sum = 0 := by
      intro l
      induction l with
      | nil => rfl
      | cons x r ih => rw [List.map_cons, List.sum_cons, ih]; simp
    rw [this]; rfl
  | r :: rows, h => by
    have ih := sum_split nd g f w rows fun q hq => h q (.tail _ hq)
    rw [List.map_cons, List.sum_cons, ih, ← sum_pick nd (h r (.head _)) g (w r)]
    have : ∀ l : List Nat, (l.map fun x => g x * (if f r = x then w r else 0)).sum + (l.map fun x => g x * (rows.map fun r => if f r = x then w r else 0).sum).sum = (l.map fun x => g x * ((r :: rows).map fun r => if f r = x then w r else 0).sum).sum := by
      intro l
      induction l with
      | nil => rfl
      | cons x q ih =>
        simp only [List.map_cons, List.sum_cons] at ih ⊢
        rw [int_add4, ih, Int.mul_add]
    exact this l
theorem tOf_sum (ties : List (Nat × Nat)) (ws : List Int) (n : Nat) (rows : List (List Nat)) : tOf ties ws rows n = (rows.map fun row => if pNum row ties = n then pWorth ws row else 0).sum := by
  have key : ∀ (rows : List (List Nat)) (a : Int), rows.foldl (tStep ties ws n) a = a + (rows.map fun row => if pNum row ties = n then pWorth ws row else 0).sum := by
    intro rows
    induction rows with
    | nil => intro a; simp
    | cons r q ih =>
      intro a
      rw [List.foldl_cons, ih, List.map_cons, List.sum_cons]
      unfold tStep
      split <;> omega
  unfold tOf
  rw [key, Int.zero_add]
theorem filter_sum {α : Type} (P : α → Bool) (w : α → Int) (rows : List α) : ((rows.filter P).map w).sum = (rows.map fun r => if P r = true then w r else 0).sum := by
  induction rows with
  | nil => rfl
  | cons r q ih =>
    rw [List.filter_cons, List.map_cons, List.sum_cons]
    by_cases h : P r = true
    · rw [if_pos h, if_pos h, List.map_cons, List.sum_cons, ih]
    · rw [if_neg h, if_neg h, ih, Int.zero_add]
theorem sS_list {Z : Nat → Nat → Int} {d : Nat → Int} (l : List Nat) (z : Nat → Nat → Int) (D : Nat → Int) (a b : Nat) : ∀ (f i : Nat), i + f = l.length → (∀ j, j < l.length → Z a j = z a (l.getD j 0) ∧ Z b j = z b (l.getD j 0) ∧ d j = D (l.getD j 0)) →
    sS Z d f i a b = ((l.drop i).map fun x => z a x * z b x * D x).sum
  | 0, i, hi, _ => by rw [List.drop_of_length_le (by omega)]; rfl
  | f + 1, i, hi, h => by
    have hlt : i < l.length := by omega
    rw [drop_getD l 0 i hlt, List.map_cons, List.sum_cons, ← sS_list l z D a b f (i + 1) (by omega) h]
    obtain ⟨h1, h2, h3⟩ := h i hlt
    show Z a i * Z b i * d i + _ = _
    rw [h1, h2, h3]
theorem ties_idx (ns : List Int) : ∃ K : List Nat, (∀ k ∈ K, k < 6) ∧ tiesOf ns = K.map prk := by
  refine ⟨((cells ns).take (if ns.length < 4 then 3 else 4)).map fun c => (c % 6).toNat, fun k hk => ?_, ?_⟩
  · obtain ⟨c, _, rfl⟩ := List.mem_map.mp hk
    have h1 := Int.emod_nonneg c (show (6 : Int) ≠ 0 by decide)
    have h2 := Int.emod_lt_of_pos c (show (0 : Int) < 6 by decide)
    omega
  · unfold tiesOf
    rw [List.map_map]; rfl
theorem getD_map {l : List Nat} {i : Nat} (h : i < l.length) : (l.map code).getD i 0 = code (l.getD i 0) := by
  simp only [List.getD_eq_getElem?_getD, List.getElem?_map, List.getElem?_eq_getElem h, Option.map_some, Option.getD_some]
theorem getD_mem {l : List Nat} {i : Nat} (h : i < l.length) : l.getD i 0 ∈ l := by
  rw [List.getD_eq_getElem?_getD, List.getElem?_eq_getElem h]; exact List.getElem_mem h
/-- nought or one -/
noncomputable def zI (i r : Nat) : Int := if leq i r = true then 1 else 0
theorem zI_mul (a b x : Nat) (w : Int) : zI a x * zI b x * w = if leq a x = true ∧ leq b x = true then w else 0 := by
  unfold zI
  by_cases h1 : leq a x = true
  · by_cases h2 : leq b x = true
    · rw [if_pos h1, if_pos h2, if_pos ⟨h1, h2⟩]; omega
    · rw [if_pos h1, if_neg h2, if_neg (fun h => h2 h.2)]; omega
  · rw [if_neg h1, if_neg (fun h : leq a x = true ∧ leq b x = true => h1 h.1)]; simp
theorem entry_ok {K F : List Nat} {ws : List Int} (hK : ∀ k ∈ K, k < 6) (hI : Inv K F) (hc : ∀ i ∈ F, ∀ k ∈ K, jt i k ∈ F) (hm : 2 ≤ ws.length ∧ ws.length ≤ 3) {l : List Nat} (nd : l.Nodup) (hl : ∀ x, x ∈ l ↔ x ∈ F) {a b : Nat} (ha : a ∈ l) (hb : b ∈ l) :
    wOf (sumsOf ws) (code (jj a b)) = (l.map fun x => zI a x * zI b x * tOf (K.map prk) ws (rowsK ws.length 4) (code x)).sum := by
  have ha' := hI.lt a ((hl a).mp ha)
  have hb' := hI.lt b ((hl b).mp hb)
  have hj' : jj a b < 15 := (t_jj ⟨a, ha'⟩ ⟨b, hb'⟩).2
  have hcl : ∀ row, clI row K < 15 := fun row => clI_lt hK
  rw [← wsum_p hm hj', filter_sum]
  have e1 : ∀ row ∈ rowsK ws.length 4, (if leq (jj a b) (kr row) = true then pWorth ws row else 0) = zI a (clI row K) * zI b (clI row K) * pWorth ws row := fun row hr => by
    have h1 := (kr_ok hm row hr).1
    have hjl := leq_jj ha' hb' h1
    have e2 := leq_kr hm hK ha' (hI.gen a ((hl a).mp ha)) hr
    have e3 := leq_kr hm hK hb' (hI.gen b ((hl b).mp hb)) hr
    rw [e2, e3] at hjl
    rw [zI_mul]
    by_cases h : leq (jj a b) (kr row) = true
    · rw [if_pos h, if_pos (hjl.mp h)]
    · rw [if_neg h, if_neg (fun h' => h (hjl.mpr h'))]
  rw [List.map_congr_left e1, sum_split nd (fun x => zI a x * zI b x) (fun row => clI row K) (pWorth ws) _ fun row _ => (hl _).mpr (cl_mem hI.zero hc)]
  refine congrArg List.sum (List.map_congr_left fun x hx => ?_)
  rw [tOf_sum]
  refine congrArg (fun t => zI a x * zI b x * t) (congrArg List.sum (List.map_congr_left fun row _ => ?_))
  rw [pNum_cl hK]
  have hx' := hI.lt x ((hl x).mp hx)
  by_cases h : clI row K = x
  · rw [if_pos h, if_pos (by rw [h])]
  · rw [if_neg h, if_neg (fun e => h (code_inj (hcl row) hx' e))]
theorem law_facts (ns : List Int) : ∃ L, LawFacts ns L := by
  obtain ⟨K, hK, hT⟩ := ties_idx ns
  have hm := weightsOf_len ns
  obtain ⟨F, hord, hI, hc⟩ := order_ok hK
  have hlm : ∀ x, x ∈ F.reverse ↔ x ∈ F := fun x => List.mem_reverse
  have hnd : F.reverse.Nodup := (List.reverse_perm F).nodup_iff.mpr hI.nd
  have hrk : F.reverse.Pairwise fun a b => rk b ≤ rk a := List.pairwise_reverse.mpr hI.sorted
  have hlen : F.reverse.length ≤ 15 := by rw [List.length_reverse]; exact nodup_len 15 F hI.nd hI.lt
  generalize F.reverse = l at hord hlm hnd hrk hlen
  have hlt : ∀ x ∈ l, x < 15 := fun x hx => hI.lt x ((hlm x).mp hx)
  have hjn : ∀ a b, a < l.length → b < l.length → jn (l.map code) a b = code (jj (l.getD a 0) (l.getD b 0)) := fun a b ha hb => by
    unfold jn
    rw [getD_map ha, getD_map hb]
    exact (t_jj ⟨_, hlt _ (getD_mem ha)⟩ ⟨_, hlt _ (getD_mem hb)⟩).1
  have hjm : ∀ a b, a < l.length → b < l.length → jj (l.getD a 0) (l.getD b 0) ∈ l := fun a b ha hb =>
    (hlm _).mpr (jj_mem hK hI hc ((hlm _).mp (getD_mem ha)) ((hlm _).mp (getD_mem hb)))
  generalize hws : weightsOf ns = ws at hm
  refine ⟨l.map code, ?_, ?_, ?_, ?_, ?_, ?_⟩
  · rw [hT, List.map_map]; exact hord
  · rw [List.length_map]; omega
  · intro n hn
    obtain ⟨p, hp, rfl⟩ := List.mem_map.mp hn
    have hp' := hlt p hp
    obtain ⟨h1, h2⟩ := t_bnd ⟨p, hp'⟩
    exact ⟨h1, h2, _, worth_p _ hp'⟩
  · intro a b hba ha
    rw [List.length_map] at ha
    rw [hjn a b ha (by omega)]
    exact List.mem_map_of_mem (hjm a b ha (by omega))
  · intro row _
    rw [hT, pNum_cl hK, pHeaps_cl hK]
    have := t_num ⟨_, clI_lt (row := row) hK⟩
    exact ⟨List.mem_map_of_mem ((hlm _).mpr (cl_mem hI.zero hc)), this.2.1, this.2.2⟩
  · rw [hws, hT]
    have hup : ∀ i j, i < j → j < l.length → leq (l.getD i 0) (l.getD j 0) = false := fun i j hij hj => by
      cases e : leq (l.getD i 0) (l.getD j 0) with
      | false => rfl
      | true =>
        have hi : i < l.length := by omega
        obtain ⟨h1, h2⟩ := a_rk ⟨_, hlt _ (getD_mem hi)⟩ ⟨_, hlt _ (getD_mem hj)⟩ e
        dsimp only at h1 h2
        rw [List.pairwise_iff_getElem] at hrk
        have h3 := hrk i j hi hj hij
        have g1 : l.getD i 0 = l[i] := by rw [List.getD_eq_getElem?_getD, List.getElem?_eq_getElem hi]; rfl
        have g2 : l.getD j 0 = l[j] := by rw [List.getD_eq_getElem?_getD, List.getElem?_eq_getElem hj]; rfl
        rw [← g1, ← g2] at h3
        have h4 := h2 (Nat.le_antisymm h1 h3)
        injection h4 with h4
        rw [g1, g2] at h4
        exact absurd ((List.getElem_inj hnd).mp h4) (by omega)
    have hn : (l.map code).length = l.length := List.length_map ..
    have hd := diag_ok (Z := fun i j => zI (l.getD i 0) (l.getD j 0)) (d := fun j => tOf (K.map prk) ws (rowsK ws.length 4) (code (l.getD j 0))) (n := l.length)
      (fun i k => by unfold zI; split; exact .inr rfl; exact .inl rfl)
      (fun i hi => by unfold zI; rw [if_pos (leq_refl (hlt _ (getD_mem hi)))])
      (fun i j hij hj => by unfold zI; rw [hup i j hij hj]; rfl)
    have hmat : tabF (sumsOf ws) (l.map code) = (List.range l.length).map fun i => rowf l.length (sS (fun i j => zI (l.getD i 0) (l.getD j 0)) (fun j => tOf (K.map prk) ws (rowsK ws.length 4) (code (l.getD j 0))) l.length 0 i) := by
      unfold tabF
      rw [hn]
      refine List.map_congr_left fun i hi => ?_
      have hi := List.mem_range.mp hi
      unfold tRow rowf
      rw [hn]
      refine List.map_congr_left fun k hk => ?_
      have hk := List.mem_range.mp hk
      have hS := sS_list (Z := fun i j => zI (l.getD i 0) (l.getD j 0)) (d := fun j => tOf (K.map prk) ws (rowsK ws.length 4) (code (l.getD j 0))) l (fun a x => zI (l.getD a 0) x) (fun x => tOf (K.map prk) ws (rowsK ws.length 4) (code x)) i k l.length 0 (by omega) fun j _ => ⟨rfl, rfl, rfl⟩
      rw [hS, List.drop_zero]
      unfold tE
      rw [hjn _ _ (by omega) (by omega), entry_ok hK hI hc hm hnd hlm (getD_mem (by omega)) (getD_mem (by omega))]
      rcases Nat.le_total i k with h | h
      · rw [Nat.max_eq_right h, Nat.min_eq_left h]
        exact congrArg List.sum (List.map_congr_left fun x _ => by rw [Int.mul_comm (zI (l.getD k 0) x)])
      · rw [Nat.max_eq_left h, Nat.min_eq_right h]
    rw [hmat, hd]
    unfold paintF
    rw [List.map_map]
    refine congrArg some ?_
    refine List.ext_getElem (by simp) fun j h1 h2 => ?_
    simp only [List.length_map, List.length_range] at h1
    simp [List.getD_eq_getElem?_getD, h1]
end
end Mine
theorem PySem.Challenge.cw_wj0065_01_holds : PySem.Challenge.rw_wj0065_01.Holds := by
  exact Mine.top_of Mine.law_facts
