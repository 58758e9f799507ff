import PyProof.Rows.All
import Wide.All
import OpenK.AllK
import Wide.FinOn
import PySem.Challenge.RW_ja0007_01
set_option Elab.async false
set_option maxRecDepth 100000
section
open PySem PySem.W PyProof.Rows
namespace Mine
/-- what a proof tells of its right side -/
noncomputable abbrev rhsOf {α : Type} {a b : α} (_ : a = b) : α := b
/-- the text's statements, and what a def and a class hold -/
noncomputable abbrev pB : List Stmt := PySem.Challenge.pw_ja0007_01.main.body
noncomputable def atS (b : List Stmt) (k : Nat) : Stmt := (b[k]?).getD (.Pass default)
noncomputable def clsB (s : Stmt) : List Stmt := match s with | .ClassDef (body := b) .. => b | _ => []
noncomputable def defP (s : Stmt) : Arguments := match s with | .FunctionDef (args := a) .. => a | _ => { posonlyargs := [], args := [], vararg := none, kwonlyargs := [], kw_defaults := [], kwarg := none, defaults := [] }
noncomputable def defB (s : Stmt) : List Stmt := match s with | .FunctionDef (body := b) .. => b | _ => []
noncomputable def defS (s : Stmt) : Scope := match s with | .FunctionDef (scope := c) .. => c | _ => default
noncomputable def docB (b : List Stmt) : Str := match b with | .Expr (.Constant (.str s) ..) .. :: _ => s | _ => default
noncomputable abbrev doc_0 : Str := docB (defB (atS (clsB (atS pB 3)) 4))
noncomputable abbrev doc_1 : Str := docB (defB (atS (clsB (atS pB 3)) 5))
noncomputable abbrev doc_2 : Str := docB (defB (atS (clsB (atS pB 3)) 6))
noncomputable abbrev doc_3 : Str := docB (defB (atS (clsB (atS pB 3)) 8))
noncomputable abbrev doc_4 : Str := docB (defB (atS (clsB (atS pB 3)) 10))
noncomputable abbrev doc_5 : Str := docB (defB (atS (clsB (atS pB 6)) 3))
noncomputable abbrev doc_6 : Str := docB (defB (atS (clsB (atS pB 8)) 1))
noncomputable abbrev doc_7 : Str := docB (clsB (atS pB 4))
noncomputable abbrev doc_8 : Str := docB (clsB (atS pB 6))
/-- _wall -/
noncomputable abbrev par_d0 : Arguments := rhsOf (by conv => lhs; whnf : defP (atS pB 0) = _)
noncomputable abbrev bod_d0 : List Stmt := rhsOf (by conv => lhs; whnf : defB (atS pB 0) = _)
noncomputable abbrev sco_d0 : Scope := rhsOf (by conv => lhs; whnf : defS (atS pB 0) = _)
/-- _tuplegetter.__init__ -/
noncomputable abbrev par_d2x0 : Arguments := rhsOf (by conv => lhs; whnf : defP (atS (clsB (atS pB 2)) 0) = _)
noncomputable abbrev bod_d2x0 : List Stmt := rhsOf (by conv => lhs; whnf : defB (atS (clsB (atS pB 2)) 0) = _)
noncomputable abbrev sco_d2x0 : Scope := rhsOf (by conv => lhs; whnf : defS (atS (clsB (atS pB 2)) 0) = _)
/-- _tuplegetter.__get__ -/
noncomputable abbrev par_d2x1 : Arguments := rhsOf (by conv => lhs; whnf : defP (atS (clsB (atS pB 2)) 1) = _)
noncomputable abbrev bod_d2x1 : List Stmt := rhsOf (by conv => lhs; whnf : defB (atS (clsB (atS pB 2)) 1) = _)
noncomputable abbrev sco_d2x1 : Scope := rhsOf (by conv => lhs; whnf : defS (atS (clsB (atS pB 2)) 1) = _)
/-- _tuplegetter.__set__ -/
noncomputable abbrev par_d2x2 : Arguments := rhsOf (by conv => lhs; whnf : defP (atS (clsB (atS pB 2)) 2) = _)
noncomputable abbrev bod_d2x2 : List Stmt := rhsOf (by conv => lhs; whnf : defB (atS (clsB (atS pB 2)) 2) = _)
noncomputable abbrev sco_d2x2 : Scope := rhsOf (by conv => lhs; whnf : defS (atS (clsB (atS pB 2)) 2) = _)
/-- _tuplegetter.__delete__ -/
noncomputable abbrev par_d2x3 : Arguments := rhsOf (by conv => lhs; whnf : defP (atS (clsB (atS pB 2)) 3) = _)
noncomputable abbrev bod_d2x3 : List Stmt := rhsOf (by conv => lhs; whnf : defB (atS (clsB (atS pB 2)) 3) = _)
noncomputable abbrev sco_d2x3 : Scope := rhsOf (by conv => lhs; whnf : defS (atS (clsB (atS pB 2)) 3) = _)
/-- Point.__new__ -/
noncomputable abbrev par_d3x4 : Arguments := rhsOf (by conv => lhs; whnf : defP (atS (clsB (atS pB 3)) 4) = _)
noncomputable abbrev bod_d3x4 : List Stmt := rhsOf (by conv => lhs; whnf : defB (atS (clsB (atS pB 3)) 4) = _)
noncomputable abbrev sco_d3x4 : Scope := rhsOf (by conv => lhs; whnf : defS (atS (clsB (atS pB 3)) 4) = _)
/-- Point._make -/
noncomputable abbrev par_d3x5 : Arguments := rhsOf (by conv => lhs; whnf : defP (atS (clsB (atS pB 3)) 5) = _)
noncomputable abbrev bod_d3x5 : List Stmt := rhsOf (by conv => lhs; whnf : defB (atS (clsB (atS pB 3)) 5) = _)
noncomputable abbrev sco_d3x5 : Scope := rhsOf (by conv => lhs; whnf : defS (atS (clsB (atS pB 3)) 5) = _)
/-- Point._replace -/
noncomputable abbrev par_d3x6 : Arguments := rhsOf (by conv => lhs; whnf : defP (atS (clsB (atS pB 3)) 6) = _)
noncomputable abbrev bod_d3x6 : List Stmt := rhsOf (by conv => lhs; whnf : defB (atS (clsB (atS pB 3)) 6) = _)
noncomputable abbrev sco_d3x6 : Scope := rhsOf (by conv => lhs; whnf : defS (atS (clsB (atS pB 3)) 6) = _)
/-- Point.__repr__ -/
noncomputable abbrev par_d3x8 : Arguments := rhsOf (by conv => lhs; whnf : defP (atS (clsB (atS pB 3)) 8) = _)
noncomputable abbrev bod_d3x8 : List Stmt := rhsOf (by conv => lhs; whnf : defB (atS (clsB (atS pB 3)) 8) = _)
noncomputable abbrev sco_d3x8 : Scope := rhsOf (by conv => lhs; whnf : defS (atS (clsB (atS pB 3)) 8) = _)
/-- Point._asdict -/
noncomputable abbrev par_d3x9 : Arguments := rhsOf (by conv => lhs; whnf : defP (atS (clsB (atS pB 3)) 9) = _)
noncomputable abbrev bod_d3x9 : List Stmt := rhsOf (by conv => lhs; whnf : defB (atS (clsB (atS pB 3)) 9) = _)
noncomputable abbrev sco_d3x9 : Scope := rhsOf (by conv => lhs; whnf : defS (atS (clsB (atS pB 3)) 9) = _)
/-- Point.__getnewargs__ -/
noncomputable abbrev par_d3x10 : Arguments := rhsOf (by conv => lhs; whnf : defP (atS (clsB (atS pB 3)) 10) = _)
noncomputable abbrev bod_d3x10 : List Stmt := rhsOf (by conv => lhs; whnf : defB (atS (clsB (atS pB 3)) 10) = _)
noncomputable abbrev sco_d3x10 : Scope := rhsOf (by conv => lhs; whnf : defS (atS (clsB (atS pB 3)) 10) = _)
/-- Kind.__init__ -/
noncomputable abbrev par_d4x1 : Arguments := rhsOf (by conv => lhs; whnf : defP (atS (clsB (atS pB 4)) 1) = _)
noncomputable abbrev bod_d4x1 : List Stmt := rhsOf (by conv => lhs; whnf : defB (atS (clsB (atS pB 4)) 1) = _)
noncomputable abbrev sco_d4x1 : Scope := rhsOf (by conv => lhs; whnf : defS (atS (clsB (atS pB 4)) 1) = _)
/-- Context.segment_cls -/
noncomputable abbrev par_d6x1 : Arguments := rhsOf (by conv => lhs; whnf : defP (atS (clsB (atS pB 6)) 1) = _)
noncomputable abbrev bod_d6x1 : List Stmt := rhsOf (by conv => lhs; whnf : defB (atS (clsB (atS pB 6)) 1) = _)
noncomputable abbrev sco_d6x1 : Scope := rhsOf (by conv => lhs; whnf : defS (atS (clsB (atS pB 6)) 1) = _)
/-- Context.contour_segments -/
noncomputable abbrev par_d6x2 : Arguments := rhsOf (by conv => lhs; whnf : defP (atS (clsB (atS pB 6)) 2) = _)
noncomputable abbrev bod_d6x2 : List Stmt := rhsOf (by conv => lhs; whnf : defB (atS (clsB (atS pB 6)) 2) = _)
noncomputable abbrev sco_d6x2 : Scope := rhsOf (by conv => lhs; whnf : defS (atS (clsB (atS pB 6)) 2) = _)
/-- Context.angle_orientation -/
noncomputable abbrev par_d6x3 : Arguments := rhsOf (by conv => lhs; whnf : defP (atS (clsB (atS pB 6)) 3) = _)
noncomputable abbrev bod_d6x3 : List Stmt := rhsOf (by conv => lhs; whnf : defB (atS (clsB (atS pB 6)) 3) = _)
noncomputable abbrev sco_d6x3 : Scope := rhsOf (by conv => lhs; whnf : defS (atS (clsB (atS pB 6)) 3) = _)
/-- Context.segments_intersection -/
noncomputable abbrev par_d6x4 : Arguments := rhsOf (by conv => lhs; whnf : defP (atS (clsB (atS pB 6)) 4) = _)
noncomputable abbrev bod_d6x4 : List Stmt := rhsOf (by conv => lhs; whnf : defB (atS (clsB (atS pB 6)) 4) = _)
noncomputable abbrev sco_d6x4 : Scope := rhsOf (by conv => lhs; whnf : defS (atS (clsB (atS pB 6)) 4) = _)
/-- SweepLineKey.__init__ -/
noncomputable abbrev par_d8x0 : Arguments := rhsOf (by conv => lhs; whnf : defP (atS (clsB (atS pB 8)) 0) = _)
noncomputable abbrev bod_d8x0 : List Stmt := rhsOf (by conv => lhs; whnf : defB (atS (clsB (atS pB 8)) 0) = _)
noncomputable abbrev sco_d8x0 : Scope := rhsOf (by conv => lhs; whnf : defS (atS (clsB (atS pB 8)) 0) = _)
/-- SweepLineKey.__lt__ -/
noncomputable abbrev par_d8x1 : Arguments := rhsOf (by conv => lhs; whnf : defP (atS (clsB (atS pB 8)) 1) = _)
noncomputable abbrev bod_d8x1 : List Stmt := rhsOf (by conv => lhs; whnf : defB (atS (clsB (atS pB 8)) 1) = _)
noncomputable abbrev sco_d8x1 : Scope := rhsOf (by conv => lhs; whnf : defS (atS (clsB (atS pB 8)) 1) = _)
/-- _law_drawn -/
noncomputable abbrev par_d10 : Arguments := rhsOf (by conv => lhs; whnf : defP (atS pB 10) = _)
noncomputable abbrev bod_d10 : List Stmt := rhsOf (by conv => lhs; whnf : defB (atS pB 10) = _)
noncomputable abbrev sco_d10 : Scope := rhsOf (by conv => lhs; whnf : defS (atS pB 10) = _)
/-- _law_side -/
noncomputable abbrev par_d11 : Arguments := rhsOf (by conv => lhs; whnf : defP (atS pB 11) = _)
noncomputable abbrev bod_d11 : List Stmt := rhsOf (by conv => lhs; whnf : defB (atS pB 11) = _)
noncomputable abbrev sco_d11 : Scope := rhsOf (by conv => lhs; whnf : defS (atS pB 11) = _)
/-- _law_lower -/
noncomputable abbrev par_d12 : Arguments := rhsOf (by conv => lhs; whnf : defP (atS pB 12) = _)
noncomputable abbrev bod_d12 : List Stmt := rhsOf (by conv => lhs; whnf : defB (atS pB 12) = _)
noncomputable abbrev sco_d12 : Scope := rhsOf (by conv => lhs; whnf : defS (atS pB 12) = _)
/-- law -/
noncomputable abbrev par_d13 : Arguments := rhsOf (by conv => lhs; whnf : defP (atS pB 13) = _)
noncomputable abbrev bod_d13 : List Stmt := rhsOf (by conv => lhs; whnf : defB (atS pB 13) = _)
noncomputable abbrev sco_d13 : Scope := rhsOf (by conv => lhs; whnf : defS (atS pB 13) = _)
noncomputable abbrev vst_0 : Stmt := rhsOf (by conv => lhs; whnf : atS pB 0 = _)
noncomputable abbrev vst_1 : Stmt := rhsOf (by conv => lhs; whnf : atS pB 1 = _)
noncomputable abbrev vst_2 : Stmt := rhsOf (by conv => lhs; whnf : atS pB 2 = _)
noncomputable abbrev vst_3 : Stmt := rhsOf (by conv => lhs; whnf : atS pB 3 = _)
noncomputable abbrev vst_4 : Stmt := rhsOf (by conv => lhs; whnf : atS pB 4 = _)
noncomputable abbrev vst_5 : Stmt := rhsOf (by conv => lhs; whnf : atS pB 5 = _)
noncomputable abbrev vst_6 : Stmt := rhsOf (by conv => lhs; whnf : atS pB 6 = _)
noncomputable abbrev vst_7 : Stmt := rhsOf (by conv => lhs; whnf : atS pB 7 = _)
noncomputable abbrev vst_8 : Stmt := rhsOf (by conv => lhs; whnf : atS pB 8 = _)
noncomputable abbrev vst_9 : Stmt := rhsOf (by conv => lhs; whnf : atS pB 9 = _)
noncomputable abbrev vst_10 : Stmt := rhsOf (by conv => lhs; whnf : atS pB 10 = _)
noncomputable abbrev vst_11 : Stmt := rhsOf (by conv => lhs; whnf : atS pB 11 = _)
noncomputable abbrev vst_12 : Stmt := rhsOf (by conv => lhs; whnf : atS pB 12 = _)
noncomputable abbrev vst_13 : Stmt := rhsOf (by conv => lhs; whnf : atS pB 13 = _)
/-- the program -/
noncomputable abbrev pE : Program := (OpenRow.toRowW PySem.Challenge.rw_ja0007_01.row).prog
noncomputable def hd.view_39 : Program := { pE with main := { pE.main with body := [vst_0, vst_2, vst_3, vst_4, vst_5, vst_6, vst_8, vst_10, vst_11, vst_12, vst_13] } }
/-- the part of the heap that is written out -/
noncomputable def hd.heap_39 : Params → Frag := fun P =>
  (nat_lit 2, { cls := Value.none, data := Data.dict #[] }) ::
  (nat_lit 3, { cls := Value.type "dict", data := Data.dict #[{ hash := PyData.keyHash P (Str.ofString "__name__"), key := Value.str (Str.ofString "__name__") 165, val := Value.str (Str.ofString "law_ja0007_01") 562 }, { hash := PyData.keyHash P (Str.ofString "__doc__"), key := Value.str (Str.ofString "__doc__") 166, val := Value.none }, { hash := PyData.keyHash P (Str.ofString "__package__"), key := Value.str (Str.ofString "__package__") 167, val := Value.none }, { hash := PyData.keyHash P (Str.ofString "__loader__"), key := Value.str (Str.ofString "__loader__") 168, val := Value.builtin "__main__.__loader__#opaque" }, { hash := PyData.keyHash P (Str.ofString "__spec__"), key := Value.str (Str.ofString "__spec__") 169, val := Value.none }, { hash := PyData.keyHash P (Str.ofString "__annotations__"), key := Value.str (Str.ofString "__annotations__") 170, val := Value.ref 6 }, { hash := PyData.keyHash P (Str.ofString "__builtins__"), key := Value.str (Str.ofString "__builtins__") 171, val := Value.ref 4 }, { hash := PyData.keyHash P (Str.ofString "__file__"), key := Value.str (Str.ofString "__file__") 173, val := Value.str (Str.ofString "/claim/cut.py") 172 }, { hash := PyData.keyHash P (Str.ofString "__cached__"), key := Value.str (Str.ofString "__cached__") 174, val := Value.none }, { hash := PyData.keyHash P (Str.ofString "_wall"), key := Value.str (Str.ofString "_wall") 193, val := Value.ref 21 }, { hash := PyData.keyHash P (Str.ofString "_tuplegetter"), key := Value.str (Str.ofString "_tuplegetter") 252, val := Value.ref 60 }, { hash := PyData.keyHash P (Str.ofString "Point"), key := Value.str (Str.ofString "Point") 367, val := Value.ref 132 }, { hash := PyData.keyHash P (Str.ofString "Kind"), key := Value.str (Str.ofString "Kind") 398, val := Value.ref 152 }, { hash := PyData.keyHash P (Str.ofString "Orientation"), key := Value.str (Str.ofString "Orientation") 437, val := Value.ref 175 }, { hash := PyData.keyHash P (Str.ofString "Context"), key := Value.str (Str.ofString "Context") 497, val := Value.ref 217 }, { hash := PyData.keyHash P (Str.ofString "SweepLineKey"), key := Value.str (Str.ofString "SweepLineKey") 561, val := Value.ref 245 }, { hash := PyData.keyHash P (Str.ofString "_law_drawn"), key := Value.str (Str.ofString "_law_drawn") 573, val := Value.ref 256 }, { hash := PyData.keyHash P (Str.ofString "_law_side"), key := Value.str (Str.ofString "_law_side") 584, val := Value.ref 263 }, { hash := PyData.keyHash P (Str.ofString "_law_lower"), key := Value.str (Str.ofString "_law_lower") 593, val := Value.ref 270 }, { hash := PyData.keyHash P (Str.ofString "law"), key := Value.str (Str.ofString "law") 599, val := Value.ref 275 }] 20 }) ::
  (nat_lit 15, { cls := Value.type "tuple", data := Data.seq #[] }) ::
  (nat_lit 17, { cls := Value.type "tuple", data := Data.seq #[Value.str (Str.ofString "k") 190] }) ::
  (nat_lit 18, { cls := Value.type "tuple", data := Data.seq #[] }) ::
  (nat_lit 20, { cls := Value.type "code", data := Data.fields #[Value.str (Str.ofString "_wall") 187, Value.str (Str.ofString "_wall") 188, Value.str (Str.ofString "/claim/cut.py") 189, Value.int 1 0, Value.int 1 0, Value.int 0 0, Value.int 0 0, Value.int 3 0, Value.ref 15, Value.bool true, Value.int 181 0, Value.ref 16, Value.none, Value.ref 17, Value.ref 18, Value.ref 19, Value.int 191 0, Value.int 1 0, Value.str (Str.ofString "/claim/cut.py") 192] }) ::
  (nat_lit 21, { cls := Value.type "function", data := Data.func { name := Str.ofString "_wall", qualname := Str.ofString "_wall", params := par_d0, body := FuncBody.stmts bod_d0, scope := sco_d0, globals := 3, closure := [], defaults := Value.none, kwdefaults := Value.none, pyModule := Value.str (Str.ofString "__main__") 164, code := Value.ref 20 } }) ::
  (nat_lit 29, { cls := Value.type "tuple", data := Data.seq #[] }) ::
  (nat_lit 31, { cls := Value.type "tuple", data := Data.seq #[Value.str (Str.ofString "self") 211, Value.str (Str.ofString "index") 212, Value.str (Str.ofString "doc") 213] }) ::
  (nat_lit 32, { cls := Value.type "tuple", data := Data.seq #[] }) ::
  (nat_lit 34, { cls := Value.type "code", data := Data.fields #[Value.str (Str.ofString "__init__") 208, Value.str (Str.ofString "_tuplegetter.__init__") 209, Value.str (Str.ofString "/claim/cut.py") 210, Value.int 7 0, Value.int 3 0, Value.int 0 0, Value.int 0 0, Value.int 3 0, Value.ref 29, Value.bool true, Value.int 181 0, Value.ref 30, Value.none, Value.ref 31, Value.ref 32, Value.ref 33, Value.int 214 0, Value.int 7 0, Value.str (Str.ofString "/claim/cut.py") 215] }) ::
  (nat_lit 35, { cls := Value.type "function", data := Data.func { name := Str.ofString "__init__", qualname := Str.ofString "_tuplegetter.__init__", params := par_d2x0, body := FuncBody.stmts bod_d2x0, scope := sco_d2x0, globals := 3, closure := [], defaults := Value.none, kwdefaults := Value.none, pyModule := Value.str (Str.ofString "bentley_ottmann._core.hints") 194, code := Value.ref 34 } }) ::
  (nat_lit 36, { cls := Value.type "tuple", data := Data.seq #[Value.none] }) ::
  (nat_lit 37, { cls := Value.type "tuple", data := Data.seq #[] }) ::
  (nat_lit 39, { cls := Value.type "tuple", data := Data.seq #[Value.str (Str.ofString "self") 220, Value.str (Str.ofString "obj") 221, Value.str (Str.ofString "objtype") 222] }) ::
  (nat_lit 40, { cls := Value.type "tuple", data := Data.seq #[] }) ::
  (nat_lit 42, { cls := Value.type "code", data := Data.fields #[Value.str (Str.ofString "__get__") 217, Value.str (Str.ofString "_tuplegetter.__get__") 218, Value.str (Str.ofString "/claim/cut.py") 219, Value.int 11 0, Value.int 3 0, Value.int 0 0, Value.int 0 0, Value.int 3 0, Value.ref 37, Value.bool true, Value.int 181 0, Value.ref 38, Value.none, Value.ref 39, Value.ref 40, Value.ref 41, Value.int 223 0, Value.int 11 0, Value.str (Str.ofString "/claim/cut.py") 224] }) ::
  (nat_lit 43, { cls := Value.type "function", data := Data.func { name := Str.ofString "__get__", qualname := Str.ofString "_tuplegetter.__get__", params := par_d2x1, body := FuncBody.stmts bod_d2x1, scope := sco_d2x1, globals := 3, closure := [], defaults := Value.ref 36, kwdefaults := Value.none, pyModule := Value.str (Str.ofString "bentley_ottmann._core.hints") 194, code := Value.ref 42 } }) ::
  (nat_lit 44, { cls := Value.type "tuple", data := Data.seq #[] }) ::
  (nat_lit 46, { cls := Value.type "tuple", data := Data.seq #[Value.str (Str.ofString "self") 229, Value.str (Str.ofString "obj") 230, Value.str (Str.ofString "value") 231] }) ::
  (nat_lit 47, { cls := Value.type "tuple", data := Data.seq #[] }) ::
  (nat_lit 49, { cls := Value.type "code", data := Data.fields #[Value.str (Str.ofString "__set__") 226, Value.str (Str.ofString "_tuplegetter.__set__") 227, Value.str (Str.ofString "/claim/cut.py") 228, Value.int 18 0, Value.int 3 0, Value.int 0 0, Value.int 0 0, Value.int 3 0, Value.ref 44, Value.bool true, Value.int 181 0, Value.ref 45, Value.none, Value.ref 46, Value.ref 47, Value.ref 48, Value.int 232 0, Value.int 18 0, Value.str (Str.ofString "/claim/cut.py") 233] }) ::
  (nat_lit 50, { cls := Value.type "function", data := Data.func { name := Str.ofString "__set__", qualname := Str.ofString "_tuplegetter.__set__", params := par_d2x2, body := FuncBody.stmts bod_d2x2, scope := sco_d2x2, globals := 3, closure := [], defaults := Value.none, kwdefaults := Value.none, pyModule := Value.str (Str.ofString "bentley_ottmann._core.hints") 194, code := Value.ref 49 } }) ::
  (nat_lit 51, { cls := Value.type "tuple", data := Data.seq #[] }) ::
  (nat_lit 53, { cls := Value.type "tuple", data := Data.seq #[Value.str (Str.ofString "self") 238, Value.str (Str.ofString "obj") 239] }) ::
  (nat_lit 54, { cls := Value.type "tuple", data := Data.seq #[] }) ::
  (nat_lit 56, { cls := Value.type "code", data := Data.fields #[Value.str (Str.ofString "__delete__") 235, Value.str (Str.ofString "_tuplegetter.__delete__") 236, Value.str (Str.ofString "/claim/cut.py") 237, Value.int 21 0, Value.int 2 0, Value.int 0 0, Value.int 0 0, Value.int 3 0, Value.ref 51, Value.bool true, Value.int 181 0, Value.ref 52, Value.none, Value.ref 53, Value.ref 54, Value.ref 55, Value.int 240 0, Value.int 21 0, Value.str (Str.ofString "/claim/cut.py") 241] }) ::
  (nat_lit 57, { cls := Value.type "function", data := Data.func { name := Str.ofString "__delete__", qualname := Str.ofString "_tuplegetter.__delete__", params := par_d2x3, body := FuncBody.stmts bod_d2x3, scope := sco_d2x3, globals := 3, closure := [], defaults := Value.none, kwdefaults := Value.none, pyModule := Value.str (Str.ofString "bentley_ottmann._core.hints") 194, code := Value.ref 56 } }) ::
  (nat_lit 58, { cls := Value.type "tuple", data := Data.seq #[Value.str (Str.ofString "__doc__") 243, Value.str (Str.ofString "index") 244] }) ::
  (nat_lit 59, { cls := Value.type "dict", data := Data.dict #[{ hash := PyData.keyHash P (Str.ofString "__module__"), key := Value.str (Str.ofString "__module__") 203, val := Value.str (Str.ofString "bentley_ottmann._core.hints") 194 }, { hash := PyData.keyHash P (Str.ofString "__firstlineno__"), key := Value.str (Str.ofString "__firstlineno__") 207, val := Value.int 5 206 }, { hash := PyData.keyHash P (Str.ofString "__init__"), key := Value.str (Str.ofString "__init__") 216, val := Value.ref 35 }, { hash := PyData.keyHash P (Str.ofString "__get__"), key := Value.str (Str.ofString "__get__") 225, val := Value.ref 43 }, { hash := PyData.keyHash P (Str.ofString "__set__"), key := Value.str (Str.ofString "__set__") 234, val := Value.ref 50 }, { hash := PyData.keyHash P (Str.ofString "__delete__"), key := Value.str (Str.ofString "__delete__") 242, val := Value.ref 57 }, { hash := PyData.keyHash P (Str.ofString "__static_attributes__"), key := Value.str (Str.ofString "__static_attributes__") 245, val := Value.ref 58 }, { hash := PyData.keyHash P (Str.ofString "__dict__"), key := Value.str (Str.ofString "__dict__") 247, val := Value.ref 61 }, { hash := PyData.keyHash P (Str.ofString "__weakref__"), key := Value.str (Str.ofString "__weakref__") 249, val := Value.ref 62 }, { hash := PyData.keyHash P (Str.ofString "__doc__"), key := Value.str (Str.ofString "__doc__") 250, val := Value.none }] 4 }) ::
  (nat_lit 60, { cls := Value.type "type", data := Data.cls { name := Str.ofString "_tuplegetter", bases := [Value.type "object"], mro := [Value.ref 60, Value.type "object"], ns := 59, qualname := Str.ofString "_tuplegetter" }, slots := #[none, none, some (Value.str (Str.ofString "_tuplegetter") 196), some (Value.str (Str.ofString "_tuplegetter") 204), some (Value.builtin "object.__new__"), some (Value.bool true)] }) ::
  (nat_lit 61, { cls := Value.type "getset_descriptor", data := Data.fields #[Value.str (Str.ofString "__dict__") 246, Value.ref 60, Value.builtin "function.__dict__", Value.builtin "function.__dict__#set"] }) ::
  (nat_lit 62, { cls := Value.type "getset_descriptor", data := Data.fields #[Value.str (Str.ofString "__weakref__") 248, Value.ref 60, Value.builtin "ExceptionGroup.__weakref__", Value.none] }) ::
  (nat_lit 65, { cls := Value.type "tuple", data := Data.seq #[Value.type "tuple"] }) ::
  (nat_lit 68, { cls := Value.type "cell", data := Data.cell (some (Value.ref 132)) }) ::
  (nat_lit 73, { cls := Value.type "tuple", data := Data.seq #[] }) ::
  (nat_lit 74, { cls := Value.type "tuple", data := Data.seq #[Value.str (Str.ofString "x") 269, Value.str (Str.ofString "y") 270] }) ::
  (nat_lit 75, { cls := Value.type "dict", data := Data.dict #[] }) ::
  (nat_lit 76, { cls := Value.type "tuple", data := Data.seq #[] }) ::
  (nat_lit 78, { cls := Value.type "tuple", data := Data.seq #[Value.str (Str.ofString "_cls") 276, Value.str (Str.ofString "x") 277, Value.str (Str.ofString "y") 278] }) ::
  (nat_lit 79, { cls := Value.type "tuple", data := Data.seq #[] }) ::
  (nat_lit 81, { cls := Value.type "code", data := Data.fields #[Value.str (Str.ofString "__new__") 273, Value.str (Str.ofString "Point.__new__") 274, Value.str (Str.ofString "/claim/cut.py") 275, Value.int 29 0, Value.int 3 0, Value.int 0 0, Value.int 0 0, Value.int 3 0, Value.ref 76, Value.bool true, Value.int 181 0, Value.ref 77, Value.none, Value.ref 78, Value.ref 79, Value.ref 80, Value.int 279 0, Value.int 29 0, Value.str (Str.ofString "/claim/cut.py") 280] }) ::
  (nat_lit 82, { cls := Value.type "function", data := Data.func { name := Str.ofString "__new__", qualname := Str.ofString "Point.__new__", params := par_d3x4, body := FuncBody.stmts bod_d3x4, scope := sco_d3x4, globals := 3, closure := [], defaults := Value.none, kwdefaults := Value.none, doc := Value.str doc_0 281, pyModule := Value.str (Str.ofString "bentley_ottmann._core.hints") 194, code := Value.ref 81 } }) ::
  (nat_lit 83, { cls := Value.type "tuple", data := Data.seq #[] }) ::
  (nat_lit 85, { cls := Value.type "tuple", data := Data.seq #[Value.str (Str.ofString "cls") 286, Value.str (Str.ofString "iterable") 287, Value.str (Str.ofString "result") 288] }) ::
  (nat_lit 86, { cls := Value.type "tuple", data := Data.seq #[] }) ::
  (nat_lit 88, { cls := Value.type "code", data := Data.fields #[Value.str (Str.ofString "_make") 283, Value.str (Str.ofString "Point._make") 284, Value.str (Str.ofString "/claim/cut.py") 285, Value.int 33 0, Value.int 2 0, Value.int 0 0, Value.int 0 0, Value.int 3 0, Value.ref 83, Value.bool true, Value.int 181 0, Value.ref 84, Value.none, Value.ref 85, Value.ref 86, Value.ref 87, Value.int 289 0, Value.int 33 0, Value.str (Str.ofString "/claim/cut.py") 290] }) ::
  (nat_lit 89, { cls := Value.type "function", data := Data.func { name := Str.ofString "_make", qualname := Str.ofString "Point._make", params := par_d3x5, body := FuncBody.stmts bod_d3x5, scope := sco_d3x5, globals := 3, closure := [], defaults := Value.none, kwdefaults := Value.none, doc := Value.str doc_1 291, pyModule := Value.str (Str.ofString "bentley_ottmann._core.hints") 194, annotations := some 92, code := Value.ref 88 } }) ::
  (nat_lit 90, { cls := Value.type "dict", data := Data.dict #[{ hash := PyData.keyHash P (Str.ofString "__module__"), key := Value.str (Str.ofString "__module__") 293, val := Value.str (Str.ofString "bentley_ottmann._core.hints") 194 }, { hash := PyData.keyHash P (Str.ofString "__name__"), key := Value.str (Str.ofString "__name__") 296, val := Value.str (Str.ofString "_make") 295 }, { hash := PyData.keyHash P (Str.ofString "__qualname__"), key := Value.str (Str.ofString "__qualname__") 299, val := Value.str (Str.ofString "Point._make") 298 }, { hash := PyData.keyHash P (Str.ofString "__doc__"), key := Value.str (Str.ofString "__doc__") 301, val := Value.str doc_1 291 }, { hash := PyData.keyHash P (Str.ofString "__annotations__"), key := Value.str (Str.ofString "__annotations__") 303, val := Value.ref 92 }] 5 }) ::
  (nat_lit 91, { cls := Value.type "classmethod", dict := some 90, data := Data.fields #[Value.ref 89, Value.bool false] }) ::
  (nat_lit 92, { cls := Value.type "dict", data := Data.dict #[] }) ::
  (nat_lit 93, { cls := Value.type "tuple", data := Data.seq #[Value.ref 68] }) ::
  (nat_lit 94, { cls := Value.type "tuple", data := Data.seq #[Value.str (Str.ofString "__class__") 308] }) ::
  (nat_lit 96, { cls := Value.type "tuple", data := Data.seq #[Value.str (Str.ofString "self") 309, Value.str (Str.ofString "kwds") 310, Value.str (Str.ofString "result") 311] }) ::
  (nat_lit 97, { cls := Value.type "tuple", data := Data.seq #[] }) ::
  (nat_lit 99, { cls := Value.type "code", data := Data.fields #[Value.str (Str.ofString "_replace") 305, Value.str (Str.ofString "Point._replace") 306, Value.str (Str.ofString "/claim/cut.py") 307, Value.int 41 0, Value.int 1 0, Value.int 1 0, Value.int 0 0, Value.int 11 0, Value.ref 94, Value.bool true, Value.int 181 0, Value.ref 95, Value.none, Value.ref 96, Value.ref 97, Value.ref 98, Value.int 312 0, Value.int 41 0, Value.str (Str.ofString "/claim/cut.py") 313] }) ::
  (nat_lit 100, { cls := Value.type "function", data := Data.func { name := Str.ofString "_replace", qualname := Str.ofString "Point._replace", params := par_d3x6, body := FuncBody.stmts bod_d3x6, scope := sco_d3x6, globals := 3, closure := [(Str.ofString "__class__", 68)], defaults := Value.none, kwdefaults := Value.none, doc := Value.str doc_2 314, pyModule := Value.str (Str.ofString "bentley_ottmann._core.hints") 194, code := Value.ref 99, closureTuple := Value.ref 93 } }) ::
  (nat_lit 101, { cls := Value.type "tuple", data := Data.seq #[] }) ::
  (nat_lit 103, { cls := Value.type "tuple", data := Data.seq #[Value.str (Str.ofString "self") 320] }) ::
  (nat_lit 104, { cls := Value.type "tuple", data := Data.seq #[] }) ::
  (nat_lit 106, { cls := Value.type "code", data := Data.fields #[Value.str (Str.ofString "__repr__") 317, Value.str (Str.ofString "Point.__repr__") 318, Value.str (Str.ofString "/claim/cut.py") 319, Value.int 52 0, Value.int 1 0, Value.int 0 0, Value.int 0 0, Value.int 3 0, Value.ref 101, Value.bool true, Value.int 181 0, Value.ref 102, Value.none, Value.ref 103, Value.ref 104, Value.ref 105, Value.int 321 0, Value.int 52 0, Value.str (Str.ofString "/claim/cut.py") 322] }) ::
  (nat_lit 107, { cls := Value.type "function", data := Data.func { name := Str.ofString "__repr__", qualname := Str.ofString "Point.__repr__", params := par_d3x8, body := FuncBody.stmts bod_d3x8, scope := sco_d3x8, globals := 3, closure := [], defaults := Value.none, kwdefaults := Value.none, doc := Value.str doc_3 323, pyModule := Value.str (Str.ofString "bentley_ottmann._core.hints") 194, code := Value.ref 106 } }) ::
  (nat_lit 108, { cls := Value.type "tuple", data := Data.seq #[] }) ::
  (nat_lit 110, { cls := Value.type "tuple", data := Data.seq #[Value.str (Str.ofString "self") 328] }) ::
  (nat_lit 111, { cls := Value.type "tuple", data := Data.seq #[] }) ::
  (nat_lit 113, { cls := Value.type "code", data := Data.fields #[Value.str (Str.ofString "_asdict") 325, Value.str (Str.ofString "Point._asdict") 326, Value.str (Str.ofString "/claim/cut.py") 327, Value.int 56 0, Value.int 1 0, Value.int 0 0, Value.int 0 0, Value.int 3 0, Value.ref 108, Value.bool true, Value.int 181 0, Value.ref 109, Value.none, Value.ref 110, Value.ref 111, Value.ref 112, Value.int 329 0, Value.int 56 0, Value.str (Str.ofString "/claim/cut.py") 330] }) ::
  (nat_lit 114, { cls := Value.type "function", data := Data.func { name := Str.ofString "_asdict", qualname := Str.ofString "Point._asdict", params := par_d3x9, body := FuncBody.stmts bod_d3x9, scope := sco_d3x9, globals := 3, closure := [], defaults := Value.none, kwdefaults := Value.none, pyModule := Value.str (Str.ofString "bentley_ottmann._core.hints") 194, code := Value.ref 113 } }) ::
  (nat_lit 115, { cls := Value.type "tuple", data := Data.seq #[] }) ::
  (nat_lit 117, { cls := Value.type "tuple", data := Data.seq #[Value.str (Str.ofString "self") 335] }) ::
  (nat_lit 118, { cls := Value.type "tuple", data := Data.seq #[] }) ::
  (nat_lit 120, { cls := Value.type "code", data := Data.fields #[Value.str (Str.ofString "__getnewargs__") 332, Value.str (Str.ofString "Point.__getnewargs__") 333, Value.str (Str.ofString "/claim/cut.py") 334, Value.int 59 0, Value.int 1 0, Value.int 0 0, Value.int 0 0, Value.int 3 0, Value.ref 115, Value.bool true, Value.int 181 0, Value.ref 116, Value.none, Value.ref 117, Value.ref 118, Value.ref 119, Value.int 336 0, Value.int 59 0, Value.str (Str.ofString "/claim/cut.py") 337] }) ::
  (nat_lit 121, { cls := Value.type "function", data := Data.func { name := Str.ofString "__getnewargs__", qualname := Str.ofString "Point.__getnewargs__", params := par_d3x10, body := FuncBody.stmts bod_d3x10, scope := sco_d3x10, globals := 3, closure := [], defaults := Value.none, kwdefaults := Value.none, doc := Value.str doc_4 338, pyModule := Value.str (Str.ofString "bentley_ottmann._core.hints") 194, code := Value.ref 120 } }) ::
  (nat_lit 122, { cls := Value.type "tuple", data := Data.seq #[Value.str (Str.ofString "x") 340, Value.str (Str.ofString "y") 341] }) ::
  (nat_lit 123, { cls := Value.type "dict", data := Data.dict #[{ hash := PyData.keyHash P (Str.ofString "index"), key := Value.str (Str.ofString "index") 349, val := Value.int 0 343 }, { hash := PyData.keyHash P (Str.ofString "__doc__"), key := Value.str (Str.ofString "__doc__") 351, val := Value.str (Str.ofString "Alias for field number 0") 344 }] 2 }) ::
  (nat_lit 124, { cls := Value.ref 60, dict := some 123 }) ::
  (nat_lit 126, { cls := Value.type "dict", data := Data.dict #[{ hash := PyData.keyHash P (Str.ofString "index"), key := Value.str (Str.ofString "index") 359, val := Value.int 1 353 }, { hash := PyData.keyHash P (Str.ofString "__doc__"), key := Value.str (Str.ofString "__doc__") 361, val := Value.str (Str.ofString "Alias for field number 1") 354 }] 2 }) ::
  (nat_lit 127, { cls := Value.ref 60, dict := some 126 }) ::
  (nat_lit 129, { cls := Value.type "tuple", data := Data.seq #[] }) ::
  (nat_lit 131, { cls := Value.type "dict", data := Data.dict #[{ hash := PyData.keyHash P (Str.ofString "__module__"), key := Value.str (Str.ofString "__module__") 260, val := Value.str (Str.ofString "bentley_ottmann._core.hints") 194 }, { hash := PyData.keyHash P (Str.ofString "__firstlineno__"), key := Value.str (Str.ofString "__firstlineno__") 264, val := Value.int 23 263 }, { hash := PyData.keyHash P (Str.ofString "__doc__"), key := Value.str (Str.ofString "__doc__") 266, val := Value.str (Str.ofString "Point(x, y)") 265 }, { hash := PyData.keyHash P (Str.ofString "__slots__"), key := Value.str (Str.ofString "__slots__") 268, val := Value.ref 73 }, { hash := PyData.keyHash P (Str.ofString "_fields"), key := Value.str (Str.ofString "_fields") 271, val := Value.ref 74 }, { hash := PyData.keyHash P (Str.ofString "_field_defaults"), key := Value.str (Str.ofString "_field_defaults") 272, val := Value.ref 75 }, { hash := PyData.keyHash P (Str.ofString "__new__"), key := Value.str (Str.ofString "__new__") 282, val := Value.ref 133 }, { hash := PyData.keyHash P (Str.ofString "_make"), key := Value.str (Str.ofString "_make") 304, val := Value.ref 91 }, { hash := PyData.keyHash P (Str.ofString "_replace"), key := Value.str (Str.ofString "_replace") 315, val := Value.ref 100 }, { hash := PyData.keyHash P (Str.ofString "__replace__"), key := Value.str (Str.ofString "__replace__") 316, val := Value.ref 100 }, { hash := PyData.keyHash P (Str.ofString "__repr__"), key := Value.str (Str.ofString "__repr__") 324, val := Value.ref 107 }, { hash := PyData.keyHash P (Str.ofString "_asdict"), key := Value.str (Str.ofString "_asdict") 331, val := Value.ref 114 }, { hash := PyData.keyHash P (Str.ofString "__getnewargs__"), key := Value.str (Str.ofString "__getnewargs__") 339, val := Value.ref 121 }, { hash := PyData.keyHash P (Str.ofString "__match_args__"), key := Value.str (Str.ofString "__match_args__") 342, val := Value.ref 122 }, { hash := PyData.keyHash P (Str.ofString "x"), key := Value.str (Str.ofString "x") 352, val := Value.ref 124 }, { hash := PyData.keyHash P (Str.ofString "y"), key := Value.str (Str.ofString "y") 362, val := Value.ref 127 }, { hash := PyData.keyHash P (Str.ofString "__static_attributes__"), key := Value.str (Str.ofString "__static_attributes__") 363, val := Value.ref 129 }] 2 }) ::
  (nat_lit 132, { cls := Value.type "type", data := Data.cls { name := Str.ofString "Point", bases := [Value.type "tuple"], mro := [Value.ref 132, Value.type "tuple", Value.type "object"], ns := 131, qualname := Str.ofString "Point", hasDict := false }, slots := #[some (Value.ref 65), none, some (Value.str (Str.ofString "Point") 253), some (Value.str (Str.ofString "Point") 261), some Value.none, some (Value.bool false)] }) ::
  (nat_lit 133, { cls := Value.type "staticmethod", data := Data.fields #[Value.ref 82] }) ::
  (nat_lit 143, { cls := Value.type "tuple", data := Data.seq #[] }) ::
  (nat_lit 145, { cls := Value.type "tuple", data := Data.seq #[Value.str (Str.ofString "self") 386, Value.str (Str.ofString "value") 387] }) ::
  (nat_lit 146, { cls := Value.type "tuple", data := Data.seq #[] }) ::
  (nat_lit 148, { cls := Value.type "code", data := Data.fields #[Value.str (Str.ofString "__init__") 383, Value.str (Str.ofString "Kind.__init__") 384, Value.str (Str.ofString "/claim/cut.py") 385, Value.int 68 0, Value.int 2 0, Value.int 0 0, Value.int 0 0, Value.int 3 0, Value.ref 143, Value.bool true, Value.int 181 0, Value.ref 144, Value.none, Value.ref 145, Value.ref 146, Value.ref 147, Value.int 388 0, Value.int 68 0, Value.str (Str.ofString "/claim/cut.py") 389] }) ::
  (nat_lit 149, { cls := Value.type "function", data := Data.func { name := Str.ofString "__init__", qualname := Str.ofString "Kind.__init__", params := par_d4x1, body := FuncBody.stmts bod_d4x1, scope := sco_d4x1, globals := 3, closure := [], defaults := Value.none, kwdefaults := Value.none, pyModule := Value.str (Str.ofString "bentley_ottmann._core.hints") 194, code := Value.ref 148 } }) ::
  (nat_lit 150, { cls := Value.type "tuple", data := Data.seq #[Value.str (Str.ofString "value") 391] }) ::
  (nat_lit 151, { cls := Value.type "dict", data := Data.dict #[{ hash := PyData.keyHash P (Str.ofString "__module__"), key := Value.str (Str.ofString "__module__") 375, val := Value.str (Str.ofString "bentley_ottmann._core.hints") 194 }, { hash := PyData.keyHash P (Str.ofString "__firstlineno__"), key := Value.str (Str.ofString "__firstlineno__") 379, val := Value.int 65 378 }, { hash := PyData.keyHash P (Str.ofString "__doc__"), key := Value.str (Str.ofString "__doc__") 381, val := Value.str doc_7 380 }, { hash := PyData.keyHash P (Str.ofString "__init__"), key := Value.str (Str.ofString "__init__") 390, val := Value.ref 149 }, { hash := PyData.keyHash P (Str.ofString "__static_attributes__"), key := Value.str (Str.ofString "__static_attributes__") 392, val := Value.ref 150 }, { hash := PyData.keyHash P (Str.ofString "__dict__"), key := Value.str (Str.ofString "__dict__") 394, val := Value.ref 153 }, { hash := PyData.keyHash P (Str.ofString "__weakref__"), key := Value.str (Str.ofString "__weakref__") 396, val := Value.ref 154 }] 3 }) ::
  (nat_lit 152, { cls := Value.type "type", data := Data.cls { name := Str.ofString "Kind", bases := [Value.type "object"], mro := [Value.ref 152, Value.type "object"], ns := 151, qualname := Str.ofString "Kind" }, slots := #[none, none, some (Value.str (Str.ofString "Kind") 368), some (Value.str (Str.ofString "Kind") 376), some (Value.builtin "object.__new__"), some (Value.bool true)] }) ::
  (nat_lit 153, { cls := Value.type "getset_descriptor", data := Data.fields #[Value.str (Str.ofString "__dict__") 393, Value.ref 152, Value.builtin "function.__dict__", Value.builtin "function.__dict__#set"] }) ::
  (nat_lit 154, { cls := Value.type "getset_descriptor", data := Data.fields #[Value.str (Str.ofString "__weakref__") 395, Value.ref 152, Value.builtin "ExceptionGroup.__weakref__", Value.none] }) ::
  (nat_lit 164, { cls := Value.type "dict", data := Data.dict #[{ hash := PyData.keyHash P (Str.ofString "value"), key := Value.str (Str.ofString "value") 416, val := Value.int (-1) 412 }] 1 }) ::
  (nat_lit 165, { cls := Value.ref 152, dict := some 164 }) ::
  (nat_lit 167, { cls := Value.type "dict", data := Data.dict #[{ hash := PyData.keyHash P (Str.ofString "value"), key := Value.str (Str.ofString "value") 422, val := Value.int 0 418 }] 1 }) ::
  (nat_lit 168, { cls := Value.ref 152, dict := some 167 }) ::
  (nat_lit 170, { cls := Value.type "dict", data := Data.dict #[{ hash := PyData.keyHash P (Str.ofString "value"), key := Value.str (Str.ofString "value") 428, val := Value.int 1 424 }] 1 }) ::
  (nat_lit 171, { cls := Value.ref 152, dict := some 170 }) ::
  (nat_lit 173, { cls := Value.type "tuple", data := Data.seq #[] }) ::
  (nat_lit 174, { cls := Value.type "dict", data := Data.dict #[{ hash := PyData.keyHash P (Str.ofString "__module__"), key := Value.str (Str.ofString "__module__") 406, val := Value.str (Str.ofString "bentley_ottmann._core.hints") 194 }, { hash := PyData.keyHash P (Str.ofString "__firstlineno__"), key := Value.str (Str.ofString "__firstlineno__") 410, val := Value.int 70 409 }, { hash := PyData.keyHash P (Str.ofString "CLOCKWISE"), key := Value.str (Str.ofString "CLOCKWISE") 417, val := Value.ref 165 }, { hash := PyData.keyHash P (Str.ofString "COLLINEAR"), key := Value.str (Str.ofString "COLLINEAR") 423, val := Value.ref 168 }, { hash := PyData.keyHash P (Str.ofString "COUNTERCLOCKWISE"), key := Value.str (Str.ofString "COUNTERCLOCKWISE") 429, val := Value.ref 171 }, { hash := PyData.keyHash P (Str.ofString "__static_attributes__"), key := Value.str (Str.ofString "__static_attributes__") 430, val := Value.ref 173 }, { hash := PyData.keyHash P (Str.ofString "__dict__"), key := Value.str (Str.ofString "__dict__") 432, val := Value.ref 176 }, { hash := PyData.keyHash P (Str.ofString "__weakref__"), key := Value.str (Str.ofString "__weakref__") 434, val := Value.ref 177 }, { hash := PyData.keyHash P (Str.ofString "__doc__"), key := Value.str (Str.ofString "__doc__") 435, val := Value.none }] 4 }) ::
  (nat_lit 175, { cls := Value.type "type", data := Data.cls { name := Str.ofString "Orientation", bases := [Value.type "object"], mro := [Value.ref 175, Value.type "object"], ns := 174, qualname := Str.ofString "Orientation" }, slots := #[none, none, some (Value.str (Str.ofString "Orientation") 399), some (Value.str (Str.ofString "Orientation") 407), some (Value.builtin "object.__new__"), some (Value.bool true)] }) ::
  (nat_lit 176, { cls := Value.type "getset_descriptor", data := Data.fields #[Value.str (Str.ofString "__dict__") 431, Value.ref 175, Value.builtin "function.__dict__", Value.builtin "function.__dict__#set"] }) ::
  (nat_lit 177, { cls := Value.type "getset_descriptor", data := Data.fields #[Value.str (Str.ofString "__weakref__") 433, Value.ref 175, Value.builtin "ExceptionGroup.__weakref__", Value.none] }) ::
  (nat_lit 187, { cls := Value.type "tuple", data := Data.seq #[] }) ::
  (nat_lit 189, { cls := Value.type "tuple", data := Data.seq #[Value.str (Str.ofString "self") 456, Value.str (Str.ofString "start") 457, Value.str (Str.ofString "end") 458] }) ::
  (nat_lit 190, { cls := Value.type "tuple", data := Data.seq #[] }) ::
  (nat_lit 192, { cls := Value.type "code", data := Data.fields #[Value.str (Str.ofString "segment_cls") 453, Value.str (Str.ofString "Context.segment_cls") 454, Value.str (Str.ofString "/claim/cut.py") 455, Value.int 77 0, Value.int 3 0, Value.int 0 0, Value.int 0 0, Value.int 3 0, Value.ref 187, Value.bool true, Value.int 181 0, Value.ref 188, Value.none, Value.ref 189, Value.ref 190, Value.ref 191, Value.int 459 0, Value.int 77 0, Value.str (Str.ofString "/claim/cut.py") 460] }) ::
  (nat_lit 193, { cls := Value.type "function", data := Data.func { name := Str.ofString "segment_cls", qualname := Str.ofString "Context.segment_cls", params := par_d6x1, body := FuncBody.stmts bod_d6x1, scope := sco_d6x1, globals := 3, closure := [], defaults := Value.none, kwdefaults := Value.none, pyModule := Value.str (Str.ofString "bentley_ottmann._core.hints") 194, code := Value.ref 192 } }) ::
  (nat_lit 194, { cls := Value.type "tuple", data := Data.seq #[] }) ::
  (nat_lit 196, { cls := Value.type "tuple", data := Data.seq #[Value.str (Str.ofString "self") 465, Value.str (Str.ofString "contour") 466] }) ::
  (nat_lit 197, { cls := Value.type "tuple", data := Data.seq #[] }) ::
  (nat_lit 199, { cls := Value.type "code", data := Data.fields #[Value.str (Str.ofString "contour_segments") 462, Value.str (Str.ofString "Context.contour_segments") 463, Value.str (Str.ofString "/claim/cut.py") 464, Value.int 80 0, Value.int 2 0, Value.int 0 0, Value.int 0 0, Value.int 3 0, Value.ref 194, Value.bool true, Value.int 181 0, Value.ref 195, Value.none, Value.ref 196, Value.ref 197, Value.ref 198, Value.int 467 0, Value.int 80 0, Value.str (Str.ofString "/claim/cut.py") 468] }) ::
  (nat_lit 200, { cls := Value.type "function", data := Data.func { name := Str.ofString "contour_segments", qualname := Str.ofString "Context.contour_segments", params := par_d6x2, body := FuncBody.stmts bod_d6x2, scope := sco_d6x2, globals := 3, closure := [], defaults := Value.none, kwdefaults := Value.none, pyModule := Value.str (Str.ofString "bentley_ottmann._core.hints") 194, code := Value.ref 199 } }) ::
  (nat_lit 201, { cls := Value.type "tuple", data := Data.seq #[] }) ::
  (nat_lit 203, { cls := Value.type "tuple", data := Data.seq #[Value.str (Str.ofString "self") 473, Value.str (Str.ofString "vertex") 474, Value.str (Str.ofString "first") 475, Value.str (Str.ofString "second") 476, Value.str (Str.ofString "product") 477] }) ::
  (nat_lit 204, { cls := Value.type "tuple", data := Data.seq #[] }) ::
  (nat_lit 206, { cls := Value.type "code", data := Data.fields #[Value.str (Str.ofString "angle_orientation") 470, Value.str (Str.ofString "Context.angle_orientation") 471, Value.str (Str.ofString "/claim/cut.py") 472, Value.int 83 0, Value.int 4 0, Value.int 0 0, Value.int 0 0, Value.int 3 0, Value.ref 201, Value.bool true, Value.int 181 0, Value.ref 202, Value.none, Value.ref 203, Value.ref 204, Value.ref 205, Value.int 478 0, Value.int 83 0, Value.str (Str.ofString "/claim/cut.py") 479] }) ::
  (nat_lit 207, { cls := Value.type "function", data := Data.func { name := Str.ofString "angle_orientation", qualname := Str.ofString "Context.angle_orientation", params := par_d6x3, body := FuncBody.stmts bod_d6x3, scope := sco_d6x3, globals := 3, closure := [], defaults := Value.none, kwdefaults := Value.none, doc := Value.str doc_5 480, pyModule := Value.str (Str.ofString "bentley_ottmann._core.hints") 194, code := Value.ref 206 } }) ::
  (nat_lit 208, { cls := Value.type "tuple", data := Data.seq #[] }) ::
  (nat_lit 210, { cls := Value.type "tuple", data := Data.seq #[Value.str (Str.ofString "self") 485, Value.str (Str.ofString "first") 486, Value.str (Str.ofString "second") 487] }) ::
  (nat_lit 211, { cls := Value.type "tuple", data := Data.seq #[] }) ::
  (nat_lit 213, { cls := Value.type "code", data := Data.fields #[Value.str (Str.ofString "segments_intersection") 482, Value.str (Str.ofString "Context.segments_intersection") 483, Value.str (Str.ofString "/claim/cut.py") 484, Value.int 92 0, Value.int 3 0, Value.int 0 0, Value.int 0 0, Value.int 3 0, Value.ref 208, Value.bool true, Value.int 181 0, Value.ref 209, Value.none, Value.ref 210, Value.ref 211, Value.ref 212, Value.int 488 0, Value.int 92 0, Value.str (Str.ofString "/claim/cut.py") 489] }) ::
  (nat_lit 214, { cls := Value.type "function", data := Data.func { name := Str.ofString "segments_intersection", qualname := Str.ofString "Context.segments_intersection", params := par_d6x4, body := FuncBody.stmts bod_d6x4, scope := sco_d6x4, globals := 3, closure := [], defaults := Value.none, kwdefaults := Value.none, pyModule := Value.str (Str.ofString "bentley_ottmann._core.hints") 194, code := Value.ref 213 } }) ::
  (nat_lit 215, { cls := Value.type "tuple", data := Data.seq #[] }) ::
  (nat_lit 216, { cls := Value.type "dict", data := Data.dict #[{ hash := PyData.keyHash P (Str.ofString "__module__"), key := Value.str (Str.ofString "__module__") 445, val := Value.str (Str.ofString "bentley_ottmann._core.hints") 194 }, { hash := PyData.keyHash P (Str.ofString "__firstlineno__"), key := Value.str (Str.ofString "__firstlineno__") 449, val := Value.int 74 448 }, { hash := PyData.keyHash P (Str.ofString "__doc__"), key := Value.str (Str.ofString "__doc__") 451, val := Value.str doc_8 450 }, { hash := PyData.keyHash P (Str.ofString "segment_cls"), key := Value.str (Str.ofString "segment_cls") 461, val := Value.ref 193 }, { hash := PyData.keyHash P (Str.ofString "contour_segments"), key := Value.str (Str.ofString "contour_segments") 469, val := Value.ref 200 }, { hash := PyData.keyHash P (Str.ofString "angle_orientation"), key := Value.str (Str.ofString "angle_orientation") 481, val := Value.ref 207 }, { hash := PyData.keyHash P (Str.ofString "segments_intersection"), key := Value.str (Str.ofString "segments_intersection") 490, val := Value.ref 214 }, { hash := PyData.keyHash P (Str.ofString "__static_attributes__"), key := Value.str (Str.ofString "__static_attributes__") 491, val := Value.ref 215 }, { hash := PyData.keyHash P (Str.ofString "__dict__"), key := Value.str (Str.ofString "__dict__") 493, val := Value.ref 218 }, { hash := PyData.keyHash P (Str.ofString "__weakref__"), key := Value.str (Str.ofString "__weakref__") 495, val := Value.ref 219 }] 3 }) ::
  (nat_lit 217, { cls := Value.type "type", data := Data.cls { name := Str.ofString "Context", bases := [Value.type "object"], mro := [Value.ref 217, Value.type "object"], ns := 216, qualname := Str.ofString "Context" }, slots := #[none, none, some (Value.str (Str.ofString "Context") 438), some (Value.str (Str.ofString "Context") 446), some (Value.builtin "object.__new__"), some (Value.bool true)] }) ::
  (nat_lit 218, { cls := Value.type "getset_descriptor", data := Data.fields #[Value.str (Str.ofString "__dict__") 492, Value.ref 217, Value.builtin "function.__dict__", Value.builtin "function.__dict__#set"] }) ::
  (nat_lit 219, { cls := Value.type "getset_descriptor", data := Data.fields #[Value.str (Str.ofString "__weakref__") 494, Value.ref 217, Value.builtin "ExceptionGroup.__weakref__", Value.none] }) ::
  (nat_lit 229, { cls := Value.type "tuple", data := Data.seq #[] }) ::
  (nat_lit 231, { cls := Value.type "tuple", data := Data.seq #[Value.str (Str.ofString "self") 515, Value.str (Str.ofString "endpoints") 516, Value.str (Str.ofString "opposites") 517, Value.str (Str.ofString "event") 518, Value.str (Str.ofString "orienteer") 519] }) ::
  (nat_lit 232, { cls := Value.type "tuple", data := Data.seq #[] }) ::
  (nat_lit 234, { cls := Value.type "code", data := Data.fields #[Value.str (Str.ofString "__init__") 512, Value.str (Str.ofString "SweepLineKey.__init__") 513, Value.str (Str.ofString "/claim/cut.py") 514, Value.int 97 0, Value.int 5 0, Value.int 5 0, Value.int 0 0, Value.int 3 0, Value.ref 229, Value.bool true, Value.int 181 0, Value.ref 230, Value.none, Value.ref 231, Value.ref 232, Value.ref 233, Value.int 520 0, Value.int 97 0, Value.str (Str.ofString "/claim/cut.py") 521] }) ::
  (nat_lit 235, { cls := Value.type "function", data := Data.func { name := Str.ofString "__init__", qualname := Str.ofString "SweepLineKey.__init__", params := par_d8x0, body := FuncBody.stmts bod_d8x0, scope := sco_d8x0, globals := 3, closure := [], defaults := Value.none, kwdefaults := Value.none, pyModule := Value.str (Str.ofString "bentley_ottmann._core.sweep_line_key") 498, code := Value.ref 234 } }) ::
  (nat_lit 236, { cls := Value.type "tuple", data := Data.seq #[] }) ::
  (nat_lit 238, { cls := Value.type "tuple", data := Data.seq #[Value.str (Str.ofString "self") 526, Value.str (Str.ofString "other") 527, Value.str (Str.ofString "event") 528, Value.str (Str.ofString "other_event") 529, Value.str (Str.ofString "start") 530, Value.str (Str.ofString "other_start") 531, Value.str (Str.ofString "end") 532, Value.str (Str.ofString "other_end") 533, Value.str (Str.ofString "other_start_orientation") 534, Value.str (Str.ofString "other_end_orientation") 535, Value.str (Str.ofString "start_x") 536, Value.str (Str.ofString "start_y") 537, Value.str (Str.ofString "other_start_x") 538, Value.str (Str.ofString "other_start_y") 539, Value.str (Str.ofString "end_x") 540, Value.str (Str.ofString "end_y") 541, Value.str (Str.ofString "other_end_x") 542, Value.str (Str.ofString "other_end_y") 543, Value.str (Str.ofString "start_orientation") 544, Value.str (Str.ofString "end_orientation") 545] }) ::
  (nat_lit 239, { cls := Value.type "tuple", data := Data.seq #[] }) ::
  (nat_lit 241, { cls := Value.type "code", data := Data.fields #[Value.str (Str.ofString "__lt__") 523, Value.str (Str.ofString "SweepLineKey.__lt__") 524, Value.str (Str.ofString "/claim/cut.py") 525, Value.int 100 0, Value.int 2 0, Value.int 2 0, Value.int 0 0, Value.int 3 0, Value.ref 236, Value.bool true, Value.int 181 0, Value.ref 237, Value.none, Value.ref 238, Value.ref 239, Value.ref 240, Value.int 546 0, Value.int 100 0, Value.str (Str.ofString "/claim/cut.py") 547] }) ::
  (nat_lit 242, { cls := Value.type "function", data := Data.func { name := Str.ofString "__lt__", qualname := Str.ofString "SweepLineKey.__lt__", params := par_d8x1, body := FuncBody.stmts bod_d8x1, scope := sco_d8x1, globals := 3, closure := [], defaults := Value.none, kwdefaults := Value.none, doc := Value.str doc_6 548, pyModule := Value.str (Str.ofString "bentley_ottmann._core.sweep_line_key") 498, code := Value.ref 241 } }) ::
  (nat_lit 243, { cls := Value.type "tuple", data := Data.seq #[Value.str (Str.ofString "_orienteer") 550, Value.str (Str.ofString "endpoints") 551, Value.str (Str.ofString "event") 552, Value.str (Str.ofString "opposites") 553] }) ::
  (nat_lit 244, { cls := Value.type "dict", data := Data.dict #[{ hash := PyData.keyHash P (Str.ofString "__module__"), key := Value.str (Str.ofString "__module__") 507, val := Value.str (Str.ofString "bentley_ottmann._core.sweep_line_key") 498 }, { hash := PyData.keyHash P (Str.ofString "__firstlineno__"), key := Value.str (Str.ofString "__firstlineno__") 511, val := Value.int 95 510 }, { hash := PyData.keyHash P (Str.ofString "__init__"), key := Value.str (Str.ofString "__init__") 522, val := Value.ref 235 }, { hash := PyData.keyHash P (Str.ofString "__lt__"), key := Value.str (Str.ofString "__lt__") 549, val := Value.ref 242 }, { hash := PyData.keyHash P (Str.ofString "__static_attributes__"), key := Value.str (Str.ofString "__static_attributes__") 554, val := Value.ref 243 }, { hash := PyData.keyHash P (Str.ofString "__dict__"), key := Value.str (Str.ofString "__dict__") 556, val := Value.ref 246 }, { hash := PyData.keyHash P (Str.ofString "__weakref__"), key := Value.str (Str.ofString "__weakref__") 558, val := Value.ref 247 }, { hash := PyData.keyHash P (Str.ofString "__doc__"), key := Value.str (Str.ofString "__doc__") 559, val := Value.none }] 4 }) ::
  (nat_lit 245, { cls := Value.type "type", data := Data.cls { name := Str.ofString "SweepLineKey", bases := [Value.type "object"], mro := [Value.ref 245, Value.type "object"], ns := 244, qualname := Str.ofString "SweepLineKey" }, slots := #[none, none, some (Value.str (Str.ofString "SweepLineKey") 500), some (Value.str (Str.ofString "SweepLineKey") 508), some (Value.builtin "object.__new__"), some (Value.bool true)] }) ::
  (nat_lit 246, { cls := Value.type "getset_descriptor", data := Data.fields #[Value.str (Str.ofString "__dict__") 555, Value.ref 245, Value.builtin "function.__dict__", Value.builtin "function.__dict__#set"] }) ::
  (nat_lit 247, { cls := Value.type "getset_descriptor", data := Data.fields #[Value.str (Str.ofString "__weakref__") 557, Value.ref 245, Value.builtin "ExceptionGroup.__weakref__", Value.none] }) ::
  (nat_lit 250, { cls := Value.type "tuple", data := Data.seq #[] }) ::
  (nat_lit 252, { cls := Value.type "tuple", data := Data.seq #[Value.str (Str.ofString "number") 567, Value.str (Str.ofString "n") 568, Value.str (Str.ofString "p") 569, Value.str (Str.ofString "q") 570] }) ::
  (nat_lit 253, { cls := Value.type "tuple", data := Data.seq #[] }) ::
  (nat_lit 255, { cls := Value.type "code", data := Data.fields #[Value.str (Str.ofString "_law_drawn") 564, Value.str (Str.ofString "_law_drawn") 565, Value.str (Str.ofString "/claim/cut.py") 566, Value.int 138 0, Value.int 1 0, Value.int 0 0, Value.int 0 0, Value.int 3 0, Value.ref 250, Value.bool true, Value.int 181 0, Value.ref 251, Value.none, Value.ref 252, Value.ref 253, Value.ref 254, Value.int 571 0, Value.int 138 0, Value.str (Str.ofString "/claim/cut.py") 572] }) ::
  (nat_lit 256, { cls := Value.type "function", data := Data.func { name := Str.ofString "_law_drawn", qualname := Str.ofString "_law_drawn", params := par_d10, body := FuncBody.stmts bod_d10, scope := sco_d10, globals := 3, closure := [], defaults := Value.none, kwdefaults := Value.none, pyModule := Value.str (Str.ofString "law_ja0007_01") 562, code := Value.ref 255 } }) ::
  (nat_lit 257, { cls := Value.type "tuple", data := Data.seq #[] }) ::
  (nat_lit 259, { cls := Value.type "tuple", data := Data.seq #[Value.str (Str.ofString "one") 577, Value.str (Str.ofString "place") 578, Value.str (Str.ofString "a") 579, Value.str (Str.ofString "b") 580, Value.str (Str.ofString "value") 581] }) ::
  (nat_lit 260, { cls := Value.type "tuple", data := Data.seq #[] }) ::
  (nat_lit 262, { cls := Value.type "code", data := Data.fields #[Value.str (Str.ofString "_law_side") 574, Value.str (Str.ofString "_law_side") 575, Value.str (Str.ofString "/claim/cut.py") 576, Value.int 144 0, Value.int 2 0, Value.int 0 0, Value.int 0 0, Value.int 3 0, Value.ref 257, Value.bool true, Value.int 181 0, Value.ref 258, Value.none, Value.ref 259, Value.ref 260, Value.ref 261, Value.int 582 0, Value.int 144 0, Value.str (Str.ofString "/claim/cut.py") 583] }) ::
  (nat_lit 263, { cls := Value.type "function", data := Data.func { name := Str.ofString "_law_side", qualname := Str.ofString "_law_side", params := par_d11, body := FuncBody.stmts bod_d11, scope := sco_d11, globals := 3, closure := [], defaults := Value.none, kwdefaults := Value.none, pyModule := Value.str (Str.ofString "law_ja0007_01") 562, code := Value.ref 262 } }) ::
  (nat_lit 264, { cls := Value.type "tuple", data := Data.seq #[] }) ::
  (nat_lit 266, { cls := Value.type "tuple", data := Data.seq #[Value.str (Str.ofString "one") 588, Value.str (Str.ofString "other") 589, Value.str (Str.ofString "place") 590] }) ::
  (nat_lit 267, { cls := Value.type "tuple", data := Data.seq #[] }) ::
  (nat_lit 269, { cls := Value.type "code", data := Data.fields #[Value.str (Str.ofString "_law_lower") 585, Value.str (Str.ofString "_law_lower") 586, Value.str (Str.ofString "/claim/cut.py") 587, Value.int 148 0, Value.int 2 0, Value.int 0 0, Value.int 0 0, Value.int 3 0, Value.ref 264, Value.bool true, Value.int 181 0, Value.ref 265, Value.none, Value.ref 266, Value.ref 267, Value.ref 268, Value.int 591 0, Value.int 148 0, Value.str (Str.ofString "/claim/cut.py") 592] }) ::
  (nat_lit 270, { cls := Value.type "function", data := Data.func { name := Str.ofString "_law_lower", qualname := Str.ofString "_law_lower", params := par_d12, body := FuncBody.stmts bod_d12, scope := sco_d12, globals := 3, closure := [], defaults := Value.none, kwdefaults := Value.none, pyModule := Value.str (Str.ofString "law_ja0007_01") 562, code := Value.ref 269 } }) ::
  (nat_lit 271, { cls := Value.type "tuple", data := Data.seq #[] }) ::
  (nat_lit 274, { cls := Value.type "code", data := Data.fields #[Value.str (Str.ofString "law") 594, Value.str (Str.ofString "law") 595, Value.str (Str.ofString "/claim/cut.py") 596, Value.int 155 0, Value.int 1 0, Value.int 0 0, Value.int 0 0, Value.int 3 0, Value.ref 271, Value.bool true, Value.int 181 0, Value.ref 272, Value.none, Value.none, Value.none, Value.ref 273, Value.int 597 0, Value.int 155 0, Value.str (Str.ofString "/claim/cut.py") 598] }) ::
  (nat_lit 275, { cls := Value.type "function", data := Data.func { name := Str.ofString "law", qualname := Str.ofString "law", params := par_d13, body := FuncBody.stmts bod_d13, scope := sco_d13, globals := 3, closure := [], defaults := Value.none, kwdefaults := Value.none, pyModule := Value.str (Str.ofString "law_ja0007_01") 562, code := Value.ref 274 } }) :: []
theorem hd_as : ∀ P, [2, 3, 15, 17, 18, 20, 21, 29, 31, 32, 34, 35, 36, 37, 39, 40, 42, 43, 44, 46, 47, 49, 50, 51, 53, 54, 56, 57, 58, 59, 60, 61, 62, 65, 68, 73, 74, 75, 76, 78, 79, 81, 82, 83, 85, 86, 88, 89, 90, 91, 92, 93, 94, 96, 97, 99, 100, 101, 103, 104, 106, 107, 108, 110, 111, 113, 114, 115, 117, 118, 120, 121, 122, 123, 124, 126, 127, 129, 131, 132, 133, 143, 145, 146, 148, 149, 150, 151, 152, 153, 154, 164, 165, 167, 168, 170, 171, 173, 174, 175, 176, 177, 187, 189, 190, 192, 193, 194, 196, 197, 199, 200, 201, 203, 204, 206, 207, 208, 210, 211, 213, 214, 215, 216, 217, 218, 219, 229, 231, 232, 234, 235, 236, 238, 239, 241, 242, 243, 244, 245, 246, 247, 250, 252, 253, 255, 256, 257, 259, 260, 262, 263, 264, 266, 267, 269, 270, 271, 274, 275] = (hd.heap_39 P).map (·.1) := fun _ => by kernel_rfl
noncomputable abbrev hd_hook : Hook := kHook hd.heap_39 [2, 3, 15, 17, 18, 20, 21, 29, 31, 32, 34, 35, 36, 37, 39, 40, 42, 43, 44, 46, 47, 49, 50, 51, 53, 54, 56, 57, 58, 59, 60, 61, 62, 65, 68, 73, 74, 75, 76, 78, 79, 81, 82, 83, 85, 86, 88, 89, 90, 91, 92, 93, 94, 96, 97, 99, 100, 101, 103, 104, 106, 107, 108, 110, 111, 113, 114, 115, 117, 118, 120, 121, 122, 123, 124, 126, 127, 129, 131, 132, 133, 143, 145, 146, 148, 149, 150, 151, 152, 153, 154, 164, 165, 167, 168, 170, 171, 173, 174, 175, 176, 177, 187, 189, 190, 192, 193, 194, 196, 197, 199, 200, 201, 203, 204, 206, 207, 208, 210, 211, 213, 214, 215, 216, 217, 218, 219, 229, 231, 232, 234, 235, 236, 238, 239, 241, 242, 243, 244, 245, 246, 247, 250, 252, 253, 255, 256, 257, 259, 260, 262, 263, 264, 266, 267, 269, 270, 271, 274, 275] hd_as
noncomputable abbrev hd_loose : List Str := [Str.ofString "_tuplegetter", Str.ofString "Point", Str.ofString "Orientation"]
/-! the objects that the text's top makes, one by one -/
noncomputable def hd.o_43 : Params → Obj := fun _ => { cls := Value.type "tuple", data := Data.seq #[] }
noncomputable def hd.o_44 : Params → Obj := fun _ => { cls := Value.none, data := Data.fields #[] }
noncomputable def hd.o_45 : Params → Obj := fun _ => { cls := Value.type "code", data := Data.fields #[Value.str (Str.ofString "<module>") 182, Value.str (Str.ofString "<module>") 183, Value.str (Str.ofString "/claim/cut.py") 184, Value.int 1 0, Value.int 0 0, Value.int 0 0, Value.int 0 0, Value.int 0 0, Value.ref 11, Value.bool false, Value.int 181 0, Value.ref 12, Value.none, Value.none, Value.none, Value.none, Value.int 185 0, Value.int 1 0, Value.str (Str.ofString "/claim/cut.py") 186] }
noncomputable def hd.o_46 : Params → Obj := fun _ => { cls := Value.type "frame", slots := #[some (Value.ref 13), some (Value.ref 3), some (Value.ref 3), none, some (Value.str (Str.ofString "__main__") 164), none, some (Value.ref 0)] }
noncomputable def hd.o_51 : Params → Obj := fun _ => { cls := Value.type "tuple", data := Data.seq #[] }
noncomputable def hd.o_52 : Params → Obj := fun _ => { cls := Value.none, data := Data.fields #[] }
noncomputable def hd.o_53 : Params → Obj := fun _ => { cls := Value.type "tuple", data := Data.seq #[Value.str (Str.ofString "k") 190] }
noncomputable def hd.o_54 : Params → Obj := fun _ => { cls := Value.type "tuple", data := Data.seq #[] }
noncomputable def hd.o_55 : Params → Obj := fun _ => { cls := Value.none, data := Data.func { name := Str.ofString "_wall", qualname := Str.ofString "_wall", params := par_d0, body := FuncBody.stmts bod_d0, scope := sco_d0, globals := 0, closure := [], defaults := Value.none, kwdefaults := Value.none } }
noncomputable def hd.o_56 : Params → Obj := fun _ => { cls := Value.type "code", data := Data.fields #[Value.str (Str.ofString "_wall") 187, Value.str (Str.ofString "_wall") 188, Value.str (Str.ofString "/claim/cut.py") 189, Value.int 1 0, Value.int 1 0, Value.int 0 0, Value.int 0 0, Value.int 3 0, Value.ref 15, Value.bool true, Value.int 181 0, Value.ref 16, Value.none, Value.ref 17, Value.ref 18, Value.ref 19, Value.int 191 0, Value.int 1 0, Value.str (Str.ofString "/claim/cut.py") 192] }
noncomputable def hd.o_57 : Params → Obj := fun _ => { cls := Value.type "function", data := Data.func { name := Str.ofString "_wall", qualname := Str.ofString "_wall", params := par_d0, body := FuncBody.stmts bod_d0, scope := sco_d0, globals := 3, closure := [], defaults := Value.none, kwdefaults := Value.none, pyModule := Value.str (Str.ofString "__main__") 164, code := Value.ref 20 } }
noncomputable def hd.o_58 : Params → Obj := fun _ => { cls := Value.type "tuple", data := Data.seq #[] }
noncomputable def hd.o_59 : Params → Obj := fun _ => { cls := Value.type "builtin_function_or_method", data := Data.fields #[Value.builtin "type.__prepare__", Value.type "type"] }
noncomputable def hd.o_60 : Params → Obj := fun P => { cls := Value.type "dict", data := Data.dict #[{ hash := PyData.keyHash P (Str.ofString "__module__"), key := Value.str (Str.ofString "__module__") 203, val := Value.str (Str.ofString "bentley_ottmann._core.hints") 194 }, { hash := PyData.keyHash P (Str.ofString "__qualname__"), key := Value.str (Str.ofString "__qualname__") 205, val := Value.str (Str.ofString "_tuplegetter") 204 }, { hash := PyData.keyHash P (Str.ofString "__firstlineno__"), key := Value.str (Str.ofString "__firstlineno__") 207, val := Value.int 5 206 }, { hash := PyData.keyHash P (Str.ofString "__init__"), key := Value.str (Str.ofString "__init__") 216, val := Value.ref 35 }, { hash := PyData.keyHash P (Str.ofString "__get__"), key := Value.str (Str.ofString "__get__") 225, val := Value.ref 43 }, { hash := PyData.keyHash P (Str.ofString "__set__"), key := Value.str (Str.ofString "__set__") 234, val := Value.ref 50 }, { hash := PyData.keyHash P (Str.ofString "__delete__"), key := Value.str (Str.ofString "__delete__") 242, val := Value.ref 57 }, { hash := PyData.keyHash P (Str.ofString "__static_attributes__"), key := Value.str (Str.ofString "__static_attributes__") 245, val := Value.ref 58 }] 8 }
noncomputable def hd.o_61 : Params → Obj := fun _ => { cls := Value.type "tuple", data := Data.seq #[] }
noncomputable def hd.o_62 : Params → Obj := fun _ => { cls := Value.none, data := Data.fields #[Value.int 7 0, Value.int 4 0, Value.ref 34, Value.int 11 0, Value.int 4 0, Value.ref 42, Value.int 18 0, Value.int 4 0, Value.ref 49, Value.int 21 0, Value.int 4 0, Value.ref 56] }
noncomputable def hd.o_63 : Params → Obj := fun _ => { cls := Value.type "code", data := Data.fields #[Value.str (Str.ofString "_tuplegetter") 198, Value.str (Str.ofString "_tuplegetter") 199, Value.str (Str.ofString "/claim/cut.py") 200, Value.int 5 0, Value.int 0 0, Value.int 0 0, Value.int 0 0, Value.int 0 0, Value.ref 25, Value.bool false, Value.int 181 0, Value.ref 26, Value.none, Value.none, Value.none, Value.none, Value.int 201 0, Value.int 5 0, Value.str (Str.ofString "/claim/cut.py") 202] }
noncomputable def hd.o_64 : Params → Obj := fun _ => { cls := Value.type "frame", slots := #[some (Value.ref 27), some (Value.ref 3), some (Value.ref 24), none, some (Value.str (Str.ofString "bentley_ottmann._core.hints") 194), none, some (Value.ref 0)] }
noncomputable def hd.o_65 : Params → Obj := fun _ => { cls := Value.type "tuple", data := Data.seq #[] }
noncomputable def hd.o_66 : Params → Obj := fun _ => { cls := Value.none, data := Data.fields #[] }
noncomputable def hd.o_67 : Params → Obj := fun _ => { cls := Value.type "tuple", data := Data.seq #[Value.str (Str.ofString "self") 211, Value.str (Str.ofString "index") 212, Value.str (Str.ofString "doc") 213] }
noncomputable def hd.o_68 : Params → Obj := fun _ => { cls := Value.type "tuple", data := Data.seq #[] }
noncomputable def hd.o_69 : Params → Obj := fun _ => { cls := Value.none, data := Data.func { name := Str.ofString "__init__", qualname := Str.ofString "_tuplegetter.__init__", params := par_d2x0, body := FuncBody.stmts bod_d2x0, scope := sco_d2x0, globals := 0, closure := [], defaults := Value.none, kwdefaults := Value.none } }
noncomputable def hd.o_70 : Params → Obj := fun _ => { cls := Value.type "code", data := Data.fields #[Value.str (Str.ofString "__init__") 208, Value.str (Str.ofString "_tuplegetter.__init__") 209, Value.str (Str.ofString "/claim/cut.py") 210, Value.int 7 0, Value.int 3 0, Value.int 0 0, Value.int 0 0, Value.int 3 0, Value.ref 29, Value.bool true, Value.int 181 0, Value.ref 30, Value.none, Value.ref 31, Value.ref 32, Value.ref 33, Value.int 214 0, Value.int 7 0, Value.str (Str.ofString "/claim/cut.py") 215] }
noncomputable def hd.o_71 : Params → Obj := fun _ => { cls := Value.type "function", data := Data.func { name := Str.ofString "__init__", qualname := Str.ofString "_tuplegetter.__init__", params := par_d2x0, body := FuncBody.stmts bod_d2x0, scope := sco_d2x0, globals := 3, closure := [], defaults := Value.none, kwdefaults := Value.none, pyModule := Value.str (Str.ofString "bentley_ottmann._core.hints") 194, code := Value.ref 34 } }
noncomputable def hd.o_72 : Params → Obj := fun _ => { cls := Value.type "tuple", data := Data.seq #[Value.none] }
noncomputable def hd.o_73 : Params → Obj := fun _ => { cls := Value.type "tuple", data := Data.seq #[] }
noncomputable def hd.o_74 : Params → Obj := fun _ => { cls := Value.none, data := Data.fields #[] }
noncomputable def hd.o_75 : Params → Obj := fun _ => { cls := Value.type "tuple", data := Data.seq #[Value.str (Str.ofString "self") 220, Value.str (Str.ofString "obj") 221, Value.str (Str.ofString "objtype") 222] }
noncomputable def hd.o_76 : Params → Obj := fun _ => { cls := Value.type "tuple", data := Data.seq #[] }
noncomputable def hd.o_77 : Params → Obj := fun _ => { cls := Value.none, data := Data.func { name := Str.ofString "__get__", qualname := Str.ofString "_tuplegetter.__get__", params := par_d2x1, body := FuncBody.stmts bod_d2x1, scope := sco_d2x1, globals := 0, closure := [], defaults := Value.none, kwdefaults := Value.none } }
noncomputable def hd.o_78 : Params → Obj := fun _ => { cls := Value.type "code", data := Data.fields #[Value.str (Str.ofString "__get__") 217, Value.str (Str.ofString "_tuplegetter.__get__") 218, Value.str (Str.ofString "/claim/cut.py") 219, Value.int 11 0, Value.int 3 0, Value.int 0 0, Value.int 0 0, Value.int 3 0, Value.ref 37, Value.bool true, Value.int 181 0, Value.ref 38, Value.none, Value.ref 39, Value.ref 40, Value.ref 41, Value.int 223 0, Value.int 11 0, Value.str (Str.ofString "/claim/cut.py") 224] }
noncomputable def hd.o_79 : Params → Obj := fun _ => { cls := Value.type "function", data := Data.func { name := Str.ofString "__get__", qualname := Str.ofString "_tuplegetter.__get__", params := par_d2x1, body := FuncBody.stmts bod_d2x1, scope := sco_d2x1, globals := 3, closure := [], defaults := Value.ref 36, kwdefaults := Value.none, pyModule := Value.str (Str.ofString "bentley_ottmann._core.hints") 194, code := Value.ref 42 } }
noncomputable def hd.o_80 : Params → Obj := fun _ => { cls := Value.type "tuple", data := Data.seq #[] }
noncomputable def hd.o_81 : Params → Obj := fun _ => { cls := Value.none, data := Data.fields #[] }
noncomputable def hd.o_82 : Params → Obj := fun _ => { cls := Value.type "tuple", data := Data.seq #[Value.str (Str.ofString "self") 229, Value.str (Str.ofString "obj") 230, Value.str (Str.ofString "value") 231] }
noncomputable def hd.o_83 : Params → Obj := fun _ => { cls := Value.type "tuple", data := Data.seq #[] }
noncomputable def hd.o_84 : Params → Obj := fun _ => { cls := Value.none, data := Data.func { name := Str.ofString "__set__", qualname := Str.ofString "_tuplegetter.__set__", params := par_d2x2, body := FuncBody.stmts bod_d2x2, scope := sco_d2x2, globals := 0, closure := [], defaults := Value.none, kwdefaults := Value.none } }
noncomputable def hd.o_85 : Params → Obj := fun _ => { cls := Value.type "code", data := Data.fields #[Value.str (Str.ofString "__set__") 226, Value.str (Str.ofString "_tuplegetter.__set__") 227, Value.str (Str.ofString "/claim/cut.py") 228, Value.int 18 0, Value.int 3 0, Value.int 0 0, Value.int 0 0, Value.int 3 0, Value.ref 44, Value.bool true, Value.int 181 0, Value.ref 45, Value.none, Value.ref 46, Value.ref 47, Value.ref 48, Value.int 232 0, Value.int 18 0, Value.str (Str.ofString "/claim/cut.py") 233] }
noncomputable def hd.o_86 : Params → Obj := fun _ => { cls := Value.type "function", data := Data.func { name := Str.ofString "__set__", qualname := Str.ofString "_tuplegetter.__set__", params := par_d2x2, body := FuncBody.stmts bod_d2x2, scope := sco_d2x2, globals := 3, closure := [], defaults := Value.none, kwdefaults := Value.none, pyModule := Value.str (Str.ofString "bentley_ottmann._core.hints") 194, code := Value.ref 49 } }
noncomputable def hd.o_87 : Params → Obj := fun _ => { cls := Value.type "tuple", data := Data.seq #[] }
noncomputable def hd.o_88 : Params → Obj := fun _ => { cls := Value.none, data := Data.fields #[] }
noncomputable def hd.o_89 : Params → Obj := fun _ => { cls := Value.type "tuple", data := Data.seq #[Value.str (Str.ofString "self") 238, Value.str (Str.ofString "obj") 239] }
noncomputable def hd.o_90 : Params → Obj := fun _ => { cls := Value.type "tuple", data := Data.seq #[] }
noncomputable def hd.o_91 : Params → Obj := fun _ => { cls := Value.none, data := Data.func { name := Str.ofString "__delete__", qualname := Str.ofString "_tuplegetter.__delete__", params := par_d2x3, body := FuncBody.stmts bod_d2x3, scope := sco_d2x3, globals := 0, closure := [], defaults := Value.none, kwdefaults := Value.none } }
noncomputable def hd.o_92 : Params → Obj := fun _ => { cls := Value.type "code", data := Data.fields #[Value.str (Str.ofString "__delete__") 235, Value.str (Str.ofString "_tuplegetter.__delete__") 236, Value.str (Str.ofString "/claim/cut.py") 237, Value.int 21 0, Value.int 2 0, Value.int 0 0, Value.int 0 0, Value.int 3 0, Value.ref 51, Value.bool true, Value.int 181 0, Value.ref 52, Value.none, Value.ref 53, Value.ref 54, Value.ref 55, Value.int 240 0, Value.int 21 0, Value.str (Str.ofString "/claim/cut.py") 241] }
noncomputable def hd.o_93 : Params → Obj := fun _ => { cls := Value.type "function", data := Data.func { name := Str.ofString "__delete__", qualname := Str.ofString "_tuplegetter.__delete__", params := par_d2x3, body := FuncBody.stmts bod_d2x3, scope := sco_d2x3, globals := 3, closure := [], defaults := Value.none, kwdefaults := Value.none, pyModule := Value.str (Str.ofString "bentley_ottmann._core.hints") 194, code := Value.ref 56 } }
noncomputable def hd.o_94 : Params → Obj := fun _ => { cls := Value.type "tuple", data := Data.seq #[Value.str (Str.ofString "__doc__") 243, Value.str (Str.ofString "index") 244] }
noncomputable def hd.o_95 : Params → Obj := fun P => { cls := Value.type "dict", data := Data.dict #[{ hash := PyData.keyHash P (Str.ofString "__module__"), key := Value.str (Str.ofString "__module__") 203, val := Value.str (Str.ofString "bentley_ottmann._core.hints") 194 }, { hash := PyData.keyHash P (Str.ofString "__firstlineno__"), key := Value.str (Str.ofString "__firstlineno__") 207, val := Value.int 5 206 }, { hash := PyData.keyHash P (Str.ofString "__init__"), key := Value.str (Str.ofString "__init__") 216, val := Value.ref 35 }, { hash := PyData.keyHash P (Str.ofString "__get__"), key := Value.str (Str.ofString "__get__") 225, val := Value.ref 43 }, { hash := PyData.keyHash P (Str.ofString "__set__"), key := Value.str (Str.ofString "__set__") 234, val := Value.ref 50 }, { hash := PyData.keyHash P (Str.ofString "__delete__"), key := Value.str (Str.ofString "__delete__") 242, val := Value.ref 57 }, { hash := PyData.keyHash P (Str.ofString "__static_attributes__"), key := Value.str (Str.ofString "__static_attributes__") 245, val := Value.ref 58 }, { hash := PyData.keyHash P (Str.ofString "__dict__"), key := Value.str (Str.ofString "__dict__") 247, val := Value.ref 61 }, { hash := PyData.keyHash P (Str.ofString "__weakref__"), key := Value.str (Str.ofString "__weakref__") 249, val := Value.ref 62 }, { hash := PyData.keyHash P (Str.ofString "__doc__"), key := Value.str (Str.ofString "__doc__") 250, val := Value.none }] 4 }
noncomputable def hd.o_96 : Params → Obj := fun _ => { cls := Value.type "type", data := Data.cls { name := Str.ofString "_tuplegetter", bases := [Value.type "object"], mro := [Value.ref 60, Value.type "object"], ns := 59, qualname := Str.ofString "_tuplegetter" }, slots := #[none, none, some (Value.str (Str.ofString "_tuplegetter") 196), some (Value.str (Str.ofString "_tuplegetter") 204), some (Value.builtin "object.__new__"), some (Value.bool true)] }
noncomputable def hd.o_97 : Params → Obj := fun _ => { cls := Value.type "getset_descriptor", data := Data.fields #[Value.str (Str.ofString "__dict__") 246, Value.ref 60, Value.builtin "function.__dict__", Value.builtin "function.__dict__#set"] }
noncomputable def hd.o_98 : Params → Obj := fun _ => { cls := Value.type "getset_descriptor", data := Data.fields #[Value.str (Str.ofString "__weakref__") 248, Value.ref 60, Value.builtin "ExceptionGroup.__weakref__", Value.none] }
noncomputable def hd.o_99 : Params → Obj := fun _ => { cls := Value.type "super", data := Data.fields #[Value.ref 60, Value.ref 60, Value.ref 60] }
noncomputable def hd.o_100 : Params → Obj := fun _ => { cls := Value.type "builtin_function_or_method", data := Data.fields #[Value.builtin "object.__init_subclass__", Value.ref 60] }
noncomputable def hd.o_101 : Params → Obj := fun P => { cls := Value.type "dict", data := Data.dict #[{ hash := PyData.keyHash P (Str.ofString "__name__"), key := Value.str (Str.ofString "__name__") 165, val := Value.str (Str.ofString "bentley_ottmann._core.hints") 194 }, { hash := PyData.keyHash P (Str.ofString "__doc__"), key := Value.str (Str.ofString "__doc__") 166, val := Value.none }, { hash := PyData.keyHash P (Str.ofString "__package__"), key := Value.str (Str.ofString "__package__") 167, val := Value.none }, { hash := PyData.keyHash P (Str.ofString "__loader__"), key := Value.str (Str.ofString "__loader__") 168, val := Value.builtin "__main__.__loader__#opaque" }, { hash := PyData.keyHash P (Str.ofString "__spec__"), key := Value.str (Str.ofString "__spec__") 169, val := Value.none }, { hash := PyData.keyHash P (Str.ofString "__annotations__"), key := Value.str (Str.ofString "__annotations__") 170, val := Value.ref 6 }, { hash := PyData.keyHash P (Str.ofString "__builtins__"), key := Value.str (Str.ofString "__builtins__") 171, val := Value.ref 4 }, { hash := PyData.keyHash P (Str.ofString "__file__"), key := Value.str (Str.ofString "__file__") 173, val := Value.str (Str.ofString "/claim/cut.py") 172 }, { hash := PyData.keyHash P (Str.ofString "__cached__"), key := Value.str (Str.ofString "__cached__") 174, val := Value.none }, { hash := PyData.keyHash P (Str.ofString "_wall"), key := Value.str (Str.ofString "_wall") 193, val := Value.ref 21 }, { hash := PyData.keyHash P (Str.ofString "_tuplegetter"), key := Value.str (Str.ofString "_tuplegetter") 252, val := Value.ref 60 }, { hash := PyData.keyHash P (Str.ofString "Point"), key := Value.str (Str.ofString "Point") 367, val := Value.ref 132 }] 12 }
noncomputable def hd.o_102 : Params → Obj := fun _ => { cls := Value.none, data := Data.fields #[Value.int 1 0, Value.int 0 0, Value.ref 20, Value.int 5 0, Value.int 0 0, Value.ref 27, Value.int 23 0, Value.int 0 0, Value.ref 71] }
noncomputable def hd.o_103 : Params → Obj := fun _ => { cls := Value.type "tuple", data := Data.seq #[Value.type "tuple"] }
noncomputable def hd.o_104 : Params → Obj := fun _ => { cls := Value.type "builtin_function_or_method", data := Data.fields #[Value.builtin "type.__prepare__", Value.type "type"] }
noncomputable def hd.o_105 : Params → Obj := fun P => { cls := Value.type "dict", data := Data.dict #[{ hash := PyData.keyHash P (Str.ofString "__module__"), key := Value.str (Str.ofString "__module__") 260, val := Value.str (Str.ofString "bentley_ottmann._core.hints") 194 }, { hash := PyData.keyHash P (Str.ofString "__qualname__"), key := Value.str (Str.ofString "__qualname__") 262, val := Value.str (Str.ofString "Point") 261 }, { hash := PyData.keyHash P (Str.ofString "__firstlineno__"), key := Value.str (Str.ofString "__firstlineno__") 264, val := Value.int 23 263 }, { hash := PyData.keyHash P (Str.ofString "__doc__"), key := Value.str (Str.ofString "__doc__") 266, val := Value.str (Str.ofString "Point(x, y)") 265 }, { hash := PyData.keyHash P (Str.ofString "__slots__"), key := Value.str (Str.ofString "__slots__") 268, val := Value.ref 73 }, { hash := PyData.keyHash P (Str.ofString "_fields"), key := Value.str (Str.ofString "_fields") 271, val := Value.ref 74 }, { hash := PyData.keyHash P (Str.ofString "_field_defaults"), key := Value.str (Str.ofString "_field_defaults") 272, val := Value.ref 75 }, { hash := PyData.keyHash P (Str.ofString "__new__"), key := Value.str (Str.ofString "__new__") 282, val := Value.ref 82 }, { hash := PyData.keyHash P (Str.ofString "_make"), key := Value.str (Str.ofString "_make") 304, val := Value.ref 91 }, { hash := PyData.keyHash P (Str.ofString "_replace"), key := Value.str (Str.ofString "_replace") 315, val := Value.ref 100 }, { hash := PyData.keyHash P (Str.ofString "__replace__"), key := Value.str (Str.ofString "__replace__") 316, val := Value.ref 100 }, { hash := PyData.keyHash P (Str.ofString "__repr__"), key := Value.str (Str.ofString "__repr__") 324, val := Value.ref 107 }, { hash := PyData.keyHash P (Str.ofString "_asdict"), key := Value.str (Str.ofString "_asdict") 331, val := Value.ref 114 }, { hash := PyData.keyHash P (Str.ofString "__getnewargs__"), key := Value.str (Str.ofString "__getnewargs__") 339, val := Value.ref 121 }, { hash := PyData.keyHash P (Str.ofString "__match_args__"), key := Value.str (Str.ofString "__match_args__") 342, val := Value.ref 122 }, { hash := PyData.keyHash P (Str.ofString "x"), key := Value.str (Str.ofString "x") 352, val := Value.ref 124 }, { hash := PyData.keyHash P (Str.ofString "y"), key := Value.str (Str.ofString "y") 362, val := Value.ref 127 }, { hash := PyData.keyHash P (Str.ofString "__static_attributes__"), key := Value.str (Str.ofString "__static_attributes__") 363, val := Value.ref 129 }, { hash := PyData.keyHash P (Str.ofString "__classcell__"), key := Value.str (Str.ofString "__classcell__") 364, val := Value.ref 68 }] 19 }
noncomputable def hd.o_106 : Params → Obj := fun _ => { cls := Value.type "cell", data := Data.cell (some (Value.ref 132)) }
noncomputable def hd.o_107 : Params → Obj := fun _ => { cls := Value.type "tuple", data := Data.seq #[] }
noncomputable def hd.o_108 : Params → Obj := fun _ => { cls := Value.none, data := Data.fields #[Value.int 29 0, Value.int 4 0, Value.ref 81, Value.int 34 0, Value.int 4 0, Value.ref 88, Value.int 41 0, Value.int 4 0, Value.ref 99, Value.int 52 0, Value.int 4 0, Value.ref 106, Value.int 56 0, Value.int 4 0, Value.ref 113, Value.int 59 0, Value.int 4 0, Value.ref 120] }
noncomputable def hd.o_109 : Params → Obj := fun _ => { cls := Value.type "code", data := Data.fields #[Value.str (Str.ofString "Point") 255, Value.str (Str.ofString "Point") 256, Value.str (Str.ofString "/claim/cut.py") 257, Value.int 23 0, Value.int 0 0, Value.int 0 0, Value.int 0 0, Value.int 0 0, Value.ref 69, Value.bool false, Value.int 181 0, Value.ref 70, Value.none, Value.none, Value.none, Value.none, Value.int 258 0, Value.int 23 0, Value.str (Str.ofString "/claim/cut.py") 259] }
noncomputable def hd.o_110 : Params → Obj := fun _ => { cls := Value.type "frame", slots := #[some (Value.ref 71), some (Value.ref 3), some (Value.ref 67), none, some (Value.str (Str.ofString "bentley_ottmann._core.hints") 194), none, some (Value.ref 0)] }
noncomputable def hd.o_111 : Params → Obj := fun _ => { cls := Value.type "tuple", data := Data.seq #[] }
noncomputable def hd.o_112 : Params → Obj := fun _ => { cls := Value.type "tuple", data := Data.seq #[Value.str (Str.ofString "x") 269, Value.str (Str.ofString "y") 270] }
noncomputable def hd.o_113 : Params → Obj := fun _ => { cls := Value.type "dict", data := Data.dict #[] }
noncomputable def hd.o_114 : Params → Obj := fun _ => { cls := Value.type "tuple", data := Data.seq #[] }
noncomputable def hd.o_115 : Params → Obj := fun _ => { cls := Value.none, data := Data.fields #[] }
noncomputable def hd.o_116 : Params → Obj := fun _ => { cls := Value.type "tuple", data := Data.seq #[Value.str (Str.ofString "_cls") 276, Value.str (Str.ofString "x") 277, Value.str (Str.ofString "y") 278] }
noncomputable def hd.o_117 : Params → Obj := fun _ => { cls := Value.type "tuple", data := Data.seq #[] }
noncomputable def hd.o_118 : Params → Obj := fun _ => { cls := Value.none, data := Data.func { name := Str.ofString "__new__", qualname := Str.ofString "Point.__new__", params := par_d3x4, body := FuncBody.stmts bod_d3x4, scope := sco_d3x4, globals := 0, closure := [], defaults := Value.none, kwdefaults := Value.none } }
noncomputable def hd.o_119 : Params → Obj := fun _ => { cls := Value.type "code", data := Data.fields #[Value.str (Str.ofString "__new__") 273, Value.str (Str.ofString "Point.__new__") 274, Value.str (Str.ofString "/claim/cut.py") 275, Value.int 29 0, Value.int 3 0, Value.int 0 0, Value.int 0 0, Value.int 3 0, Value.ref 76, Value.bool true, Value.int 181 0, Value.ref 77, Value.none, Value.ref 78, Value.ref 79, Value.ref 80, Value.int 279 0, Value.int 29 0, Value.str (Str.ofString "/claim/cut.py") 280] }
noncomputable def hd.o_120 : Params → Obj := fun _ => { cls := Value.type "function", data := Data.func { name := Str.ofString "__new__", qualname := Str.ofString "Point.__new__", params := par_d3x4, body := FuncBody.stmts bod_d3x4, scope := sco_d3x4, globals := 3, closure := [], defaults := Value.none, kwdefaults := Value.none, doc := Value.str doc_0 281, pyModule := Value.str (Str.ofString "bentley_ottmann._core.hints") 194, code := Value.ref 81 } }
noncomputable def hd.o_121 : Params → Obj := fun _ => { cls := Value.type "tuple", data := Data.seq #[] }
noncomputable def hd.o_122 : Params → Obj := fun _ => { cls := Value.none, data := Data.fields #[] }
noncomputable def hd.o_123 : Params → Obj := fun _ => { cls := Value.type "tuple", data := Data.seq #[Value.str (Str.ofString "cls") 286, Value.str (Str.ofString "iterable") 287, Value.str (Str.ofString "result") 288] }
noncomputable def hd.o_124 : Params → Obj := fun _ => { cls := Value.type "tuple", data := Data.seq #[] }
noncomputable def hd.o_125 : Params → Obj := fun _ => { cls := Value.none, data := Data.func { name := Str.ofString "_make", qualname := Str.ofString "Point._make", params := par_d3x5, body := FuncBody.stmts bod_d3x5, scope := sco_d3x5, globals := 0, closure := [], defaults := Value.none, kwdefaults := Value.none } }
noncomputable def hd.o_126 : Params → Obj := fun _ => { cls := Value.type "code", data := Data.fields #[Value.str (Str.ofString "_make") 283, Value.str (Str.ofString "Point._make") 284, Value.str (Str.ofString "/claim/cut.py") 285, Value.int 33 0, Value.int 2 0, Value.int 0 0, Value.int 0 0, Value.int 3 0, Value.ref 83, Value.bool true, Value.int 181 0, Value.ref 84, Value.none, Value.ref 85, Value.ref 86, Value.ref 87, Value.int 289 0, Value.int 33 0, Value.str (Str.ofString "/claim/cut.py") 290] }
noncomputable def hd.o_127 : Params → Obj := fun _ => { cls := Value.type "function", data := Data.func { name := Str.ofString "_make", qualname := Str.ofString "Point._make", params := par_d3x5, body := FuncBody.stmts bod_d3x5, scope := sco_d3x5, globals := 3, closure := [], defaults := Value.none, kwdefaults := Value.none, doc := Value.str doc_1 291, pyModule := Value.str (Str.ofString "bentley_ottmann._core.hints") 194, annotations := some 92, code := Value.ref 88 } }
noncomputable def hd.o_128 : Params → Obj := fun P => { cls := Value.type "dict", data := Data.dict #[{ hash := PyData.keyHash P (Str.ofString "__module__"), key := Value.str (Str.ofString "__module__") 293, val := Value.str (Str.ofString "bentley_ottmann._core.hints") 194 }, { hash := PyData.keyHash P (Str.ofString "__name__"), key := Value.str (Str.ofString "__name__") 296, val := Value.str (Str.ofString "_make") 295 }, { hash := PyData.keyHash P (Str.ofString "__qualname__"), key := Value.str (Str.ofString "__qualname__") 299, val := Value.str (Str.ofString "Point._make") 298 }, { hash := PyData.keyHash P (Str.ofString "__doc__"), key := Value.str (Str.ofString "__doc__") 301, val := Value.str doc_1 291 }, { hash := PyData.keyHash P (Str.ofString "__annotations__"), key := Value.str (Str.ofString "__annotations__") 303, val := Value.ref 92 }] 5 }
noncomputable def hd.o_129 : Params → Obj := fun _ => { cls := Value.type "classmethod", dict := some 90, data := Data.fields #[Value.ref 89, Value.bool false] }
noncomputable def hd.o_130 : Params → Obj := fun _ => { cls := Value.type "dict", data := Data.dict #[] }
noncomputable def hd.o_131 : Params → Obj := fun _ => { cls := Value.type "tuple", data := Data.seq #[Value.ref 68] }
noncomputable def hd.o_132 : Params → Obj := fun _ => { cls := Value.type "tuple", data := Data.seq #[Value.str (Str.ofString "__class__") 308] }
noncomputable def hd.o_133 : Params → Obj := fun _ => { cls := Value.none, data := Data.fields #[] }
noncomputable def hd.o_134 : Params → Obj := fun _ => { cls := Value.type "tuple", data := Data.seq #[Value.str (Str.ofString "self") 309, Value.str (Str.ofString "kwds") 310, Value.str (Str.ofString "result") 311] }
noncomputable def hd.o_135 : Params → Obj := fun _ => { cls := Value.type "tuple", data := Data.seq #[] }
noncomputable def hd.o_136 : Params → Obj := fun _ => { cls := Value.none, data := Data.func { name := Str.ofString "_replace", qualname := Str.ofString "Point._replace", params := par_d3x6, body := FuncBody.stmts bod_d3x6, scope := sco_d3x6, globals := 0, closure := [], defaults := Value.none, kwdefaults := Value.none } }
noncomputable def hd.o_137 : Params → Obj := fun _ => { cls := Value.type "code", data := Data.fields #[Value.str (Str.ofString "_replace") 305, Value.str (Str.ofString "Point._replace") 306, Value.str (Str.ofString "/claim/cut.py") 307, Value.int 41 0, Value.int 1 0, Value.int 1 0, Value.int 0 0, Value.int 11 0, Value.ref 94, Value.bool true, Value.int 181 0, Value.ref 95, Value.none, Value.ref 96, Value.ref 97, Value.ref 98, Value.int 312 0, Value.int 41 0, Value.str (Str.ofString "/claim/cut.py") 313] }
noncomputable def hd.o_138 : Params → Obj := fun _ => { cls := Value.type "function", data := Data.func { name := Str.ofString "_replace", qualname := Str.ofString "Point._replace", params := par_d3x6, body := FuncBody.stmts bod_d3x6, scope := sco_d3x6, globals := 3, closure := [(Str.ofString "__class__", 68)], defaults := Value.none, kwdefaults := Value.none, doc := Value.str doc_2 314, pyModule := Value.str (Str.ofString "bentley_ottmann._core.hints") 194, code := Value.ref 99, closureTuple := Value.ref 93 } }
noncomputable def hd.o_139 : Params → Obj := fun _ => { cls := Value.type "tuple", data := Data.seq #[] }
noncomputable def hd.o_140 : Params → Obj := fun _ => { cls := Value.none, data := Data.fields #[] }
noncomputable def hd.o_141 : Params → Obj := fun _ => { cls := Value.type "tuple", data := Data.seq #[Value.str (Str.ofString "self") 320] }
noncomputable def hd.o_142 : Params → Obj := fun _ => { cls := Value.type "tuple", data := Data.seq #[] }
noncomputable def hd.o_143 : Params → Obj := fun _ => { cls := Value.none, data := Data.func { name := Str.ofString "__repr__", qualname := Str.ofString "Point.__repr__", params := par_d3x8, body := FuncBody.stmts bod_d3x8, scope := sco_d3x8, globals := 0, closure := [], defaults := Value.none, kwdefaults := Value.none } }
noncomputable def hd.o_144 : Params → Obj := fun _ => { cls := Value.type "code", data := Data.fields #[Value.str (Str.ofString "__repr__") 317, Value.str (Str.ofString "Point.__repr__") 318, Value.str (Str.ofString "/claim/cut.py") 319, Value.int 52 0, Value.int 1 0, Value.int 0 0, Value.int 0 0, Value.int 3 0, Value.ref 101, Value.bool true, Value.int 181 0, Value.ref 102, Value.none, Value.ref 103, Value.ref 104, Value.ref 105, Value.int 321 0, Value.int 52 0, Value.str (Str.ofString "/claim/cut.py") 322] }
noncomputable def hd.o_145 : Params → Obj := fun _ => { cls := Value.type "function", data := Data.func { name := Str.ofString "__repr__", qualname := Str.ofString "Point.__repr__", params := par_d3x8, body := FuncBody.stmts bod_d3x8, scope := sco_d3x8, globals := 3, closure := [], defaults := Value.none, kwdefaults := Value.none, doc := Value.str doc_3 323, pyModule := Value.str (Str.ofString "bentley_ottmann._core.hints") 194, code := Value.ref 106 } }
noncomputable def hd.o_146 : Params → Obj := fun _ => { cls := Value.type "tuple", data := Data.seq #[] }
noncomputable def hd.o_147 : Params → Obj := fun _ => { cls := Value.none, data := Data.fields #[] }
noncomputable def hd.o_148 : Params → Obj := fun _ => { cls := Value.type "tuple", data := Data.seq #[Value.str (Str.ofString "self") 328] }
noncomputable def hd.o_149 : Params → Obj := fun _ => { cls := Value.type "tuple", data := Data.seq #[] }
noncomputable def hd.o_150 : Params → Obj := fun _ => { cls := Value.none, data := Data.func { name := Str.ofString "_asdict", qualname := Str.ofString "Point._asdict", params := par_d3x9, body := FuncBody.stmts bod_d3x9, scope := sco_d3x9, globals := 0, closure := [], defaults := Value.none, kwdefaults := Value.none } }
noncomputable def hd.o_151 : Params → Obj := fun _ => { cls := Value.type "code", data := Data.fields #[Value.str (Str.ofString "_asdict") 325, Value.str (Str.ofString "Point._asdict") 326, Value.str (Str.ofString "/claim/cut.py") 327, Value.int 56 0, Value.int 1 0, Value.int 0 0, Value.int 0 0, Value.int 3 0, Value.ref 108, Value.bool true, Value.int 181 0, Value.ref 109, Value.none, Value.ref 110, Value.ref 111, Value.ref 112, Value.int 329 0, Value.int 56 0, Value.str (Str.ofString "/claim/cut.py") 330] }
noncomputable def hd.o_152 : Params → Obj := fun _ => { cls := Value.type "function", data := Data.func { name := Str.ofString "_asdict", qualname := Str.ofString "Point._asdict", params := par_d3x9, body := FuncBody.stmts bod_d3x9, scope := sco_d3x9, globals := 3, closure := [], defaults := Value.none, kwdefaults := Value.none, pyModule := Value.str (Str.ofString "bentley_ottmann._core.hints") 194, code := Value.ref 113 } }
noncomputable def hd.o_153 : Params → Obj := fun _ => { cls := Value.type "tuple", data := Data.seq #[] }
noncomputable def hd.o_154 : Params → Obj := fun _ => { cls := Value.none, data := Data.fields #[] }
noncomputable def hd.o_155 : Params → Obj := fun _ => { cls := Value.type "tuple", data := Data.seq #[Value.str (Str.ofString "self") 335] }
noncomputable def hd.o_156 : Params → Obj := fun _ => { cls := Value.type "tuple", data := Data.seq #[] }
noncomputable def hd.o_157 : Params → Obj := fun _ => { cls := Value.none, data := Data.func { name := Str.ofString "__getnewargs__", qualname := Str.ofString "Point.__getnewargs__", params := par_d3x10, body := FuncBody.stmts bod_d3x10, scope := sco_d3x10, globals := 0, closure := [], defaults := Value.none, kwdefaults := Value.none } }
noncomputable def hd.o_158 : Params → Obj := fun _ => { cls := Value.type "code", data := Data.fields #[Value.str (Str.ofString "__getnewargs__") 332, Value.str (Str.ofString "Point.__getnewargs__") 333, Value.str (Str.ofString "/claim/cut.py") 334, Value.int 59 0, Value.int 1 0, Value.int 0 0, Value.int 0 0, Value.int 3 0, Value.ref 115, Value.bool true, Value.int 181 0, Value.ref 116, Value.none, Value.ref 117, Value.ref 118, Value.ref 119, Value.int 336 0, Value.int 59 0, Value.str (Str.ofString "/claim/cut.py") 337] }
noncomputable def hd.o_159 : Params → Obj := fun _ => { cls := Value.type "function", data := Data.func { name := Str.ofString "__getnewargs__", qualname := Str.ofString "Point.__getnewargs__", params := par_d3x10, body := FuncBody.stmts bod_d3x10, scope := sco_d3x10, globals := 3, closure := [], defaults := Value.none, kwdefaults := Value.none, doc := Value.str doc_4 338, pyModule := Value.str (Str.ofString "bentley_ottmann._core.hints") 194, code := Value.ref 120 } }
noncomputable def hd.o_160 : Params → Obj := fun _ => { cls := Value.type "tuple", data := Data.seq #[Value.str (Str.ofString "x") 340, Value.str (Str.ofString "y") 341] }
noncomputable def hd.o_161 : Params → Obj := fun P => { cls := Value.type "dict", data := Data.dict #[{ hash := PyData.keyHash P (Str.ofString "index"), key := Value.str (Str.ofString "index") 349, val := Value.int 0 343 }, { hash := PyData.keyHash P (Str.ofString "__doc__"), key := Value.str (Str.ofString "__doc__") 351, val := Value.str (Str.ofString "Alias for field number 0") 344 }] 2 }
noncomputable def hd.o_162 : Params → Obj := fun _ => { cls := Value.ref 60, dict := some 123 }
noncomputable def hd.o_163 : Params → Obj := fun P => { cls := Value.type "frame", data := Data.dict #[{ hash := PyData.keyHash P (Str.ofString "self"), key := Value.str (Str.ofString "self") 345, val := Value.ref 124 }, { hash := PyData.keyHash P (Str.ofString "index"), key := Value.str (Str.ofString "index") 346, val := Value.int 0 343 }, { hash := PyData.keyHash P (Str.ofString "doc"), key := Value.str (Str.ofString "doc") 347, val := Value.str (Str.ofString "Alias for field number 0") 344 }] 3 }
noncomputable def hd.o_164 : Params → Obj := fun P => { cls := Value.type "dict", data := Data.dict #[{ hash := PyData.keyHash P (Str.ofString "index"), key := Value.str (Str.ofString "index") 359, val := Value.int 1 353 }, { hash := PyData.keyHash P (Str.ofString "__doc__"), key := Value.str (Str.ofString "__doc__") 361, val := Value.str (Str.ofString "Alias for field number 1") 354 }] 2 }
noncomputable def hd.o_165 : Params → Obj := fun _ => { cls := Value.ref 60, dict := some 126 }
noncomputable def hd.o_166 : Params → Obj := fun P => { cls := Value.type "frame", data := Data.dict #[{ hash := PyData.keyHash P (Str.ofString "self"), key := Value.str (Str.ofString "self") 355, val := Value.ref 127 }, { hash := PyData.keyHash P (Str.ofString "index"), key := Value.str (Str.ofString "index") 356, val := Value.int 1 353 }, { hash := PyData.keyHash P (Str.ofString "doc"), key := Value.str (Str.ofString "doc") 357, val := Value.str (Str.ofString "Alias for field number 1") 354 }] 3 }
noncomputable def hd.o_167 : Params → Obj := fun _ => { cls := Value.type "tuple", data := Data.seq #[] }
noncomputable def hd.o_168 : Params → Obj := fun _ => { cls := Value.type "list", data := Data.seq #[] }
noncomputable def hd.o_169 : Params → Obj := fun P => { cls := Value.type "dict", data := Data.dict #[{ hash := PyData.keyHash P (Str.ofString "__module__"), key := Value.str (Str.ofString "__module__") 260, val := Value.str (Str.ofString "bentley_ottmann._core.hints") 194 }, { hash := PyData.keyHash P (Str.ofString "__firstlineno__"), key := Value.str (Str.ofString "__firstlineno__") 264, val := Value.int 23 263 }, { hash := PyData.keyHash P (Str.ofString "__doc__"), key := Value.str (Str.ofString "__doc__") 266, val := Value.str (Str.ofString "Point(x, y)") 265 }, { hash := PyData.keyHash P (Str.ofString "__slots__"), key := Value.str (Str.ofString "__slots__") 268, val := Value.ref 73 }, { hash := PyData.keyHash P (Str.ofString "_fields"), key := Value.str (Str.ofString "_fields") 271, val := Value.ref 74 }, { hash := PyData.keyHash P (Str.ofString "_field_defaults"), key := Value.str (Str.ofString "_field_defaults") 272, val := Value.ref 75 }, { hash := PyData.keyHash P (Str.ofString "__new__"), key := Value.str (Str.ofString "__new__") 282, val := Value.ref 133 }, { hash := PyData.keyHash P (Str.ofString "_make"), key := Value.str (Str.ofString "_make") 304, val := Value.ref 91 }, { hash := PyData.keyHash P (Str.ofString "_replace"), key := Value.str (Str.ofString "_replace") 315, val := Value.ref 100 }, { hash := PyData.keyHash P (Str.ofString "__replace__"), key := Value.str (Str.ofString "__replace__") 316, val := Value.ref 100 }, { hash := PyData.keyHash P (Str.ofString "__repr__"), key := Value.str (Str.ofString "__repr__") 324, val := Value.ref 107 }, { hash := PyData.keyHash P (Str.ofString "_asdict"), key := Value.str (Str.ofString "_asdict") 331, val := Value.ref 114 }, { hash := PyData.keyHash P (Str.ofString "__getnewargs__"), key := Value.str (Str.ofString "__getnewargs__") 339, val := Value.ref 121 }, { hash := PyData.keyHash P (Str.ofString "__match_args__"), key := Value.str (Str.ofString "__match_args__") 342, val := Value.ref 122 }, { hash := PyData.keyHash P (Str.ofString "x"), key := Value.str (Str.ofString "x") 352, val := Value.ref 124 }, { hash := PyData.keyHash P (Str.ofString "y"), key := Value.str (Str.ofString "y") 362, val := Value.ref 127 }, { hash := PyData.keyHash P (Str.ofString "__static_attributes__"), key := Value.str (Str.ofString "__static_attributes__") 363, val := Value.ref 129 }] 2 }
noncomputable def hd.o_170 : Params → Obj := fun _ => { cls := Value.type "type", data := Data.cls { name := Str.ofString "Point", bases := [Value.type "tuple"], mro := [Value.ref 132, Value.type "tuple", Value.type "object"], ns := 131, qualname := Str.ofString "Point", hasDict := false }, slots := #[some (Value.ref 65), none, some (Value.str (Str.ofString "Point") 253), some (Value.str (Str.ofString "Point") 261), some Value.none, some (Value.bool false)] }
noncomputable def hd.o_171 : Params → Obj := fun _ => { cls := Value.type "staticmethod", data := Data.fields #[Value.ref 82] }
noncomputable def hd.o_172 : Params → Obj := fun _ => { cls := Value.type "super", data := Data.fields #[Value.ref 132, Value.ref 132, Value.ref 132] }
noncomputable def hd.o_173 : Params → Obj := fun _ => { cls := Value.type "builtin_function_or_method", data := Data.fields #[Value.builtin "object.__init_subclass__", Value.ref 132] }
noncomputable def hd.o_229 : Params → Obj := fun _ => { cls := Value.type "tuple", data := Data.seq #[] }
noncomputable def hd.o_230 : Params → Obj := fun _ => { cls := Value.type "builtin_function_or_method", data := Data.fields #[Value.builtin "type.__prepare__", Value.type "type"] }
noncomputable def hd.o_231 : Params → Obj := fun P => { cls := Value.type "dict", data := Data.dict #[{ hash := PyData.keyHash P (Str.ofString "__module__"), key := Value.str (Str.ofString "__module__") 375, val := Value.str (Str.ofString "bentley_ottmann._core.hints") 194 }, { hash := PyData.keyHash P (Str.ofString "__qualname__"), key := Value.str (Str.ofString "__qualname__") 377, val := Value.str (Str.ofString "Kind") 376 }, { hash := PyData.keyHash P (Str.ofString "__firstlineno__"), key := Value.str (Str.ofString "__firstlineno__") 379, val := Value.int 65 378 }, { hash := PyData.keyHash P (Str.ofString "__doc__"), key := Value.str (Str.ofString "__doc__") 381, val := Value.str doc_7 380 }, { hash := PyData.keyHash P (Str.ofString "__init__"), key := Value.str (Str.ofString "__init__") 390, val := Value.ref 149 }, { hash := PyData.keyHash P (Str.ofString "__static_attributes__"), key := Value.str (Str.ofString "__static_attributes__") 392, val := Value.ref 150 }] 6 }
noncomputable def hd.o_232 : Params → Obj := fun _ => { cls := Value.type "tuple", data := Data.seq #[] }
noncomputable def hd.o_233 : Params → Obj := fun _ => { cls := Value.none, data := Data.fields #[Value.int 68 0, Value.int 4 0, Value.ref 148] }
noncomputable def hd.o_234 : Params → Obj := fun _ => { cls := Value.type "code", data := Data.fields #[Value.str (Str.ofString "Kind") 370, Value.str (Str.ofString "Kind") 371, Value.str (Str.ofString "/claim/cut.py") 372, Value.int 65 0, Value.int 0 0, Value.int 0 0, Value.int 0 0, Value.int 0 0, Value.ref 139, Value.bool false, Value.int 181 0, Value.ref 140, Value.none, Value.none, Value.none, Value.none, Value.int 373 0, Value.int 65 0, Value.str (Str.ofString "/claim/cut.py") 374] }
noncomputable def hd.o_235 : Params → Obj := fun _ => { cls := Value.type "frame", slots := #[some (Value.ref 141), some (Value.ref 3), some (Value.ref 138), none, some (Value.str (Str.ofString "bentley_ottmann._core.hints") 194), none, some (Value.ref 0)] }
noncomputable def hd.o_236 : Params → Obj := fun _ => { cls := Value.type "tuple", data := Data.seq #[] }
noncomputable def hd.o_237 : Params → Obj := fun _ => { cls := Value.none, data := Data.fields #[] }
noncomputable def hd.o_238 : Params → Obj := fun _ => { cls := Value.type "tuple", data := Data.seq #[Value.str (Str.ofString "self") 386, Value.str (Str.ofString "value") 387] }
noncomputable def hd.o_239 : Params → Obj := fun _ => { cls := Value.type "tuple", data := Data.seq #[] }
noncomputable def hd.o_240 : Params → Obj := fun _ => { cls := Value.none, data := Data.func { name := Str.ofString "__init__", qualname := Str.ofString "Kind.__init__", params := par_d4x1, body := FuncBody.stmts bod_d4x1, scope := sco_d4x1, globals := 0, closure := [], defaults := Value.none, kwdefaults := Value.none } }
noncomputable def hd.o_241 : Params → Obj := fun _ => { cls := Value.type "code", data := Data.fields #[Value.str (Str.ofString "__init__") 383, Value.str (Str.ofString "Kind.__init__") 384, Value.str (Str.ofString "/claim/cut.py") 385, Value.int 68 0, Value.int 2 0, Value.int 0 0, Value.int 0 0, Value.int 3 0, Value.ref 143, Value.bool true, Value.int 181 0, Value.ref 144, Value.none, Value.ref 145, Value.ref 146, Value.ref 147, Value.int 388 0, Value.int 68 0, Value.str (Str.ofString "/claim/cut.py") 389] }
noncomputable def hd.o_242 : Params → Obj := fun _ => { cls := Value.type "function", data := Data.func { name := Str.ofString "__init__", qualname := Str.ofString "Kind.__init__", params := par_d4x1, body := FuncBody.stmts bod_d4x1, scope := sco_d4x1, globals := 3, closure := [], defaults := Value.none, kwdefaults := Value.none, pyModule := Value.str (Str.ofString "bentley_ottmann._core.hints") 194, code := Value.ref 148 } }
noncomputable def hd.o_243 : Params → Obj := fun _ => { cls := Value.type "tuple", data := Data.seq #[Value.str (Str.ofString "value") 391] }
noncomputable def hd.o_244 : Params → Obj := fun P => { cls := Value.type "dict", data := Data.dict #[{ hash := PyData.keyHash P (Str.ofString "__module__"), key := Value.str (Str.ofString "__module__") 375, val := Value.str (Str.ofString "bentley_ottmann._core.hints") 194 }, { hash := PyData.keyHash P (Str.ofString "__firstlineno__"), key := Value.str (Str.ofString "__firstlineno__") 379, val := Value.int 65 378 }, { hash := PyData.keyHash P (Str.ofString "__doc__"), key := Value.str (Str.ofString "__doc__") 381, val := Value.str doc_7 380 }, { hash := PyData.keyHash P (Str.ofString "__init__"), key := Value.str (Str.ofString "__init__") 390, val := Value.ref 149 }, { hash := PyData.keyHash P (Str.ofString "__static_attributes__"), key := Value.str (Str.ofString "__static_attributes__") 392, val := Value.ref 150 }, { hash := PyData.keyHash P (Str.ofString "__dict__"), key := Value.str (Str.ofString "__dict__") 394, val := Value.ref 153 }, { hash := PyData.keyHash P (Str.ofString "__weakref__"), key := Value.str (Str.ofString "__weakref__") 396, val := Value.ref 154 }] 3 }
noncomputable def hd.o_245 : Params → Obj := fun _ => { cls := Value.type "type", data := Data.cls { name := Str.ofString "Kind", bases := [Value.type "object"], mro := [Value.ref 152, Value.type "object"], ns := 151, qualname := Str.ofString "Kind" }, slots := #[none, none, some (Value.str (Str.ofString "Kind") 368), some (Value.str (Str.ofString "Kind") 376), some (Value.builtin "object.__new__"), some (Value.bool true)] }
noncomputable def hd.o_246 : Params → Obj := fun _ => { cls := Value.type "getset_descriptor", data := Data.fields #[Value.str (Str.ofString "__dict__") 393, Value.ref 152, Value.builtin "function.__dict__", Value.builtin "function.__dict__#set"] }
noncomputable def hd.o_247 : Params → Obj := fun _ => { cls := Value.type "getset_descriptor", data := Data.fields #[Value.str (Str.ofString "__weakref__") 395, Value.ref 152, Value.builtin "ExceptionGroup.__weakref__", Value.none] }
noncomputable def hd.o_248 : Params → Obj := fun _ => { cls := Value.type "super", data := Data.fields #[Value.ref 152, Value.ref 152, Value.ref 152] }
noncomputable def hd.o_249 : Params → Obj := fun _ => { cls := Value.type "builtin_function_or_method", data := Data.fields #[Value.builtin "object.__init_subclass__", Value.ref 152] }
noncomputable def hd.o_252 : Params → Obj := fun _ => { cls := Value.type "tuple", data := Data.seq #[] }
noncomputable def hd.o_253 : Params → Obj := fun _ => { cls := Value.type "builtin_function_or_method", data := Data.fields #[Value.builtin "type.__prepare__", Value.type "type"] }
noncomputable def hd.o_254 : Params → Obj := fun P => { cls := Value.type "dict", data := Data.dict #[{ hash := PyData.keyHash P (Str.ofString "__module__"), key := Value.str (Str.ofString "__module__") 406, val := Value.str (Str.ofString "bentley_ottmann._core.hints") 194 }, { hash := PyData.keyHash P (Str.ofString "__qualname__"), key := Value.str (Str.ofString "__qualname__") 408, val := Value.str (Str.ofString "Orientation") 407 }, { hash := PyData.keyHash P (Str.ofString "__firstlineno__"), key := Value.str (Str.ofString "__firstlineno__") 410, val := Value.int 70 409 }, { hash := PyData.keyHash P (Str.ofString "CLOCKWISE"), key := Value.str (Str.ofString "CLOCKWISE") 417, val := Value.ref 165 }, { hash := PyData.keyHash P (Str.ofString "COLLINEAR"), key := Value.str (Str.ofString "COLLINEAR") 423, val := Value.ref 168 }, { hash := PyData.keyHash P (Str.ofString "COUNTERCLOCKWISE"), key := Value.str (Str.ofString "COUNTERCLOCKWISE") 429, val := Value.ref 171 }, { hash := PyData.keyHash P (Str.ofString "__static_attributes__"), key := Value.str (Str.ofString "__static_attributes__") 430, val := Value.ref 173 }] 7 }
noncomputable def hd.o_255 : Params → Obj := fun _ => { cls := Value.type "tuple", data := Data.seq #[] }
noncomputable def hd.o_256 : Params → Obj := fun _ => { cls := Value.none, data := Data.fields #[] }
noncomputable def hd.o_257 : Params → Obj := fun _ => { cls := Value.type "code", data := Data.fields #[Value.str (Str.ofString "Orientation") 401, Value.str (Str.ofString "Orientation") 402, Value.str (Str.ofString "/claim/cut.py") 403, Value.int 70 0, Value.int 0 0, Value.int 0 0, Value.int 0 0, Value.int 0 0, Value.ref 160, Value.bool false, Value.int 181 0, Value.ref 161, Value.none, Value.none, Value.none, Value.none, Value.int 404 0, Value.int 70 0, Value.str (Str.ofString "/claim/cut.py") 405] }
noncomputable def hd.o_258 : Params → Obj := fun _ => { cls := Value.type "frame", slots := #[some (Value.ref 162), some (Value.ref 3), some (Value.ref 159), none, some (Value.str (Str.ofString "bentley_ottmann._core.hints") 194), none, some (Value.ref 0)] }
noncomputable def hd.o_259 : Params → Obj := fun P => { cls := Value.type "dict", data := Data.dict #[{ hash := PyData.keyHash P (Str.ofString "value"), key := Value.str (Str.ofString "value") 416, val := Value.int (-1) 412 }] 1 }
noncomputable def hd.o_260 : Params → Obj := fun _ => { cls := Value.ref 152, dict := some 164 }
noncomputable def hd.o_261 : Params → Obj := fun P => { cls := Value.type "frame", data := Data.dict #[{ hash := PyData.keyHash P (Str.ofString "self"), key := Value.str (Str.ofString "self") 413, val := Value.ref 165 }, { hash := PyData.keyHash P (Str.ofString "value"), key := Value.str (Str.ofString "value") 414, val := Value.int (-1) 412 }] 2 }
noncomputable def hd.o_262 : Params → Obj := fun P => { cls := Value.type "dict", data := Data.dict #[{ hash := PyData.keyHash P (Str.ofString "value"), key := Value.str (Str.ofString "value") 422, val := Value.int 0 418 }] 1 }
noncomputable def hd.o_263 : Params → Obj := fun _ => { cls := Value.ref 152, dict := some 167 }
noncomputable def hd.o_264 : Params → Obj := fun P => { cls := Value.type "frame", data := Data.dict #[{ hash := PyData.keyHash P (Str.ofString "self"), key := Value.str (Str.ofString "self") 419, val := Value.ref 168 }, { hash := PyData.keyHash P (Str.ofString "value"), key := Value.str (Str.ofString "value") 420, val := Value.int 0 418 }] 2 }
noncomputable def hd.o_265 : Params → Obj := fun P => { cls := Value.type "dict", data := Data.dict #[{ hash := PyData.keyHash P (Str.ofString "value"), key := Value.str (Str.ofString "value") 428, val := Value.int 1 424 }] 1 }
noncomputable def hd.o_266 : Params → Obj := fun _ => { cls := Value.ref 152, dict := some 170 }
noncomputable def hd.o_267 : Params → Obj := fun P => { cls := Value.type "frame", data := Data.dict #[{ hash := PyData.keyHash P (Str.ofString "self"), key := Value.str (Str.ofString "self") 425, val := Value.ref 171 }, { hash := PyData.keyHash P (Str.ofString "value"), key := Value.str (Str.ofString "value") 426, val := Value.int 1 424 }] 2 }
noncomputable def hd.o_268 : Params → Obj := fun _ => { cls := Value.type "tuple", data := Data.seq #[] }
noncomputable def hd.o_269 : Params → Obj := fun P => { cls := Value.type "dict", data := Data.dict #[{ hash := PyData.keyHash P (Str.ofString "__module__"), key := Value.str (Str.ofString "__module__") 406, val := Value.str (Str.ofString "bentley_ottmann._core.hints") 194 }, { hash := PyData.keyHash P (Str.ofString "__firstlineno__"), key := Value.str (Str.ofString "__firstlineno__") 410, val := Value.int 70 409 }, { hash := PyData.keyHash P (Str.ofString "CLOCKWISE"), key := Value.str (Str.ofString "CLOCKWISE") 417, val := Value.ref 165 }, { hash := PyData.keyHash P (Str.ofString "COLLINEAR"), key := Value.str (Str.ofString "COLLINEAR") 423, val := Value.ref 168 }, { hash := PyData.keyHash P (Str.ofString "COUNTERCLOCKWISE"), key := Value.str (Str.ofString "COUNTERCLOCKWISE") 429, val := Value.ref 171 }, { hash := PyData.keyHash P (Str.ofString "__static_attributes__"), key := Value.str (Str.ofString "__static_attributes__") 430, val := Value.ref 173 }, { hash := PyData.keyHash P (Str.ofString "__dict__"), key := Value.str (Str.ofString "__dict__") 432, val := Value.ref 176 }, { hash := PyData.keyHash P (Str.ofString "__weakref__"), key := Value.str (Str.ofString "__weakref__") 434, val := Value.ref 177 }, { hash := PyData.keyHash P (Str.ofString "__doc__"), key := Value.str (Str.ofString "__doc__") 435, val := Value.none }] 4 }
noncomputable def hd.o_270 : Params → Obj := fun _ => { cls := Value.type "type", data := Data.cls { name := Str.ofString "Orientation", bases := [Value.type "object"], mro := [Value.ref 175, Value.type "object"], ns := 174, qualname := Str.ofString "Orientation" }, slots := #[none, none, some (Value.str (Str.ofString "Orientation") 399), some (Value.str (Str.ofString "Orientation") 407), some (Value.builtin "object.__new__"), some (Value.bool true)] }
noncomputable def hd.o_271 : Params → Obj := fun _ => { cls := Value.type "getset_descriptor", data := Data.fields #[Value.str (Str.ofString "__dict__") 431, Value.ref 175, Value.builtin "function.__dict__", Value.builtin "function.__dict__#set"] }
noncomputable def hd.o_272 : Params → Obj := fun _ => { cls := Value.type "getset_descriptor", data := Data.fields #[Value.str (Str.ofString "__weakref__") 433, Value.ref 175, Value.builtin "ExceptionGroup.__weakref__", Value.none] }
noncomputable def hd.o_273 : Params → Obj := fun _ => { cls := Value.type "super", data := Data.fields #[Value.ref 175, Value.ref 175, Value.ref 175] }
noncomputable def hd.o_274 : Params → Obj := fun _ => { cls := Value.type "builtin_function_or_method", data := Data.fields #[Value.builtin "object.__init_subclass__", Value.ref 175] }
noncomputable def hd.o_275 : Params → Obj := fun P => { cls := Value.type "dict", data := Data.dict #[{ hash := PyData.keyHash P (Str.ofString "__name__"), key := Value.str (Str.ofString "__name__") 165, val := Value.str (Str.ofString "bentley_ottmann._core.sweep_line_key") 498 }, { hash := PyData.keyHash P (Str.ofString "__doc__"), key := Value.str (Str.ofString "__doc__") 166, val := Value.none }, { hash := PyData.keyHash P (Str.ofString "__package__"), key := Value.str (Str.ofString "__package__") 167, val := Value.none }, { hash := PyData.keyHash P (Str.ofString "__loader__"), key := Value.str (Str.ofString "__loader__") 168, val := Value.builtin "__main__.__loader__#opaque" }, { hash := PyData.keyHash P (Str.ofString "__spec__"), key := Value.str (Str.ofString "__spec__") 169, val := Value.none }, { hash := PyData.keyHash P (Str.ofString "__annotations__"), key := Value.str (Str.ofString "__annotations__") 170, val := Value.ref 6 }, { hash := PyData.keyHash P (Str.ofString "__builtins__"), key := Value.str (Str.ofString "__builtins__") 171, val := Value.ref 4 }, { hash := PyData.keyHash P (Str.ofString "__file__"), key := Value.str (Str.ofString "__file__") 173, val := Value.str (Str.ofString "/claim/cut.py") 172 }, { hash := PyData.keyHash P (Str.ofString "__cached__"), key := Value.str (Str.ofString "__cached__") 174, val := Value.none }, { hash := PyData.keyHash P (Str.ofString "_wall"), key := Value.str (Str.ofString "_wall") 193, val := Value.ref 21 }, { hash := PyData.keyHash P (Str.ofString "_tuplegetter"), key := Value.str (Str.ofString "_tuplegetter") 252, val := Value.ref 60 }, { hash := PyData.keyHash P (Str.ofString "Point"), key := Value.str (Str.ofString "Point") 367, val := Value.ref 132 }, { hash := PyData.keyHash P (Str.ofString "Kind"), key := Value.str (Str.ofString "Kind") 398, val := Value.ref 152 }, { hash := PyData.keyHash P (Str.ofString "Orientation"), key := Value.str (Str.ofString "Orientation") 437, val := Value.ref 175 }, { hash := PyData.keyHash P (Str.ofString "Context"), key := Value.str (Str.ofString "Context") 497, val := Value.ref 217 }] 15 }
noncomputable def hd.o_276 : Params → Obj := fun _ => { cls := Value.none, data := Data.fields #[Value.int 1 0, Value.int 0 0, Value.ref 20, Value.int 5 0, Value.int 0 0, Value.ref 27, Value.int 23 0, Value.int 0 0, Value.ref 71, Value.int 65 0, Value.int 0 0, Value.ref 141, Value.int 70 0, Value.int 0 0, Value.ref 162, Value.int 74 0, Value.int 0 0, Value.ref 185] }
noncomputable def hd.o_277 : Params → Obj := fun _ => { cls := Value.type "tuple", data := Data.seq #[] }
noncomputable def hd.o_278 : Params → Obj := fun _ => { cls := Value.type "builtin_function_or_method", data := Data.fields #[Value.builtin "type.__prepare__", Value.type "type"] }
noncomputable def hd.o_279 : Params → Obj := fun P => { cls := Value.type "dict", data := Data.dict #[{ hash := PyData.keyHash P (Str.ofString "__module__"), key := Value.str (Str.ofString "__module__") 445, val := Value.str (Str.ofString "bentley_ottmann._core.hints") 194 }, { hash := PyData.keyHash P (Str.ofString "__qualname__"), key := Value.str (Str.ofString "__qualname__") 447, val := Value.str (Str.ofString "Context") 446 }, { hash := PyData.keyHash P (Str.ofString "__firstlineno__"), key := Value.str (Str.ofString "__firstlineno__") 449, val := Value.int 74 448 }, { hash := PyData.keyHash P (Str.ofString "__doc__"), key := Value.str (Str.ofString "__doc__") 451, val := Value.str doc_8 450 }, { hash := PyData.keyHash P (Str.ofString "segment_cls"), key := Value.str (Str.ofString "segment_cls") 461, val := Value.ref 193 }, { hash := PyData.keyHash P (Str.ofString "contour_segments"), key := Value.str (Str.ofString "contour_segments") 469, val := Value.ref 200 }, { hash := PyData.keyHash P (Str.ofString "angle_orientation"), key := Value.str (Str.ofString "angle_orientation") 481, val := Value.ref 207 }, { hash := PyData.keyHash P (Str.ofString "segments_intersection"), key := Value.str (Str.ofString "segments_intersection") 490, val := Value.ref 214 }, { hash := PyData.keyHash P (Str.ofString "__static_attributes__"), key := Value.str (Str.ofString "__static_attributes__") 491, val := Value.ref 215 }] 9 }
noncomputable def hd.o_280 : Params → Obj := fun _ => { cls := Value.type "tuple", data := Data.seq #[] }
noncomputable def hd.o_281 : Params → Obj := fun _ => { cls := Value.none, data := Data.fields #[Value.int 77 0, Value.int 4 0, Value.ref 192, Value.int 80 0, Value.int 4 0, Value.ref 199, Value.int 83 0, Value.int 4 0, Value.ref 206, Value.int 92 0, Value.int 4 0, Value.ref 213] }
noncomputable def hd.o_282 : Params → Obj := fun _ => { cls := Value.type "code", data := Data.fields #[Value.str (Str.ofString "Context") 440, Value.str (Str.ofString "Context") 441, Value.str (Str.ofString "/claim/cut.py") 442, Value.int 74 0, Value.int 0 0, Value.int 0 0, Value.int 0 0, Value.int 0 0, Value.ref 183, Value.bool false, Value.int 181 0, Value.ref 184, Value.none, Value.none, Value.none, Value.none, Value.int 443 0, Value.int 74 0, Value.str (Str.ofString "/claim/cut.py") 444] }
noncomputable def hd.o_283 : Params → Obj := fun _ => { cls := Value.type "frame", slots := #[some (Value.ref 185), some (Value.ref 3), some (Value.ref 182), none, some (Value.str (Str.ofString "bentley_ottmann._core.hints") 194), none, some (Value.ref 0)] }
noncomputable def hd.o_284 : Params → Obj := fun _ => { cls := Value.type "tuple", data := Data.seq #[] }
noncomputable def hd.o_285 : Params → Obj := fun _ => { cls := Value.none, data := Data.fields #[] }
noncomputable def hd.o_286 : Params → Obj := fun _ => { cls := Value.type "tuple", data := Data.seq #[Value.str (Str.ofString "self") 456, Value.str (Str.ofString "start") 457, Value.str (Str.ofString "end") 458] }
noncomputable def hd.o_287 : Params → Obj := fun _ => { cls := Value.type "tuple", data := Data.seq #[] }
noncomputable def hd.o_288 : Params → Obj := fun _ => { cls := Value.none, data := Data.func { name := Str.ofString "segment_cls", qualname := Str.ofString "Context.segment_cls", params := par_d6x1, body := FuncBody.stmts bod_d6x1, scope := sco_d6x1, globals := 0, closure := [], defaults := Value.none, kwdefaults := Value.none } }
noncomputable def hd.o_289 : Params → Obj := fun _ => { cls := Value.type "code", data := Data.fields #[Value.str (Str.ofString "segment_cls") 453, Value.str (Str.ofString "Context.segment_cls") 454, Value.str (Str.ofString "/claim/cut.py") 455, Value.int 77 0, Value.int 3 0, Value.int 0 0, Value.int 0 0, Value.int 3 0, Value.ref 187, Value.bool true, Value.int 181 0, Value.ref 188, Value.none, Value.ref 189, Value.ref 190, Value.ref 191, Value.int 459 0, Value.int 77 0, Value.str (Str.ofString "/claim/cut.py") 460] }
noncomputable def hd.o_290 : Params → Obj := fun _ => { cls := Value.type "function", data := Data.func { name := Str.ofString "segment_cls", qualname := Str.ofString "Context.segment_cls", params := par_d6x1, body := FuncBody.stmts bod_d6x1, scope := sco_d6x1, globals := 3, closure := [], defaults := Value.none, kwdefaults := Value.none, pyModule := Value.str (Str.ofString "bentley_ottmann._core.hints") 194, code := Value.ref 192 } }
noncomputable def hd.o_291 : Params → Obj := fun _ => { cls := Value.type "tuple", data := Data.seq #[] }
noncomputable def hd.o_292 : Params → Obj := fun _ => { cls := Value.none, data := Data.fields #[] }
noncomputable def hd.o_293 : Params → Obj := fun _ => { cls := Value.type "tuple", data := Data.seq #[Value.str (Str.ofString "self") 465, Value.str (Str.ofString "contour") 466] }
noncomputable def hd.o_294 : Params → Obj := fun _ => { cls := Value.type "tuple", data := Data.seq #[] }
noncomputable def hd.o_295 : Params → Obj := fun _ => { cls := Value.none, data := Data.func { name := Str.ofString "contour_segments", qualname := Str.ofString "Context.contour_segments", params := par_d6x2, body := FuncBody.stmts bod_d6x2, scope := sco_d6x2, globals := 0, closure := [], defaults := Value.none, kwdefaults := Value.none } }
noncomputable def hd.o_296 : Params → Obj := fun _ => { cls := Value.type "code", data := Data.fields #[Value.str (Str.ofString "contour_segments") 462, Value.str (Str.ofString "Context.contour_segments") 463, Value.str (Str.ofString "/claim/cut.py") 464, Value.int 80 0, Value.int 2 0, Value.int 0 0, Value.int 0 0, Value.int 3 0, Value.ref 194, Value.bool true, Value.int 181 0, Value.ref 195, Value.none, Value.ref 196, Value.ref 197, Value.ref 198, Value.int 467 0, Value.int 80 0, Value.str (Str.ofString "/claim/cut.py") 468] }
noncomputable def hd.o_297 : Params → Obj := fun _ => { cls := Value.type "function", data := Data.func { name := Str.ofString "contour_segments", qualname := Str.ofString "Context.contour_segments", params := par_d6x2, body := FuncBody.stmts bod_d6x2, scope := sco_d6x2, globals := 3, closure := [], defaults := Value.none, kwdefaults := Value.none, pyModule := Value.str (Str.ofString "bentley_ottmann._core.hints") 194, code := Value.ref 199 } }
noncomputable def hd.o_298 : Params → Obj := fun _ => { cls := Value.type "tuple", data := Data.seq #[] }
noncomputable def hd.o_299 : Params → Obj := fun _ => { cls := Value.none, data := Data.fields #[] }
noncomputable def hd.o_300 : Params → Obj := fun _ => { cls := Value.type "tuple", data := Data.seq #[Value.str (Str.ofString "self") 473, Value.str (Str.ofString "vertex") 474, Value.str (Str.ofString "first") 475, Value.str (Str.ofString "second") 476, Value.str (Str.ofString "product") 477] }
noncomputable def hd.o_301 : Params → Obj := fun _ => { cls := Value.type "tuple", data := Data.seq #[] }
noncomputable def hd.o_302 : Params → Obj := fun _ => { cls := Value.none, data := Data.func { name := Str.ofString "angle_orientation", qualname := Str.ofString "Context.angle_orientation", params := par_d6x3, body := FuncBody.stmts bod_d6x3, scope := sco_d6x3, globals := 0, closure := [], defaults := Value.none, kwdefaults := Value.none } }
noncomputable def hd.o_303 : Params → Obj := fun _ => { cls := Value.type "code", data := Data.fields #[Value.str (Str.ofString "angle_orientation") 470, Value.str (Str.ofString "Context.angle_orientation") 471, Value.str (Str.ofString "/claim/cut.py") 472, Value.int 83 0, Value.int 4 0, Value.int 0 0, Value.int 0 0, Value.int 3 0, Value.ref 201, Value.bool true, Value.int 181 0, Value.ref 202, Value.none, Value.ref 203, Value.ref 204, Value.ref 205, Value.int 478 0, Value.int 83 0, Value.str (Str.ofString "/claim/cut.py") 479] }
noncomputable def hd.o_304 : Params → Obj := fun _ => { cls := Value.type "function", data := Data.func { name := Str.ofString "angle_orientation", qualname := Str.ofString "Context.angle_orientation", params := par_d6x3, body := FuncBody.stmts bod_d6x3, scope := sco_d6x3, globals := 3, closure := [], defaults := Value.none, kwdefaults := Value.none, doc := Value.str doc_5 480, pyModule := Value.str (Str.ofString "bentley_ottmann._core.hints") 194, code := Value.ref 206 } }
noncomputable def hd.o_305 : Params → Obj := fun _ => { cls := Value.type "tuple", data := Data.seq #[] }
noncomputable def hd.o_306 : Params → Obj := fun _ => { cls := Value.none, data := Data.fields #[] }
noncomputable def hd.o_307 : Params → Obj := fun _ => { cls := Value.type "tuple", data := Data.seq #[Value.str (Str.ofString "self") 485, Value.str (Str.ofString "first") 486, Value.str (Str.ofString "second") 487] }
noncomputable def hd.o_308 : Params → Obj := fun _ => { cls := Value.type "tuple", data := Data.seq #[] }
noncomputable def hd.o_309 : Params → Obj := fun _ => { cls := Value.none, data := Data.func { name := Str.ofString "segments_intersection", qualname := Str.ofString "Context.segments_intersection", params := par_d6x4, body := FuncBody.stmts bod_d6x4, scope := sco_d6x4, globals := 0, closure := [], defaults := Value.none, kwdefaults := Value.none } }
noncomputable def hd.o_310 : Params → Obj := fun _ => { cls := Value.type "code", data := Data.fields #[Value.str (Str.ofString "segments_intersection") 482, Value.str (Str.ofString "Context.segments_intersection") 483, Value.str (Str.ofString "/claim/cut.py") 484, Value.int 92 0, Value.int 3 0, Value.int 0 0, Value.int 0 0, Value.int 3 0, Value.ref 208, Value.bool true, Value.int 181 0, Value.ref 209, Value.none, Value.ref 210, Value.ref 211, Value.ref 212, Value.int 488 0, Value.int 92 0, Value.str (Str.ofString "/claim/cut.py") 489] }
noncomputable def hd.o_311 : Params → Obj := fun _ => { cls := Value.type "function", data := Data.func { name := Str.ofString "segments_intersection", qualname := Str.ofString "Context.segments_intersection", params := par_d6x4, body := FuncBody.stmts bod_d6x4, scope := sco_d6x4, globals := 3, closure := [], defaults := Value.none, kwdefaults := Value.none, pyModule := Value.str (Str.ofString "bentley_ottmann._core.hints") 194, code := Value.ref 213 } }
noncomputable def hd.o_312 : Params → Obj := fun _ => { cls := Value.type "tuple", data := Data.seq #[] }
noncomputable def hd.o_313 : Params → Obj := fun P => { cls := Value.type "dict", data := Data.dict #[{ hash := PyData.keyHash P (Str.ofString "__module__"), key := Value.str (Str.ofString "__module__") 445, val := Value.str (Str.ofString "bentley_ottmann._core.hints") 194 }, { hash := PyData.keyHash P (Str.ofString "__firstlineno__"), key := Value.str (Str.ofString "__firstlineno__") 449, val := Value.int 74 448 }, { hash := PyData.keyHash P (Str.ofString "__doc__"), key := Value.str (Str.ofString "__doc__") 451, val := Value.str doc_8 450 }, { hash := PyData.keyHash P (Str.ofString "segment_cls"), key := Value.str (Str.ofString "segment_cls") 461, val := Value.ref 193 }, { hash := PyData.keyHash P (Str.ofString "contour_segments"), key := Value.str (Str.ofString "contour_segments") 469, val := Value.ref 200 }, { hash := PyData.keyHash P (Str.ofString "angle_orientation"), key := Value.str (Str.ofString "angle_orientation") 481, val := Value.ref 207 }, { hash := PyData.keyHash P (Str.ofString "segments_intersection"), key := Value.str (Str.ofString "segments_intersection") 490, val := Value.ref 214 }, { hash := PyData.keyHash P (Str.ofString "__static_attributes__"), key := Value.str (Str.ofString "__static_attributes__") 491, val := Value.ref 215 }, { hash := PyData.keyHash P (Str.ofString "__dict__"), key := Value.str (Str.ofString "__dict__") 493, val := Value.ref 218 }, { hash := PyData.keyHash P (Str.ofString "__weakref__"), key := Value.str (Str.ofString "__weakref__") 495, val := Value.ref 219 }] 3 }
noncomputable def hd.o_314 : Params → Obj := fun _ => { cls := Value.type "type", data := Data.cls { name := Str.ofString "Context", bases := [Value.type "object"], mro := [Value.ref 217, Value.type "object"], ns := 216, qualname := Str.ofString "Context" }, slots := #[none, none, some (Value.str (Str.ofString "Context") 438), some (Value.str (Str.ofString "Context") 446), some (Value.builtin "object.__new__"), some (Value.bool true)] }
noncomputable def hd.o_315 : Params → Obj := fun _ => { cls := Value.type "getset_descriptor", data := Data.fields #[Value.str (Str.ofString "__dict__") 492, Value.ref 217, Value.builtin "function.__dict__", Value.builtin "function.__dict__#set"] }
noncomputable def hd.o_316 : Params → Obj := fun _ => { cls := Value.type "getset_descriptor", data := Data.fields #[Value.str (Str.ofString "__weakref__") 494, Value.ref 217, Value.builtin "ExceptionGroup.__weakref__", Value.none] }
noncomputable def hd.o_317 : Params → Obj := fun _ => { cls := Value.type "super", data := Data.fields #[Value.ref 217, Value.ref 217, Value.ref 217] }
noncomputable def hd.o_318 : Params → Obj := fun _ => { cls := Value.type "builtin_function_or_method", data := Data.fields #[Value.builtin "object.__init_subclass__", Value.ref 217] }
noncomputable def hd.o_321 : Params → Obj := fun _ => { cls := Value.type "tuple", data := Data.seq #[] }
noncomputable def hd.o_322 : Params → Obj := fun _ => { cls := Value.type "builtin_function_or_method", data := Data.fields #[Value.builtin "type.__prepare__", Value.type "type"] }
noncomputable def hd.o_323 : Params → Obj := fun P => { cls := Value.type "dict", data := Data.dict #[{ hash := PyData.keyHash P (Str.ofString "__module__"), key := Value.str (Str.ofString "__module__") 507, val := Value.str (Str.ofString "bentley_ottmann._core.sweep_line_key") 498 }, { hash := PyData.keyHash P (Str.ofString "__qualname__"), key := Value.str (Str.ofString "__qualname__") 509, val := Value.str (Str.ofString "SweepLineKey") 508 }, { hash := PyData.keyHash P (Str.ofString "__firstlineno__"), key := Value.str (Str.ofString "__firstlineno__") 511, val := Value.int 95 510 }, { hash := PyData.keyHash P (Str.ofString "__init__"), key := Value.str (Str.ofString "__init__") 522, val := Value.ref 235 }, { hash := PyData.keyHash P (Str.ofString "__lt__"), key := Value.str (Str.ofString "__lt__") 549, val := Value.ref 242 }, { hash := PyData.keyHash P (Str.ofString "__static_attributes__"), key := Value.str (Str.ofString "__static_attributes__") 554, val := Value.ref 243 }] 6 }
noncomputable def hd.o_324 : Params → Obj := fun _ => { cls := Value.type "tuple", data := Data.seq #[] }
noncomputable def hd.o_325 : Params → Obj := fun _ => { cls := Value.none, data := Data.fields #[Value.int 97 0, Value.int 4 0, Value.ref 234, Value.int 100 0, Value.int 4 0, Value.ref 241] }
noncomputable def hd.o_326 : Params → Obj := fun _ => { cls := Value.type "code", data := Data.fields #[Value.str (Str.ofString "SweepLineKey") 502, Value.str (Str.ofString "SweepLineKey") 503, Value.str (Str.ofString "/claim/cut.py") 504, Value.int 95 0, Value.int 0 0, Value.int 0 0, Value.int 0 0, Value.int 0 0, Value.ref 225, Value.bool false, Value.int 181 0, Value.ref 226, Value.none, Value.none, Value.none, Value.none, Value.int 505 0, Value.int 95 0, Value.str (Str.ofString "/claim/cut.py") 506] }
noncomputable def hd.o_327 : Params → Obj := fun _ => { cls := Value.type "frame", slots := #[some (Value.ref 227), some (Value.ref 3), some (Value.ref 224), none, some (Value.str (Str.ofString "bentley_ottmann._core.sweep_line_key") 498), none, some (Value.ref 0)] }
noncomputable def hd.o_328 : Params → Obj := fun _ => { cls := Value.type "tuple", data := Data.seq #[] }
noncomputable def hd.o_329 : Params → Obj := fun _ => { cls := Value.none, data := Data.fields #[] }
noncomputable def hd.o_330 : Params → Obj := fun _ => { cls := Value.type "tuple", data := Data.seq #[Value.str (Str.ofString "self") 515, Value.str (Str.ofString "endpoints") 516, Value.str (Str.ofString "opposites") 517, Value.str (Str.ofString "event") 518, Value.str (Str.ofString "orienteer") 519] }
noncomputable def hd.o_331 : Params → Obj := fun _ => { cls := Value.type "tuple", data := Data.seq #[] }
noncomputable def hd.o_332 : Params → Obj := fun _ => { cls := Value.none, data := Data.func { name := Str.ofString "__init__", qualname := Str.ofString "SweepLineKey.__init__", params := par_d8x0, body := FuncBody.stmts bod_d8x0, scope := sco_d8x0, globals := 0, closure := [], defaults := Value.none, kwdefaults := Value.none } }
noncomputable def hd.o_333 : Params → Obj := fun _ => { cls := Value.type "code", data := Data.fields #[Value.str (Str.ofString "__init__") 512, Value.str (Str.ofString "SweepLineKey.__init__") 513, Value.str (Str.ofString "/claim/cut.py") 514, Value.int 97 0, Value.int 5 0, Value.int 5 0, Value.int 0 0, Value.int 3 0, Value.ref 229, Value.bool true, Value.int 181 0, Value.ref 230, Value.none, Value.ref 231, Value.ref 232, Value.ref 233, Value.int 520 0, Value.int 97 0, Value.str (Str.ofString "/claim/cut.py") 521] }
noncomputable def hd.o_334 : Params → Obj := fun _ => { cls := Value.type "function", data := Data.func { name := Str.ofString "__init__", qualname := Str.ofString "SweepLineKey.__init__", params := par_d8x0, body := FuncBody.stmts bod_d8x0, scope := sco_d8x0, globals := 3, closure := [], defaults := Value.none, kwdefaults := Value.none, pyModule := Value.str (Str.ofString "bentley_ottmann._core.sweep_line_key") 498, code := Value.ref 234 } }
noncomputable def hd.o_335 : Params → Obj := fun _ => { cls := Value.type "tuple", data := Data.seq #[] }
noncomputable def hd.o_336 : Params → Obj := fun _ => { cls := Value.none, data := Data.fields #[] }
noncomputable def hd.o_337 : Params → Obj := fun _ => { cls := Value.type "tuple", data := Data.seq #[Value.str (Str.ofString "self") 526, Value.str (Str.ofString "other") 527, Value.str (Str.ofString "event") 528, Value.str (Str.ofString "other_event") 529, Value.str (Str.ofString "start") 530, Value.str (Str.ofString "other_start") 531, Value.str (Str.ofString "end") 532, Value.str (Str.ofString "other_end") 533, Value.str (Str.ofString "other_start_orientation") 534, Value.str (Str.ofString "other_end_orientation") 535, Value.str (Str.ofString "start_x") 536, Value.str (Str.ofString "start_y") 537, Value.str (Str.ofString "other_start_x") 538, Value.str (Str.ofString "other_start_y") 539, Value.str (Str.ofString "end_x") 540, Value.str (Str.ofString "end_y") 541, Value.str (Str.ofString "other_end_x") 542, Value.str (Str.ofString "other_end_y") 543, Value.str (Str.ofString "start_orientation") 544, Value.str (Str.ofString "end_orientation") 545] }
noncomputable def hd.o_338 : Params → Obj := fun _ => { cls := Value.type "tuple", data := Data.seq #[] }
noncomputable def hd.o_339 : Params → Obj := fun _ => { cls := Value.none, data := Data.func { name := Str.ofString "__lt__", qualname := Str.ofString "SweepLineKey.__lt__", params := par_d8x1, body := FuncBody.stmts bod_d8x1, scope := sco_d8x1, globals := 0, closure := [], defaults := Value.none, kwdefaults := Value.none } }
noncomputable def hd.o_340 : Params → Obj := fun _ => { cls := Value.type "code", data := Data.fields #[Value.str (Str.ofString "__lt__") 523, Value.str (Str.ofString "SweepLineKey.__lt__") 524, Value.str (Str.ofString "/claim/cut.py") 525, Value.int 100 0, Value.int 2 0, Value.int 2 0, Value.int 0 0, Value.int 3 0, Value.ref 236, Value.bool true, Value.int 181 0, Value.ref 237, Value.none, Value.ref 238, Value.ref 239, Value.ref 240, Value.int 546 0, Value.int 100 0, Value.str (Str.ofString "/claim/cut.py") 547] }
noncomputable def hd.o_341 : Params → Obj := fun _ => { cls := Value.type "function", data := Data.func { name := Str.ofString "__lt__", qualname := Str.ofString "SweepLineKey.__lt__", params := par_d8x1, body := FuncBody.stmts bod_d8x1, scope := sco_d8x1, globals := 3, closure := [], defaults := Value.none, kwdefaults := Value.none, doc := Value.str doc_6 548, pyModule := Value.str (Str.ofString "bentley_ottmann._core.sweep_line_key") 498, code := Value.ref 241 } }
noncomputable def hd.o_342 : Params → Obj := fun _ => { cls := Value.type "tuple", data := Data.seq #[Value.str (Str.ofString "_orienteer") 550, Value.str (Str.ofString "endpoints") 551, Value.str (Str.ofString "event") 552, Value.str (Str.ofString "opposites") 553] }
noncomputable def hd.o_343 : Params → Obj := fun P => { cls := Value.type "dict", data := Data.dict #[{ hash := PyData.keyHash P (Str.ofString "__module__"), key := Value.str (Str.ofString "__module__") 507, val := Value.str (Str.ofString "bentley_ottmann._core.sweep_line_key") 498 }, { hash := PyData.keyHash P (Str.ofString "__firstlineno__"), key := Value.str (Str.ofString "__firstlineno__") 511, val := Value.int 95 510 }, { hash := PyData.keyHash P (Str.ofString "__init__"), key := Value.str (Str.ofString "__init__") 522, val := Value.ref 235 }, { hash := PyData.keyHash P (Str.ofString "__lt__"), key := Value.str (Str.ofString "__lt__") 549, val := Value.ref 242 }, { hash := PyData.keyHash P (Str.ofString "__static_attributes__"), key := Value.str (Str.ofString "__static_attributes__") 554, val := Value.ref 243 }, { hash := PyData.keyHash P (Str.ofString "__dict__"), key := Value.str (Str.ofString "__dict__") 556, val := Value.ref 246 }, { hash := PyData.keyHash P (Str.ofString "__weakref__"), key := Value.str (Str.ofString "__weakref__") 558, val := Value.ref 247 }, { hash := PyData.keyHash P (Str.ofString "__doc__"), key := Value.str (Str.ofString "__doc__") 559, val := Value.none }] 4 }
noncomputable def hd.o_344 : Params → Obj := fun _ => { cls := Value.type "type", data := Data.cls { name := Str.ofString "SweepLineKey", bases := [Value.type "object"], mro := [Value.ref 245, Value.type "object"], ns := 244, qualname := Str.ofString "SweepLineKey" }, slots := #[none, none, some (Value.str (Str.ofString "SweepLineKey") 500), some (Value.str (Str.ofString "SweepLineKey") 508), some (Value.builtin "object.__new__"), some (Value.bool true)] }
noncomputable def hd.o_345 : Params → Obj := fun _ => { cls := Value.type "getset_descriptor", data := Data.fields #[Value.str (Str.ofString "__dict__") 555, Value.ref 245, Value.builtin "function.__dict__", Value.builtin "function.__dict__#set"] }
noncomputable def hd.o_346 : Params → Obj := fun _ => { cls := Value.type "getset_descriptor", data := Data.fields #[Value.str (Str.ofString "__weakref__") 557, Value.ref 245, Value.builtin "ExceptionGroup.__weakref__", Value.none] }
noncomputable def hd.o_347 : Params → Obj := fun _ => { cls := Value.type "super", data := Data.fields #[Value.ref 245, Value.ref 245, Value.ref 245] }
noncomputable def hd.o_348 : Params → Obj := fun _ => { cls := Value.type "builtin_function_or_method", data := Data.fields #[Value.builtin "object.__init_subclass__", Value.ref 245] }
noncomputable def hd.o_349 : Params → Obj := fun _ => { cls := Value.type "tuple", data := Data.seq #[] }
noncomputable def hd.o_350 : Params → Obj := fun _ => { cls := Value.none, data := Data.fields #[] }
noncomputable def hd.o_351 : Params → Obj := fun _ => { cls := Value.type "tuple", data := Data.seq #[Value.str (Str.ofString "number") 567, Value.str (Str.ofString "n") 568, Value.str (Str.ofString "p") 569, Value.str (Str.ofString "q") 570] }
noncomputable def hd.o_352 : Params → Obj := fun _ => { cls := Value.type "tuple", data := Data.seq #[] }
noncomputable def hd.o_353 : Params → Obj := fun _ => { cls := Value.none, data := Data.func { name := Str.ofString "_law_drawn", qualname := Str.ofString "_law_drawn", params := par_d10, body := FuncBody.stmts bod_d10, scope := sco_d10, globals := 0, closure := [], defaults := Value.none, kwdefaults := Value.none } }
noncomputable def hd.o_354 : Params → Obj := fun _ => { cls := Value.type "code", data := Data.fields #[Value.str (Str.ofString "_law_drawn") 564, Value.str (Str.ofString "_law_drawn") 565, Value.str (Str.ofString "/claim/cut.py") 566, Value.int 138 0, Value.int 1 0, Value.int 0 0, Value.int 0 0, Value.int 3 0, Value.ref 250, Value.bool true, Value.int 181 0, Value.ref 251, Value.none, Value.ref 252, Value.ref 253, Value.ref 254, Value.int 571 0, Value.int 138 0, Value.str (Str.ofString "/claim/cut.py") 572] }
noncomputable def hd.o_355 : Params → Obj := fun _ => { cls := Value.type "function", data := Data.func { name := Str.ofString "_law_drawn", qualname := Str.ofString "_law_drawn", params := par_d10, body := FuncBody.stmts bod_d10, scope := sco_d10, globals := 3, closure := [], defaults := Value.none, kwdefaults := Value.none, pyModule := Value.str (Str.ofString "law_ja0007_01") 562, code := Value.ref 255 } }
noncomputable def hd.o_356 : Params → Obj := fun _ => { cls := Value.type "tuple", data := Data.seq #[] }
noncomputable def hd.o_357 : Params → Obj := fun _ => { cls := Value.none, data := Data.fields #[] }
noncomputable def hd.o_358 : Params → Obj := fun _ => { cls := Value.type "tuple", data := Data.seq #[Value.str (Str.ofString "one") 577, Value.str (Str.ofString "place") 578, Value.str (Str.ofString "a") 579, Value.str (Str.ofString "b") 580, Value.str (Str.ofString "value") 581] }
noncomputable def hd.o_359 : Params → Obj := fun _ => { cls := Value.type "tuple", data := Data.seq #[] }
noncomputable def hd.o_360 : Params → Obj := fun _ => { cls := Value.none, data := Data.func { name := Str.ofString "_law_side", qualname := Str.ofString "_law_side", params := par_d11, body := FuncBody.stmts bod_d11, scope := sco_d11, globals := 0, closure := [], defaults := Value.none, kwdefaults := Value.none } }
noncomputable def hd.o_361 : Params → Obj := fun _ => { cls := Value.type "code", data := Data.fields #[Value.str (Str.ofString "_law_side") 574, Value.str (Str.ofString "_law_side") 575, Value.str (Str.ofString "/claim/cut.py") 576, Value.int 144 0, Value.int 2 0, Value.int 0 0, Value.int 0 0, Value.int 3 0, Value.ref 257, Value.bool true, Value.int 181 0, Value.ref 258, Value.none, Value.ref 259, Value.ref 260, Value.ref 261, Value.int 582 0, Value.int 144 0, Value.str (Str.ofString "/claim/cut.py") 583] }
noncomputable def hd.o_362 : Params → Obj := fun _ => { cls := Value.type "function", data := Data.func { name := Str.ofString "_law_side", qualname := Str.ofString "_law_side", params := par_d11, body := FuncBody.stmts bod_d11, scope := sco_d11, globals := 3, closure := [], defaults := Value.none, kwdefaults := Value.none, pyModule := Value.str (Str.ofString "law_ja0007_01") 562, code := Value.ref 262 } }
noncomputable def hd.o_363 : Params → Obj := fun _ => { cls := Value.type "tuple", data := Data.seq #[] }
noncomputable def hd.o_364 : Params → Obj := fun _ => { cls := Value.none, data := Data.fields #[] }
noncomputable def hd.o_365 : Params → Obj := fun _ => { cls := Value.type "tuple", data := Data.seq #[Value.str (Str.ofString "one") 588, Value.str (Str.ofString "other") 589, Value.str (Str.ofString "place") 590] }
noncomputable def hd.o_366 : Params → Obj := fun _ => { cls := Value.type "tuple", data := Data.seq #[] }
noncomputable def hd.o_367 : Params → Obj := fun _ => { cls := Value.none, data := Data.func { name := Str.ofString "_law_lower", qualname := Str.ofString "_law_lower", params := par_d12, body := FuncBody.stmts bod_d12, scope := sco_d12, globals := 0, closure := [], defaults := Value.none, kwdefaults := Value.none } }
noncomputable def hd.o_368 : Params → Obj := fun _ => { cls := Value.type "code", data := Data.fields #[Value.str (Str.ofString "_law_lower") 585, Value.str (Str.ofString "_law_lower") 586, Value.str (Str.ofString "/claim/cut.py") 587, Value.int 148 0, Value.int 2 0, Value.int 0 0, Value.int 0 0, Value.int 3 0, Value.ref 264, Value.bool true, Value.int 181 0, Value.ref 265, Value.none, Value.ref 266, Value.ref 267, Value.ref 268, Value.int 591 0, Value.int 148 0, Value.str (Str.ofString "/claim/cut.py") 592] }
noncomputable def hd.o_369 : Params → Obj := fun _ => { cls := Value.type "function", data := Data.func { name := Str.ofString "_law_lower", qualname := Str.ofString "_law_lower", params := par_d12, body := FuncBody.stmts bod_d12, scope := sco_d12, globals := 3, closure := [], defaults := Value.none, kwdefaults := Value.none, pyModule := Value.str (Str.ofString "law_ja0007_01") 562, code := Value.ref 269 } }
noncomputable def hd.o_370 : Params → Obj := fun P => { cls := Value.type "dict", data := Data.dict #[{ hash := PyData.keyHash P (Str.ofString "__name__"), key := Value.str (Str.ofString "__name__") 165, val := Value.str (Str.ofString "law_ja0007_01") 562 }, { hash := PyData.keyHash P (Str.ofString "__doc__"), key := Value.str (Str.ofString "__doc__") 166, val := Value.none }, { hash := PyData.keyHash P (Str.ofString "__package__"), key := Value.str (Str.ofString "__package__") 167, val := Value.none }, { hash := PyData.keyHash P (Str.ofString "__loader__"), key := Value.str (Str.ofString "__loader__") 168, val := Value.builtin "__main__.__loader__#opaque" }, { hash := PyData.keyHash P (Str.ofString "__spec__"), key := Value.str (Str.ofString "__spec__") 169, val := Value.none }, { hash := PyData.keyHash P (Str.ofString "__annotations__"), key := Value.str (Str.ofString "__annotations__") 170, val := Value.ref 6 }, { hash := PyData.keyHash P (Str.ofString "__builtins__"), key := Value.str (Str.ofString "__builtins__") 171, val := Value.ref 4 }, { hash := PyData.keyHash P (Str.ofString "__file__"), key := Value.str (Str.ofString "__file__") 173, val := Value.str (Str.ofString "/claim/cut.py") 172 }, { hash := PyData.keyHash P (Str.ofString "__cached__"), key := Value.str (Str.ofString "__cached__") 174, val := Value.none }, { hash := PyData.keyHash P (Str.ofString "_wall"), key := Value.str (Str.ofString "_wall") 193, val := Value.ref 21 }, { hash := PyData.keyHash P (Str.ofString "_tuplegetter"), key := Value.str (Str.ofString "_tuplegetter") 252, val := Value.ref 60 }, { hash := PyData.keyHash P (Str.ofString "Point"), key := Value.str (Str.ofString "Point") 367, val := Value.ref 132 }, { hash := PyData.keyHash P (Str.ofString "Kind"), key := Value.str (Str.ofString "Kind") 398, val := Value.ref 152 }, { hash := PyData.keyHash P (Str.ofString "Orientation"), key := Value.str (Str.ofString "Orientation") 437, val := Value.ref 175 }, { hash := PyData.keyHash P (Str.ofString "Context"), key := Value.str (Str.ofString "Context") 497, val := Value.ref 217 }, { hash := PyData.keyHash P (Str.ofString "SweepLineKey"), key := Value.str (Str.ofString "SweepLineKey") 561, val := Value.ref 245 }, { hash := PyData.keyHash P (Str.ofString "_law_drawn"), key := Value.str (Str.ofString "_law_drawn") 573, val := Value.ref 256 }, { hash := PyData.keyHash P (Str.ofString "_law_side"), key := Value.str (Str.ofString "_law_side") 584, val := Value.ref 263 }, { hash := PyData.keyHash P (Str.ofString "_law_lower"), key := Value.str (Str.ofString "_law_lower") 593, val := Value.ref 270 }, { hash := PyData.keyHash P (Str.ofString "law"), key := Value.str (Str.ofString "law") 599, val := Value.ref 275 }] 20 }
noncomputable def hd.o_371 : Params → Obj := fun _ => { cls := Value.none, data := Data.fields #[Value.int 1 0, Value.int 0 0, Value.ref 20, Value.int 5 0, Value.int 0 0, Value.ref 27, Value.int 23 0, Value.int 0 0, Value.ref 71, Value.int 65 0, Value.int 0 0, Value.ref 141, Value.int 70 0, Value.int 0 0, Value.ref 162, Value.int 74 0, Value.int 0 0, Value.ref 185, Value.int 95 0, Value.int 0 0, Value.ref 227, Value.int 138 0, Value.int 0 0, Value.ref 255, Value.int 144 0, Value.int 0 0, Value.ref 262, Value.int 148 0, Value.int 0 0, Value.ref 269, Value.int 155 0, Value.int 0 0, Value.ref 274] }
noncomputable def hd.o_372 : Params → Obj := fun _ => { cls := Value.type "tuple", data := Data.seq #[] }
noncomputable def hd.o_373 : Params → Obj := fun _ => { cls := Value.none, data := Data.fields #[] }
noncomputable def hd.o_374 : Params → Obj := fun _ => { cls := Value.none, data := Data.func { name := Str.ofString "law", qualname := Str.ofString "law", params := par_d13, body := FuncBody.stmts bod_d13, scope := sco_d13, globals := 0, closure := [], defaults := Value.none, kwdefaults := Value.none } }
noncomputable def hd.o_375 : Params → Obj := fun _ => { cls := Value.type "code", data := Data.fields #[Value.str (Str.ofString "law") 594, Value.str (Str.ofString "law") 595, Value.str (Str.ofString "/claim/cut.py") 596, Value.int 155 0, Value.int 1 0, Value.int 0 0, Value.int 0 0, Value.int 3 0, Value.ref 271, Value.bool true, Value.int 181 0, Value.ref 272, Value.none, Value.none, Value.none, Value.ref 273, Value.int 597 0, Value.int 155 0, Value.str (Str.ofString "/claim/cut.py") 598] }
noncomputable def hd.o_376 : Params → Obj := fun _ => { cls := Value.type "function", data := Data.func { name := Str.ofString "law", qualname := Str.ofString "law", params := par_d13, body := FuncBody.stmts bod_d13, scope := sco_d13, globals := 3, closure := [], defaults := Value.none, kwdefaults := Value.none, pyModule := Value.str (Str.ofString "law_ja0007_01") 562, code := Value.ref 274 } }
noncomputable def hd.heap_46 : Params → Heap := fun P => { objs := { toList := [boot_o_0 P, boot_o_1 P, boot_o_2 P, boot_o_3 P, boot_o_4 P, boot_o_5 P, boot_o_6 P, boot_o_7 P, boot_o_8 P, boot_o_9 P, boot_o_10 P, hd.o_43 P, hd.o_44 P, hd.o_45 P, hd.o_46 P] } }
noncomputable def hd.tree_47 : Params → BT := fun P => BT.node (boot_o_0 P) (BT.node (boot_o_1 P) (BT.node (boot_o_3 P) (BT.node (boot_o_7 P) BT.nil BT.nil) (BT.node (hd.o_43 P) BT.nil BT.nil)) (BT.node (boot_o_5 P) (BT.node (boot_o_9 P) BT.nil BT.nil) (BT.node (hd.o_45 P) BT.nil BT.nil))) (BT.node (boot_o_2 P) (BT.node (boot_o_4 P) (BT.node (boot_o_8 P) BT.nil BT.nil) (BT.node (hd.o_44 P) BT.nil BT.nil)) (BT.node (boot_o_6 P) (BT.node (boot_o_10 P) BT.nil BT.nil) (BT.node (hd.o_46 P) BT.nil BT.nil)))
noncomputable def hd.tree_173 : Params → BT := fun P => BT.node (boot_o_0 P) (BT.node (boot_o_1 P) (BT.node (hd.o_101 P) (BT.node (boot_o_7 P) (BT.node (hd.o_51 P) (BT.node (hd.o_67 P) (BT.node (hd.o_99 P) (BT.node (hd.o_165 P) BT.nil BT.nil) BT.nil) (BT.node (hd.o_133 P) BT.nil BT.nil)) (BT.node (hd.o_83 P) (BT.node (hd.o_117 P) BT.nil BT.nil) (BT.node (hd.o_149 P) BT.nil BT.nil))) (BT.node (hd.o_59 P) (BT.node (hd.o_75 P) (BT.node (hd.o_109 P) (BT.node (hd.o_173 P) BT.nil BT.nil) BT.nil) (BT.node (hd.o_141 P) BT.nil BT.nil)) (BT.node (hd.o_91 P) (BT.node (hd.o_125 P) BT.nil BT.nil) (BT.node (hd.o_157 P) BT.nil BT.nil)))) (BT.node (hd.o_43 P) (BT.node (hd.o_55 P) (BT.node (hd.o_71 P) (BT.node (hd.o_105 P) (BT.node (hd.o_169 P) BT.nil BT.nil) BT.nil) (BT.node (hd.o_137 P) BT.nil BT.nil)) (BT.node (hd.o_87 P) (BT.node (hd.o_121 P) BT.nil BT.nil) (BT.node (hd.o_153 P) BT.nil BT.nil))) (BT.node (hd.o_63 P) (BT.node (hd.o_79 P) (BT.node (hd.o_113 P) BT.nil BT.nil) (BT.node (hd.o_145 P) BT.nil BT.nil)) (BT.node (hd.o_95 P) (BT.node (hd.o_129 P) BT.nil BT.nil) (BT.node (hd.o_161 P) BT.nil BT.nil))))) (BT.node (boot_o_5 P) (BT.node (boot_o_9 P) (BT.node (hd.o_53 P) (BT.node (hd.o_69 P) (BT.node (hd.o_103 P) (BT.node (hd.o_167 P) BT.nil BT.nil) BT.nil) (BT.node (hd.o_135 P) BT.nil BT.nil)) (BT.node (hd.o_85 P) (BT.node (hd.o_119 P) BT.nil BT.nil) (BT.node (hd.o_151 P) BT.nil BT.nil))) (BT.node (hd.o_61 P) (BT.node (hd.o_77 P) (BT.node (hd.o_111 P) BT.nil BT.nil) (BT.node (hd.o_143 P) BT.nil BT.nil)) (BT.node (hd.o_93 P) (BT.node (hd.o_127 P) BT.nil BT.nil) (BT.node (hd.o_159 P) BT.nil BT.nil)))) (BT.node (hd.o_45 P) (BT.node (hd.o_57 P) (BT.node (hd.o_73 P) (BT.node (hd.o_107 P) (BT.node (hd.o_171 P) BT.nil BT.nil) BT.nil) (BT.node (hd.o_139 P) BT.nil BT.nil)) (BT.node (hd.o_89 P) (BT.node (hd.o_123 P) BT.nil BT.nil) (BT.node (hd.o_155 P) BT.nil BT.nil))) (BT.node (hd.o_65 P) (BT.node (hd.o_81 P) (BT.node (hd.o_115 P) BT.nil BT.nil) (BT.node (hd.o_147 P) BT.nil BT.nil)) (BT.node (hd.o_97 P) (BT.node (hd.o_131 P) BT.nil BT.nil) (BT.node (hd.o_163 P) BT.nil BT.nil)))))) (BT.node (boot_o_2 P) (BT.node (boot_o_4 P) (BT.node (boot_o_8 P) (BT.node (hd.o_52 P) (BT.node (hd.o_68 P) (BT.node (hd.o_100 P) (BT.node (hd.o_166 P) BT.nil BT.nil) BT.nil) (BT.node (hd.o_134 P) BT.nil BT.nil)) (BT.node (hd.o_84 P) (BT.node (hd.o_118 P) BT.nil BT.nil) (BT.node (hd.o_150 P) BT.nil BT.nil))) (BT.node (hd.o_60 P) (BT.node (hd.o_76 P) (BT.node (hd.o_110 P) BT.nil BT.nil) (BT.node (hd.o_142 P) BT.nil BT.nil)) (BT.node (hd.o_92 P) (BT.node (hd.o_126 P) BT.nil BT.nil) (BT.node (hd.o_158 P) BT.nil BT.nil)))) (BT.node (hd.o_102 P) (BT.node (hd.o_56 P) (BT.node (hd.o_72 P) (BT.node (hd.o_106 P) (BT.node (hd.o_170 P) BT.nil BT.nil) BT.nil) (BT.node (hd.o_138 P) BT.nil BT.nil)) (BT.node (hd.o_88 P) (BT.node (hd.o_122 P) BT.nil BT.nil) (BT.node (hd.o_154 P) BT.nil BT.nil))) (BT.node (hd.o_64 P) (BT.node (hd.o_80 P) (BT.node (hd.o_114 P) BT.nil BT.nil) (BT.node (hd.o_146 P) BT.nil BT.nil)) (BT.node (hd.o_96 P) (BT.node (hd.o_130 P) BT.nil BT.nil) (BT.node (hd.o_162 P) BT.nil BT.nil))))) (BT.node (boot_o_6 P) (BT.node (boot_o_10 P) (BT.node (hd.o_54 P) (BT.node (hd.o_70 P) (BT.node (hd.o_104 P) (BT.node (hd.o_168 P) BT.nil BT.nil) BT.nil) (BT.node (hd.o_136 P) BT.nil BT.nil)) (BT.node (hd.o_86 P) (BT.node (hd.o_120 P) BT.nil BT.nil) (BT.node (hd.o_152 P) BT.nil BT.nil))) (BT.node (hd.o_62 P) (BT.node (hd.o_78 P) (BT.node (hd.o_112 P) BT.nil BT.nil) (BT.node (hd.o_144 P) BT.nil BT.nil)) (BT.node (hd.o_94 P) (BT.node (hd.o_128 P) BT.nil BT.nil) (BT.node (hd.o_160 P) BT.nil BT.nil)))) (BT.node (hd.o_46 P) (BT.node (hd.o_58 P) (BT.node (hd.o_74 P) (BT.node (hd.o_108 P) (BT.node (hd.o_172 P) BT.nil BT.nil) BT.nil) (BT.node (hd.o_140 P) BT.nil BT.nil)) (BT.node (hd.o_90 P) (BT.node (hd.o_124 P) BT.nil BT.nil) (BT.node (hd.o_156 P) BT.nil BT.nil))) (BT.node (hd.o_66 P) (BT.node (hd.o_82 P) (BT.node (hd.o_116 P) BT.nil BT.nil) (BT.node (hd.o_148 P) BT.nil BT.nil)) (BT.node (hd.o_98 P) (BT.node (hd.o_132 P) BT.nil BT.nil) (BT.node (hd.o_164 P) BT.nil BT.nil))))))
noncomputable def hd.tree_318 : Params → BT := fun P => BT.node (boot_o_0 P) (BT.node (boot_o_1 P) (BT.node (hd.o_275 P) (BT.node (boot_o_7 P) (BT.node (hd.o_51 P) (BT.node (hd.o_67 P) (BT.node (hd.o_99 P) (BT.node (hd.o_165 P) BT.nil BT.nil) (BT.node (hd.o_288 P) BT.nil BT.nil)) (BT.node (hd.o_133 P) (BT.node (hd.o_254 P) BT.nil BT.nil) BT.nil)) (BT.node (hd.o_83 P) (BT.node (hd.o_117 P) (BT.node (hd.o_236 P) BT.nil BT.nil) (BT.node (hd.o_304 P) BT.nil BT.nil)) (BT.node (hd.o_149 P) (BT.node (hd.o_270 P) BT.nil BT.nil) BT.nil))) (BT.node (hd.o_59 P) (BT.node (hd.o_75 P) (BT.node (hd.o_109 P) (BT.node (hd.o_173 P) BT.nil BT.nil) (BT.node (hd.o_296 P) BT.nil BT.nil)) (BT.node (hd.o_141 P) (BT.node (hd.o_262 P) BT.nil BT.nil) BT.nil)) (BT.node (hd.o_91 P) (BT.node (hd.o_125 P) (BT.node (hd.o_244 P) BT.nil BT.nil) (BT.node (hd.o_312 P) BT.nil BT.nil)) (BT.node (hd.o_157 P) (BT.node (hd.o_280 P) BT.nil BT.nil) BT.nil)))) (BT.node (hd.o_43 P) (BT.node (hd.o_55 P) (BT.node (hd.o_71 P) (BT.node (hd.o_105 P) (BT.node (hd.o_169 P) BT.nil BT.nil) (BT.node (hd.o_292 P) BT.nil BT.nil)) (BT.node (hd.o_137 P) (BT.node (hd.o_258 P) BT.nil BT.nil) BT.nil)) (BT.node (hd.o_87 P) (BT.node (hd.o_121 P) (BT.node (hd.o_240 P) BT.nil BT.nil) (BT.node (hd.o_308 P) BT.nil BT.nil)) (BT.node (hd.o_153 P) (BT.node (hd.o_274 P) BT.nil BT.nil) BT.nil))) (BT.node (hd.o_63 P) (BT.node (hd.o_79 P) (BT.node (hd.o_113 P) (BT.node (hd.o_232 P) BT.nil BT.nil) (BT.node (hd.o_300 P) BT.nil BT.nil)) (BT.node (hd.o_145 P) (BT.node (hd.o_266 P) BT.nil BT.nil) BT.nil)) (BT.node (hd.o_95 P) (BT.node (hd.o_129 P) (BT.node (hd.o_248 P) BT.nil BT.nil) (BT.node (hd.o_316 P) BT.nil BT.nil)) (BT.node (hd.o_161 P) (BT.node (hd.o_284 P) BT.nil BT.nil) BT.nil))))) (BT.node (boot_o_5 P) (BT.node (boot_o_9 P) (BT.node (hd.o_53 P) (BT.node (hd.o_69 P) (BT.node (hd.o_103 P) (BT.node (hd.o_167 P) BT.nil BT.nil) (BT.node (hd.o_290 P) BT.nil BT.nil)) (BT.node (hd.o_135 P) (BT.node (hd.o_256 P) BT.nil BT.nil) BT.nil)) (BT.node (hd.o_85 P) (BT.node (hd.o_119 P) (BT.node (hd.o_238 P) BT.nil BT.nil) (BT.node (hd.o_306 P) BT.nil BT.nil)) (BT.node (hd.o_151 P) (BT.node (hd.o_272 P) BT.nil BT.nil) BT.nil))) (BT.node (hd.o_61 P) (BT.node (hd.o_77 P) (BT.node (hd.o_111 P) (BT.node (hd.o_230 P) BT.nil BT.nil) (BT.node (hd.o_298 P) BT.nil BT.nil)) (BT.node (hd.o_143 P) (BT.node (hd.o_264 P) BT.nil BT.nil) BT.nil)) (BT.node (hd.o_93 P) (BT.node (hd.o_127 P) (BT.node (hd.o_246 P) BT.nil BT.nil) (BT.node (hd.o_314 P) BT.nil BT.nil)) (BT.node (hd.o_159 P) (BT.node (hd.o_282 P) BT.nil BT.nil) BT.nil)))) (BT.node (hd.o_45 P) (BT.node (hd.o_57 P) (BT.node (hd.o_73 P) (BT.node (hd.o_107 P) (BT.node (hd.o_171 P) BT.nil BT.nil) (BT.node (hd.o_294 P) BT.nil BT.nil)) (BT.node (hd.o_139 P) (BT.node (hd.o_260 P) BT.nil BT.nil) BT.nil)) (BT.node (hd.o_89 P) (BT.node (hd.o_123 P) (BT.node (hd.o_242 P) BT.nil BT.nil) (BT.node (hd.o_310 P) BT.nil BT.nil)) (BT.node (hd.o_155 P) (BT.node (hd.o_278 P) BT.nil BT.nil) BT.nil))) (BT.node (hd.o_65 P) (BT.node (hd.o_81 P) (BT.node (hd.o_115 P) (BT.node (hd.o_234 P) BT.nil BT.nil) (BT.node (hd.o_302 P) BT.nil BT.nil)) (BT.node (hd.o_147 P) (BT.node (hd.o_268 P) BT.nil BT.nil) BT.nil)) (BT.node (hd.o_97 P) (BT.node (hd.o_131 P) (BT.node (hd.o_252 P) BT.nil BT.nil) (BT.node (hd.o_318 P) BT.nil BT.nil)) (BT.node (hd.o_163 P) (BT.node (hd.o_286 P) BT.nil BT.nil) BT.nil)))))) (BT.node (boot_o_2 P) (BT.node (boot_o_4 P) (BT.node (boot_o_8 P) (BT.node (hd.o_52 P) (BT.node (hd.o_68 P) (BT.node (hd.o_100 P) (BT.node (hd.o_166 P) BT.nil BT.nil) (BT.node (hd.o_289 P) BT.nil BT.nil)) (BT.node (hd.o_134 P) (BT.node (hd.o_255 P) BT.nil BT.nil) BT.nil)) (BT.node (hd.o_84 P) (BT.node (hd.o_118 P) (BT.node (hd.o_237 P) BT.nil BT.nil) (BT.node (hd.o_305 P) BT.nil BT.nil)) (BT.node (hd.o_150 P) (BT.node (hd.o_271 P) BT.nil BT.nil) BT.nil))) (BT.node (hd.o_60 P) (BT.node (hd.o_76 P) (BT.node (hd.o_110 P) (BT.node (hd.o_229 P) BT.nil BT.nil) (BT.node (hd.o_297 P) BT.nil BT.nil)) (BT.node (hd.o_142 P) (BT.node (hd.o_263 P) BT.nil BT.nil) BT.nil)) (BT.node (hd.o_92 P) (BT.node (hd.o_126 P) (BT.node (hd.o_245 P) BT.nil BT.nil) (BT.node (hd.o_313 P) BT.nil BT.nil)) (BT.node (hd.o_158 P) (BT.node (hd.o_281 P) BT.nil BT.nil) BT.nil)))) (BT.node (hd.o_276 P) (BT.node (hd.o_56 P) (BT.node (hd.o_72 P) (BT.node (hd.o_106 P) (BT.node (hd.o_170 P) BT.nil BT.nil) (BT.node (hd.o_293 P) BT.nil BT.nil)) (BT.node (hd.o_138 P) (BT.node (hd.o_259 P) BT.nil BT.nil) BT.nil)) (BT.node (hd.o_88 P) (BT.node (hd.o_122 P) (BT.node (hd.o_241 P) BT.nil BT.nil) (BT.node (hd.o_309 P) BT.nil BT.nil)) (BT.node (hd.o_154 P) (BT.node (hd.o_277 P) BT.nil BT.nil) BT.nil))) (BT.node (hd.o_64 P) (BT.node (hd.o_80 P) (BT.node (hd.o_114 P) (BT.node (hd.o_233 P) BT.nil BT.nil) (BT.node (hd.o_301 P) BT.nil BT.nil)) (BT.node (hd.o_146 P) (BT.node (hd.o_267 P) BT.nil BT.nil) BT.nil)) (BT.node (hd.o_96 P) (BT.node (hd.o_130 P) (BT.node (hd.o_249 P) BT.nil BT.nil) (BT.node (hd.o_317 P) BT.nil BT.nil)) (BT.node (hd.o_162 P) (BT.node (hd.o_285 P) BT.nil BT.nil) BT.nil))))) (BT.node (boot_o_6 P) (BT.node (boot_o_10 P) (BT.node (hd.o_54 P) (BT.node (hd.o_70 P) (BT.node (hd.o_104 P) (BT.node (hd.o_168 P) BT.nil BT.nil) (BT.node (hd.o_291 P) BT.nil BT.nil)) (BT.node (hd.o_136 P) (BT.node (hd.o_257 P) BT.nil BT.nil) BT.nil)) (BT.node (hd.o_86 P) (BT.node (hd.o_120 P) (BT.node (hd.o_239 P) BT.nil BT.nil) (BT.node (hd.o_307 P) BT.nil BT.nil)) (BT.node (hd.o_152 P) (BT.node (hd.o_273 P) BT.nil BT.nil) BT.nil))) (BT.node (hd.o_62 P) (BT.node (hd.o_78 P) (BT.node (hd.o_112 P) (BT.node (hd.o_231 P) BT.nil BT.nil) (BT.node (hd.o_299 P) BT.nil BT.nil)) (BT.node (hd.o_144 P) (BT.node (hd.o_265 P) BT.nil BT.nil) BT.nil)) (BT.node (hd.o_94 P) (BT.node (hd.o_128 P) (BT.node (hd.o_247 P) BT.nil BT.nil) (BT.node (hd.o_315 P) BT.nil BT.nil)) (BT.node (hd.o_160 P) (BT.node (hd.o_283 P) BT.nil BT.nil) BT.nil)))) (BT.node (hd.o_46 P) (BT.node (hd.o_58 P) (BT.node (hd.o_74 P) (BT.node (hd.o_108 P) (BT.node (hd.o_172 P) BT.nil BT.nil) (BT.node (hd.o_295 P) BT.nil BT.nil)) (BT.node (hd.o_140 P) (BT.node (hd.o_261 P) BT.nil BT.nil) BT.nil)) (BT.node (hd.o_90 P) (BT.node (hd.o_124 P) (BT.node (hd.o_243 P) BT.nil BT.nil) (BT.node (hd.o_311 P) BT.nil BT.nil)) (BT.node (hd.o_156 P) (BT.node (hd.o_279 P) BT.nil BT.nil) BT.nil))) (BT.node (hd.o_66 P) (BT.node (hd.o_82 P) (BT.node (hd.o_116 P) (BT.node (hd.o_235 P) BT.nil BT.nil) (BT.node (hd.o_303 P) BT.nil BT.nil)) (BT.node (hd.o_148 P) (BT.node (hd.o_269 P) BT.nil BT.nil) BT.nil)) (BT.node (hd.o_98 P) (BT.node (hd.o_132 P) (BT.node (hd.o_253 P) BT.nil BT.nil) BT.nil) (BT.node (hd.o_164 P) (BT.node (hd.o_287 P) BT.nil BT.nil) BT.nil))))))
noncomputable def hd.tree_376 : Params → BT := fun P => BT.node (boot_o_0 P) (BT.node (boot_o_1 P) (BT.node (hd.o_370 P) (BT.node (boot_o_7 P) (BT.node (hd.o_51 P) (BT.node (hd.o_67 P) (BT.node (hd.o_99 P) (BT.node (hd.o_165 P) (BT.node (hd.o_354 P) BT.nil BT.nil) BT.nil) (BT.node (hd.o_288 P) BT.nil BT.nil)) (BT.node (hd.o_133 P) (BT.node (hd.o_254 P) BT.nil BT.nil) (BT.node (hd.o_322 P) BT.nil BT.nil))) (BT.node (hd.o_83 P) (BT.node (hd.o_117 P) (BT.node (hd.o_236 P) (BT.node (hd.o_372 P) BT.nil BT.nil) BT.nil) (BT.node (hd.o_304 P) BT.nil BT.nil)) (BT.node (hd.o_149 P) (BT.node (hd.o_270 P) BT.nil BT.nil) (BT.node (hd.o_338 P) BT.nil BT.nil)))) (BT.node (hd.o_59 P) (BT.node (hd.o_75 P) (BT.node (hd.o_109 P) (BT.node (hd.o_173 P) (BT.node (hd.o_362 P) BT.nil BT.nil) BT.nil) (BT.node (hd.o_296 P) BT.nil BT.nil)) (BT.node (hd.o_141 P) (BT.node (hd.o_262 P) BT.nil BT.nil) (BT.node (hd.o_330 P) BT.nil BT.nil))) (BT.node (hd.o_91 P) (BT.node (hd.o_125 P) (BT.node (hd.o_244 P) BT.nil BT.nil) (BT.node (hd.o_312 P) BT.nil BT.nil)) (BT.node (hd.o_157 P) (BT.node (hd.o_280 P) BT.nil BT.nil) (BT.node (hd.o_346 P) BT.nil BT.nil))))) (BT.node (hd.o_43 P) (BT.node (hd.o_55 P) (BT.node (hd.o_71 P) (BT.node (hd.o_105 P) (BT.node (hd.o_169 P) (BT.node (hd.o_358 P) BT.nil BT.nil) BT.nil) (BT.node (hd.o_292 P) BT.nil BT.nil)) (BT.node (hd.o_137 P) (BT.node (hd.o_258 P) BT.nil BT.nil) (BT.node (hd.o_326 P) BT.nil BT.nil))) (BT.node (hd.o_87 P) (BT.node (hd.o_121 P) (BT.node (hd.o_240 P) (BT.node (hd.o_376 P) BT.nil BT.nil) BT.nil) (BT.node (hd.o_308 P) BT.nil BT.nil)) (BT.node (hd.o_153 P) (BT.node (hd.o_274 P) BT.nil BT.nil) (BT.node (hd.o_342 P) BT.nil BT.nil)))) (BT.node (hd.o_63 P) (BT.node (hd.o_79 P) (BT.node (hd.o_113 P) (BT.node (hd.o_232 P) (BT.node (hd.o_366 P) BT.nil BT.nil) BT.nil) (BT.node (hd.o_300 P) BT.nil BT.nil)) (BT.node (hd.o_145 P) (BT.node (hd.o_266 P) BT.nil BT.nil) (BT.node (hd.o_334 P) BT.nil BT.nil))) (BT.node (hd.o_95 P) (BT.node (hd.o_129 P) (BT.node (hd.o_248 P) BT.nil BT.nil) (BT.node (hd.o_316 P) BT.nil BT.nil)) (BT.node (hd.o_161 P) (BT.node (hd.o_284 P) BT.nil BT.nil) (BT.node (hd.o_350 P) BT.nil BT.nil)))))) (BT.node (boot_o_5 P) (BT.node (boot_o_9 P) (BT.node (hd.o_53 P) (BT.node (hd.o_69 P) (BT.node (hd.o_103 P) (BT.node (hd.o_167 P) (BT.node (hd.o_356 P) BT.nil BT.nil) BT.nil) (BT.node (hd.o_290 P) BT.nil BT.nil)) (BT.node (hd.o_135 P) (BT.node (hd.o_256 P) BT.nil BT.nil) (BT.node (hd.o_324 P) BT.nil BT.nil))) (BT.node (hd.o_85 P) (BT.node (hd.o_119 P) (BT.node (hd.o_238 P) (BT.node (hd.o_374 P) BT.nil BT.nil) BT.nil) (BT.node (hd.o_306 P) BT.nil BT.nil)) (BT.node (hd.o_151 P) (BT.node (hd.o_272 P) BT.nil BT.nil) (BT.node (hd.o_340 P) BT.nil BT.nil)))) (BT.node (hd.o_61 P) (BT.node (hd.o_77 P) (BT.node (hd.o_111 P) (BT.node (hd.o_230 P) (BT.node (hd.o_364 P) BT.nil BT.nil) BT.nil) (BT.node (hd.o_298 P) BT.nil BT.nil)) (BT.node (hd.o_143 P) (BT.node (hd.o_264 P) BT.nil BT.nil) (BT.node (hd.o_332 P) BT.nil BT.nil))) (BT.node (hd.o_93 P) (BT.node (hd.o_127 P) (BT.node (hd.o_246 P) BT.nil BT.nil) (BT.node (hd.o_314 P) BT.nil BT.nil)) (BT.node (hd.o_159 P) (BT.node (hd.o_282 P) BT.nil BT.nil) (BT.node (hd.o_348 P) BT.nil BT.nil))))) (BT.node (hd.o_45 P) (BT.node (hd.o_57 P) (BT.node (hd.o_73 P) (BT.node (hd.o_107 P) (BT.node (hd.o_171 P) (BT.node (hd.o_360 P) BT.nil BT.nil) BT.nil) (BT.node (hd.o_294 P) BT.nil BT.nil)) (BT.node (hd.o_139 P) (BT.node (hd.o_260 P) BT.nil BT.nil) (BT.node (hd.o_328 P) BT.nil BT.nil))) (BT.node (hd.o_89 P) (BT.node (hd.o_123 P) (BT.node (hd.o_242 P) BT.nil BT.nil) (BT.node (hd.o_310 P) BT.nil BT.nil)) (BT.node (hd.o_155 P) (BT.node (hd.o_278 P) BT.nil BT.nil) (BT.node (hd.o_344 P) BT.nil BT.nil)))) (BT.node (hd.o_65 P) (BT.node (hd.o_81 P) (BT.node (hd.o_115 P) (BT.node (hd.o_234 P) (BT.node (hd.o_368 P) BT.nil BT.nil) BT.nil) (BT.node (hd.o_302 P) BT.nil BT.nil)) (BT.node (hd.o_147 P) (BT.node (hd.o_268 P) BT.nil BT.nil) (BT.node (hd.o_336 P) BT.nil BT.nil))) (BT.node (hd.o_97 P) (BT.node (hd.o_131 P) (BT.node (hd.o_252 P) BT.nil BT.nil) (BT.node (hd.o_318 P) BT.nil BT.nil)) (BT.node (hd.o_163 P) (BT.node (hd.o_286 P) BT.nil BT.nil) (BT.node (hd.o_352 P) BT.nil BT.nil))))))) (BT.node (boot_o_2 P) (BT.node (boot_o_4 P) (BT.node (boot_o_8 P) (BT.node (hd.o_52 P) (BT.node (hd.o_68 P) (BT.node (hd.o_100 P) (BT.node (hd.o_166 P) (BT.node (hd.o_355 P) BT.nil BT.nil) BT.nil) (BT.node (hd.o_289 P) BT.nil BT.nil)) (BT.node (hd.o_134 P) (BT.node (hd.o_255 P) BT.nil BT.nil) (BT.node (hd.o_323 P) BT.nil BT.nil))) (BT.node (hd.o_84 P) (BT.node (hd.o_118 P) (BT.node (hd.o_237 P) (BT.node (hd.o_373 P) BT.nil BT.nil) BT.nil) (BT.node (hd.o_305 P) BT.nil BT.nil)) (BT.node (hd.o_150 P) (BT.node (hd.o_271 P) BT.nil BT.nil) (BT.node (hd.o_339 P) BT.nil BT.nil)))) (BT.node (hd.o_60 P) (BT.node (hd.o_76 P) (BT.node (hd.o_110 P) (BT.node (hd.o_229 P) (BT.node (hd.o_363 P) BT.nil BT.nil) BT.nil) (BT.node (hd.o_297 P) BT.nil BT.nil)) (BT.node (hd.o_142 P) (BT.node (hd.o_263 P) BT.nil BT.nil) (BT.node (hd.o_331 P) BT.nil BT.nil))) (BT.node (hd.o_92 P) (BT.node (hd.o_126 P) (BT.node (hd.o_245 P) BT.nil BT.nil) (BT.node (hd.o_313 P) BT.nil BT.nil)) (BT.node (hd.o_158 P) (BT.node (hd.o_281 P) BT.nil BT.nil) (BT.node (hd.o_347 P) BT.nil BT.nil))))) (BT.node (hd.o_371 P) (BT.node (hd.o_56 P) (BT.node (hd.o_72 P) (BT.node (hd.o_106 P) (BT.node (hd.o_170 P) (BT.node (hd.o_359 P) BT.nil BT.nil) BT.nil) (BT.node (hd.o_293 P) BT.nil BT.nil)) (BT.node (hd.o_138 P) (BT.node (hd.o_259 P) BT.nil BT.nil) (BT.node (hd.o_327 P) BT.nil BT.nil))) (BT.node (hd.o_88 P) (BT.node (hd.o_122 P) (BT.node (hd.o_241 P) BT.nil BT.nil) (BT.node (hd.o_309 P) BT.nil BT.nil)) (BT.node (hd.o_154 P) (BT.node (hd.o_277 P) BT.nil BT.nil) (BT.node (hd.o_343 P) BT.nil BT.nil)))) (BT.node (hd.o_64 P) (BT.node (hd.o_80 P) (BT.node (hd.o_114 P) (BT.node (hd.o_233 P) (BT.node (hd.o_367 P) BT.nil BT.nil) BT.nil) (BT.node (hd.o_301 P) BT.nil BT.nil)) (BT.node (hd.o_146 P) (BT.node (hd.o_267 P) BT.nil BT.nil) (BT.node (hd.o_335 P) BT.nil BT.nil))) (BT.node (hd.o_96 P) (BT.node (hd.o_130 P) (BT.node (hd.o_249 P) BT.nil BT.nil) (BT.node (hd.o_317 P) BT.nil BT.nil)) (BT.node (hd.o_162 P) (BT.node (hd.o_285 P) BT.nil BT.nil) (BT.node (hd.o_351 P) BT.nil BT.nil)))))) (BT.node (boot_o_6 P) (BT.node (boot_o_10 P) (BT.node (hd.o_54 P) (BT.node (hd.o_70 P) (BT.node (hd.o_104 P) (BT.node (hd.o_168 P) (BT.node (hd.o_357 P) BT.nil BT.nil) BT.nil) (BT.node (hd.o_291 P) BT.nil BT.nil)) (BT.node (hd.o_136 P) (BT.node (hd.o_257 P) BT.nil BT.nil) (BT.node (hd.o_325 P) BT.nil BT.nil))) (BT.node (hd.o_86 P) (BT.node (hd.o_120 P) (BT.node (hd.o_239 P) (BT.node (hd.o_375 P) BT.nil BT.nil) BT.nil) (BT.node (hd.o_307 P) BT.nil BT.nil)) (BT.node (hd.o_152 P) (BT.node (hd.o_273 P) BT.nil BT.nil) (BT.node (hd.o_341 P) BT.nil BT.nil)))) (BT.node (hd.o_62 P) (BT.node (hd.o_78 P) (BT.node (hd.o_112 P) (BT.node (hd.o_231 P) (BT.node (hd.o_365 P) BT.nil BT.nil) BT.nil) (BT.node (hd.o_299 P) BT.nil BT.nil)) (BT.node (hd.o_144 P) (BT.node (hd.o_265 P) BT.nil BT.nil) (BT.node (hd.o_333 P) BT.nil BT.nil))) (BT.node (hd.o_94 P) (BT.node (hd.o_128 P) (BT.node (hd.o_247 P) BT.nil BT.nil) (BT.node (hd.o_315 P) BT.nil BT.nil)) (BT.node (hd.o_160 P) (BT.node (hd.o_283 P) BT.nil BT.nil) (BT.node (hd.o_349 P) BT.nil BT.nil))))) (BT.node (hd.o_46 P) (BT.node (hd.o_58 P) (BT.node (hd.o_74 P) (BT.node (hd.o_108 P) (BT.node (hd.o_172 P) (BT.node (hd.o_361 P) BT.nil BT.nil) BT.nil) (BT.node (hd.o_295 P) BT.nil BT.nil)) (BT.node (hd.o_140 P) (BT.node (hd.o_261 P) BT.nil BT.nil) (BT.node (hd.o_329 P) BT.nil BT.nil))) (BT.node (hd.o_90 P) (BT.node (hd.o_124 P) (BT.node (hd.o_243 P) BT.nil BT.nil) (BT.node (hd.o_311 P) BT.nil BT.nil)) (BT.node (hd.o_156 P) (BT.node (hd.o_279 P) BT.nil BT.nil) (BT.node (hd.o_345 P) BT.nil BT.nil)))) (BT.node (hd.o_66 P) (BT.node (hd.o_82 P) (BT.node (hd.o_116 P) (BT.node (hd.o_235 P) (BT.node (hd.o_369 P) BT.nil BT.nil) BT.nil) (BT.node (hd.o_303 P) BT.nil BT.nil)) (BT.node (hd.o_148 P) (BT.node (hd.o_269 P) BT.nil BT.nil) (BT.node (hd.o_337 P) BT.nil BT.nil))) (BT.node (hd.o_98 P) (BT.node (hd.o_132 P) (BT.node (hd.o_253 P) BT.nil BT.nil) (BT.node (hd.o_321 P) BT.nil BT.nil)) (BT.node (hd.o_164 P) (BT.node (hd.o_287 P) BT.nil BT.nil) (BT.node (hd.o_353 P) BT.nil BT.nil)))))))
noncomputable def hd.env : Env := { scope := pE.main.scope, locals := mainNs, globals := mainNs, cells := [], code := .ref 13, frame := some 14 }
noncomputable abbrev hd.B : List Stmt := behindTheImports pE
noncomputable abbrev hd.C : Code := .body hd.B hd.env
noncomputable abbrev hd.F : List Frame := [topFrame { line := 0, col := 0, endLine := 0, endCol := 0 }]
noncomputable abbrev hd.ann : Option Value := some (.ref 6)
noncomputable def hd.sts_49_101 : List Stmt := [vst_0, vst_1, vst_2, vst_3]
noncomputable def hd.sts_227_250_275 : List Stmt := [vst_4, vst_5, vst_6, vst_7]
noncomputable def hd.sts_319_370 : List Stmt := [vst_8, vst_9, vst_10, vst_11, vst_12, vst_13]
set_option maxHeartbeats 0
theorem hd_pre (w : World) (os : OsState) : topGo treeTable pE w 11 hd.ann 12 ⟨boot_heap w.params, #[], boot_drawn, boot_toks, os⟩ (topStub pE) = some ((⟨hd.heap_46 w.params, #[], {}, 187, os⟩ : Shared), ⟨denote treeTable hd.C, hd.C, { line := 0, col := 0, endLine := 0, endCol := 0 }, hd.F⟩) := by kernel_rfl
theorem hd_block (w : World) (os : OsState) : segRun treeTable pE w 11 hd.ann 1 1 (⟨hd.heap_46 w.params, #[], {}, 187, os⟩ : Shared) (blockOf hd.B hd.env hd.C { line := 0, col := 0, endLine := 0, endCol := 0 } hd.F) = some (.next, (⟨hd.tree_47 w.params, 15, {}, #[], {}, 187, os⟩ : SharedT).abs, hd.C, { line := 0, col := 0, endLine := 0, endCol := 0 }) := by kernel_rfl
theorem hd_run0 (w : World) (os : OsState) : segRunT treeTable pE w 11 hd.ann 1 1261 (⟨hd.tree_47 w.params, 15, {}, #[], {}, 187, os⟩ : SharedT) (piecesOf hd.sts_49_101 hd.env hd.C { line := 0, col := 0, endLine := 0, endCol := 0 } hd.F) = some (.next, (⟨hd.tree_173 w.params, 136, {}, #[], {}, 368, os⟩ : SharedT), hd.C, { line := 23, col := 0, endLine := 64, endCol := 51 }) := by kernel_rfl
theorem hd_run1 (w : World) (os : OsState) : segRunT treeTable pE w 11 hd.ann 1 1087 (⟨hd.tree_173 w.params, 136, {}, #[], {}, 368, os⟩ : SharedT) (piecesOf hd.sts_227_250_275 hd.env hd.C { line := 23, col := 0, endLine := 64, endCol := 51 } hd.F) = some (.next, (⟨hd.tree_318 w.params, 222, {}, #[], {}, 500, os⟩ : SharedT), hd.C, { line := 94, col := 0, endLine := 94, endCol := 8 }) := by kernel_rfl
theorem hd_run2 (w : World) (os : OsState) : segRunT treeTable pE w 11 hd.ann 1 411 (⟨hd.tree_318 w.params, 222, {}, #[], {}, 500, os⟩ : SharedT) (piecesOf hd.sts_319_370 hd.env hd.C { line := 94, col := 0, endLine := 94, endCol := 8 } hd.F) = some (.next, (⟨hd.tree_376 w.params, 276, {}, #[], {}, 600, os⟩ : SharedT), hd.C, { line := 155, col := 0, endLine := 179, endCol := 15 }) := by kernel_rfl
theorem hd_fin (w : World) (os : OsState) : topRun treeTable pE w 11 hd.ann 2 (⟨hd.tree_376 w.params, 276, {}, #[], {}, 600, os⟩ : SharedT).abs ⟨doneF .next, hd.C, { line := 155, col := 0, endLine := 179, endCol := 15 }, hd.F⟩ = some (⟨hd.tree_376 w.params, 276, {}, #[], {}, 600, os⟩ : SharedT).abs := by kernel_rfl
theorem hd_body : hd.B = hd.sts_49_101 ++ (hd.sts_227_250_275 ++ (hd.sts_319_370 ++ [])) := by kernel_rfl
theorem hd_rest (w : World) (os : OsState) : topRun treeTable pE w 11 hd.ann (1261 + (1087 + (411 + (2)))) (⟨hd.tree_47 w.params, 15, {}, #[], {}, 187, os⟩ : SharedT).abs (restOf (hd.sts_49_101 ++ (hd.sts_227_250_275 ++ (hd.sts_319_370 ++ []))) hd.env hd.C { line := 0, col := 0, endLine := 0, endCol := 0 } hd.F) = some (⟨hd.tree_376 w.params, 276, {}, #[], {}, 600, os⟩ : SharedT).abs :=
  piece_app (segRun_of (hd_run0 w os)) (piece_app (segRun_of (hd_run1 w os)) (piece_app (segRun_of (hd_run2 w os)) (piece_nil (hd_fin w os))))
theorem hd_all (w : World) (os : OsState) : topRun treeTable pE w 11 hd.ann (12 + (1 + (1261 + (1087 + (411 + (2)))))) ⟨boot_heap w.params, #[], boot_drawn, boot_toks, os⟩ (topStub pE) = some (⟨hd.tree_376 w.params, 276, {}, #[], {}, 600, os⟩ : SharedT).abs :=
  go_top (hd_pre w os) (piece_block (hd_block w os) ((congrArg (fun l => topRun treeTable pE w 11 hd.ann (1261 + (1087 + (411 + (2)))) (⟨hd.tree_47 w.params, 15, {}, #[], {}, 187, os⟩ : SharedT).abs (restOf l hd.env hd.C { line := 0, col := 0, endLine := 0, endCol := 0 } hd.F) = some (⟨hd.tree_376 w.params, 276, {}, #[], {}, 600, os⟩ : SharedT).abs) hd_body).mpr (hd_rest w os)))
theorem hd_open : opening pE = plainProg pE.main.scope.names := by kernel_rfl
theorem hd_fence (s : Shared) : fenceModules? pE s = some s := by kernel_rfl
theorem hd_size (w : World) : ((boot_heap w.params).isNs mainGlobals && (Array.mk [] : Array GenState).size == 0, (boot_heap w.params).objs.size, (boot_heap w.params).nsMap mainGlobals "__annotations__") = (true, 11, hd.ann) := by kernel_rfl
theorem hd_look1 (w : World) (os : OsState) : (staticsOk (importedModules pE.main.body) (boot_heap w.params) (absHeap (hd.tree_376 w.params) 276 {}) && namesBound pE (absHeap (hd.tree_376 w.params) 276 {}) && gensDone ⟨absHeap (hd.tree_376 w.params) 276 {}, #[], {}, 600, os⟩ && laidKept (boot_heap w.params) (absHeap (hd.tree_376 w.params) 276 {})) = true := by kernel_rfl
theorem hd_look2 (w : World) (os : OsState) : openSeen hd.view_39 hd_loose (importedModules pE.main.body) (fun s => xlAt hd.view_39 [] s && recOk (RowW.records (OpenRow.toRowW PySem.Challenge.rw_ja0007_01.row)) s) true ⟨absHeap (hd.tree_376 w.params) 276 {}, #[], {}, 600, os⟩ = openGood hd.view_39 hd_loose := by kernel_rfl
theorem hd_look3 (w : World) (os : OsState) : hd_hook.obs ⟨absHeap (hd.tree_376 w.params) 276 {}, #[], {}, 600, os⟩ = hd_hook.val w := by kernel_rfl
theorem hd_left : LeftO pE hd.view_39 hd_loose (fun s => xlAt hd.view_39 [] s && recOk (RowW.records (OpenRow.toRowW PySem.Challenge.rw_ja0007_01.row)) s) hd_hook.obs hd_hook.val 5638 :=
  LeftO.of_pieces (boot_open hd_open rfl hd_fence) hd_size (H₁ := fun P => absHeap (hd.tree_376 P) 276 {}) (fun w os => hd_all w os) rfl fun w => funext fun os => by
    rw [hd_look1 w os]
    exact congrArg (Prod.mk true) (by rw [hd_look2 w os]; exact congrArg (Prod.mk _) (hd_look3 w os))
end Mine
end
section
open PySem PySem.W PySem.Calls PyProof.Rows
namespace Mine
theorem off_J7A : True := by w_top off; trivial

/-- everything that stood stands still -/
def Kept (h h' : Heap) : Prop := ∀ b o, h.get? b = some o → h'.get? b = some o
theorem Kept.refl (h : Heap) : Kept h h := fun _ _ e => e
theorem Kept.trans {h h' h'' : Heap} (a : Kept h h') (b : Kept h' h'') : Kept h h'' := fun x o e => b x o (a x o e)

/-- the end of a call of the text's own def: what stood stands, and the rest -/
def OwnEnd (g : Heap) (objs : List (Addr × Obj)) (h : Heap) (P : Value → Shared → Prop) (v : Value) (s' : Shared) : Prop :=
  ∃ L' m' news', Fr g L' s'.heap m' ∧ News g L' s'.heap news' ∧ (∀ q ∈ objs, q ∈ news') ∧ (Kept h s'.heap → P v s')

theorem ownEnd_ {g h : Heap} {objs news' : List (Addr × Obj)} {P : Value → Shared → Prop} {v : Value} {s' : Shared} {L' : Addr} {m' : Str → Option Value}
    (F : Fr g L' s'.heap m') (N : News g L' s'.heap news') (hs : ∀ q ∈ objs, q ∈ news') (k : Kept h s'.heap → P v s') : OwnEnd g objs h P v s' :=
  ⟨L', m', news', F, N, hs, k⟩

theorem not_hidden {as : List Addr} {h : Heap} {b : Addr} {o : Obj} (e : h.get? b = some o) : (hideAll h as).get? b = some o ∨ b ∈ as := by
  by_cases hb : b ∈ as
  · exact .inr hb
  · exact .inl (hideAll_get as e hb)

section
variable {prog : Program} {w : World} {A : Around} {s : Shared} {K : Frag} {g₀ : Heap} {mg mb : Str → Option Value} {p : Program} {loose : List Str} {mean : ExcName → Option Value}
  {R : Result → Shared → Prop} {name qual : Str} {params : Arguments} {body : List Stmt} {scope : Scope} {dV kV doc pm cdv ct oc : Value} {an od : Option Addr} {osl : Array (Option Value)} {f : Addr} {args : Args} {binds : List (Str × Value)}
  {objs : List (Addr × Obj)}

/-- a call of an own def: its arguments' objects are its ledger; all that stood stands behind it -/
theorem own_call (X : K.In g₀) (T : Top p loose mean mg mb g₀) (st : Kept g₀ s.heap) (N : ∀ q ∈ objs, s.heap.get? q.1 = some q.2 ∧ g₀.get? q.1 = none)
    (ho : K.lookup f = some ⟨oc, od, .func (fnOf name qual params body scope dV kV doc pm an cdv ct), osl⟩) (hcd : codeIn K cdv qual = true) (hroom : A.depth < recursionLimit)
    (hbind : BindsTo s (fnOf name qual params body scope dV kV doc pm an cdv ct) args binds) (hloc : ∀ y ∈ binds, scope.names.lookup y.1 = some .local)
    (h : ∀ g L h₁ tk, K.In g → Top p loose mean mg mb g → Kept g s.heap → Fr g L h₁ (fun y => binds.reverse.lookup y) → News g L h₁ objs →
      wpAny (model prog w) (A.deeper (envOf qual scope L f cdv)) (execs body (envOf qual scope L f cdv))
        (fun fl s' => OwnEnd g objs s.heap (fun v s' => R (.ok (.ret v)) s') (match fl with | .ret v => v | _ => .none) s')
        (fun _ _ => False)
        { s with heap := h₁, toks := tk })
    (hcell : ∀ x ∈ scope.names, x.2 ≠ .cell) (hco : scope.isCoroutine = false := by rfl) (hgen : scope.isGenerator = false := by rfl) (hk : scope.kind = .function := by rfl) :
    codeAny (model prog w) A (.call (.ref f) args) R s := by
  refine codeAny_call_def (fd := fnOf name qual params body scope dV kV doc pm an cdv ct) (body := body) (binds := binds) hroom (st _ _ (X _ _ ho)) rfl (T.nolimit.keeps st) (codeRec_of (X.keeps st) hcd) rfl hbind hcell hloc (fun h₁ hns hk₁ => ?_) hco hgen hk
  have nm : ∀ b o, g₀.get? b = some o → b ∉ objs.map (·.1) := fun b o e hm => by
    obtain ⟨q, hq, rfl⟩ := List.mem_map.mp hm
    rw [(N q hq).2] at e; cases e
  have st' : Kept g₀ (hideAll s.heap (objs.map (·.1))) := fun b o e => hideAll_get _ (st b o e) (nm b o e)
  have hg : Kept (hideAll s.heap (objs.map (·.1))) s.heap := fun b o e => of_hideAll _ e
  refine wpAny_mono (h _ s.heap.objs.size h₁ _ (X.keeps st') (T.keeps st') hg ⟨hns, fun b o e => hk₁ b o (of_hideAll _ e), Nat.le_of_eq (hideAll_size _ _)⟩
    (fun q hq => ⟨hk₁ _ _ (N q hq).1, Nat.ne_of_lt (Heap.lt_size (N q hq).1), hideAll_none _ (List.mem_map_of_mem hq)⟩)) (fun fl s' hl => ?_) fun _ _ y => y.elim
  obtain ⟨L', m', news', F', N', hs, k⟩ := hl
  refine k fun b o e => ?_
  rcases not_hidden (as := objs.map (·.1)) e with e' | e'
  · exact F'.keep b o e'
  · obtain ⟨q, hq, rfl⟩ := List.mem_map.mp e'
    have := (N q hq).1
    rw [this] at e; cases e
    exact (N' q (hs q hq)).1
end

section
variable {prog : Program} {w : World} {A : Around} {s : Shared} {K : Frag} {g₀ : Heap} {mg mb : Str → Option Value} {p : Program} {loose : List Str} {mean : ExcName → Option Value}
  {R : Result → Shared → Prop} {name qual : Str} {params : Arguments} {body : List Stmt} {scope : Scope} {dV kV doc pm cdv ct oc : Value} {an od : Option Addr} {osl : Array (Option Value)} {f : Addr} {args : Args} {binds : List (Str × Value)}
/-- a call of an own def that is handed no objects -/
theorem own_call0 (X : K.In g₀) (T : Top p loose mean mg mb g₀) (st : Kept g₀ s.heap)
    (ho : K.lookup f = some ⟨oc, od, .func (fnOf name qual params body scope dV kV doc pm an cdv ct), osl⟩) (hcd : codeIn K cdv qual = true) (hroom : A.depth < recursionLimit)
    (hbind : BindsTo s (fnOf name qual params body scope dV kV doc pm an cdv ct) args binds) (hloc : ∀ y ∈ binds, scope.names.lookup y.1 = some .local)
    (h : ∀ L h₁ tk, K.In s.heap → Top p loose mean mg mb s.heap → Fr s.heap L h₁ (fun y => binds.reverse.lookup y) → News s.heap L h₁ [] →
      wpAny (model prog w) (A.deeper (envOf qual scope L f cdv)) (execs body (envOf qual scope L f cdv))
        (fun fl s' => OwnEnd s.heap [] s.heap (fun v s' => R (.ok (.ret v)) s') (match fl with | .ret v => v | _ => .none) s')
        (fun _ _ => False)
        { s with heap := h₁, toks := tk })
    (hcell : ∀ x ∈ scope.names, x.2 ≠ .cell) (hco : scope.isCoroutine = false := by rfl) (hgen : scope.isGenerator = false := by rfl) (hk : scope.kind = .function := by rfl) :
    codeAny (model prog w) A (.call (.ref f) args) R s := by
  refine codeAny_call_def (fd := fnOf name qual params body scope dV kV doc pm an cdv ct) (body := body) (binds := binds) hroom (st _ _ (X _ _ ho)) rfl (T.nolimit.keeps st) (codeRec_of (X.keeps st) hcd) rfl hbind hcell hloc (fun h₁ hns hk₁ => ?_) hco hgen hk
  refine wpAny_mono (h s.heap.objs.size h₁ _ (X.keeps st) (T.keeps st) ⟨hns, hk₁, Nat.le_refl _⟩ (List.forall_mem_nil _)) (fun fl s' hl => ?_) fun _ _ y => y.elim
  obtain ⟨L', m', news', F', N', hs, k⟩ := hl
  exact k F'.keep
end

/-- all stands but what is named -/
def KeptOff (as : List Addr) (h h' : Heap) : Prop := ∀ b o, b ∉ as → h.get? b = some o → h'.get? b = some o
def OwnEndU (g : Heap) (as : List Addr) (h : Heap) (P : Value → Shared → Prop) (v : Value) (s' : Shared) : Prop :=
  ∃ L' m' news', Fr g L' s'.heap m' ∧ News g L' s'.heap news' ∧ (KeptOff as h s'.heap → P v s')
theorem ownEndU_ {g h : Heap} {as : List Addr} {news' : List (Addr × Obj)} {P : Value → Shared → Prop} {v : Value} {s' : Shared} {L' : Addr} {m' : Str → Option Value}
    (F : Fr g L' s'.heap m') (N : News g L' s'.heap news') (k : KeptOff as h s'.heap → P v s') : OwnEndU g as h P v s' :=
  ⟨L', m', news', F, N, k⟩
section
variable {prog : Program} {w : World} {A : Around} {s : Shared} {K : Frag} {g₀ : Heap} {mg mb : Str → Option Value} {p : Program} {loose : List Str} {mean : ExcName → Option Value}
  {R : Result → Shared → Prop} {name qual : Str} {params : Arguments} {body : List Stmt} {scope : Scope} {dV kV doc pm cdv ct oc : Value} {an od : Option Addr} {osl : Array (Option Value)} {f : Addr} {args : Args} {binds : List (Str × Value)}
  {objs : List (Addr × Obj)}
/-- a call of an own def that changes the objects it is handed -/
theorem own_callU (X : K.In g₀) (T : Top p loose mean mg mb g₀) (st : Kept g₀ s.heap) (N : ∀ q ∈ objs, s.heap.get? q.1 = some q.2 ∧ g₀.get? q.1 = none)
    (ho : K.lookup f = some ⟨oc, od, .func (fnOf name qual params body scope dV kV doc pm an cdv ct), osl⟩) (hcd : codeIn K cdv qual = true) (hroom : A.depth < recursionLimit)
    (hbind : BindsTo s (fnOf name qual params body scope dV kV doc pm an cdv ct) args binds) (hloc : ∀ y ∈ binds, scope.names.lookup y.1 = some .local)
    (h : ∀ g L h₁ tk, K.In g → Top p loose mean mg mb g → Fr g L h₁ (fun y => binds.reverse.lookup y) → News g L h₁ objs →
      wpAny (model prog w) (A.deeper (envOf qual scope L f cdv)) (execs body (envOf qual scope L f cdv))
        (fun fl s' => OwnEndU g (objs.map (·.1)) s.heap (fun v s' => R (.ok (.ret v)) s') (match fl with | .ret v => v | _ => .none) s')
        (fun _ _ => False)
        { s with heap := h₁, toks := tk })
    (hcell : ∀ x ∈ scope.names, x.2 ≠ .cell) (hco : scope.isCoroutine = false := by rfl) (hgen : scope.isGenerator = false := by rfl) (hk : scope.kind = .function := by rfl) :
    codeAny (model prog w) A (.call (.ref f) args) R s := by
  refine codeAny_call_def (fd := fnOf name qual params body scope dV kV doc pm an cdv ct) (body := body) (binds := binds) hroom (st _ _ (X _ _ ho)) rfl (T.nolimit.keeps st) (codeRec_of (X.keeps st) hcd) rfl hbind hcell hloc (fun h₁ hns hk₁ => ?_) hco hgen hk
  have nm : ∀ b o, g₀.get? b = some o → b ∉ objs.map (·.1) := fun b o e hm => by
    obtain ⟨q, hq, rfl⟩ := List.mem_map.mp hm
    rw [(N q hq).2] at e; cases e
  have st' : Kept g₀ (hideAll s.heap (objs.map (·.1))) := fun b o e => hideAll_get _ (st b o e) (nm b o e)
  refine wpAny_mono (h _ s.heap.objs.size h₁ _ (X.keeps st') (T.keeps st') ⟨hns, fun b o e => hk₁ b o (of_hideAll _ e), Nat.le_of_eq (hideAll_size _ _)⟩
    (fun q hq => ⟨hk₁ _ _ (N q hq).1, Nat.ne_of_lt (Heap.lt_size (N q hq).1), hideAll_none _ (List.mem_map_of_mem hq)⟩)) (fun fl s' hl => ?_) fun _ _ y => y.elim
  obtain ⟨L', m', news', F', N', k⟩ := hl
  exact k fun b o hb e => F'.keep b o (hideAll_get _ e hb)
end

/-- a point of the text's own class: two ints -/
abbrev ptObj (dx : Addr) (x y : Int) (tx ty : Tok) (n : Nat) : Obj := { cls := .ref 132, dict := some dx, data := .seq #[.int x tx, .int y ty] n }

end Mine
end
section
open PySem PySem.W PySem.Calls PyProof.Rows
namespace Mine
theorem off_J7P : True := by w_top off; trivial
variable {w : World} {prog : Program} {A : Around} {E : Value → Shared → Prop} {s : Shared} {Q : Value → Shared → Prop}

theorem cls_at {h : Heap} {K : Frag} {C : Addr} {cd : ClassData} (X : K.In h) (e : clsIn K C = some cd) : ∃ c d sl, h.get? C = some ⟨c, d, .cls cd, sl⟩ := by
  unfold clsIn at e
  split at e
  · rename_i c d cd' sl ho; cases e; exact ⟨c, d, sl, X _ _ ho⟩
  · cases e

theorem issub_nested {K : Frag} {C : Addr} {cd : ClassData} {Q : Fin → Shared → Prop} (X : K.In s.heap) (hc : clsIn K C = some cd) (hm : mroIn K C (.type "tuple") = some true)
    (hq : Q (.done (.ret (.bool true))) s) : wpAny (model prog w) A (Builtin.«issubclass.nested» ⟨[.ref C, .type "tuple", rawInt 0], []⟩) Q E s := by
  obtain ⟨hh, g, d, t, os⟩ := s
  obtain ⟨c0, d0, sl0, ho⟩ := cls_at X hc
  dsimp only at ho
  have L1 := looks_mroIn (M := model prog w) X hm
  have L2 : Looks (model prog w) hh (typeOf (.type "tuple")) (.type "type") := Looks.of_pure (by kernel_rfl)
  unfold Builtin.«issubclass.nested»
  repeat lk
  exact hq
/-- issubclass(C, tuple) of an own class over tuple -/
theorem issub_own {K : Frag} {C : Addr} {cd : ClassData} (X : K.In s.heap) (hc : clsIn K C = some cd) (hm : mroIn K C (.type "tuple") = some true)
    (hq : Q (.bool true) s) : wpAny (model prog w) A (call (.builtin "issubclass") [.ref C, .type "tuple"]) Q E s :=
  call_function_meets (S := fun _ R s => K.In s.heap ∧ R (.ok (.ret (.bool true))) s) F.kind_issubclass F.plain_issubclass F.entry_issubclass (F.args_issubclass_2 _ _)
    (fun _ _ _ _ _ hs => issubclass_outer (issub_nested hs.1 hc hm hs.2)) ⟨X, hq⟩

theorem inst_tup {h₀ h : Heap} {L x C dx : Addr} {news : List (Addr × Obj)} {od : Obj} {xs : Array Value} {n : Nat} {sl : Array (Option Value)} (N : News h₀ L h news)
    (h1 : (x, (⟨.ref C, some dx, .seq xs n, sl⟩ : Obj)) ∈ news) (h2 : (dx, od) ∈ news) : InstAt h x ⟨.ref C, some dx, .seq xs n, sl⟩ C (some od) := ⟨(N _ h1).1, rfl, rfl, (N _ h2).1⟩
theorem own_getitem (l : Addr) (c : Value) (dd : Option Addr) (sl : Array (Option Value)) (items : Array Value) (n : Nat) (i : Int) (u : Tok) (k : Nat) (y : Value) (hlo : -2 ^ 63 ≤ i) (hhi : i < 2 ^ 63) (hk : seqIndex? i items.size = some k) (hy : items[k]? = some y) :
    Meets (Builtin.«tuple.__getitem__» ⟨[.ref l, .int i u], []⟩)
      (fun _ R s => s.heap.get? l = some { cls := c, dict := dd, data := .seq items n, slots := sl } ∧ R (.ok (.ret y)) s) :=
  .of_wp fun prog w A R s h => by
    obtain ⟨hp, g, d, tk, os⟩ := s; obtain ⟨hl, h⟩ := h
    have f1 := AutoSeq1.idx_int
    have hf : ¬ (decide (i < -2 ^ 63) || decide (i ≥ 2 ^ 63)) = true := by simp; omega
    wp_walk using PySem.AutoSeq1.wpAny_loadPart' hl
    simp only [hk, hy, Option.bind_some]
    refine wpAny_ite_false (by simp; omega) ?_
    wp_walk
    exact ⟨_, rfl, h⟩
theorem kind_tgi : builtinKind "tuple.__getitem__" = some .slot := by decide +kernel
theorem split_tgi : splitId "tuple.__getitem__" = some ("tuple", "__getitem__") := by decide +kernel
/-- tuple.__getitem__(p, i) of an own tuple -/
theorem tup_item {K : Frag} {C p : Addr} {ox : Obj} {od : Option Obj} {xs : Array Value} {n k : Nat} {i : Int} {ti : Tok} {v : Value} (X : K.In s.heap) (I : InstAt s.heap p ox C od) (hd : ox.data = .seq xs n)
    (hm : mroIn K C (.type "tuple") = some true) (hlo : -2 ^ 63 ≤ i) (hhi : i < 2 ^ 63) (hk : seqIndex? i xs.size = some k) (hv : xs[k]? = some v)
    (hq : Q v s) : wpAny (model prog w) A (call (.builtin "tuple.__getitem__") [.ref p, .int i ti]) Q E s := by
  have L0 := I.type (M := model prog w)
  have L1 := looks_mroIn (M := model prog w) X hm
  have L2 : Looks (model prog w) s.heap (isInstance (.ref p) (.type "tuple")) true := L0.andThen L1
  obtain ⟨oc, odd, oda, osl⟩ := ox
  dsimp only at hd
  subst hd
  have g := own_getitem p oc odd osl xs n i ti k v hlo hhi hk hv prog w A (wants Q E) s ⟨I.at_, hq⟩
  refine wpAny_call (Q := Q) (E := E) ?_
  refine codeAny_call_builtin slot_tuple_getitem.plain entry_tuple_getitem ?_
  exact @check_slot (model prog w) A.in1 _ s "tuple.__getitem__" "tuple" "__getitem__" (.ref p) [.int i ti] [] _ kind_tgi split_tgi L2 (args_tuple_getitem _ _) g
theorem tup_item0 {K : Frag} {C p : Addr} {ox : Obj} {od : Option Obj} {n : Nat} {ti : Tok} {v v' : Value} (X : K.In s.heap) (I : InstAt s.heap p ox C od) (hd : ox.data = .seq #[v, v'] n)
    (hm : mroIn K C (.type "tuple") = some true) (hq : Q v s) : wpAny (model prog w) A (call (.builtin "tuple.__getitem__") [.ref p, .int 0 ti]) Q E s :=
  tup_item X I hd hm (by decide) (by decide) (k := 0) rfl rfl hq
theorem tup_item1 {K : Frag} {C p : Addr} {ox : Obj} {od : Option Obj} {n : Nat} {ti : Tok} {v v' : Value} (X : K.In s.heap) (I : InstAt s.heap p ox C od) (hd : ox.data = .seq #[v, v'] n)
    (hm : mroIn K C (.type "tuple") = some true) (hq : Q v' s) : wpAny (model prog w) A (call (.builtin "tuple.__getitem__") [.ref p, .int 1 ti]) Q E s :=
  tup_item X I hd hm (by decide) (by decide) (k := 1) rfl rfl hq
theorem news_sub {h₀ h : Heap} {L : Addr} {news objs : List (Addr × Obj)} (N : News h₀ L h news) (hs : ∀ q ∈ objs, q ∈ news) : ∀ q ∈ objs, h.get? q.1 = some q.2 ∧ h₀.get? q.1 = none :=
  fun q hq => ⟨(N q (hs q hq)).1, (N q (hs q hq)).2.2⟩
theorem fr_kept {h₀ h h' : Heap} {L : Addr} {m : Str → Option Value} (F : Fr h₀ L h m) (k : Kept h h') : Fr h₀ L h' m := ⟨F.ns.keeps k, fun b o e => k _ _ (F.keep b o e), F.above⟩
theorem news_kept {h₀ h h' : Heap} {L : Addr} {news : List (Addr × Obj)} (N : News h₀ L h news) (k : Kept h h') : News h₀ L h' news := fun q hq => ⟨k _ _ (N q hq).1, (N q hq).2⟩
end Mine
end
section
open PySem PySem.W PySem.Calls PyProof.Rows
namespace Mine
theorem off_J7M : True := by w_top off; trivial
abbrev prObj (x y : Int) (tx ty : Tok) (n : Nat) : Obj := { cls := .type "tuple", data := .seq #[.int x tx, .int y ty] n }
def lexLt (ax ay bx by' : Int) : Bool := if ax = bx then decide (ay < by') else decide (ax < bx)
section
variable {prog : Program} {w : World} {A : Around} {E : Value → Shared → Prop} {s : Shared} {Q : Value → Shared → Prop}
theorem lt_ii {x y : Int} {t u : Tok} (h : Q (.bool (decide (x < y))) s) : wpAny (model prog w) A (richCompare .Lt (.int x t) (.int y u)) Q E s := Flt.lt_num (.int x t) (.int y u) h
theorem gt_ii {x y : Int} {t u : Tok} (h : Q (.bool (decide (y < x))) s) : wpAny (model prog w) A (richCompare .Gt (.int x t) (.int y u)) Q E s := Flt.gt_num (.int x t) (.int y u) h
end
theorem tup_lt (a b : Addr) (ax ay bx by' : Int) (t1 t2 t3 t4 : Tok) (n m : Nat) :
    Meets (Builtin.«tuple.__lt__» ⟨[.ref a, .ref b], []⟩)
      (fun _ R s => (s.heap.get? a = some (prObj ax ay t1 t2 n) ∧ s.heap.get? b = some (prObj bx by' t3 t4 m)) ∧ R (.ok (.ret (.bool (lexLt ax ay bx by')))) s) :=
  .of_wp fun prog w A R s h => by
    obtain ⟨hp, g, d, tk, os⟩ := s; obtain ⟨⟨ha, hb⟩, h⟩ := h
    dsimp only at ha hb
    have L1 : Looks (model prog w) hp (isInstance (.ref b) (.type "tuple")) true := (Looks.ld hb |>.andThen .now).andThen (Looks.of_pure sub_tuple_self)
    unfold Builtin.«tuple.__lt__»
    repeat (first | (with_reducible refine wpAny_eqBool_int ?_) | lk)
    cases e1 : (ax == bx) with
    | false =>
      have hne : ¬ ax = bx := by intro e; rw [e] at e1; simp at e1
      have hne' : ¬ bx = ax := fun e => hne e.symm
      simp only [lexLt, if_neg hne] at h
      repeat (first | (with_reducible refine lt_ii ?_) | lk)
      exact ⟨_, rfl, h⟩
    | true =>
      have he : ax = bx := by simpa using e1
      subst he
      simp only [lexLt, if_true] at h
      repeat (first | (with_reducible refine wpAny_eqBool_int ?_) | lk)
      cases e2 : (ay == by') with
      | false =>
        repeat (first | (with_reducible refine lt_ii ?_) | lk)
        exact ⟨_, rfl, h⟩
      | true =>
        have he : ay = by' := by simpa using e2
        subst he
        have hl : decide (ay < ay) = false := by simp
        rw [hl] at h
        repeat lk
        exact ⟨_, rfl, h⟩
theorem tup_gt (a b : Addr) (ax ay bx by' : Int) (t1 t2 t3 t4 : Tok) (n m : Nat) :
    Meets (Builtin.«tuple.__gt__» ⟨[.ref a, .ref b], []⟩)
      (fun _ R s => (s.heap.get? a = some (prObj ax ay t1 t2 n) ∧ s.heap.get? b = some (prObj bx by' t3 t4 m)) ∧ R (.ok (.ret (.bool (lexLt bx by' ax ay)))) s) :=
  .of_wp fun prog w A R s h => by
    obtain ⟨hp, g, d, tk, os⟩ := s; obtain ⟨⟨ha, hb⟩, h⟩ := h
    dsimp only at ha hb
    have L1 : Looks (model prog w) hp (isInstance (.ref b) (.type "tuple")) true := (Looks.ld hb |>.andThen .now).andThen (Looks.of_pure sub_tuple_self)
    unfold Builtin.«tuple.__gt__»
    repeat (first | (with_reducible refine wpAny_eqBool_int ?_) | lk)
    cases e1 : (ax == bx) with
    | false =>
      have hne : ¬ ax = bx := by intro e; rw [e] at e1; simp at e1
      have hne' : ¬ bx = ax := fun e => hne e.symm
      simp only [lexLt, if_neg hne'] at h
      repeat (first | (with_reducible refine gt_ii ?_) | lk)
      exact ⟨_, rfl, h⟩
    | true =>
      have he : ax = bx := by simpa using e1
      subst he
      simp only [lexLt, if_true] at h
      repeat (first | (with_reducible refine wpAny_eqBool_int ?_) | lk)
      cases e2 : (ay == by') with
      | false =>
        repeat (first | (with_reducible refine gt_ii ?_) | lk)
        exact ⟨_, rfl, h⟩
      | true =>
        have he : ay = by' := by simpa using e2
        subst he
        have hl : decide (ay < ay) = false := by simp
        rw [hl] at h
        repeat lk
        exact ⟨_, rfl, h⟩
section
variable {prog : Program} {w : World} {A : Around} {E : Value → Shared → Prop} {s : Shared} {Q : Value → Shared → Prop} {a b : Addr} {ax ay bx by' : Int} {t1 t2 t3 t4 : Tok} {n m : Nat}
theorem rc_lt (ha : s.heap.get? a = some (prObj ax ay t1 t2 n)) (hb : s.heap.get? b = some (prObj bx by' t3 t4 m)) (hu : A.units < cLine) (h : Q (.bool (lexLt ax ay bx by')) s) : wpAny (model prog w) A (richCompare .Lt (.ref a) (.ref b)) Q E s :=
  richCompare_meets_room ⟨_, ha, rfl⟩ ⟨_, hb, rfl⟩ F.slot_tuple_lt F.entry_tuple_lt (F.args_tuple_lt_2 _ _) (tup_lt a b ax ay bx by' t1 t2 t3 t4 n m) ⟨⟨ha, hb⟩, nofun, h⟩ hu
theorem rc_gt (ha : s.heap.get? a = some (prObj ax ay t1 t2 n)) (hb : s.heap.get? b = some (prObj bx by' t3 t4 m)) (hu : A.units < cLine) (h : Q (.bool (lexLt bx by' ax ay)) s) : wpAny (model prog w) A (richCompare .Gt (.ref a) (.ref b)) Q E s :=
  richCompare_meets_room ⟨_, ha, rfl⟩ ⟨_, hb, rfl⟩ F.slot_tuple_gt F.entry_tuple_gt (F.args_tuple_gt_2 _ _) (tup_gt a b ax ay bx by' t1 t2 t3 t4 n m) ⟨⟨ha, hb⟩, nofun, h⟩ hu
end


section
variable {prog : Program} {w : World} {A : Around} {R : Result → Shared → Prop} {I tp S : Addr} {va vb : Value}
/-- the third turn: nothing is left -/
theorem max_third (hh : A.handled = none) (hTI : tp ≠ I) (hSI : S ≠ I) {v : Value} {s : Shared} {c : Nat} (hi : s.heap.IsTupleIter I tp 2) (ht : s.heap.IsTuple tp #[va, vb])
    (hS : s.heap.get? S = some { cls := .type "list", dict := none, data := .seq #[v, v] c, slots := #[] })
    (hR : ∀ h' tk, (∀ b o, b ≠ I → b ≠ S → s.heap.get? b = some o → h'.get? b = some o) → R (.ok (.ret v)) { s with heap := h', toks := tk }) :
    codeAny (model prog w) A (.builtin "max.loop" ⟨[.ref I, .none, .ref S], []⟩) R s := by
  have W := Walks.tuple (prog := prog) (w := w) (A := A.in1) hh I tp hTI #[va, vb]
  refine codeAny_builtin F.entry_max_loop ?_
  rw [Around.under_plainId F.plain_max_loop _]
  show wpAny _ A.in1 (seqItems? (.ref S) >>= _) _ _ s
  refine wpAny_bind (wpAny_seqItems hS rfl ?_)
  show wpAny _ A.in1 (tryCatch (pyNext (.ref I)) _ >>= _) _ _ s
  refine wpAny_bind (wpAny_tryCatch (W.done s _ _ ⟨hi, ht⟩ fun h' tk hk => ?_))
  have hS' := hk S _ (by simpa using hSI) hS
  show wpAny _ A.in1 (updateSeq S (fun _ => #[]) >>= _) _ _ _
  refine wpAny_bind (wpAny_updateSeq hS' rfl (wpAny_bind (wpAny_letGo (wpAny_pure ?_))))
  exact hR _ tk fun b o hbI hbS e => (Heap.get?_update_other _ _ (Ne.symm hbS)).trans (hk b o (by simpa using hbI) e)
/-- the second turn: the second item against the first -/
theorem max_second (hh : A.handled = none) (hTI : tp ≠ I) (hSI : S ≠ I) (hST : S ≠ tp) {s : Shared} {c : Nat} {g : Bool} (hi : s.heap.IsTupleIter I tp 1) (ht : s.heap.IsTuple tp #[va, vb])
    (hS : s.heap.get? S = some { cls := .type "list", dict := none, data := .seq #[va, va] c, slots := #[] })
    (hcmp : ∀ (s' : Shared) (Q E : Value → Shared → Prop), (∀ b o, b ≠ I → b ≠ S → s.heap.get? b = some o → s'.heap.get? b = some o) → Q (.bool g) s' → wpAny (model prog w) A.in1 (richCompare .Gt vb va) Q E s')
    (hR : ∀ h' tk, (∀ b o, b ≠ I → b ≠ S → s.heap.get? b = some o → h'.get? b = some o) → R (.ok (.ret (if g then vb else va))) { s with heap := h', toks := tk }) :
    codeAny (model prog w) A (.builtin "max.loop" ⟨[.ref I, .none, .ref S], []⟩) R s := by
  have hname : (toString "max" ++ toString ".loop" : String) = "max.loop" := by decide
  have W := Walks.tuple (prog := prog) (w := w) (A := A.in1) hh I tp hTI #[va, vb]
  refine codeAny_builtin F.entry_max_loop ?_
  rw [Around.under_plainId F.plain_max_loop _]
  show wpAny _ A.in1 (seqItems? (.ref S) >>= _) _ _ s
  refine wpAny_bind (wpAny_seqItems hS rfl ?_)
  show wpAny _ A.in1 (tryCatch (pyNext (.ref I)) _ >>= _) _ _ s
  refine wpAny_bind (wpAny_tryCatch (W.item 1 s _ _ (by show 1 < 2; omega) ⟨hi, ht⟩ fun v h' tk hP hst hk => ?_))
  obtain rfl : vb = v := Option.some.inj hP
  have hS' := hk S _ (by simpa using hSI) hS
  have keep : ∀ b o, b ≠ I → b ≠ S → s.heap.get? b = some o → h'.get? b = some o := fun b o hbI _ e => hk b o (by simpa using hbI) e
  show wpAny _ A.in1 (tryCatch (holding [vb, vb] (richCompare .Gt vb va >>= _)) _ >>= _) _ _ _
  refine wpAny_bind (wpAny_tryCatch (wpAny_holding (wpAny_bind (hcmp _ _ _ keep ?_))))
  refine wpAny_bind (wpAny_holding (wpAny_truthy_bool ?_))
  refine wpAny_bind (wpAny_letGo (wpAny_pure ?_))
  cases g with
  | true =>
    simp only [if_true]
    refine wpAny_bind ?_
    refine wpAny_updateSeq hS' rfl (wpAny_bind (wpAny_letGo ?_))
    rw [hname]
    have up : ∀ b o, b ≠ S → h'.get? b = some o → (h'.update S (Obj.mapSeq fun _ => #[vb, vb])).get? b = some o := fun b o n e => (Heap.get?_update_other _ _ (Ne.symm n)).trans e
    refine wpAny_pure ⟨plainId_quiet F.plain_max_loop _, max_third hh hTI hSI (hst.1.at fun o e => up I o (Ne.symm hSI) e) (hst.2.at fun o e => up tp o (Ne.symm hST) e) (Heap.get?_update_self _ hS' rfl) fun h'' tk'' hk'' => ?_⟩
    exact hR h'' tk'' fun b o hbI hbS e => hk'' b o hbI hbS (up b o hbS (keep b o hbI hbS e))
  | false =>
    simp only [Bool.false_eq_true, if_false]
    refine wpAny_bind (wpAny_letGo ?_)
    rw [hname]
    refine wpAny_pure ⟨plainId_quiet F.plain_max_loop _, max_third hh hTI hSI hst.1 hst.2 hS' fun h'' tk'' hk'' => ?_⟩
    exact hR h'' tk'' fun b o hbI hbS e => hk'' b o hbI hbS (keep b o hbI hbS e)
/-- the first turn -/
theorem max_first (hh : A.handled = none) (hTI : tp ≠ I) (hSI : S ≠ I) (hST : S ≠ tp) {s : Shared} {c : Nat} {g : Bool} (hi : s.heap.IsTupleIter I tp 0) (ht : s.heap.IsTuple tp #[va, vb])
    (hS : s.heap.get? S = some { cls := .type "list", dict := none, data := .seq #[] c, slots := #[] })
    (hcmp : ∀ (s' : Shared) (Q E : Value → Shared → Prop), (∀ b o, b ≠ I → b ≠ S → s.heap.get? b = some o → s'.heap.get? b = some o) → Q (.bool g) s' → wpAny (model prog w) A.in1 (richCompare .Gt vb va) Q E s')
    (hR : ∀ h' tk, (∀ b o, b ≠ I → b ≠ S → s.heap.get? b = some o → h'.get? b = some o) → R (.ok (.ret (if g then vb else va))) { s with heap := h', toks := tk }) :
    codeAny (model prog w) A (.builtin "max.loop" ⟨[.ref I, .none, .ref S], []⟩) R s := by
  have hname : (toString "max" ++ toString ".loop" : String) = "max.loop" := by decide
  have W := Walks.tuple (prog := prog) (w := w) (A := A.in1) hh I tp hTI #[va, vb]
  refine codeAny_builtin F.entry_max_loop ?_
  rw [Around.under_plainId F.plain_max_loop _]
  show wpAny _ A.in1 (seqItems? (.ref S) >>= _) _ _ s
  refine wpAny_bind (wpAny_seqItems hS rfl ?_)
  show wpAny _ A.in1 (tryCatch (pyNext (.ref I)) _ >>= _) _ _ s
  refine wpAny_bind (wpAny_tryCatch (W.item 0 s _ _ (by show 0 < 2; omega) ⟨hi, ht⟩ fun v h' tk hP hst hk => ?_))
  obtain rfl : va = v := Option.some.inj hP
  have hS' := hk S _ (by simpa using hSI) hS
  show wpAny _ A.in1 (updateSeq S (fun _ => #[va, va]) >>= _) _ _ _
  refine wpAny_bind (wpAny_updateSeq hS' rfl ?_)
  rw [hname]
  have up : ∀ b o, b ≠ S → h'.get? b = some o → (h'.update S (Obj.mapSeq fun _ => #[va, va])).get? b = some o := fun b o n e => (Heap.get?_update_other _ _ (Ne.symm n)).trans e
  have keep : ∀ b o, b ≠ I → b ≠ S → s.heap.get? b = some o → (h'.update S (Obj.mapSeq fun _ => #[va, va])).get? b = some o := fun b o hbI hbS e => up b o hbS (hk b o (by simpa using hbI) e)
  refine wpAny_pure ⟨plainId_quiet F.plain_max_loop _, max_second hh hTI hSI hST (g := g) (hst.1.at fun o e => up I o (Ne.symm hSI) e) (hst.2.at fun o e => up tp o (Ne.symm hST) e) (Heap.get?_update_self _ hS' rfl)
    (fun s' Q E k q => hcmp s' Q E (fun b o hbI hbS e => k b o hbI hbS (keep b o hbI hbS e)) q) fun h'' tk'' hk'' => ?_⟩
  exact hR h'' tk'' fun b o hbI hbS e => hk'' b o hbI hbS (keep b o hbI hbS e)
end
section
variable {prog : Program} {w : World} {A : Around} {E : Value → Shared → Prop} {s : Shared} {Q : Value → Shared → Prop} {a b : Addr} {ax ay bx by' : Int} {t1 t2 t3 t4 : Tok} {n m : Nat}
/-- max of two pairs -/
theorem max_two (hh : A.handled = none) (ha : s.heap.get? a = some (prObj ax ay t1 t2 n)) (hb : s.heap.get? b = some (prObj bx by' t3 t4 m)) (hu : A.units + 1 < cLine)
    (h : ∀ h' tk, Kept s.heap h' → Q (.ref (if lexLt ax ay bx by' then b else a)) { s with heap := h', toks := tk }) : wpAny (model prog w) A (call (.builtin "max") [.ref a, .ref b]) Q E s := by
  have hname : (toString "max" ++ toString ".loop" : String) = "max.loop" := by decide
  refine call_function_tree F.kind_max F.plain_max F.entry_max (F.args_max2 _ _) ?_
  show wpAny _ A.in1 (Builtin.Builtins.bindParams "max" ["key", "default"] 0 ⟨[], []⟩ >>= _) _ _ s
  refine wpAny_bind (wpAny_of_eq (show Builtin.Builtins.bindParams "max" ["key", "default"] 0 ⟨[], []⟩ = pure [none, none] from rfl) ?_)
  show wpAny _ A.in1 (newTuple [.ref a, .ref b] >>= _) _ _ s
  refine wpAny_bind (wpAny_newObj_type ?_)
  let h1 := s.heap.push { cls := .type "tuple", data := .seq #[.ref a, .ref b] }
  have hT : h1.IsTuple s.heap.objs.size #[.ref a, .ref b] := ⟨_, Heap.get?_push_size _ rfl, rfl, 0, rfl⟩
  have z1 : h1.objs.size = s.heap.objs.size + 1 := Heap.size_push ..
  refine wpAny_bind (wpAny_pyIter_tuple hT ?_)
  refine wpAny_bind (wpAny_newObj_type ?_)
  let h2 := h1.push { cls := .type "tuple_iterator", data := .fields #[.ref s.heap.objs.size, .int 0 0] }
  have z2 : h2.objs.size = s.heap.objs.size + 1 + 1 := (Heap.size_push ..).trans (by rw [z1])
  let h3 := h2.push { cls := .type "list", data := .seq #[] }
  have k1 : Kept s.heap h1 := fun b o e => Heap.get?_push_of_some _ e
  have k2 : Kept h1 h2 := fun b o e => Heap.get?_push_of_some _ e
  have k3 : Kept h2 h3 := fun b o e => Heap.get?_push_of_some _ e
  have hI : h2.IsTupleIter h1.objs.size s.heap.objs.size 0 := ⟨_, Heap.get?_push_size _ rfl, rfl, rfl⟩
  rw [hname]
  refine wpAny_pure ⟨plainId_quiet F.plain_max_loop _, max_first (A := A) (I := h1.objs.size) (tp := s.heap.objs.size) (S := h2.objs.size) (va := .ref a) (vb := .ref b) hh (by rw [z1]; exact Nat.ne_of_lt (Nat.lt_succ_self _)) (by rw [z1, z2]; exact Nat.ne_of_gt (Nat.lt_succ_self _))
    (by rw [z2]; exact Nat.ne_of_gt (by omega)) (s := ⟨h3, s.gens, s.drawn, s.toks, s.os⟩) (c := 0) (g := lexLt ax ay bx by') (hI.at fun o e => k3 _ o e) ((hT.at fun o e => k2 _ o e).at fun o e => k3 _ o e) (Heap.get?_push_size _ rfl) ?_ fun h' tk hk => ?_⟩
  · intro s' Q' E' k q
    have kk : ∀ c o, s.heap.get? c = some o → s'.heap.get? c = some o := fun c o e => k c o (by rw [z1]; exact Nat.ne_of_lt (Nat.lt_succ_of_lt (Heap.lt_size e))) (by rw [z2]; exact Nat.ne_of_lt (Nat.lt_succ_of_lt (Nat.lt_succ_of_lt (Heap.lt_size e)))) (k3 _ _ (k2 _ _ (k1 _ _ e)))
    exact rc_gt (kk _ _ hb) (kk _ _ ha) hu q
  · have kk : Kept s.heap h' := fun c o e => hk c o (by rw [z1]; exact Nat.ne_of_lt (Nat.lt_succ_of_lt (Heap.lt_size e))) (by rw [z2]; exact Nat.ne_of_lt (Nat.lt_succ_of_lt (Nat.lt_succ_of_lt (Heap.lt_size e)))) (k3 _ _ (k2 _ _ (k1 _ _ e)))
    have := h h' tk kk
    cases hg : lexLt ax ay bx by' <;> simp only [hg, Bool.false_eq_true, if_true, if_false] at this ⊢ <;> exact this
end

section
variable {prog : Program} {w : World} {A : Around} {R : Result → Shared → Prop} {I tp S : Addr} {va vb : Value}
/-- the third turn: nothing is left -/
theorem min_third (hh : A.handled = none) (hTI : tp ≠ I) (hSI : S ≠ I) {v : Value} {s : Shared} {c : Nat} (hi : s.heap.IsTupleIter I tp 2) (ht : s.heap.IsTuple tp #[va, vb])
    (hS : s.heap.get? S = some { cls := .type "list", dict := none, data := .seq #[v, v] c, slots := #[] })
    (hR : ∀ h' tk, (∀ b o, b ≠ I → b ≠ S → s.heap.get? b = some o → h'.get? b = some o) → R (.ok (.ret v)) { s with heap := h', toks := tk }) :
    codeAny (model prog w) A (.builtin "min.loop" ⟨[.ref I, .none, .ref S], []⟩) R s := by
  have W := Walks.tuple (prog := prog) (w := w) (A := A.in1) hh I tp hTI #[va, vb]
  refine codeAny_builtin F.entry_min_loop ?_
  rw [Around.under_plainId F.plain_min_loop _]
  show wpAny _ A.in1 (seqItems? (.ref S) >>= _) _ _ s
  refine wpAny_bind (wpAny_seqItems hS rfl ?_)
  show wpAny _ A.in1 (tryCatch (pyNext (.ref I)) _ >>= _) _ _ s
  refine wpAny_bind (wpAny_tryCatch (W.done s _ _ ⟨hi, ht⟩ fun h' tk hk => ?_))
  have hS' := hk S _ (by simpa using hSI) hS
  show wpAny _ A.in1 (updateSeq S (fun _ => #[]) >>= _) _ _ _
  refine wpAny_bind (wpAny_updateSeq hS' rfl (wpAny_bind (wpAny_letGo (wpAny_pure ?_))))
  exact hR _ tk fun b o hbI hbS e => (Heap.get?_update_other _ _ (Ne.symm hbS)).trans (hk b o (by simpa using hbI) e)
/-- the second turn: the second item against the first -/
theorem min_second (hh : A.handled = none) (hTI : tp ≠ I) (hSI : S ≠ I) (hST : S ≠ tp) {s : Shared} {c : Nat} {g : Bool} (hi : s.heap.IsTupleIter I tp 1) (ht : s.heap.IsTuple tp #[va, vb])
    (hS : s.heap.get? S = some { cls := .type "list", dict := none, data := .seq #[va, va] c, slots := #[] })
    (hcmp : ∀ (s' : Shared) (Q E : Value → Shared → Prop), (∀ b o, b ≠ I → b ≠ S → s.heap.get? b = some o → s'.heap.get? b = some o) → Q (.bool g) s' → wpAny (model prog w) A.in1 (richCompare .Lt vb va) Q E s')
    (hR : ∀ h' tk, (∀ b o, b ≠ I → b ≠ S → s.heap.get? b = some o → h'.get? b = some o) → R (.ok (.ret (if g then vb else va))) { s with heap := h', toks := tk }) :
    codeAny (model prog w) A (.builtin "min.loop" ⟨[.ref I, .none, .ref S], []⟩) R s := by
  have hname : (toString "min" ++ toString ".loop" : String) = "min.loop" := by decide
  have W := Walks.tuple (prog := prog) (w := w) (A := A.in1) hh I tp hTI #[va, vb]
  refine codeAny_builtin F.entry_min_loop ?_
  rw [Around.under_plainId F.plain_min_loop _]
  show wpAny _ A.in1 (seqItems? (.ref S) >>= _) _ _ s
  refine wpAny_bind (wpAny_seqItems hS rfl ?_)
  show wpAny _ A.in1 (tryCatch (pyNext (.ref I)) _ >>= _) _ _ s
  refine wpAny_bind (wpAny_tryCatch (W.item 1 s _ _ (by show 1 < 2; omega) ⟨hi, ht⟩ fun v h' tk hP hst hk => ?_))
  obtain rfl : vb = v := Option.some.inj hP
  have hS' := hk S _ (by simpa using hSI) hS
  have keep : ∀ b o, b ≠ I → b ≠ S → s.heap.get? b = some o → h'.get? b = some o := fun b o hbI _ e => hk b o (by simpa using hbI) e
  show wpAny _ A.in1 (tryCatch (holding [vb, vb] (richCompare .Lt vb va >>= _)) _ >>= _) _ _ _
  refine wpAny_bind (wpAny_tryCatch (wpAny_holding (wpAny_bind (hcmp _ _ _ keep ?_))))
  refine wpAny_bind (wpAny_holding (wpAny_truthy_bool ?_))
  refine wpAny_bind (wpAny_letGo (wpAny_pure ?_))
  cases g with
  | true =>
    simp only [if_true]
    refine wpAny_bind ?_
    refine wpAny_updateSeq hS' rfl (wpAny_bind (wpAny_letGo ?_))
    rw [hname]
    have up : ∀ b o, b ≠ S → h'.get? b = some o → (h'.update S (Obj.mapSeq fun _ => #[vb, vb])).get? b = some o := fun b o n e => (Heap.get?_update_other _ _ (Ne.symm n)).trans e
    refine wpAny_pure ⟨plainId_quiet F.plain_min_loop _, min_third hh hTI hSI (hst.1.at fun o e => up I o (Ne.symm hSI) e) (hst.2.at fun o e => up tp o (Ne.symm hST) e) (Heap.get?_update_self _ hS' rfl) fun h'' tk'' hk'' => ?_⟩
    exact hR h'' tk'' fun b o hbI hbS e => hk'' b o hbI hbS (up b o hbS (keep b o hbI hbS e))
  | false =>
    simp only [Bool.false_eq_true, if_false]
    refine wpAny_bind (wpAny_letGo ?_)
    rw [hname]
    refine wpAny_pure ⟨plainId_quiet F.plain_min_loop _, min_third hh hTI hSI hst.1 hst.2 hS' fun h'' tk'' hk'' => ?_⟩
    exact hR h'' tk'' fun b o hbI hbS e => hk'' b o hbI hbS (keep b o hbI hbS e)
/-- the first turn -/
theorem min_first (hh : A.handled = none) (hTI : tp ≠ I) (hSI : S ≠ I) (hST : S ≠ tp) {s : Shared} {c : Nat} {g : Bool} (hi : s.heap.IsTupleIter I tp 0) (ht : s.heap.IsTuple tp #[va, vb])
    (hS : s.heap.get? S = some { cls := .type "list", dict := none, data := .seq #[] c, slots := #[] })
    (hcmp : ∀ (s' : Shared) (Q E : Value → Shared → Prop), (∀ b o, b ≠ I → b ≠ S → s.heap.get? b = some o → s'.heap.get? b = some o) → Q (.bool g) s' → wpAny (model prog w) A.in1 (richCompare .Lt vb va) Q E s')
    (hR : ∀ h' tk, (∀ b o, b ≠ I → b ≠ S → s.heap.get? b = some o → h'.get? b = some o) → R (.ok (.ret (if g then vb else va))) { s with heap := h', toks := tk }) :
    codeAny (model prog w) A (.builtin "min.loop" ⟨[.ref I, .none, .ref S], []⟩) R s := by
  have hname : (toString "min" ++ toString ".loop" : String) = "min.loop" := by decide
  have W := Walks.tuple (prog := prog) (w := w) (A := A.in1) hh I tp hTI #[va, vb]
  refine codeAny_builtin F.entry_min_loop ?_
  rw [Around.under_plainId F.plain_min_loop _]
  show wpAny _ A.in1 (seqItems? (.ref S) >>= _) _ _ s
  refine wpAny_bind (wpAny_seqItems hS rfl ?_)
  show wpAny _ A.in1 (tryCatch (pyNext (.ref I)) _ >>= _) _ _ s
  refine wpAny_bind (wpAny_tryCatch (W.item 0 s _ _ (by show 0 < 2; omega) ⟨hi, ht⟩ fun v h' tk hP hst hk => ?_))
  obtain rfl : va = v := Option.some.inj hP
  have hS' := hk S _ (by simpa using hSI) hS
  show wpAny _ A.in1 (updateSeq S (fun _ => #[va, va]) >>= _) _ _ _
  refine wpAny_bind (wpAny_updateSeq hS' rfl ?_)
  rw [hname]
  have up : ∀ b o, b ≠ S → h'.get? b = some o → (h'.update S (Obj.mapSeq fun _ => #[va, va])).get? b = some o := fun b o n e => (Heap.get?_update_other _ _ (Ne.symm n)).trans e
  have keep : ∀ b o, b ≠ I → b ≠ S → s.heap.get? b = some o → (h'.update S (Obj.mapSeq fun _ => #[va, va])).get? b = some o := fun b o hbI hbS e => up b o hbS (hk b o (by simpa using hbI) e)
  refine wpAny_pure ⟨plainId_quiet F.plain_min_loop _, min_second hh hTI hSI hST (g := g) (hst.1.at fun o e => up I o (Ne.symm hSI) e) (hst.2.at fun o e => up tp o (Ne.symm hST) e) (Heap.get?_update_self _ hS' rfl)
    (fun s' Q E k q => hcmp s' Q E (fun b o hbI hbS e => k b o hbI hbS (keep b o hbI hbS e)) q) fun h'' tk'' hk'' => ?_⟩
  exact hR h'' tk'' fun b o hbI hbS e => hk'' b o hbI hbS (keep b o hbI hbS e)
end
section
variable {prog : Program} {w : World} {A : Around} {E : Value → Shared → Prop} {s : Shared} {Q : Value → Shared → Prop} {a b : Addr} {ax ay bx by' : Int} {t1 t2 t3 t4 : Tok} {n m : Nat}
/-- min of two pairs -/
theorem min_two (hh : A.handled = none) (ha : s.heap.get? a = some (prObj ax ay t1 t2 n)) (hb : s.heap.get? b = some (prObj bx by' t3 t4 m)) (hu : A.units + 1 < cLine)
    (h : ∀ h' tk, Kept s.heap h' → Q (.ref (if lexLt bx by' ax ay then b else a)) { s with heap := h', toks := tk }) : wpAny (model prog w) A (call (.builtin "min") [.ref a, .ref b]) Q E s := by
  have hname : (toString "min" ++ toString ".loop" : String) = "min.loop" := by decide
  refine call_function_tree F.kind_min F.plain_min F.entry_min (F.args_min2 _ _) ?_
  show wpAny _ A.in1 (Builtin.Builtins.bindParams "min" ["key", "default"] 0 ⟨[], []⟩ >>= _) _ _ s
  refine wpAny_bind (wpAny_of_eq (show Builtin.Builtins.bindParams "min" ["key", "default"] 0 ⟨[], []⟩ = pure [none, none] from rfl) ?_)
  show wpAny _ A.in1 (newTuple [.ref a, .ref b] >>= _) _ _ s
  refine wpAny_bind (wpAny_newObj_type ?_)
  let h1 := s.heap.push { cls := .type "tuple", data := .seq #[.ref a, .ref b] }
  have hT : h1.IsTuple s.heap.objs.size #[.ref a, .ref b] := ⟨_, Heap.get?_push_size _ rfl, rfl, 0, rfl⟩
  have z1 : h1.objs.size = s.heap.objs.size + 1 := Heap.size_push ..
  refine wpAny_bind (wpAny_pyIter_tuple hT ?_)
  refine wpAny_bind (wpAny_newObj_type ?_)
  let h2 := h1.push { cls := .type "tuple_iterator", data := .fields #[.ref s.heap.objs.size, .int 0 0] }
  have z2 : h2.objs.size = s.heap.objs.size + 1 + 1 := (Heap.size_push ..).trans (by rw [z1])
  let h3 := h2.push { cls := .type "list", data := .seq #[] }
  have k1 : Kept s.heap h1 := fun b o e => Heap.get?_push_of_some _ e
  have k2 : Kept h1 h2 := fun b o e => Heap.get?_push_of_some _ e
  have k3 : Kept h2 h3 := fun b o e => Heap.get?_push_of_some _ e
  have hI : h2.IsTupleIter h1.objs.size s.heap.objs.size 0 := ⟨_, Heap.get?_push_size _ rfl, rfl, rfl⟩
  rw [hname]
  refine wpAny_pure ⟨plainId_quiet F.plain_min_loop _, min_first (A := A) (I := h1.objs.size) (tp := s.heap.objs.size) (S := h2.objs.size) (va := .ref a) (vb := .ref b) hh (by rw [z1]; exact Nat.ne_of_lt (Nat.lt_succ_self _)) (by rw [z1, z2]; exact Nat.ne_of_gt (Nat.lt_succ_self _))
    (by rw [z2]; exact Nat.ne_of_gt (by omega)) (s := ⟨h3, s.gens, s.drawn, s.toks, s.os⟩) (c := 0) (g := lexLt bx by' ax ay) (hI.at fun o e => k3 _ o e) ((hT.at fun o e => k2 _ o e).at fun o e => k3 _ o e) (Heap.get?_push_size _ rfl) ?_ fun h' tk hk => ?_⟩
  · intro s' Q' E' k q
    have kk : ∀ c o, s.heap.get? c = some o → s'.heap.get? c = some o := fun c o e => k c o (by rw [z1]; exact Nat.ne_of_lt (Nat.lt_succ_of_lt (Heap.lt_size e))) (by rw [z2]; exact Nat.ne_of_lt (Nat.lt_succ_of_lt (Nat.lt_succ_of_lt (Heap.lt_size e)))) (k3 _ _ (k2 _ _ (k1 _ _ e)))
    exact rc_lt (kk _ _ hb) (kk _ _ ha) hu q
  · have kk : Kept s.heap h' := fun c o e => hk c o (by rw [z1]; exact Nat.ne_of_lt (Nat.lt_succ_of_lt (Heap.lt_size e))) (by rw [z2]; exact Nat.ne_of_lt (Nat.lt_succ_of_lt (Nat.lt_succ_of_lt (Heap.lt_size e)))) (k3 _ _ (k2 _ _ (k1 _ _ e)))
    have := h h' tk kk
    cases hg : lexLt bx by' ax ay <;> simp only [hg, Bool.false_eq_true, if_true, if_false] at this ⊢ <;> exact this
end
end Mine
end
section
open PySem PySem.W PySem.Calls PyProof.Rows
namespace Mine
theorem off_J7G : True := by w_top off; trivial
variable {w : World} {prog : Program} {A : Around} {E : Value → Shared → Prop} {s : Shared} {Q : Value → Shared → Prop} {K : Frag} {x C : Addr} {ox : Obj} {od : Option Obj} {name : Str}
theorem kind_tga : builtinKind "tuple.__getattribute__" = some .slot := by decide +kernel
theorem split_tga : splitId "tuple.__getattribute__" = some ("tuple", "__getattribute__") := by decide +kernel
theorem get_bind_tup {g a : Value} {expr : Bool} (X : K.In s.heap) (I : InstAt s.heap x ox C od) (hga : findIn K (.ref C) "__getattribute__" = some (some (.builtin "tuple.__getattribute__")))
    (hm : mroIn K C (.type "tuple") = some true) (hf : findObj K C od name = some (.bind g a)) (hk : findIn K (.ref C) "__getattr__" = some none)
    (h : wpAny (model prog w) A.in1 (call g [a, .ref x, .ref C]) (fun v s' => wpAny (model prog w) A (handedOut v) Q E s') (fun _ _ => False) { s with toks := s.toks + 1 }) :
    wpAny (model prog w) A (getAttr (.ref x) name expr) Q E s := by
  obtain ⟨hh, gg, d, t, os⟩ := s
  have L0 := I.type (M := model prog w)
  have L1 := looks_findIn (M := model prog w) X hga
  have L2 := looks_findIn (M := model prog w) X hk
  have L3 := looks_find (M := model prog w) X I hf
  have L4 := looks_mroIn (M := model prog w) X hm
  have L5 : Looks (model prog w) hh (isInstance (.ref x) (.type "tuple")) true := L0.andThen L4
  have B := F.slot_tuple_getattribute.bind (.ref x)
  unfold getAttr getAttrBy
  refine wpAny_bind (wpAny_mkText (wpAny_holding (wpAny_bind (L0.at (wpAny_bind (L1.at ?_))))))
  show wpAny _ _ (getAttrByItsOwn _ _ _ _ _ _) _ _ _
  unfold getAttrByItsOwn
  refine wpAny_bind (L2.at ?_)
  refine wpAny_bind (wpAny_attempt (wpAny_holding ?_))
  have e : callGetattribute (.ref x) (.str name t) (.builtin "tuple.__getattribute__") expr = boundAndCalled (.builtin "tuple.__getattribute__") (.ref x) (.str name t) := by
    unfold callGetattribute; cases expr <;> rfl
  rw [e]
  unfold boundAndCalled
  rw [B]
  refine wpAny_bind (wpAny_pure ?_)
  dsimp only [List.cons_append, List.nil_append]
  refine wpAny_call ?_
  refine codeAny_call_builtin F.slot_tuple_getattribute.plain F.entry_tuple_ga ?_
  refine @check_slot (model prog w) A.in1 _ _ "tuple.__getattribute__" "tuple" "__getattribute__" (.ref x) [.str name t] [] _ kind_tga split_tga L5 (F.args_tuple_getattribute_2 _ _) ?_
  unfold Builtin.«object.__getattribute__»
  refine wpAny_bind (m := slotArgs "__getattribute__" 1 _) (wpAny_pure ?_)
  refine wpAny_bind (wpAny_pure (wpAny_bind (L0.at (wpAny_bind (L3.at ?_)))))
  show wpAny _ _ (holding [a] (call g [a, .ref x, .ref C]) >>= ret) _ _ _
  exact wpAny_bind (wpAny_holding (wpAny_mono h (fun v s' z => wpAny_pure z) fun _ _ z => z.elim))
end Mine
end
section
open PySem PySem.W PySem.Calls PyProof.Rows
namespace Mine
theorem off_J7B : True := by w_top off; trivial
local macro_rules | `(tactic| k_inst) => `(tactic| (refine' inst_tup ?N ?h1 ?h2; (case N => k_asm); (case h1 => k_mem); (case h2 => k_mem)))
local macro_rules | `(tactic| walk_at "call builtin:issubclass") => `(tactic| (k_here; k_dflt (refine' issub_own ?X ?c ?m ?_; (case X => k_in); (case c => k_is); (case m => k_is); k_whole)))
local macro_rules | `(tactic| walk_at "getMethod type:tuple") => `(tactic| (k_here; refine' method_type ?F ?X ?m (by decide +kernel) ?e ?h ?_; (case F => k_asm); (case X => k_asm); (case m => exact meta_tuple); (case e => k_dflt k_is); (case h => k_handed)))
local macro_rules | `(tactic| walk_at "call builtin:tuple.__getitem__") => `(tactic| (k_here; k_dflt (first
  | (refine' tup_item0 ?X ?I ?d ?m ?_; (case X => k_in); (case I => k_inst); (case d => exact rfl); (case m => k_is); k_whole)
  | (refine' tup_item1 ?X ?I ?d ?m ?_; (case X => k_in); (case I => k_inst); (case d => exact rfl); (case m => k_is); k_whole))))
variable {w : World} {A : Around} {s : Shared} {R : Result → Shared → Prop} {g₀ : Heap} {mg mb : Str → Option Value} {mean : ExcName → Option Value}
set_option maxHeartbeats 8000000 in
theorem getx_fn {p dx : Addr} {x y : Int} {tx ty : Tok} {n : Nat} (X : (hd.heap_39 w.params).In g₀)
    (T : Top hd.view_39 (looseW hd.view_39 [Str.ofString "_tuplegetter", Str.ofString "Point", Str.ofString "Orientation"]) mean mg mb g₀) (st : Kept g₀ s.heap)
    (hp : s.heap.get? p = some (ptObj dx x y tx ty n)) (hp0 : g₀.get? p = none) (hx : s.heap.get? dx = some emptyDict) (hx0 : g₀.get? dx = none) (hroom : A.depth < 500)
    (h : ∀ h' tk, Kept s.heap h' → R (.ok (.ret (.int x tx))) { s with heap := h', toks := tk }) :
    codeAny (model Challenge.rw_ja0007_01.row.prog w) A (.call (.ref 43) ⟨[.ref 124, .ref p, .ref 132], []⟩) R s := by
  have hrl : A.depth < recursionLimit := Nat.lt_of_lt_of_le hroom (by decide)
  revert X; k_fill; intro X
  refine' own_call (K := hd.heap_39 w.params) (objs := [(p, ptObj dx x y tx ty n), (dx, emptyDict)]) (binds := [(Str.ofString "self", .ref 124), (Str.ofString "obj", .ref p), (Str.ofString "objtype", .ref 132)]) X T st ?kN ?k6 ?k7 hrl ?k9 ?kB ?_ ?c5 ?c2 ?c3 ?c4
  case k6 => k_is
  case k7 => k_is
  case k9 => exact binds_K (X.keeps st) rfl (by k_is) rfl rfl rfl
  case kN => simp [hp, hp0, hx, hx0]
  case c5 => decide
  case kB => exact locs rfl
  all_goals try exact rfl
  intro g L h₁ tk XG TG KG F N
  clear X T
  k_fold
  k_steps
  exact ownEnd_ (by assumption) (by assumption) (fun _ hq => hq) fun k => h _ _ k
set_option maxHeartbeats 8000000 in
theorem gety_fn {p dx : Addr} {x y : Int} {tx ty : Tok} {n : Nat} (X : (hd.heap_39 w.params).In g₀)
    (T : Top hd.view_39 (looseW hd.view_39 [Str.ofString "_tuplegetter", Str.ofString "Point", Str.ofString "Orientation"]) mean mg mb g₀) (st : Kept g₀ s.heap)
    (hp : s.heap.get? p = some (ptObj dx x y tx ty n)) (hp0 : g₀.get? p = none) (hx : s.heap.get? dx = some emptyDict) (hx0 : g₀.get? dx = none) (hroom : A.depth < 500)
    (h : ∀ h' tk, Kept s.heap h' → R (.ok (.ret (.int y ty))) { s with heap := h', toks := tk }) :
    codeAny (model Challenge.rw_ja0007_01.row.prog w) A (.call (.ref 43) ⟨[.ref 127, .ref p, .ref 132], []⟩) R s := by
  have hrl : A.depth < recursionLimit := Nat.lt_of_lt_of_le hroom (by decide)
  revert X; k_fill; intro X
  refine' own_call (K := hd.heap_39 w.params) (objs := [(p, ptObj dx x y tx ty n), (dx, emptyDict)]) (binds := [(Str.ofString "self", .ref 127), (Str.ofString "obj", .ref p), (Str.ofString "objtype", .ref 132)]) X T st ?kN ?k6 ?k7 hrl ?k9 ?kB ?_ ?c5 ?c2 ?c3 ?c4
  case k6 => k_is
  case k7 => k_is
  case k9 => exact binds_K (X.keeps st) rfl (by k_is) rfl rfl rfl
  case kN => simp [hp, hp0, hx, hx0]
  case c5 => decide
  case kB => exact locs rfl
  all_goals try exact rfl
  intro g L h₁ tk XG TG KG F N
  clear X T
  k_fold
  k_steps
  exact ownEnd_ (by assumption) (by assumption) (fun _ hq => hq) fun k => h _ _ k
theorem getx_at {h₀ : Heap} {L : Addr} {m : Str → Option Value} {news : List (Addr × Obj)} {p dx : Addr} {x y : Int} {tx ty : Tok} {n : Nat} {expr : Bool} {Q E : Value → Shared → Prop}
    (F : Fr h₀ L s.heap m) (X : (hd.heap_39 w.params).In h₀)
    (T : Top hd.view_39 (looseW hd.view_39 [Str.ofString "_tuplegetter", Str.ofString "Point", Str.ofString "Orientation"]) mean mg mb h₀)
    (N : News h₀ L s.heap news) (hp : (p, ptObj dx x y tx ty n) ∈ news) (hx : (dx, emptyDict) ∈ news) (hroom : A.depth < 500)
    (h : ∀ h' tk, Fr h₀ L h' m → News h₀ L h' news → Q (.int x tx) { s with heap := h', toks := tk }) :
    wpAny (model Challenge.rw_ja0007_01.row.prog w) A (getAttr (.ref p) (Str.ofString "x") expr) Q E s := by
  have I : InstAt s.heap p (ptObj dx x y tx ty n) 132 (some emptyDict) := inst_tup N hp hx
  revert X; k_fill; intro X
  refine get_bind_tup (K := hd.heap_39 w.params) (C := 132) (X.keeps F.keep) I (by k_is) (by k_is) (findObj_data (a := .ref 124) (g := .ref 43) (by rfl) (by k_is) (by k_is) (by k_is)) (by k_is) (wpAny_call ?_)
  refine getx_fn X T (F.keep) (N _ hp).1 (N _ hp).2.2 (N _ hx).1 (N _ hx).2.2 hroom fun h' tk k => ?_
  exact wpAny_pure (h h' tk (fr_kept F k) (news_kept N k))
theorem gety_at {h₀ : Heap} {L : Addr} {m : Str → Option Value} {news : List (Addr × Obj)} {p dx : Addr} {x y : Int} {tx ty : Tok} {n : Nat} {expr : Bool} {Q E : Value → Shared → Prop}
    (F : Fr h₀ L s.heap m) (X : (hd.heap_39 w.params).In h₀)
    (T : Top hd.view_39 (looseW hd.view_39 [Str.ofString "_tuplegetter", Str.ofString "Point", Str.ofString "Orientation"]) mean mg mb h₀)
    (N : News h₀ L s.heap news) (hp : (p, ptObj dx x y tx ty n) ∈ news) (hx : (dx, emptyDict) ∈ news) (hroom : A.depth < 500)
    (h : ∀ h' tk, Fr h₀ L h' m → News h₀ L h' news → Q (.int y ty) { s with heap := h', toks := tk }) :
    wpAny (model Challenge.rw_ja0007_01.row.prog w) A (getAttr (.ref p) (Str.ofString "y") expr) Q E s := by
  have I : InstAt s.heap p (ptObj dx x y tx ty n) 132 (some emptyDict) := inst_tup N hp hx
  revert X; k_fill; intro X
  refine get_bind_tup (K := hd.heap_39 w.params) (C := 132) (X.keeps F.keep) I (by k_is) (by k_is) (findObj_data (a := .ref 127) (g := .ref 43) (by rfl) (by k_is) (by k_is) (by k_is)) (by k_is) (wpAny_call ?_)
  refine gety_fn X T (F.keep) (N _ hp).1 (N _ hp).2.2 (N _ hx).1 (N _ hx).2.2 hroom fun h' tk k => ?_
  exact wpAny_pure (h h' tk (fr_kept F k) (news_kept N k))
end Mine
end
section
open PySem PySem.W PySem.Calls PyProof.Rows
namespace Mine
theorem off_J7C : True := by w_top off; trivial
/-- the address of the kind that a product's sign names -/
def kindAt (z : Int) : Addr := if z > 0 then 171 else if z < 0 then 165 else 168
def crossI (vx vy fx fy sx sy : Int) : Int := (fx - vx) * (sy - vy) - (fy - vy) * (sx - vx)
variable {w : World} {A : Around} {s : Shared} {R : Result → Shared → Prop} {g₀ : Heap} {mg mb : Str → Option Value} {mean : ExcName → Option Value}
local macro_rules | `(tactic| walk_at "getAttr ref") => `(tactic| (k_here; (with_reducible show wpAny _ _ (getAttr (Value.ref _) (Str.ofString "x") _) _ _ _); k_dflt (refine' getx_at ?F ?X ?T ?N ?m1 ?m2 ?r ?_; (case F => k_asm); (case X => k_asm); (case T => k_asm); (case N => k_asm); (case m1 => k_mem); (case m2 => k_mem); (case r => (simp only [depth_under_make, depth_under_kw, depth_in1, depth_deeper]; omega)); k_whole; intro h' tk' F' N'; (try k_sweep); (try dsimp only))))
local macro_rules | `(tactic| walk_at "getAttr ref") => `(tactic| (k_here; (with_reducible show wpAny _ _ (getAttr (Value.ref _) (Str.ofString "y") _) _ _ _); k_dflt (refine' gety_at ?F ?X ?T ?N ?m1 ?m2 ?r ?_; (case F => k_asm); (case X => k_asm); (case T => k_asm); (case N => k_asm); (case m1 => k_mem); (case m2 => k_mem); (case r => (simp only [depth_under_make, depth_under_kw, depth_in1, depth_deeper]; omega)); k_whole; intro h' tk' F' N'; (try k_sweep); (try dsimp only))))
set_option maxHeartbeats 8000000 in
theorem orient_fn {self : Value} {pv dv pf df ps ds : Addr} {vx vy fx fy sx sy : Int} {t1 t2 t3 t4 t5 t6 : Tok} {n1 n2 n3 : Nat} (X : (hd.heap_39 w.params).In g₀)
    (T : Top hd.view_39 (looseW hd.view_39 [Str.ofString "_tuplegetter", Str.ofString "Point", Str.ofString "Orientation"]) mean mg mb g₀) (st : Kept g₀ s.heap)
    (N : ∀ q ∈ [(pv, ptObj dv vx vy t1 t2 n1), (dv, emptyDict), (pf, ptObj df fx fy t3 t4 n2), (df, emptyDict), (ps, ptObj ds sx sy t5 t6 n3), (ds, emptyDict)], s.heap.get? q.1 = some q.2 ∧ g₀.get? q.1 = none)
    (b1 : -5 ≤ fx - vx) (b2 : fx - vx ≤ 5) (b3 : -5 ≤ fy - vy) (b4 : fy - vy ≤ 5) (hroom : A.depth < 480)
    (h : ∀ h' tk, Kept s.heap h' → R (.ok (.ret (.ref (kindAt (crossI vx vy fx fy sx sy))))) { s with heap := h', toks := tk }) :
    codeAny (model Challenge.rw_ja0007_01.row.prog w) A (.call (.ref 207) ⟨[self, .ref pv, .ref pf, .ref ps], []⟩) R s := by
  have hrl : A.depth < recursionLimit := Nat.lt_of_lt_of_le hroom (by decide)
  revert X; k_fill; intro X
  refine' own_call (K := hd.heap_39 w.params) (objs := _) (binds := [(Str.ofString "self", self), (Str.ofString "vertex", .ref pv), (Str.ofString "first", .ref pf), (Str.ofString "second", .ref ps)]) X T st N ?k6 ?k7 hrl ?k9 ?kB ?_ ?c5 ?c2 ?c3 ?c4
  case k6 => k_is
  case k7 => k_is
  case k9 => exact BindsTo.of_eq rfl
  case c5 => decide
  case kB => exact locs rfl
  all_goals try exact rfl
  intro g L h₁ tk XG TG KG F N
  clear X T
  k_fold
  k_steps
  all_goals (try dsimp only)
  all_goals (try (k_unfold; dsimp only))
  all_goals refine ownEnd_ (by assumption) (by assumption) (fun _ hq => hq) fun k => ?_
  · rw [show (171 : Nat) = kindAt (crossI vx vy fx fy sx sy) from (if_pos (by assumption)).symm]; exact h _ _ k
  · rw [show (165 : Nat) = kindAt (crossI vx vy fx fy sx sy) from ((if_neg (by assumption)).trans (if_pos (by assumption))).symm]; exact h _ _ k
  · rw [show (168 : Nat) = kindAt (crossI vx vy fx fy sx sy) from ((if_neg (by assumption)).trans (if_neg (by assumption))).symm]; exact h _ _ k
end Mine
end
section
open PySem PySem.W PySem.Calls PyProof.Rows
namespace Mine
theorem off_J7D : True := by w_top off; trivial
/-- a list of two pairs -/
abbrev rwObj (a b : Addr) (n : Nat) : Obj := { cls := .type "list", data := .seq #[.ref a, .ref b] n }
def sgnI (z : Int) : Int := if z > 0 then 1 else if z < 0 then -1 else 0
variable {w : World} {A : Around} {s : Shared} {R : Result → Shared → Prop} {g₀ : Heap} {mg mb : Str → Option Value} {mean : ExcName → Option Value}
set_option maxHeartbeats 8000000 in
theorem side_fn {po pa pb pp : Addr} {ax ay bx by' px py : Int} {t1 t2 t3 t4 t5 t6 : Tok} {n0 n1 n2 n3 : Nat} (X : (hd.heap_39 w.params).In g₀)
    (T : Top hd.view_39 (looseW hd.view_39 [Str.ofString "_tuplegetter", Str.ofString "Point", Str.ofString "Orientation"]) mean mg mb g₀) (st : Kept g₀ s.heap)
    (N : ∀ q ∈ [(po, rwObj pa pb n0), (pa, prObj ax ay t1 t2 n1), (pb, prObj bx by' t3 t4 n2), (pp, prObj px py t5 t6 n3)], s.heap.get? q.1 = some q.2 ∧ g₀.get? q.1 = none)
    (b1 : -5 ≤ bx - ax) (b2 : bx - ax ≤ 5) (b3 : -5 ≤ by' - ay) (b4 : by' - ay ≤ 5) (hh : A.handled = none) (hroom : A.depth < 480)
    (h : ∀ h' tk tr, Kept s.heap h' → R (.ok (.ret (.int (sgnI (crossI ax ay bx by' px py)) tr))) { s with heap := h', toks := tk }) :
    codeAny (model Challenge.rw_ja0007_01.row.prog w) A (.call (.ref 263) ⟨[.ref po, .ref pp], []⟩) R s := by
  have hrl : A.depth < recursionLimit := Nat.lt_of_lt_of_le hroom (by decide)
  obtain ⟨ah, dep, fra, gua, uni⟩ := A
  cases hh
  revert X; k_fill; intro X
  refine' own_call (K := hd.heap_39 w.params) (objs := _) (binds := [(Str.ofString "one", .ref po), (Str.ofString "place", .ref pp)]) X T st N ?k6 ?k7 hrl ?k9 ?kB ?_ ?c5 ?c2 ?c3 ?c4
  case k6 => k_is
  case k7 => k_is
  case k9 => exact BindsTo.of_eq rfl
  case c5 => decide
  case kB => exact locs rfl
  all_goals try exact rfl
  intro g L h₁ tk XG TG KG F N
  clear X T
  k_fold
  k_steps
  all_goals (try dsimp only)
  all_goals (try (k_unfold; dsimp only))
  all_goals refine ownEnd_ (by assumption) (by assumption) (fun _ hq => hq) fun k => ?_
  · rw [show sgnI (crossI ax ay bx by' px py) = 1 from if_pos (by assumption)] at h; exact h _ _ _ k
  · rw [show sgnI (crossI ax ay bx by' px py) = -1 from (if_neg (by assumption)).trans (if_pos (by assumption))] at h; exact h _ _ _ k
  · rw [show sgnI (crossI ax ay bx by' px py) = 0 from (if_neg (by assumption)).trans (if_neg (by assumption))] at h; exact h _ _ _ k
end Mine
end
section
open PySem PySem.W PySem.Calls PyProof.Rows
namespace Mine
theorem off_J7E : True := by w_top off; trivial
variable {w : World} {A : Around} {s : Shared} {R : Result → Shared → Prop} {g₀ : Heap} {mg mb : Str → Option Value} {mean : ExcName → Option Value}
/-- a row's first pair comes before its second in the order of x, then y; coordinates from 0 to 5 -/
structure RowOk (ax ay bx by' : Int) : Prop where
  a1 : 0 ≤ ax
  a2 : ax ≤ 5
  a3 : 0 ≤ ay
  a4 : ay ≤ 5
  b1 : 0 ≤ bx
  b2 : bx ≤ 5
  b3 : 0 ≤ by'
  b4 : by' ≤ 5
  lt : 6 * ax + ay < 6 * bx + by'
def low2 (ax ay bx by' cx cy dx dy px py qx qy : Int) : Int :=
  if sgnI (crossI cx cy dx dy px py) = 0 then
    if sgnI (crossI ax ay bx by' px py) = 0 then
      if sgnI (crossI cx cy dx dy qx qy) = 0 then
        if sgnI (crossI ax ay bx by' qx qy) = 0 then 0 else sgnI (crossI ax ay bx by' qx qy)
      else -sgnI (crossI cx cy dx dy qx qy)
    else sgnI (crossI ax ay bx by' px py)
  else -sgnI (crossI cx cy dx dy px py)
/-- what _law_lower says of two rows -/
def lowerI (ax ay bx by' cx cy dx dy : Int) : Int :=
  low2 ax ay bx by' cx cy dx dy (if lexLt ax ay cx cy then cx else ax) (if lexLt ax ay cx cy then cy else ay) (if lexLt dx dy bx by' then dx else bx) (if lexLt dx dy bx by' then dy else by')
theorem side_at {po pa pb pp : Addr} {ax ay bx by' px py : Int} {t1 t2 t3 t4 t5 t6 : Tok} {n0 n1 n2 n3 : Nat} {h₀ : Heap} {L : Addr} {m : Str → Option Value} {news : List (Addr × Obj)} {Q E : Value → Shared → Prop}
    (F : Fr h₀ L s.heap m) (X : (hd.heap_39 w.params).In h₀)
    (T : Top hd.view_39 (looseW hd.view_39 [Str.ofString "_tuplegetter", Str.ofString "Point", Str.ofString "Orientation"]) mean mg mb h₀)
    (N : News h₀ L s.heap news) (m0 : (po, rwObj pa pb n0) ∈ news) (m1 : (pa, prObj ax ay t1 t2 n1) ∈ news) (m2 : (pb, prObj bx by' t3 t4 n2) ∈ news) (m3 : (pp, prObj px py t5 t6 n3) ∈ news)
    (ok : RowOk ax ay bx by') (hh : A.handled = none) (hroom : A.depth < 480)
    (h : ∀ h' tk tr, Fr h₀ L h' m → News h₀ L h' news → Q (.int (sgnI (crossI ax ay bx by' px py)) tr) { s with heap := h', toks := tk }) :
    wpAny (model Challenge.rw_ja0007_01.row.prog w) A (call (.ref 263) [.ref po, .ref pp]) Q E s := by
  obtain ⟨a1, a2, a3, a4, b1, b2, b3, b4, _⟩ := ok
  exact wpAny_call (side_fn X T (F.keep) (news_sub N (List.forall_mem_cons.mpr ⟨m0, List.forall_mem_cons.mpr ⟨m1, List.forall_mem_cons.mpr ⟨m2, List.forall_mem_cons.mpr ⟨m3, List.forall_mem_nil _⟩⟩⟩⟩))
    (by omega) (by omega) (by omega) (by omega) hh hroom fun h' tk tr k => h h' tk tr (fr_kept F k) (news_kept N k))
local macro_rules | `(tactic| walk_at "call ref") => `(tactic| (k_here; (with_reducible show wpAny _ _ (call (Value.ref 263) [Value.ref _, Value.ref _] _) _ _ _); k_dflt (refine' side_at ?F ?X ?T ?N ?m0 ?m1 ?m2 ?m3 ?ok ?hh ?r ?_; (case F => k_asm); (case X => k_asm); (case T => k_asm); (case N => k_asm); (case m0 => k_mem); (case m1 => k_mem); (case m2 => k_mem); (case m3 => k_mem); (case ok => assumption); (case hh => exact rfl); (case r => (simp only [depth_under_make, depth_under_kw, depth_in1, depth_deeper]; omega)); k_whole; intro h' tk' tr' F' N'; (try k_sweep); (try dsimp only))))
theorem max_at {a b : Addr} {ax ay bx by' : Int} {t1 t2 t3 t4 : Tok} {n m' : Nat} {h₀ : Heap} {L : Addr} {m : Str → Option Value} {news : List (Addr × Obj)} {Q E : Value → Shared → Prop} {prog : Program}
    (F : Fr h₀ L s.heap m) (N : News h₀ L s.heap news) (m1 : (a, prObj ax ay t1 t2 n) ∈ news) (m2 : (b, prObj bx by' t3 t4 m') ∈ news) (hh : A.handled = none) (hu : A.units + 1 < cLine)
    (h : ∀ h' tk P px py u1 u2 k, (px = if lexLt ax ay bx by' then bx else ax) → (py = if lexLt ax ay bx by' then by' else ay) → Fr h₀ L h' m → News h₀ L h' ((P, prObj px py u1 u2 k) :: news) → Q (.ref P) { s with heap := h', toks := tk }) :
    wpAny (model prog w) A (call (.builtin "max") [.ref a, .ref b]) Q E s :=
  max_two hh (N _ m1).1 (N _ m2).1 hu fun h' tk k => by
    cases hl : lexLt ax ay bx by'
    · exact h h' tk _ ax ay t1 t2 n (by rw [hl]; rfl) (by rw [hl]; rfl) (fr_kept F k) (List.forall_mem_cons.mpr ⟨(news_kept N k) _ m1, news_kept N k⟩)
    · exact h h' tk _ bx by' t3 t4 m' (by rw [hl]; rfl) (by rw [hl]; rfl) (fr_kept F k) (List.forall_mem_cons.mpr ⟨(news_kept N k) _ m2, news_kept N k⟩)
theorem min_at {a b : Addr} {ax ay bx by' : Int} {t1 t2 t3 t4 : Tok} {n m' : Nat} {h₀ : Heap} {L : Addr} {m : Str → Option Value} {news : List (Addr × Obj)} {Q E : Value → Shared → Prop} {prog : Program}
    (F : Fr h₀ L s.heap m) (N : News h₀ L s.heap news) (m1 : (a, prObj ax ay t1 t2 n) ∈ news) (m2 : (b, prObj bx by' t3 t4 m') ∈ news) (hh : A.handled = none) (hu : A.units + 1 < cLine)
    (h : ∀ h' tk P px py u1 u2 k, (px = if lexLt bx by' ax ay then bx else ax) → (py = if lexLt bx by' ax ay then by' else ay) → Fr h₀ L h' m → News h₀ L h' ((P, prObj px py u1 u2 k) :: news) → Q (.ref P) { s with heap := h', toks := tk }) :
    wpAny (model prog w) A (call (.builtin "min") [.ref a, .ref b]) Q E s :=
  min_two hh (N _ m1).1 (N _ m2).1 hu fun h' tk k => by
    cases hl : lexLt bx by' ax ay
    · exact h h' tk _ ax ay t1 t2 n (by rw [hl]; rfl) (by rw [hl]; rfl) (fr_kept F k) (List.forall_mem_cons.mpr ⟨(news_kept N k) _ m1, news_kept N k⟩)
    · exact h h' tk _ bx by' t3 t4 m' (by rw [hl]; rfl) (by rw [hl]; rfl) (fr_kept F k) (List.forall_mem_cons.mpr ⟨(news_kept N k) _ m2, news_kept N k⟩)
local macro_rules | `(tactic| walk_at "call builtin:max") => `(tactic| (k_here; (with_reducible show wpAny _ _ (call (Value.builtin _) [Value.ref _, Value.ref _] _) _ _ _); k_dflt (refine' max_at ?F ?N ?m1 ?m2 ?hh ?u ?_; (case F => k_asm); (case N => k_asm); (case m1 => k_mem); (case m2 => k_mem); (case hh => exact rfl); (case u => (simp only [Around.deeper_units]; have hcL := cLine_is; omega)); k_whole; intro h' tk' P' px' py' u1' u2' k' hx' hy' F' N'; (try k_sweep); (try dsimp only))))
local macro_rules | `(tactic| walk_at "call builtin:min") => `(tactic| (k_here; (with_reducible show wpAny _ _ (call (Value.builtin _) [Value.ref _, Value.ref _] _) _ _ _); k_dflt (refine' min_at ?F ?N ?m1 ?m2 ?hh ?u ?_; (case F => k_asm); (case N => k_asm); (case m1 => k_mem); (case m2 => k_mem); (case hh => exact rfl); (case u => (simp only [Around.deeper_units]; have hcL := cLine_is; omega)); k_whole; intro h' tk' P' px' py' u1' u2' k' hx' hy' F' N'; (try k_sweep); (try dsimp only))))
set_option maxHeartbeats 8000000 in
theorem lower_fn {po pa pb qo qa qb : Addr} {ax ay bx by' cx cy dx dy : Int} {t1 t2 t3 t4 t5 t6 t7 t8 : Tok} {n0 n1 n2 n3 n4 n5 : Nat} (X : (hd.heap_39 w.params).In g₀)
    (T : Top hd.view_39 (looseW hd.view_39 [Str.ofString "_tuplegetter", Str.ofString "Point", Str.ofString "Orientation"]) mean mg mb g₀) (st : Kept g₀ s.heap)
    (N : ∀ q ∈ [(po, rwObj pa pb n0), (pa, prObj ax ay t1 t2 n1), (pb, prObj bx by' t3 t4 n2), (qo, rwObj qa qb n3), (qa, prObj cx cy t5 t6 n4), (qb, prObj dx dy t7 t8 n5)], s.heap.get? q.1 = some q.2 ∧ g₀.get? q.1 = none)
    (ok1 : RowOk ax ay bx by') (ok2 : RowOk cx cy dx dy) (hh : A.handled = none) (hun : A.units < 5000) (hroom : A.depth < 450)
    (h : ∀ h' tk tr, Kept s.heap h' → R (.ok (.ret (.int (lowerI ax ay bx by' cx cy dx dy) tr))) { s with heap := h', toks := tk }) :
    codeAny (model Challenge.rw_ja0007_01.row.prog w) A (.call (.ref 270) ⟨[.ref po, .ref qo], []⟩) R s := by
  have hrl : A.depth < recursionLimit := Nat.lt_of_lt_of_le hroom (by decide)
  obtain ⟨ah, dep, fra, gua, uni⟩ := A
  cases hh
  dsimp only at hun hroom hrl
  revert X; k_fill; intro X
  refine' own_call (K := hd.heap_39 w.params) (objs := _) (binds := [(Str.ofString "one", .ref po), (Str.ofString "other", .ref qo)]) X T st N ?k6 ?k7 hrl ?k9 ?kB ?_ ?c5 ?c2 ?c3 ?c4
  case k6 => k_is
  case k7 => k_is
  case k9 => exact BindsTo.of_eq rfl
  case c5 => decide
  case kB => exact locs rfl
  all_goals try exact rfl
  intro g L h₁ tk XG TG KG F N
  clear X T
  k_fold
  k_steps
  all_goals refine ownEnd_ (by assumption) (by assumption) (fun _ hq => by repeat (first | exact hq | refine List.mem_cons_of_mem _ ?_)) fun k => ?_
  all_goals subst_vars
  · rw [show lowerI ax ay bx by' cx cy dx dy = _ from if_neg (by assumption)] at h; exact h _ _ _ k
  · rw [show lowerI ax ay bx by' cx cy dx dy = _ from (if_pos (by assumption)).trans (if_neg (by assumption))] at h; exact h _ _ _ k
  · rw [show lowerI ax ay bx by' cx cy dx dy = _ from (if_pos (by assumption)).trans ((if_pos (by assumption)).trans (if_neg (by assumption)))] at h; exact h _ _ _ k
  · rw [show lowerI ax ay bx by' cx cy dx dy = _ from (if_pos (by assumption)).trans ((if_pos (by assumption)).trans ((if_pos (by assumption)).trans (if_neg (by assumption))))] at h; exact h _ _ _ k
  · rw [show lowerI ax ay bx by' cx cy dx dy = _ from (if_pos (by assumption)).trans ((if_pos (by assumption)).trans ((if_pos (by assumption)).trans (if_pos (by assumption))))] at h; exact h _ _ _ k
end Mine
end
section
open PySem PySem.W PySem.Calls PyProof.Rows
namespace Mine
theorem off_J7H : True := by w_top off; trivial
variable {w : World} {A : Around} {s : Shared} {R : Result → Shared → Prop} {g₀ : Heap} {mg mb : Str → Option Value} {mean : ExcName → Option Value}
theorem fm36 (a : Int) : Int.fmod a 36 = a % 36 := Int.fmod_eq_emod_of_nonneg a (by decide)
theorem fm6 (a : Int) : Int.fmod a 6 = a % 6 := Int.fmod_eq_emod_of_nonneg a (by decide)
theorem fd36 (a : Int) : Int.fdiv a 36 = a / 36 := Int.fdiv_eq_ediv_of_nonneg a (by decide)
theorem fd6 (a : Int) : Int.fdiv a 6 = a / 6 := Int.fdiv_eq_ediv_of_nonneg a (by decide)
theorem row_end {h₀ h : Heap} {L r a b : Addr} {news : List (Addr × Obj)} {n0 n1 n2 : Nat} {ax ay bx by' : Int} {t1 t2 t3 t4 : Tok} (N : News h₀ L h news) (m0 : (r, rwObj a b n0) ∈ news) (m1 : (a, prObj ax ay t1 t2 n1) ∈ news) (m2 : (b, prObj bx by' t3 t4 n2) ∈ news) :
    ∀ q ∈ [(r, rwObj a b n0), (a, prObj ax ay t1 t2 n1), (b, prObj bx by' t3 t4 n2)], h.get? q.1 = some q.2 ∧ h₀.get? q.1 = none :=
  news_sub N (List.forall_mem_cons.mpr ⟨m0, List.forall_mem_cons.mpr ⟨m1, List.forall_mem_cons.mpr ⟨m2, List.forall_mem_nil _⟩⟩⟩)
theorem row_fin {h₀ h : Heap} {L r a b : Addr} {tk : Nat} {news : List (Addr × Obj)} {n0 n1 n2 : Nat} {ax ay bx by' : Int} {t1 t2 t3 t4 : Tok} {P : Heap → Nat → Addr → Prop}
    (hp : ∀ h' tk r a b ax ay bx by' t1 t2 t3 t4 n0 n1 n2, RowOk ax ay bx by' → Kept h₀ h' → (∀ q ∈ [(r, rwObj a b n0), (a, prObj ax ay t1 t2 n1), (b, prObj bx by' t3 t4 n2)], h'.get? q.1 = some q.2 ∧ h₀.get? q.1 = none) → P h' tk r)
    (k : Kept h₀ h) (N : News h₀ L h news) (m0 : (r, rwObj a b n0) ∈ news) (m1 : (a, prObj ax ay t1 t2 n1) ∈ news) (m2 : (b, prObj bx by' t3 t4 n2) ∈ news) (ok : RowOk ax ay bx by') : P h tk r :=
  hp _ _ _ _ _ _ _ _ _ _ _ _ _ _ _ _ ok k (row_end N m0 m1 m2)
set_option maxHeartbeats 8000000 in
theorem drawn_fn {num : Int} {tn : Tok} (X : (hd.heap_39 w.params).In g₀)
    (T : Top hd.view_39 (looseW hd.view_39 [Str.ofString "_tuplegetter", Str.ofString "Point", Str.ofString "Orientation"]) mean mg mb g₀) (st : Kept g₀ s.heap)
    (hh : A.handled = none) (hun : A.units < 5000) (hroom : A.depth < 450)
    (h : ∀ h' tk r a b ax ay bx by' t1 t2 t3 t4 n0 n1 n2, RowOk ax ay bx by' → Kept s.heap h' → (∀ q ∈ [(r, rwObj a b n0), (a, prObj ax ay t1 t2 n1), (b, prObj bx by' t3 t4 n2)], h'.get? q.1 = some q.2 ∧ s.heap.get? q.1 = none) → R (.ok (.ret (.ref r))) { s with heap := h', toks := tk }) :
    codeAny (model Challenge.rw_ja0007_01.row.prog w) A (.call (.ref 256) ⟨[.int num tn], []⟩) R s := by
  have hrl : A.depth < recursionLimit := Nat.lt_of_lt_of_le hroom (by decide)
  obtain ⟨ah, dep, fra, gua, uni⟩ := A
  cases hh
  dsimp only at hun hroom hrl
  revert X; k_fill; intro X
  refine' own_call0 (K := hd.heap_39 w.params) (binds := [(Str.ofString "number", .int num tn)]) X T st ?k6 ?k7 hrl ?k9 ?kB ?_ ?c5 ?c2 ?c3 ?c4
  case k6 => k_is
  case k7 => k_is
  case k9 => exact BindsTo.of_eq rfl
  case c5 => decide
  case kB => exact locs rfl
  all_goals try exact rfl
  intro L h₁ tk XG TG F N
  clear X T
  k_fold
  k_steps
  all_goals refine ownEnd_ (by assumption) (by assumption) (List.forall_mem_nil _) fun k => ?_
  all_goals exact row_fin h k (by assumption) (by k_mem) (by k_mem) (by k_mem) (by simp only [fm36, fm6, fd36, fd6] at *; constructor <;> omega)
end Mine
end
section
open PySem PySem.W PySem.Calls PyProof.Rows
namespace Mine
theorem off_J7F : True := by w_top off; trivial
variable {w : World} {A : Around} {s : Shared} {R : Result → Shared → Prop} {g₀ : Heap} {mg mb : Str → Option Value} {mean : ExcName → Option Value}
/-- a key's dict -/
abbrev keyDict (h1 h2 h3 h4 : Int) (t1 t2 t3 t4 te : Tok) (ends opp q : Addr) (e : Int) : Obj :=
  dictOf [⟨h1, .str (Str.ofString "endpoints") t1, .ref ends⟩, ⟨h2, .str (Str.ofString "event") t2, .int e te⟩, ⟨h3, .str (Str.ofString "opposites") t3, .ref opp⟩, ⟨h4, .str (Str.ofString "_orienteer") t4, .ref q⟩] 4
theorem orient_at {q c pv dv pf df ps ds : Addr} {vx vy fx fy sx sy : Int} {t1 t2 t3 t4 t5 t6 : Tok} {n1 n2 n3 : Nat} {h₀ : Heap} {L : Addr} {m : Str → Option Value} {news : List (Addr × Obj)} {Q E : Value → Shared → Prop}
    (F : Fr h₀ L s.heap m) (X : (hd.heap_39 w.params).In h₀)
    (T : Top hd.view_39 (looseW hd.view_39 [Str.ofString "_tuplegetter", Str.ofString "Point", Str.ofString "Orientation"]) mean mg mb h₀)
    (N : News h₀ L s.heap news) (mq : (q, methodObj (.ref 207) (.ref c)) ∈ news)
    (m1 : (pv, ptObj dv vx vy t1 t2 n1) ∈ news) (m2 : (dv, emptyDict) ∈ news) (m3 : (pf, ptObj df fx fy t3 t4 n2) ∈ news) (m4 : (df, emptyDict) ∈ news) (m5 : (ps, ptObj ds sx sy t5 t6 n3) ∈ news) (m6 : (ds, emptyDict) ∈ news)
    (b1 : -5 ≤ fx - vx) (b2 : fx - vx ≤ 5) (b3 : -5 ≤ fy - vy) (b4 : fy - vy ≤ 5) (hroom : A.depth < 480)
    (h : ∀ h' tk, Fr h₀ L h' m → News h₀ L h' news → Q (.ref (kindAt (crossI vx vy fx fy sx sy))) { s with heap := h', toks := tk }) :
    wpAny (model Challenge.rw_ja0007_01.row.prog w) A (call (.ref q) [.ref pv, .ref pf, .ref ps]) Q E s := by
  exact call_meth N mq (orient_fn X T (F.keep) (news_sub N (List.forall_mem_cons.mpr ⟨m1, List.forall_mem_cons.mpr ⟨m2, List.forall_mem_cons.mpr ⟨m3, List.forall_mem_cons.mpr ⟨m4, List.forall_mem_cons.mpr ⟨m5, List.forall_mem_cons.mpr ⟨m6, List.forall_mem_nil _⟩⟩⟩⟩⟩⟩))
    b1 b2 b3 b4 hroom fun h' tk k => h h' tk (fr_kept F k) (news_kept N k))
theorem kind_obj (X : (hd.heap_39 w.params).In g₀) (z : Int) : ∃ dx sl, g₀.get? (kindAt z) = some ⟨.ref 152, some dx, .plain, sl⟩ := by
  unfold kindAt
  split
  · exact ⟨_, _, X _ _ rfl⟩
  · split
    · exact ⟨_, _, X _ _ rfl⟩
    · exact ⟨_, _, X _ _ rfl⟩
theorem is_kind {h₀ : Heap} {L : Addr} {m : Str → Option Value} {z : Int} {y : Addr} {prog : Program} {Q E : Value → Shared → Prop} (F : Fr h₀ L s.heap m) (X : (hd.heap_39 w.params).In h₀) (hy : ∃ z', y = kindAt z')
    (h : Q (.bool (decide (kindAt z = y))) s) : wpAny (model prog w) A (compareOp .Is (.ref (kindAt z)) (.ref y)) Q E s := by
  obtain ⟨z', rfl⟩ := hy
  obtain ⟨d1, l1, e1⟩ := kind_obj X z
  obtain ⟨d2, l2, e2⟩ := kind_obj X z'
  by_cases e : kindAt z = kindAt z'
  · rw [decide_eq_true e] at h; rw [e]; exact wpAny_is_ref_self h
  · rw [decide_eq_false e] at h; exact wpAny_is_ref_other e (F.keep _ _ e1) (F.keep _ _ e2) (by intro z; cases z) h
theorem isNot_kind {h₀ : Heap} {L : Addr} {m : Str → Option Value} {z : Int} {y : Addr} {prog : Program} {Q E : Value → Shared → Prop} (F : Fr h₀ L s.heap m) (X : (hd.heap_39 w.params).In h₀) (hy : ∃ z', y = kindAt z')
    (h : Q (.bool (!decide (kindAt z = y))) s) : wpAny (model prog w) A (compareOp .IsNot (.ref (kindAt z)) (.ref y)) Q E s := by
  obtain ⟨z', rfl⟩ := hy
  obtain ⟨d1, l1, e1⟩ := kind_obj X z
  obtain ⟨d2, l2, e2⟩ := kind_obj X z'
  by_cases e : kindAt z = kindAt z'
  · rw [decide_eq_true e] at h; rw [e]; exact wpAny_isNot_ref_self h
  · rw [decide_eq_false e] at h; exact wpAny_isNot_ref_other e (F.keep _ _ e1) (F.keep _ _ e2) (by intro z; cases z) h
abbrev lsObj (xs : Array Value) (n : Nat) : Obj := { cls := .type "list", data := .seq xs n }
theorem item_led {h₀ : Heap} {L l : Addr} {news : List (Addr × Obj)} {prog : Program} {xs : Array Value} {n : Nat} {k : Int} {u : Tok} {v : Value} {Q E : Value → Shared → Prop} {value slice : PySem.Expr} (N : News h₀ L s.heap news) (m : (l, lsObj xs n) ∈ news)
    (h0 : 0 ≤ k) (h1 : k < 2 ^ 63) (hx : xs[k.toNat]? = some v) (h : Q v s)
    (hs : subscripted slice false (.ref l) (.int k u) = operate [.ref l, .int k u] (getItem (.ref l) (.int k u)) := by with_unfolding_all rfl) :
    wpAny (model prog w) A (subscriptTail value slice (.ref l) (.int k u)) Q E s :=
  have hl : s.heap.IsList l xs := ⟨_, (N _ m).1, rfl, _, rfl⟩
  tail_any hl.typeIs slot_list_getitem.lookup (wpAny_getItem_list hl h0 h1 hx h) hs
/-- what a key says of another one -/
def keyLt (sx sy ex ey ox oy px py : Int) : Bool :=
  let z1 := crossI sx sy ex ey ox oy
  let z2 := crossI sx sy ex ey px py
  let z3 := crossI ox oy px py sx sy
  let z4 := crossI ox oy px py ex ey
  if kindAt z1 = kindAt z2 then
    if kindAt z1 = 168 then
      if sy = oy then (if sx = ox then (if ey = py then decide (ex < px) else decide (ey < py)) else decide (sx < ox)) else decide (sy < oy)
    else decide (kindAt z1 = 171)
  else if kindAt z3 = kindAt z4 then decide (kindAt z3 = 165)
  else if kindAt z1 = 168 then decide (kindAt z2 = 171)
  else if kindAt z3 = 168 then decide (kindAt z4 = 165)
  else if kindAt z4 = 168 then decide (kindAt z3 = 165)
  else decide (kindAt z1 = 171)
local macro_rules | `(tactic| walk_at "getAttr ref") => `(tactic| (k_here; (with_reducible show wpAny _ _ (getAttr (Value.ref _) (Str.ofString "x") _) _ _ _); k_dflt (refine' getx_at ?F ?X ?T ?N ?m1 ?m2 ?r ?_; (case F => k_asm); (case X => k_asm); (case T => k_asm); (case N => k_asm); (case m1 => k_mem); (case m2 => k_mem); (case r => (simp only [depth_under_make, depth_under_kw, depth_in1, depth_deeper]; omega)); k_whole; intro h' tk' F' N'; (try k_sweep); (try dsimp only))))
local macro_rules | `(tactic| walk_at "getAttr ref") => `(tactic| (k_here; (with_reducible show wpAny _ _ (getAttr (Value.ref _) (Str.ofString "y") _) _ _ _); k_dflt (refine' gety_at ?F ?X ?T ?N ?m1 ?m2 ?r ?_; (case F => k_asm); (case X => k_asm); (case T => k_asm); (case N => k_asm); (case m1 => k_mem); (case m2 => k_mem); (case r => (simp only [depth_under_make, depth_under_kw, depth_in1, depth_deeper]; omega)); k_whole; intro h' tk' F' N'; (try k_sweep); (try dsimp only))))
local macro_rules | `(tactic| walk_at "call ref") => `(tactic| (k_here; (with_reducible show wpAny _ _ (call (Value.ref _) [Value.ref _, Value.ref _, Value.ref _] _) _ _ _); k_dflt (refine' orient_at ?F ?X ?T ?N ?mq ?m1 ?m2 ?m3 ?m4 ?m5 ?m6 ?b1 ?b2 ?b3 ?b4 ?r ?_; (case F => k_asm); (case X => k_asm); (case T => k_asm); (case N => k_asm); (case mq => k_mem); (case m1 => k_mem); (case m2 => k_mem); (case m3 => k_mem); (case m4 => k_mem); (case m5 => k_mem); (case m6 => k_mem); (case b1 => assumption); (case b2 => assumption); (case b3 => assumption); (case b4 => assumption); (case r => (simp only [depth_under_make, depth_under_kw, depth_in1, depth_deeper]; omega)); k_whole; intro h' tk' F' N'; (try k_sweep); (try dsimp only))))
local macro_rules | `(tactic| walk_at "compareOp Is ref ref") => `(tactic| (k_here; (with_reducible show wpAny _ _ (compareOp CmpOp.Is (Value.ref (kindAt _)) (Value.ref _)) _ _ _); k_dflt (refine' is_kind ?F ?X ?y ?_; (case F => k_asm); (case X => k_asm); (case y => first | exact ⟨_, rfl⟩ | exact ⟨0, rfl⟩ | exact ⟨1, rfl⟩ | exact ⟨-1, rfl⟩); k_whole)))
local macro_rules | `(tactic| walk_at "compareOp IsNot ref ref") => `(tactic| (k_here; (with_reducible show wpAny _ _ (compareOp CmpOp.IsNot (Value.ref (kindAt _)) (Value.ref _)) _ _ _); k_dflt (refine' isNot_kind ?F ?X ?y ?_; (case F => k_asm); (case X => k_asm); (case y => first | exact ⟨_, rfl⟩ | exact ⟨0, rfl⟩ | exact ⟨1, rfl⟩ | exact ⟨-1, rfl⟩); k_whole)))
local macro_rules | `(tactic| walk_at "subscriptTail") => `(tactic| (k_here; (with_reducible show wpAny _ _ (subscriptTail _ _ (Value.ref _) (Value.int _ _)) _ _ _); k_dflt (refine' item_led ?N ?m ?h0 ?h1 ?hx ?_ ?hs; (case N => k_asm); (case m => k_mem); (case h0 => omega); (case h1 => omega); (case hx => assumption); (case hs => with_unfolding_all rfl); k_whole)))
set_option maxHeartbeats 16000000 in
theorem lt_fn {x dx y dy ends opp q1 q2 c1 c2 p1 d1 p2 d2 p3 d3 p4 d4 : Addr} {ha1 ha2 ha3 ha4 hb1 hb2 hb3 hb4 : Int} {u1 u2 u3 u4 u5 v1 v2 v3 v4 v5 : Tok} {e1 e2 f1 f2 : Int} {pts ops : Array Value} {np no : Nat} {w1 w2 : Tok}
    {sx sy ex ey ox oy px py : Int} {t1 t2 t3 t4 t5 t6 t7 t8 : Tok} {n1 n2 n3 n4 : Nat} (X : (hd.heap_39 w.params).In g₀)
    (T : Top hd.view_39 (looseW hd.view_39 [Str.ofString "_tuplegetter", Str.ofString "Point", Str.ofString "Orientation"]) mean mg mb g₀) (st : Kept g₀ s.heap)
    (N : ∀ q ∈ [(x, instObj 245 dx), (dx, keyDict ha1 ha2 ha3 ha4 u1 u2 u3 u4 u5 ends opp q1 e1), (y, instObj 245 dy), (dy, keyDict hb1 hb2 hb3 hb4 v1 v2 v3 v4 v5 ends opp q2 e2), (q1, methodObj (.ref 207) (.ref c1)), (q2, methodObj (.ref 207) (.ref c2)),
      (ends, lsObj pts np), (opp, lsObj ops no), (p1, ptObj d1 sx sy t1 t2 n1), (d1, emptyDict), (p2, ptObj d2 ex ey t3 t4 n2), (d2, emptyDict), (p3, ptObj d3 ox oy t5 t6 n3), (d3, emptyDict), (p4, ptObj d4 px py t7 t8 n4), (d4, emptyDict)], s.heap.get? q.1 = some q.2 ∧ g₀.get? q.1 = none)
    (i1 : 0 ≤ e1 ∧ e1 < 12) (i2 : 0 ≤ e2 ∧ e2 < 12) (i3 : 0 ≤ f1 ∧ f1 < 12) (i4 : 0 ≤ f2 ∧ f2 < 12)
    (k1 : pts[e1.toNat]? = some (.ref p1)) (k2 : pts[f1.toNat]? = some (.ref p2)) (k3 : pts[e2.toNat]? = some (.ref p3)) (k4 : pts[f2.toNat]? = some (.ref p4)) (k5 : ops[e1.toNat]? = some (.int f1 w1)) (k6 : ops[e2.toNat]? = some (.int f2 w2))
    (b1 : -5 ≤ ex - sx) (b2 : ex - sx ≤ 5) (b3 : -5 ≤ ey - sy) (b4 : ey - sy ≤ 5) (b5 : -5 ≤ px - ox) (b6 : px - ox ≤ 5) (b7 : -5 ≤ py - oy) (b8 : py - oy ≤ 5) (hh : A.handled = none) (hun : A.units < 5000) (hroom : A.depth < 450)
    (h : ∀ h' tk, Kept s.heap h' → R (.ok (.ret (.bool (keyLt sx sy ex ey ox oy px py)))) { s with heap := h', toks := tk }) :
    codeAny (model Challenge.rw_ja0007_01.row.prog w) A (.call (.ref 242) ⟨[.ref x, .ref y], []⟩) R s := by
  have hrl : A.depth < recursionLimit := Nat.lt_of_lt_of_le hroom (by decide)
  obtain ⟨ah, dep, fra, gua, uni⟩ := A
  cases hh
  dsimp only at hun hroom hrl
  revert X; k_fill; intro X
  refine' own_call (K := hd.heap_39 w.params) (objs := _) (binds := [(Str.ofString "self", .ref x), (Str.ofString "other", .ref y)]) X T st N ?k6 ?k7 hrl ?k9 ?kB ?_ ?c5 ?c2 ?c3 ?c4
  case k6 => k_is
  case k7 => k_is
  case k9 => exact BindsTo.of_eq rfl
  case c5 => decide
  case kB => exact locs rfl
  all_goals try exact rfl
  intro g L h₁ tk XG TG KG F N
  clear X T
  k_fold
  k_steps
  all_goals repeat (first | (k_unfold; (try dsimp only)) | dsimp only)
  all_goals refine ownEnd_ (by assumption) (by assumption) (fun _ hq => by repeat (first | exact hq | refine List.mem_cons_of_mem _ ?_)) fun k => ?_
  · rw [show keyLt sx sy ex ey ox oy px py = _ from (if_pos (by assumption)).trans ((if_pos (by assumption)).trans ((if_pos (by assumption)).trans (if_neg (by assumption))))] at h; exact h _ _ k
  · rw [show keyLt sx sy ex ey ox oy px py = _ from (if_pos (by assumption)).trans ((if_pos (by assumption)).trans ((if_pos (by assumption)).trans ((if_pos (by assumption)).trans (if_neg (by assumption)))))] at h; exact h _ _ k
  · rw [show keyLt sx sy ex ey ox oy px py = _ from (if_pos (by assumption)).trans ((if_pos (by assumption)).trans ((if_pos (by assumption)).trans ((if_pos (by assumption)).trans (if_pos (by assumption)))))] at h; exact h _ _ k
  · rw [show keyLt sx sy ex ey ox oy px py = _ from (if_pos (by assumption)).trans ((if_pos (by assumption)).trans (if_neg (by assumption)))] at h; exact h _ _ k
  · rw [show keyLt sx sy ex ey ox oy px py = _ from (if_pos (by assumption)).trans (if_neg (by assumption))] at h; exact h _ _ k
  · rw [show keyLt sx sy ex ey ox oy px py = _ from (if_neg (by assumption)).trans (if_pos (by assumption))] at h; exact h _ _ k
  · rw [show keyLt sx sy ex ey ox oy px py = _ from (if_neg (by assumption)).trans ((if_neg (by assumption)).trans (if_pos (by assumption)))] at h; exact h _ _ k
  · rw [show keyLt sx sy ex ey ox oy px py = _ from (if_neg (by assumption)).trans ((if_neg (by assumption)).trans ((if_neg (by assumption)).trans (if_pos (by assumption))))] at h; exact h _ _ k
  · rw [show keyLt sx sy ex ey ox oy px py = _ from (if_neg (by assumption)).trans ((if_neg (by assumption)).trans ((if_neg (by assumption)).trans ((if_neg (by assumption)).trans (if_pos (by assumption)))))] at h; exact h _ _ k
  · rw [show keyLt sx sy ex ey ox oy px py = _ from (if_neg (by assumption)).trans ((if_neg (by assumption)).trans ((if_neg (by assumption)).trans ((if_neg (by assumption)).trans (if_neg (by assumption)))))] at h; exact h _ _ k
/-- a key below another one -/
theorem lt_at {x dx y dy ends opp q1 q2 c1 c2 p1 d1 p2 d2 p3 d3 p4 d4 : Addr} {ha1 ha2 ha3 ha4 hb1 hb2 hb3 hb4 : Int} {u1 u2 u3 u4 u5 v1 v2 v3 v4 v5 : Tok} {e1 e2 f1 f2 : Int} {pts ops : Array Value} {np no : Nat} {w1 w2 : Tok}
    {sx sy ex ey ox oy px py : Int} {t1 t2 t3 t4 t5 t6 t7 t8 : Tok} {n1 n2 n3 n4 : Nat} {h₀ : Heap} {L : Addr} {m : Str → Option Value} {news : List (Addr × Obj)} {Q E : Value → Shared → Prop}
    (F : Fr h₀ L s.heap m) (X : (hd.heap_39 w.params).In h₀)
    (T : Top hd.view_39 (looseW hd.view_39 [Str.ofString "_tuplegetter", Str.ofString "Point", Str.ofString "Orientation"]) mean mg mb h₀) (N : News h₀ L s.heap news)
    (m1 : (x, instObj 245 dx) ∈ news) (m2 : (dx, keyDict ha1 ha2 ha3 ha4 u1 u2 u3 u4 u5 ends opp q1 e1) ∈ news) (m3 : (y, instObj 245 dy) ∈ news) (m4 : (dy, keyDict hb1 hb2 hb3 hb4 v1 v2 v3 v4 v5 ends opp q2 e2) ∈ news)
    (m5 : (q1, methodObj (.ref 207) (.ref c1)) ∈ news) (m6 : (q2, methodObj (.ref 207) (.ref c2)) ∈ news) (m7 : (ends, lsObj pts np) ∈ news) (m8 : (opp, lsObj ops no) ∈ news)
    (m9 : (p1, ptObj d1 sx sy t1 t2 n1) ∈ news) (m10 : (d1, emptyDict) ∈ news) (m11 : (p2, ptObj d2 ex ey t3 t4 n2) ∈ news) (m12 : (d2, emptyDict) ∈ news) (m13 : (p3, ptObj d3 ox oy t5 t6 n3) ∈ news) (m14 : (d3, emptyDict) ∈ news)
    (m15 : (p4, ptObj d4 px py t7 t8 n4) ∈ news) (m16 : (d4, emptyDict) ∈ news)
    (i1 : 0 ≤ e1 ∧ e1 < 12) (i2 : 0 ≤ e2 ∧ e2 < 12) (i3 : 0 ≤ f1 ∧ f1 < 12) (i4 : 0 ≤ f2 ∧ f2 < 12)
    (k1 : pts[e1.toNat]? = some (.ref p1)) (k2 : pts[f1.toNat]? = some (.ref p2)) (k3 : pts[e2.toNat]? = some (.ref p3)) (k4 : pts[f2.toNat]? = some (.ref p4)) (k5 : ops[e1.toNat]? = some (.int f1 w1)) (k6 : ops[e2.toNat]? = some (.int f2 w2))
    (b1 : -5 ≤ ex - sx ∧ ex - sx ≤ 5) (b3 : -5 ≤ ey - sy ∧ ey - sy ≤ 5) (b5 : -5 ≤ px - ox ∧ px - ox ≤ 5) (b7 : -5 ≤ py - oy ∧ py - oy ≤ 5) (hh : A.handled = none) (hun : A.units < 4000) (hroom : A.depth < 440)
    (h : ∀ h' tk, Fr h₀ L h' m → News h₀ L h' news → Q (.bool (keyLt sx sy ex ey ox oy px py)) { s with heap := h', toks := tk }) :
    wpAny (model Challenge.rw_ja0007_01.row.prog w) A (compareOp .Lt (.ref x) (.ref y)) Q E s := by
  have I : InstAt s.heap x (instObj 245 dx) 245 (some (keyDict ha1 ha2 ha3 ha4 u1 u2 u3 u4 u5 ends opp q1 e1)) := InstAt.of_news N m1 m2
  have J : InstAt s.heap y (instObj 245 dy) 245 (some (keyDict hb1 hb2 hb3 hb4 v1 v2 v3 v4 v5 ends opp q2 e2)) := InstAt.of_news N m3 m4
  have hcL := cLine_is
  revert X; k_fill; intro X
  refine cmp_ofLt (cmp_K (K := hd.heap_39 w.params) (C := 245) (f := 242) (tb := .ref 245) (by omega) F X I J.type (by k_is) (by k_is) (by k_is) (wpAny_call ?_))
  refine lt_fn X T F.keep (news_sub N (List.forall_mem_cons.mpr ⟨m1, List.forall_mem_cons.mpr ⟨m2, List.forall_mem_cons.mpr ⟨m3, List.forall_mem_cons.mpr ⟨m4, List.forall_mem_cons.mpr ⟨m5, List.forall_mem_cons.mpr ⟨m6, List.forall_mem_cons.mpr ⟨m7, List.forall_mem_cons.mpr ⟨m8,
    List.forall_mem_cons.mpr ⟨m9, List.forall_mem_cons.mpr ⟨m10, List.forall_mem_cons.mpr ⟨m11, List.forall_mem_cons.mpr ⟨m12, List.forall_mem_cons.mpr ⟨m13, List.forall_mem_cons.mpr ⟨m14, List.forall_mem_cons.mpr ⟨m15, List.forall_mem_cons.mpr ⟨m16, List.forall_mem_nil _⟩⟩⟩⟩⟩⟩⟩⟩⟩⟩⟩⟩⟩⟩⟩⟩))
    i1 i2 i3 i4 k1 k2 k3 k4 k5 k6 b1.1 b1.2 b3.1 b3.2 b5.1 b5.2 b7.1 b7.2 hh (by omega) (by omega) fun h' tk k => h h' tk (fr_kept F k) (news_kept N k)
end Mine
end
section
open PySem PySem.W PySem.Calls PyProof.Rows
namespace Mine
theorem off_J7I : True := by w_top off; trivial
variable {w : World} {A : Around} {s : Shared} {R : Result → Shared → Prop} {g₀ : Heap} {mg mb : Str → Option Value} {mean : ExcName → Option Value}
theorem pt_made {prog : Program} {h : Heap} (X : (hd.heap_39 w.params).In h) : Looks (model prog w) h (Bind.madeBy (.ref 132)) none :=
  Looks.of_peek X (by kernel_rfl)
theorem pt_here {prog : Program} {h : Heap} (X : (hd.heap_39 w.params).In h) : Looks (model prog w) h (Bind.madeHere "tuple.__new__" (.ref 132)) () :=
  Looks.of_peek X (by kernel_rfl)
theorem pt_check {prog : Program} {h : Heap} {t : Value} (X : (hd.heap_39 w.params).In h) : Looks (model prog w) h (checkBuiltinCall "tuple.__new__" ⟨[.ref 132, t], []⟩) () :=
  Looks.of_peek X (by kernel_rfl)
theorem plain_tn : plainId "tuple.__new__" = true := by decide +kernel
theorem pt_new {prog : Program} {E Q : Value → Shared → Prop} {t : Addr} {x y : Int} {tx ty : Tok} {n : Nat} (X : (hd.heap_39 w.params).In s.heap) (ht : s.heap.get? t = some { cls := .type "tuple", data := .seq #[.int x tx, .int y ty] n })
    (h : ∀ h' p dx, Kept s.heap h' → s.heap.get? p = none → s.heap.get? dx = none → h'.get? p = some (ptObj dx x y tx ty 0) → h'.get? dx = some emptyDict → Q (.ref p) { s with heap := h' }) :
    wpAny (model prog w) A (call (.builtin "tuple.__new__") [.ref 132, .ref t]) Q E s := by
  obtain ⟨hh, g, d, tk, os⟩ := s
  dsimp only at X ht h
  have L0 := pt_check (prog := prog) (t := .ref t) X
  have L1 : Looks (model prog w) hh (isSubtype (.ref 132) (.type "tuple")) true := looks_mroIn X (by rfl)
  have L2 := pt_here (prog := prog) X
  have L3 : Looks (model prog w) hh (typeLookup (.ref 132) "__init__") (some (.builtin "object.__init__")) := looks_findIn X (by rfl)
  have ho : ∃ c d sl cd, hh.get? 132 = some ⟨c, d, .cls cd, sl⟩ ∧ cd.hasDel = false := ⟨_, _, _, _, X _ _ rfl, rfl⟩
  obtain ⟨c0, d0, sl0, cd, ho, hdel⟩ := ho
  refine wpAny_call (codeAny_call_builtin plain_tn F.entry_tuple_new (L0.at ?_))
  unfold Builtin.«tuple.__new__»
  repeat ((fail_if_success (with_reducible show wpAny _ _ (collect _) _ _ _)); lk)
  refine wpAny_collect_seq t (.inr rfl) ht rfl rfl (fun h' hk => ?_) (Nat.le_of_ble_eq_true rfl)
  dsimp only
  lk
  lk
  lk
  lk
  lk
  refine nd_alloc ?_
  refine nd_pure ?_
  refine wpAny_bind ?_
  show wpAny _ _ (newObjAsIs _ _ _) _ _ _
  unfold newObjAsIs classHasDel
  have k1 : Kept hh (h'.push emptyDict) := fun b o e => Heap.get?_push_of_some _ (hk b o e)
  have k2 : Kept hh ((h'.push emptyDict).push (ptObj h'.objs.size x y tx ty 0)) := fun b o e => Heap.get?_push_of_some _ (k1 b o e)
  refine wpAny_bind (wpAny_alloc (wpAny_bind (wpAny_bind (wpAny_load (k2 _ _ ho) (wpAny_pure ?_)))))
  rw [hdel]
  refine wpAny_pure (wpAny_pure ?_)
  have no : ∀ a, h'.objs.size ≤ a → hh.get? a = none := fun a ha => by
    cases e : hh.get? a with
    | none => rfl
    | some o => exact absurd (Heap.lt_size (hk _ _ e)) (Nat.not_lt.mpr ha)
  exact h _ _ h'.objs.size k2 (no _ (by rw [Heap.size_push]; exact Nat.le_succ _)) (no _ (Nat.le_refl _)) (Heap.get?_push_size _ rfl) (Heap.get?_push_of_some _ (Heap.get?_push_size _ rfl))
local macro_rules | `(tactic| walk_at "getMethod type:tuple") => `(tactic| (k_here; refine' method_type ?F ?X ?m (by decide +kernel) ?e ?h ?_; (case F => k_asm); (case X => k_asm); (case m => exact meta_tuple); (case e => k_dflt k_is); (case h => k_handed)))
theorem pt_new_at {h₀ : Heap} {L : Addr} {m : Str → Option Value} {news : List (Addr × Obj)} {prog : Program} {E Q : Value → Shared → Prop} {t : Addr} {x y : Int} {tx ty : Tok} {n : Nat} (F : Fr h₀ L s.heap m) (N : News h₀ L s.heap news) (X : (hd.heap_39 w.params).In h₀)
    (ht : (t, { cls := .type "tuple", data := .seq #[.int x tx, .int y ty] n }) ∈ news)
    (h : ∀ h' p dx, Fr h₀ L h' m → News h₀ L h' ((p, ptObj dx x y tx ty 0) :: (dx, emptyDict) :: news) → Q (.ref p) { s with heap := h' }) :
    wpAny (model prog w) A (call (.builtin "tuple.__new__") [.ref 132, .ref t]) Q E s :=
  pt_new (X.keeps F.keep) (N _ ht).1 fun h' p dx k e1 e2 o1 o2 => by
    obtain ⟨oL, _, _, hL, _⟩ := F.ns
    have ne : ∀ a, s.heap.get? a = none → a ≠ L := fun a e c => by rw [c, hL] at e; cases e
    have nn : ∀ a, s.heap.get? a = none → h₀.get? a = none := fun a e => by
      cases q : h₀.get? a with
      | none => rfl
      | some o => rw [F.keep _ _ q] at e; cases e
    exact h h' p dx (fr_kept F k) (List.forall_mem_cons.mpr ⟨⟨o1, ne _ e1, nn _ e1⟩, List.forall_mem_cons.mpr ⟨⟨o2, ne _ e2, nn _ e2⟩, news_kept N k⟩⟩)
local macro_rules | `(tactic| walk_at "call builtin:tuple.__new__") => `(tactic| (k_here; k_dflt (refine' pt_new_at ?F ?N ?X ?t ?_; (case F => k_asm); (case N => k_asm); (case X => k_asm); (case t => k_mem); k_whole; intro h' p' dx' F' N'; (try k_sweep); (try dsimp only))))
theorem pt_fin {h₀ h : Heap} {L p dx : Addr} {tk : Nat} {news : List (Addr × Obj)} {x y : Int} {tx ty : Tok} {P : Heap → Nat → Addr → Prop}
    (hp : ∀ h' tk p dx, Kept h₀ h' → h₀.get? p = none → h₀.get? dx = none → h'.get? p = some (ptObj dx x y tx ty 0) → h'.get? dx = some emptyDict → P h' tk p)
    (k : Kept h₀ h) (N : News h₀ L h news) (m0 : (p, ptObj dx x y tx ty 0) ∈ news) (m1 : (dx, emptyDict) ∈ news) : P h tk p :=
  hp _ _ _ dx k (N _ m0).2.2 (N _ m1).2.2 (N _ m0).1 (N _ m1).1
set_option maxHeartbeats 8000000 in
theorem new_fn {x y : Int} {tx ty : Tok} (X : (hd.heap_39 w.params).In g₀)
    (T : Top hd.view_39 (looseW hd.view_39 [Str.ofString "_tuplegetter", Str.ofString "Point", Str.ofString "Orientation"]) mean mg mb g₀) (st : Kept g₀ s.heap)
    (hh : A.handled = none) (hroom : A.depth < 480)
    (h : ∀ h' tk p dx, Kept s.heap h' → s.heap.get? p = none → s.heap.get? dx = none → h'.get? p = some (ptObj dx x y tx ty 0) → h'.get? dx = some emptyDict → R (.ok (.ret (.ref p))) { s with heap := h', toks := tk }) :
    codeAny (model Challenge.rw_ja0007_01.row.prog w) A (.call (.ref 82) ⟨[.ref 132, .int x tx, .int y ty], []⟩) R s := by
  have hrl : A.depth < recursionLimit := Nat.lt_of_lt_of_le hroom (by decide)
  obtain ⟨ah, dep, fra, gua, uni⟩ := A
  cases hh
  dsimp only at hroom hrl
  revert X; k_fill; intro X
  refine' own_call0 (K := hd.heap_39 w.params) (binds := [(Str.ofString "_cls", .ref 132), (Str.ofString "x", .int x tx), (Str.ofString "y", .int y ty)]) X T st ?k6 ?k7 hrl ?k9 ?kB ?_ ?c5 ?c2 ?c3 ?c4
  case k6 => k_is
  case k7 => k_is
  case k9 => exact BindsTo.of_eq rfl
  case c5 => decide
  case kB => exact locs rfl
  all_goals try exact rfl
  intro L h₁ tk XG TG F N
  clear X T
  k_fold
  k_steps
  exact ownEnd_ (by assumption) (by assumption) (List.forall_mem_nil _) fun k => pt_fin h k (by assumption) (.head _) (.tail _ (.head _))
theorem pt_oinit {prog : Program} {E Q : Value → Shared → Prop} {p dx : Addr} {x y : Int} {tx ty : Tok} {n : Nat} {a b : Value} (X : (hd.heap_39 w.params).In s.heap) (hp : s.heap.get? p = some (ptObj dx x y tx ty n)) (hq : Q .none s) :
    wpAny (model prog w) A (call (.builtin "object.__init__") [.ref p, a, b]) Q E s := by
  obtain ⟨hh, g, d, tk, os⟩ := s
  dsimp only at X hp
  have t1 : Looks (model prog w) hh (typeOf (.ref p)) (.ref 132) := (Looks.ld hp).andThen .now
  have t2 : Looks (model prog w) hh (isInstance (.ref p) (.type "object")) true := t1.andThen (looks_mroIn X (by rfl))
  have t3 : Looks (model prog w) hh (typeLookup (.ref 132) "__init__") (some (.builtin "object.__init__")) := looks_findIn X (by rfl)
  have t4 := pt_made (prog := prog) X
  have ha : argsOk "object.__init__" ⟨[.ref p, a, b], []⟩ := by unfold argsOk; kernel_rfl
  refine wpAny_call (codeAny_call_builtin oi_plain entry_oi (@check_slot (model prog w) _ _ _ "object.__init__" "object" "__init__" (.ref p) [a, b] [] _ oi_kind oi_split t2 ha ?_))
  unfold Builtin.«object.__init__»
  repeat lk
  exact hq
theorem pt_getnew {E Q : Value → Shared → Prop} (X : (hd.heap_39 w.params).In s.heap) (hq : Q (.ref 82) { s with toks := s.toks + 1 }) :
    wpAny (model Challenge.rw_ja0007_01.row.prog w) A (getAttr (.ref 132) (Str.ofString "__new__")) Q E s := by
  revert X; k_fill; intro X
  exact cls_bind (K := hd.heap_39 w.params) (C := 132) (mc := .type "type") (g := .builtin "staticmethod.__get__") (a := .ref 133) (obj := .none) (tp := .ref 132) X (by k_is) (by k_is)
    (wpAny_call (sm_get (s := { s with toks := s.toks + 1 }) (f := .ref 82) (rest := []) X (by k_is) (handed_on rfl hq)))
theorem point_fn {x y : Int} {tx ty : Tok} (X : (hd.heap_39 w.params).In g₀)
    (T : Top hd.view_39 (looseW hd.view_39 [Str.ofString "_tuplegetter", Str.ofString "Point", Str.ofString "Orientation"]) mean mg mb g₀) (st : Kept g₀ s.heap)
    (hh : A.handled = none) (hroom : A.depth < 450)
    (h : ∀ h' tk p dx, Kept s.heap h' → s.heap.get? p = none → s.heap.get? dx = none → h'.get? p = some (ptObj dx x y tx ty 0) → h'.get? dx = some emptyDict → R (.ok (.ret (.ref p))) { s with heap := h', toks := tk }) :
    codeAny (model Challenge.rw_ja0007_01.row.prog w) A (.call (.ref 132) ⟨[.int x tx, .int y ty], []⟩) R s := by
  obtain ⟨hh', g, d, tk, os⟩ := s
  have X' := X.keeps st
  have T' := T.keeps st
  dsimp only at X' T' h
  have ho : ∃ c d sl cd, hh'.get? 132 = some ⟨c, d, .cls cd, sl⟩ ∧ cd.mro = [.ref 132, .type "tuple", .type "object"] := ⟨_, _, _, _, X' _ _ rfl, rfl⟩
  obtain ⟨c0, d0, sl0, cd, hC, hmro⟩ := ho
  have L1 : Looks (model Challenge.rw_ja0007_01.row.prog w) hh' (specialOf (.ref 132) "__call__") (some (.builtin "type.__call__")) := looks_specialIn X' (by rfl)
  have typ : Looks (model Challenge.rw_ja0007_01.row.prog w) hh' (isInstance (.ref 132) (.type "type")) true := looks_instIn X' (by rfl)
  have L2 := pt_made (prog := Challenge.rw_ja0007_01.row.prog) X'
  have hm : Looks (model Challenge.rw_ja0007_01.row.prog w) hh' (mroOf (.ref 132)) cd.mro := ((Looks.ld (part := none) hC).andThen .now).andThen .now
  rw [hmro] at hm
  refine codeAny_of_tree ?_
  show wpAny _ _ (callAny (.ref 132) _) _ _ _
  refine nd_load hC ?_
  show wpAny _ _ (callAny.viaDunder (.ref 132) _) _ _ _
  unfold callAny.viaDunder
  refine wpAny_bind (L1.at ?_)
  dsimp only
  rw [tc_bind]
  refine wpAny_bind (wpAny_pure (wpAny_bind (wpAny_pure ?_)))
  refine wpAny_pure (a := PySem.Fin.again (.call (.builtin "type.__call__") ⟨[.ref 132, .int x tx, .int y ty], []⟩)) (And.intro rfl ?_)
  refine codeAny_call_builtin_at (Code.quiet_builtin _ (by decide +kernel)) entry_typeCall (@check_slot (model Challenge.rw_ja0007_01.row.prog w) _ _ _ "type.__call__" "type" "__call__" (.ref 132) [.int x tx, .int y ty] [] _ tc_kind tc_split typ (tc_args _ _ _) ?_)
  unfold Builtin.«type.__call__»
  repeat ((fail_if_success (with_reducible show wpAny _ _ (getAttr _ _ _) _ _ _)); lk)
  refine pt_getnew (s := ⟨hh', g, d, tk, os⟩) X' ?_
  dsimp only
  refine wpAny_bind (wpAny_holding (wpAny_call (new_fn (s := ⟨hh', g, d, tk + 1, os⟩) X' T' (Kept.refl _) hh ?_ ?_)))
  · rw [depth_under_make]; omega
  intro h' tk' p dx k e1 e2 o1 o2
  have X2 := X'.keeps k
  have t1 : Looks (model Challenge.rw_ja0007_01.row.prog w) h' (typeOf (.ref p)) (.ref 132) := (Looks.ld o1).andThen .now
  have t2 : Looks (model Challenge.rw_ja0007_01.row.prog w) h' (isSubtype (.ref 132) (.ref 132)) true := looks_mroIn X2 (by rfl)
  have t3 : Looks (model Challenge.rw_ja0007_01.row.prog w) h' (typeLookup (.ref 132) "__init__") (some (.builtin "object.__init__")) := looks_findIn X2 (by rfl)
  have t4 : Looks (model Challenge.rw_ja0007_01.row.prog w) h' (bindSpecial (.builtin "object.__init__") (.ref p)) (.builtin "object.__init__", [.ref p]) := Looks.of_pure (oi_bind (.ref p))
  dsimp only
  unfold isInstance callSpecial? specialOf
  repeat ((fail_if_success (with_reducible show wpAny _ _ (call _ _ _) _ _ _)); lk)
  refine pt_oinit (s := ⟨h', g, d, tk', os⟩) X2 o1 ?_
  repeat lk
  exact h h' tk' p dx k e1 e2 o1 o2
end Mine
end
section
open PySem PySem.W PySem.Calls PyProof.Rows
namespace Mine
theorem off_J7K : True := by w_top off; trivial
variable {w : World} {A : Around} {s : Shared} {R : Result → Shared → Prop} {g₀ : Heap} {mg mb : Str → Option Value} {mean : ExcName → Option Value}
theorem init_fin {h₀ h g : Heap} {L x dx ends opp q : Addr} {e : Int} {te : Tok} {tk : Nat} {news : List (Addr × Obj)} {h1 h2 h3 h4 : Int} {t1 t2 t3 t4 : Tok} {P : Heap → Nat → Prop}
    (hp : ∀ h' tk h1 h2 h3 h4 t1 t2 t3 t4, KeptOff [x, dx] h₀ h' → h'.get? x = some (instObj 245 dx) → h'.get? dx = some (keyDict h1 h2 h3 h4 t1 t2 t3 t4 te ends opp q e) → P h' tk)
    (k : KeptOff [x, dx] h₀ h) (N : News g L h news) (m0 : (x, instObj 245 dx) ∈ news) (m1 : (dx, keyDict h1 h2 h3 h4 t1 t2 t3 t4 te ends opp q e) ∈ news) : P h tk :=
  hp _ _ _ _ _ _ _ _ _ _ k (N _ m0).1 (N _ m1).1
set_option maxHeartbeats 8000000 in
theorem init_fn {x dx ends opp q : Addr} {e : Int} {te : Tok} (X : (hd.heap_39 w.params).In g₀)
    (T : Top hd.view_39 (looseW hd.view_39 [Str.ofString "_tuplegetter", Str.ofString "Point", Str.ofString "Orientation"]) mean mg mb g₀) (st : Kept g₀ s.heap)
    (N : ∀ q ∈ [(x, instObj 245 dx), (dx, dictOf [] 0)], s.heap.get? q.1 = some q.2 ∧ g₀.get? q.1 = none) (hlt : @LT.lt Nat _ dx x)
    (hh : A.handled = none) (hroom : A.depth < 480)
    (h : ∀ h' tk h1 h2 h3 h4 t1 t2 t3 t4, KeptOff [x, dx] s.heap h' → h'.get? x = some (instObj 245 dx) → h'.get? dx = some (keyDict h1 h2 h3 h4 t1 t2 t3 t4 te ends opp q e) → R (.ok (.ret .none)) { s with heap := h', toks := tk }) :
    codeAny (model Challenge.rw_ja0007_01.row.prog w) A (.call (.ref 235) ⟨[.ref x, .ref ends, .ref opp, .int e te, .ref q], []⟩) R s := by
  have hrl : A.depth < recursionLimit := Nat.lt_of_lt_of_le hroom (by decide)
  obtain ⟨ah, dep, fra, gua, uni⟩ := A
  cases hh
  dsimp only at hroom hrl
  revert X; k_fill; intro X
  refine' own_callU (K := hd.heap_39 w.params) (objs := _) (binds := [(Str.ofString "self", .ref x), (Str.ofString "endpoints", .ref ends), (Str.ofString "opposites", .ref opp), (Str.ofString "event", .int e te), (Str.ofString "orienteer", .ref q)]) X T st N ?k6 ?k7 hrl ?k9 ?kB ?_ ?c5 ?c2 ?c3 ?c4
  case k6 => k_is
  case k7 => k_is
  case k9 => exact BindsTo.of_eq rfl
  case c5 => decide
  case kB => exact locs rfl
  all_goals try exact rfl
  intro g L h₁ tk XG TG F N
  clear X T
  k_fold
  k_steps
  exact ownEndU_ (by assumption) (by assumption) fun k => init_fin h k (by assumption) (by k_mem) (by k_mem)
/-- a key is made -/
theorem key_at {h₀ : Heap} {L : Addr} {m : Str → Option Value} {news : List (Addr × Obj)} {ends opp q : Addr} {e : Int} {te : Tok} {Q E : Value → Shared → Prop}
    (F : Fr h₀ L s.heap m) (X : (hd.heap_39 w.params).In h₀)
    (T : Top hd.view_39 (looseW hd.view_39 [Str.ofString "_tuplegetter", Str.ofString "Point", Str.ofString "Orientation"]) mean mg mb h₀)
    (N : News h₀ L s.heap news) (hh : A.handled = none) (hroom : A.depth < 450)
    (h : ∀ h' tk x dx h1 h2 h3 h4 t1 t2 t3 t4, Fr h₀ L h' m → News h₀ L h' ((x, instObj 245 dx) :: (dx, keyDict h1 h2 h3 h4 t1 t2 t3 t4 te ends opp q e) :: news) → Q (.ref x) { s with heap := h', toks := tk }) :
    wpAny (model Challenge.rw_ja0007_01.row.prog w) A (call (.ref 245) [.ref ends, .ref opp, .int e te, .ref q]) Q E s := by
  revert X; k_fill; intro X
  refine wpAny_call (make_K (K := hd.heap_39 w.params) (C := 245) (fI := 235) F N (X.keeps F.keep) (by k_is) (by k_is) (by k_is) fun x dx h' F1 N1 hnd hlt => ?_)
  refine init_fn X T F1.keep (news_sub N1 (List.forall_mem_cons.mpr ⟨.head _, List.forall_mem_cons.mpr ⟨.tail _ (.head _), List.forall_mem_nil _⟩⟩)) hlt hh (by rw [depth_under_make]; omega) fun h'' tk h1 h2 h3 h4 t1 t2 t3 t4 k e1 e2 => ⟨rfl, ?_⟩
  obtain ⟨oL, es, ep, hL, hLd, hLk, hLf⟩ := F1.ns
  have nx : L ≠ x := fun c => (N1 _ (.head _)).2.1 c.symm
  have nd : L ≠ dx := fun c => (N1 _ (.tail _ (.head _))).2.1 c.symm
  have off : ∀ b o, h₀.get? b = some o → b ∉ [x, dx] := fun b o e hm => by
    rcases List.mem_cons.mp hm with c | hm
    · have := (N1 _ (.head _)).2.2; rw [← c, e] at this; cases this
    · have c := List.mem_singleton.mp hm
      have := (N1 _ (.tail _ (.head _))).2.2; rw [← c, e] at this; cases this
  refine h h'' tk x dx h1 h2 h3 h4 t1 t2 t3 t4 ⟨⟨oL, es, ep, k _ _ (by simp [nx, nd]) hL, hLd, hLk, hLf⟩, fun b o e => k _ _ (off b o e) (F1.keep b o e), F1.above⟩ ?_
  refine List.forall_mem_cons.mpr ⟨⟨e1, (N1 _ (.head _)).2⟩, List.forall_mem_cons.mpr ⟨⟨e2, (N1 _ (.tail _ (.head _))).2⟩, fun p hp => ?_⟩⟩
  have hb := hnd p hp
  refine ⟨k _ _ (fun hm => ?_) (N1 _ (.tail _ (.tail _ hp))).1, (N1 _ (.tail _ (.tail _ hp))).2⟩
  rcases List.mem_cons.mp hm with c | hm
  · exact absurd (Nat.lt_trans hb hlt) (by rw [c]; exact Nat.lt_irrefl _)
  · exact absurd hb (by rw [List.mem_singleton.mp hm]; exact Nat.lt_irrefl _)
end Mine
end
section
open PySem PySem.W PySem.Calls PyProof.Rows
namespace Mine
theorem off_J7T : True := by w_top off; trivial
/-- the law's def in the text -/
def lawDef : Stmt := (PySem.Challenge.pw_ja0007_01.main.body.getLast?).getD (.Pass default)
def lawBody : List Stmt := match lawDef with | .FunctionDef _ _ body .. => body | _ => []
def lawScope : Scope := match lawDef with | .FunctionDef (scope := scope) .. => scope | _ => default
def nthS (b : List Stmt) (k : Nat) : Stmt := (b[k]?).getD (.Pass default)
def forBody (s : Stmt) : List Stmt := match s with | .For (body := body) .. => body | _ => []
def jBody : List Stmt := forBody (nthS lawBody 7)
def iBody : List Stmt := forBody (nthS jBody 0)
theorem iBody_is : iBody = iBody := rfl

/-- every object is in the base, in the frame, or in the ledger -/
theorem full {h₀ h : Heap} (L : Addr) : ∃ own, News h₀ L h own ∧ ∀ a o, h.get? a = some o → a ≠ L → h₀.get? a = none → (a, o) ∈ own := by
  classical
  refine ⟨(List.range h.objs.size).filterMap fun a => match h.get? a with | some o => if a ≠ L ∧ h₀.get? a = none then some (a, o) else none | none => none, fun p hp => ?_, fun a o e n1 n2 => ?_⟩
  · obtain ⟨a, _, ha⟩ := List.mem_filterMap.mp hp
    cases e : h.get? a with
    | none => rw [e] at ha; cases ha
    | some o =>
      rw [e] at ha
      dsimp only at ha
      split at ha
      · rename_i c
        cases ha
        exact ⟨e, c.1, c.2⟩
      · cases ha
  · refine List.mem_filterMap.mpr ⟨a, List.mem_range.mpr (Heap.lt_size e), ?_⟩
    rw [e]
    dsimp only
    rw [if_pos ⟨n1, n2⟩]
end Mine
end
section
open PySem PySem.W PySem.Calls PyProof.Rows PySem.Spec
namespace Mine
theorem off_J7V : True := by w_top off; trivial
/-- a plain pair of bools -/
abbrev bbObj (a b : Bool) (n : Nat) : Obj := { cls := .type "tuple", data := .seq #[.bool a, .bool b] n }
section
variable {prog : Program} {w : World} {A : Around} {E : Value → Shared → Prop} {s : Shared} {Q : Value → Shared → Prop} {h₀ : Heap} {L : Addr} {m : Str → Option Value} {news : List (Addr × Obj)}
theorem bb_reads {t : Addr} {a b : Bool} {n : Nat} {h : Heap} (e : h.get? t = some (bbObj a b n)) : Reads h (.ref t) (.tuple [.bool a, .bool b]) ([] ++ ([] ++ [])) :=
  .tuple e rfl rfl (.cons (.bool a) (.cons (.bool b) .nil))
theorem bb_eqAt {A : Around} {t u : Addr} {a b c d : Bool} {n k : Nat} (e1 : s.heap.get? u = some (bbObj c d k)) (e2 : s.heap.get? t = some (bbObj a b n)) (hu : A.units + 100 < cLine) :
    SeqAt.EqAt A s (.ref u) (.ref t) ((c == a) && (d == b)) := by
  have := SeqAt.eqAt_reads (.tuple [.bool c, .bool d]) (.tuple [.bool a, .bool b]) A s _ _ _ _ (bb_reads e1) (bb_reads e2) (by cases c <;> cases d <;> decide) (by cases a <;> cases b <;> decide)
    (Nat.lt_of_le_of_lt (Nat.add_le_add_left (show _ ≤ 100 by cases a <;> cases b <;> cases c <;> cases d <;> decide) _) hu)
  have e : PyData.eqv (.tuple [.bool c, .bool d]) (.tuple [.bool a, .bool b]) = ((c == a) && (d == b)) := by cases a <;> cases b <;> cases c <;> cases d <;> decide
  rwa [e] at this
theorem notin_one {t l u : Addr} {a b c d : Bool} {n k k' : Nat} (N : News h₀ L s.heap news) (ml : (l, ({ cls := .type "list", data := .seq #[.ref u] k' } : Obj)) ∈ news) (mt : (t, bbObj a b n) ∈ news) (mu : (u, bbObj c d k) ∈ news)
    (hu : A.units + 200 < cLine) (h : Q (.bool (!((c == a) && (d == b)))) s) : wpAny (model prog w) A (compareOp .NotIn (.ref t) (.ref l)) Q E s := by
  refine SeqAt.notIn_listAt (fun _ => (c == a) && (d == b)) ⟨_, (N _ ml).1, rfl, _, rfl⟩ (fun y hy => ?_) (by simpa using h)
  have : y = .ref u := by simpa using hy
  subst this
  exact bb_eqAt (N _ mu).1 (N _ mt).1 (by show A.units + 1 + 100 < cLine; omega)
theorem notin_two {t l u v : Addr} {a b c d c' d' : Bool} {n k k' k'' : Nat} (N : News h₀ L s.heap news) (ml : (l, ({ cls := .type "list", data := .seq #[.ref u, .ref v] k' } : Obj)) ∈ news) (mt : (t, bbObj a b n) ∈ news) (mu : (u, bbObj c d k) ∈ news) (mv : (v, bbObj c' d' k'') ∈ news)
    (hu : A.units + 200 < cLine) (h : Q (.bool (!(((c == a) && (d == b)) || ((c' == a) && (d' == b))))) s) : wpAny (model prog w) A (compareOp .NotIn (.ref t) (.ref l)) Q E s := by
  have hv : v = u → c' = c ∧ d' = d := fun e => by
    have e1 := (N _ mu).1; have e2 := (N _ mv).1
    rw [e] at e2; rw [e1] at e2; cases e2; exact ⟨rfl, rfl⟩
  refine SeqAt.notIn_listAt (fun y => if y = .ref u then (c == a) && (d == b) else (c' == a) && (d' == b)) ⟨_, (N _ ml).1, rfl, _, rfl⟩ (fun y hy => ?_) ?_
  · have hy : y = .ref u ∨ y = .ref v := by simpa using hy
    by_cases e : y = .ref u
    · subst e; rw [if_pos rfl]; exact bb_eqAt (N _ mu).1 (N _ mt).1 (by show A.units + 1 + 100 < cLine; omega)
    · rw [if_neg e]
      have := hy.resolve_left e
      subst this
      exact bb_eqAt (N _ mv).1 (N _ mt).1 (by show A.units + 1 + 100 < cLine; omega)
  · by_cases e : v = u
    · obtain ⟨rfl, rfl⟩ := hv e; subst e; simpa using h
    · have e' : ¬ (Value.ref v = Value.ref u) := fun c => e (Value.ref.inj c)
      simpa [e'] using h
theorem ge_ii {x y : Int} {t u : Tok} (h : Q (.bool (decide (y ≤ x))) s) : wpAny (model prog w) A (richCompare .GtE (.int x t) (.int y u)) Q E s := by
  have : wpAny (model prog w) A (compareOp .GtE (.int x t) (.int y u)) Q E s := PyProof.Rows.ge_int h
  exact this
end
section
variable {prog : Program} {w : World} {A : Around} {E : Value → Shared → Prop} {s : Shared}
theorem eqBool_bb {a b : Bool} {Q : Bool → Shared → Prop} (h : Q (a == b) s) : wpAny (model prog w) A (eqBool (.bool a) (.bool b)) Q E s := by
  exact SeqAt.EqAt.bool_bool a b prog w E Q h
end
theorem tup_bne (t u : Addr) (a b c d : Bool) (n m : Nat) :
    Meets (Builtin.«tuple.__ne__» ⟨[.ref t, .ref u], []⟩)
      (fun _ R s => (s.heap.get? t = some (bbObj a b n) ∧ s.heap.get? u = some (bbObj c d m)) ∧ R (.ok (.ret (.bool (!((a == c) && (b == d)))))) s) :=
  .of_wp fun prog w A R s h => by
    obtain ⟨hp, g, dr, tk, os⟩ := s; obtain ⟨⟨ha, hb⟩, h⟩ := h
    dsimp only at ha hb
    have L1 : Looks (model prog w) hp (isInstance (.ref u) (.type "tuple")) true := (Looks.ld hb |>.andThen .now).andThen (Looks.of_pure sub_tuple_self)
    unfold Builtin.«tuple.__ne__»
    repeat (first | (with_reducible refine eqBool_bb ?_) | lk)
    cases e1 : (a == c) with
    | false =>
      rw [e1] at h
      repeat lk
      exact ⟨_, rfl, h⟩
    | true =>
      rw [e1] at h
      repeat (first | (with_reducible refine eqBool_bb ?_) | lk)
      cases e2 : (b == d) with
      | false =>
        rw [e2] at h
        repeat lk
        exact ⟨_, rfl, h⟩
      | true =>
        rw [e2] at h
        repeat lk
        exact ⟨_, rfl, h⟩
theorem tup_ge (a b : Addr) (ax ay bx by' : Int) (t1 t2 t3 t4 : Tok) (n m : Nat) :
    Meets (Builtin.«tuple.__ge__» ⟨[.ref a, .ref b], []⟩)
      (fun _ R s => (s.heap.get? a = some (prObj ax ay t1 t2 n) ∧ s.heap.get? b = some (prObj bx by' t3 t4 m)) ∧ R (.ok (.ret (.bool (!lexLt ax ay bx by')))) s) :=
  .of_wp fun prog w A R s h => by
    obtain ⟨hp, g, d, tk, os⟩ := s; obtain ⟨⟨ha, hb⟩, h⟩ := h
    dsimp only at ha hb
    have L1 : Looks (model prog w) hp (isInstance (.ref b) (.type "tuple")) true := (Looks.ld hb |>.andThen .now).andThen (Looks.of_pure sub_tuple_self)
    unfold Builtin.«tuple.__ge__»
    repeat (first | (with_reducible refine wpAny_eqBool_int ?_) | lk)
    cases e1 : (ax == bx) with
    | false =>
      have hne : ¬ ax = bx := by intro e; rw [e] at e1; simp at e1
      have hd : (!decide (ax < bx)) = decide (bx ≤ ax) := by by_cases q : ax < bx <;> simp [q] <;> omega
      simp only [lexLt, if_neg hne, hd] at h
      repeat (first | (with_reducible refine ge_ii ?_) | lk)
      exact ⟨_, rfl, h⟩
    | true =>
      have he : ax = bx := by simpa using e1
      subst he
      have hd : (!decide (ay < by')) = decide (by' ≤ ay) := by by_cases q : ay < by' <;> simp [q] <;> omega
      simp only [lexLt, if_true, hd] at h
      repeat (first | (with_reducible refine wpAny_eqBool_int ?_) | lk)
      cases e2 : (ay == by') with
      | false =>
        repeat (first | (with_reducible refine ge_ii ?_) | lk)
        exact ⟨_, rfl, h⟩
      | true =>
        have he : ay = by' := by simpa using e2
        subst he
        have hl : decide (ay ≤ ay) = true := by simp
        rw [hl] at h
        repeat lk
        exact ⟨_, rfl, h⟩
section
variable {prog : Program} {w : World} {A : Around} {E : Value → Shared → Prop} {s : Shared} {Q : Value → Shared → Prop} {a b : Addr} {ax ay bx by' : Int} {t1 t2 t3 t4 : Tok} {n m : Nat} {h₀ : Heap} {L : Addr} {news : List (Addr × Obj)}
theorem ge_at (N : News h₀ L s.heap news) (m1 : (a, prObj ax ay t1 t2 n) ∈ news) (m2 : (b, prObj bx by' t3 t4 m) ∈ news) (hu : A.units < cLine) (h : Q (.bool (!lexLt ax ay bx by')) s) : wpAny (model prog w) A (compareOp .GtE (.ref a) (.ref b)) Q E s :=
  cmp_ofGtE (richCompare_meets_room ⟨_, (N _ m1).1, rfl⟩ ⟨_, (N _ m2).1, rfl⟩ F.slot_tuple_ge F.entry_tuple_ge (F.args_tuple_ge_2 _ _) (tup_ge a b ax ay bx by' t1 t2 t3 t4 n m) ⟨⟨(N _ m1).1, (N _ m2).1⟩, nofun, h⟩ hu)
theorem bne_at {t u : Addr} {a b c d : Bool} {n m : Nat} (N : News h₀ L s.heap news) (m1 : (t, bbObj a b n) ∈ news) (m2 : (u, bbObj c d m) ∈ news) (hu : A.units < cLine) (h : Q (.bool (!((a == c) && (b == d)))) s) : wpAny (model prog w) A (compareOp .NotEq (.ref t) (.ref u)) Q E s :=
  cmp_ofNotEq (richCompare_meets_room ⟨_, (N _ m1).1, rfl⟩ ⟨_, (N _ m2).1, rfl⟩ F.slot_tuple_ne F.entry_tuple_ne (F.args_tuple_ne_2 _ _) (tup_bne t u a b c d n m) ⟨⟨(N _ m1).1, (N _ m2).1⟩, nofun, h⟩ hu)
end
end Mine
end
section
open PySem PySem.W PySem.Calls PyProof.Rows
namespace Mine
theorem off_J7X : True := by w_top off; trivial
theorem kind_col (z : Int) : kindAt z = 168 ↔ z = 0 := by
  unfold kindAt; constructor
  · intro h; split at h
    · cases h
    · split at h
      · cases h
      · omega
  · rintro rfl; rfl
theorem kind_ccw (z : Int) : kindAt z = 171 ↔ 0 < z := by
  unfold kindAt; constructor
  · intro h; split at h
    · omega
    · split at h <;> cases h
  · intro h; rw [if_pos h]
theorem kind_cw (z : Int) : kindAt z = 165 ↔ z < 0 := by
  unfold kindAt; constructor
  · intro h; split at h
    · cases h
    · split at h
      · omega
      · cases h
  · intro h; rw [if_neg (by omega), if_pos h]
theorem kind_eq (y z : Int) : kindAt y = kindAt z ↔ ((0 < y ↔ 0 < z) ∧ (y < 0 ↔ z < 0)) := by
  constructor
  · intro h
    refine ⟨?_, ?_⟩
    · rw [← kind_ccw, ← kind_ccw, h]
    · rw [← kind_cw, ← kind_cw, h]
  · rintro ⟨h1, h2⟩
    unfold kindAt
    by_cases p : y > 0
    · rw [if_pos p, if_pos (h1.mp p)]
    · rw [if_neg p, if_neg (fun q => p (h1.mpr q))]
      by_cases n : y < 0
      · rw [if_pos n, if_pos (h2.mp n)]
      · rw [if_neg n, if_neg (fun q => n (h2.mpr q))]
/-- the part of a key's answer that the four sides decide -/
def keyS (o1 o2 o3 o4 : Int) : Bool :=
  if (0 < o1 ↔ 0 < o2) ∧ (o1 < 0 ↔ o2 < 0) then decide (0 < o1)
  else if (0 < o3 ↔ 0 < o4) ∧ (o3 < 0 ↔ o4 < 0) then decide (o3 < 0)
  else if o1 = 0 then decide (0 < o2)
  else if o3 = 0 then decide (o4 < 0)
  else if o4 = 0 then decide (o3 < 0)
  else decide (0 < o1)
theorem keyLt_side {sx sy ex ey ox oy px py : Int} (h : ¬ (crossI sx sy ex ey ox oy = 0 ∧ crossI sx sy ex ey px py = 0)) :
    keyLt sx sy ex ey ox oy px py = keyS (crossI sx sy ex ey ox oy) (crossI sx sy ex ey px py) (crossI ox oy px py sx sy) (crossI ox oy px py ex ey) := by
  unfold keyLt keyS
  simp only [kind_eq, kind_col, kind_ccw, kind_cw]
  by_cases e : (0 < crossI sx sy ex ey ox oy ↔ 0 < crossI sx sy ex ey px py) ∧ (crossI sx sy ex ey ox oy < 0 ↔ crossI sx sy ex ey px py < 0)
  · have n : ¬ crossI sx sy ex ey ox oy = 0 := fun c => h ⟨c, by rw [c] at e; omega⟩
    rw [if_pos e, if_pos e, if_neg n]
  · rw [if_neg e, if_neg e]
/-- an affine value at a place between two others -/
theorem between {a b g x y z : Int} (ha : 0 < a) (hb : 0 ≤ b) (hg : 0 < g) (e : g * (-z) = a * x + b * y) :
    (0 ≤ x → 0 ≤ y → z ≤ 0) ∧ (x ≤ 0 → y ≤ 0 → 0 ≤ z) ∧ (0 < x → 0 ≤ y → z < 0) ∧ (x < 0 → y ≤ 0 → 0 < z) ∧
    (0 < b → 0 ≤ x → 0 < y → z < 0) ∧ (0 < b → x ≤ 0 → y < 0 → 0 < z) ∧ (b = 0 → (0 < x ↔ z < 0) ∧ (x < 0 ↔ 0 < z)) := by
  have zp : 0 < z → g * (-z) < 0 := fun h => Int.mul_neg_of_pos_of_neg hg (by omega)
  have zn : z < 0 → 0 < g * (-z) := fun h => Int.mul_pos hg (by omega)
  have z0 : z = 0 → g * (-z) = 0 := fun h => by rw [h]; simp
  have xp : 0 < x → 0 < a * x := fun h => Int.mul_pos ha h
  have xn : x < 0 → a * x < 0 := fun h => Int.mul_neg_of_pos_of_neg ha h
  have x0 : x = 0 → a * x = 0 := fun h => by rw [h]; simp
  have y0 : y = 0 → b * y = 0 := fun h => by rw [h]; simp
  have yp : 0 < y → 0 ≤ b * y := fun h => Int.mul_nonneg hb (by omega)
  have yn : y < 0 → b * y ≤ 0 := fun h => by have := Int.mul_nonneg hb (show 0 ≤ -y by omega); rw [Int.mul_neg] at this; omega
  have ypp : 0 < b → 0 < y → 0 < b * y := fun h1 h2 => Int.mul_pos h1 h2
  have ynn : 0 < b → y < 0 → b * y < 0 := fun h1 h2 => Int.mul_neg_of_pos_of_neg h1 h2
  have b0 : b = 0 → b * y = 0 := fun h => by rw [h]; simp
  generalize g * (-z) = G at *
  generalize a * x = AX at *
  generalize b * y = BY at *
  refine ⟨?_, ?_, ?_, ?_, ?_, ?_, ?_⟩ <;> intros <;> omega
/-- the first place's word, then the second's -/
def lowS (A2 C1 o1 o2 o3 o4 : Int) : Int :=
  if (if A2 < 0 then o1 else -o3) = 0 then (if C1 < 0 then o2 else -o4) else (if A2 < 0 then o1 else -o3)
/-- what is known of the four sides, by signs alone -/
def Cst (o1 o2 o3 o4 A2 C1 : Int) : Prop :=
  (0 ≤ A2 → ((0 ≤ o1 → 0 ≤ o2 → o3 ≤ 0) ∧ (o1 ≤ 0 → o2 ≤ 0 → 0 ≤ o3) ∧ (0 < o1 → 0 ≤ o2 → o3 < 0) ∧ (o1 < 0 → o2 ≤ 0 → 0 < o3) ∧ (0 < A2 → 0 ≤ o1 → 0 < o2 → o3 < 0) ∧ (0 < A2 → o1 ≤ 0 → o2 < 0 → 0 < o3) ∧ (A2 = 0 → (0 < o1 ↔ o3 < 0) ∧ (o1 < 0 ↔ 0 < o3)))) ∧
  (A2 < 0 → ((0 ≤ o3 → 0 ≤ o4 → o1 ≤ 0) ∧ (o3 ≤ 0 → o4 ≤ 0 → 0 ≤ o1) ∧ (0 < o3 → 0 ≤ o4 → o1 < 0) ∧ (o3 < 0 → o4 ≤ 0 → 0 < o1) ∧ (0 ≤ o3 → 0 < o4 → o1 < 0) ∧ (o3 ≤ 0 → o4 < 0 → 0 < o1))) ∧
  (0 ≤ C1 → ((0 ≤ o2 → 0 ≤ o1 → o4 ≤ 0) ∧ (o2 ≤ 0 → o1 ≤ 0 → 0 ≤ o4) ∧ (0 < o2 → 0 ≤ o1 → o4 < 0) ∧ (o2 < 0 → o1 ≤ 0 → 0 < o4) ∧ (0 < C1 → 0 ≤ o2 → 0 < o1 → o4 < 0) ∧ (0 < C1 → o2 ≤ 0 → o1 < 0 → 0 < o4) ∧ (C1 = 0 → (0 < o2 ↔ o4 < 0) ∧ (o2 < 0 ↔ 0 < o4)))) ∧
  (C1 < 0 → ((0 ≤ o4 → 0 ≤ o3 → o2 ≤ 0) ∧ (o4 ≤ 0 → o3 ≤ 0 → 0 ≤ o2) ∧ (0 < o4 → 0 ≤ o3 → o2 < 0) ∧ (o4 < 0 → o3 ≤ 0 → 0 < o2) ∧ (0 ≤ o4 → 0 < o3 → o2 < 0) ∧ (o4 ≤ 0 → o3 < 0 → 0 < o2))) ∧
  (o1 ≤ 0 → 0 ≤ o2 → ¬ (o1 = 0 ∧ o2 = 0) → ¬ (o3 ≤ 0 ∧ 0 ≤ o4)) ∧ (0 ≤ o1 → o2 ≤ 0 → ¬ (o1 = 0 ∧ o2 = 0) → ¬ (0 ≤ o3 ∧ o4 ≤ 0)) ∧ ¬ (o1 = 0 ∧ o2 = 0)
def Cnc (o1 o2 o3 o4 A2 C1 : Int) : Prop :=
  lowS A2 C1 o1 o2 o3 o4 ≠ 0 ∧ keyS o1 o2 o3 o4 = decide (0 < lowS A2 C1 o1 o2 o3 o4) ∧ keyS o3 o4 o1 o2 = decide (lowS A2 C1 o1 o2 o3 o4 < 0)
def tri : List Int := [-1, 0, 1]
def sg (z : Int) : Int := if 0 < z then 1 else if z < 0 then -1 else 0
theorem sg_tri (z : Int) : sg z ∈ tri := by unfold sg tri; split; · simp
                                            · split <;> simp
theorem sg_pos (z : Int) : 0 < sg z ↔ 0 < z := by
  unfold sg
  repeat' split
  all_goals omega
theorem sg_neg (z : Int) : sg z < 0 ↔ z < 0 := by
  unfold sg
  repeat' split
  all_goals omega
theorem sg_nonneg (z : Int) : 0 ≤ sg z ↔ 0 ≤ z := by
  unfold sg
  repeat' split
  all_goals omega
theorem sg_nonpos (z : Int) : sg z ≤ 0 ↔ z ≤ 0 := by
  unfold sg
  repeat' split
  all_goals omega
theorem sg_zero (z : Int) : sg z = 0 ↔ z = 0 := by
  unfold sg
  repeat' split
  all_goals omega
set_option synthInstance.maxHeartbeats 4000000 in
set_option synthInstance.maxSize 100000 in
set_option maxHeartbeats 4000000 in
theorem fin_core : ∀ s1 ∈ tri, ∀ s2 ∈ tri, ∀ s3 ∈ tri, ∀ s4 ∈ tri, ∀ a ∈ tri, ∀ c ∈ tri, Cst s1 s2 s3 s4 a c → Cnc s1 s2 s3 s4 a c := by
  unfold Cst Cnc
  decide +kernel
theorem cst_sg {o1 o2 o3 o4 A2 C1 : Int} (h : Cst o1 o2 o3 o4 A2 C1) : Cst (sg o1) (sg o2) (sg o3) (sg o4) (sg A2) (sg C1) := by
  unfold Cst at h ⊢
  simpa only [sg_pos, sg_neg, sg_nonneg, sg_nonpos, sg_zero] using h
theorem keyS_sg (o1 o2 o3 o4 : Int) : keyS (sg o1) (sg o2) (sg o3) (sg o4) = keyS o1 o2 o3 o4 := by
  unfold keyS; simp only [sg_pos, sg_neg, sg_zero]
theorem sg_negneg (z : Int) : sg (-z) = - sg z := by
  unfold sg
  repeat' split
  all_goals omega
theorem lowS_sg (A2 C1 o1 o2 o3 o4 : Int) : lowS (sg A2) (sg C1) (sg o1) (sg o2) (sg o3) (sg o4) = sg (lowS A2 C1 o1 o2 o3 o4) := by
  unfold lowS
  simp only [sg_neg]
  by_cases a : A2 < 0 <;> by_cases c : C1 < 0 <;> simp only [a, c, if_true, if_false, ← sg_negneg, sg_zero] <;> split <;> rfl
theorem core_sg {o1 o2 o3 o4 A2 C1 : Int} (h : Cst o1 o2 o3 o4 A2 C1) : Cnc o1 o2 o3 o4 A2 C1 := by
  have := fin_core _ (sg_tri o1) _ (sg_tri o2) _ (sg_tri o3) _ (sg_tri o4) _ (sg_tri A2) _ (sg_tri C1) (cst_sg h)
  unfold Cnc at this ⊢
  simpa only [lowS_sg, keyS_sg, sg_pos, sg_neg, sg_zero, ne_eq] using this
theorem core_sides {A1 A2 B1 C1 o1 o2 o3 o4 : Int} (hA : 0 < A1) (hB : 0 < B1) (hg : 0 < B1 - A2) (hd : 0 < A1 + A2) (e : o1 + o3 = o2 + o4)
    (I1 : (B1 - A2) * (-o3) = A1 * o1 + A2 * o2) (I2 : (B1 - A2) * (-o4) = B1 * o2 + C1 * o1) (I3 : (A1 + A2) * (-o1) = B1 * o3 + (-A2) * o4) (I4 : (A1 + A2) * (-o2) = A1 * o4 + (-C1) * o3)
    (hn : ¬ (o1 = 0 ∧ o2 = 0)) : Cnc o1 o2 o3 o4 A2 C1 := by
  refine core_sg ⟨fun h => between hA h hg I1, fun h => ?_, fun h => between hB h hg I2, fun h => ?_, fun _ _ _ => ?_, fun _ _ _ => ?_, hn⟩
  · obtain ⟨a, b, c, d, x, y, _⟩ := between hB (show 0 ≤ -A2 by omega) hd I3
    exact ⟨a, b, c, d, x (by omega), y (by omega)⟩
  · obtain ⟨a, b, c, d, x, y, _⟩ := between hA (show 0 ≤ -C1 by omega) hd I4
    exact ⟨a, b, c, d, x (by omega), y (by omega)⟩
  · omega
  · omega
end Mine
end
section
open PySem PySem.W PySem.Calls PyProof.Rows
namespace Mine
theorem off_J7Y : True := by w_top off; trivial
theorem cross_shift (w vx vy fx fy sx sy : Int) : crossI (vx + w) (vy - w) (fx + w) (fy - w) (sx + w) (sy - w) = crossI vx vy fx fy sx sy := by
  unfold crossI
  rw [show fx + w - (vx + w) = fx - vx by omega, show sy - w - (vy - w) = sy - vy by omega, show fy - w - (vy - w) = fy - vy by omega, show sx + w - (vx + w) = sx - vx by omega]
theorem keyLt_shift (w sx sy ex ey ox oy px py : Int) : keyLt (sx + w) (sy - w) (ex + w) (ey - w) (ox + w) (oy - w) (px + w) (py - w) = keyLt sx sy ex ey ox oy px py := by
  have e1 : ∀ a b : Int, (a + w = b + w) = (a = b) := fun a b => propext (by omega)
  have e2 : ∀ a b : Int, (a - w = b - w) = (a = b) := fun a b => propext (by omega)
  have e3 : ∀ a b : Int, (a + w < b + w) = (a < b) := fun a b => propext (by omega)
  have e4 : ∀ a b : Int, (a - w < b - w) = (a < b) := fun a b => propext (by omega)
  unfold keyLt
  simp only [cross_shift, e1, e2, e3, e4]
theorem sgnI_zero (z : Int) : sgnI z = 0 ↔ z = 0 := by
  unfold sgnI
  repeat' split
  all_goals omega
theorem sgnI_0 : sgnI 0 = 0 := rfl
theorem sgnI_pos (z : Int) : 0 < sgnI z ↔ 0 < z := by
  unfold sgnI
  repeat' split
  all_goals omega
theorem sgnI_neg (z : Int) : sgnI z < 0 ↔ z < 0 := by
  unfold sgnI
  repeat' split
  all_goals omega
theorem sgnI_negneg (z : Int) : sgnI (-z) = - sgnI z := by
  unfold sgnI
  repeat' split
  all_goals omega
theorem lex_X {ax ay bx by' : Int} (h1 : 0 ≤ ay) (h2 : ay ≤ 5) (h3 : 0 ≤ by') (h4 : by' ≤ 5) : lexLt ax ay bx by' = true ↔ 6 * ax + ay < 6 * bx + by' := by
  unfold lexLt
  split
  · rw [decide_eq_true_iff]; omega
  · rw [decide_eq_true_iff]; omega
theorem cross_s0 (a b c d : Int) : crossI a b c d a b = 0 := by unfold crossI; simp
theorem cross_e0 (a b c d : Int) : crossI a b c d c d = 0 := by unfold crossI; rw [Int.mul_comm]; omega
theorem id_sum (ax ay bx by' cx cy dx dy : Int) : crossI ax ay bx by' cx cy + crossI cx cy dx dy ax ay = crossI ax ay bx by' dx dy + crossI cx cy dx dy bx by' := by
  unfold crossI; grind
theorem id_1 (ax ay bx by' cx cy dx dy : Int) : ((6*bx+by') - (6*ax+ay)) * (-crossI cx cy dx dy ax ay) = ((6*dx+dy) - (6*ax+ay)) * crossI ax ay bx by' cx cy + ((6*ax+ay) - (6*cx+cy)) * crossI ax ay bx by' dx dy := by
  unfold crossI; grind
theorem id_2 (ax ay bx by' cx cy dx dy : Int) : ((6*bx+by') - (6*ax+ay)) * (-crossI cx cy dx dy bx by') = ((6*bx+by') - (6*cx+cy)) * crossI ax ay bx by' dx dy + ((6*dx+dy) - (6*bx+by')) * crossI ax ay bx by' cx cy := by
  unfold crossI; grind
theorem id_3 (ax ay bx by' cx cy dx dy : Int) : ((6*dx+dy) - (6*cx+cy)) * (-crossI ax ay bx by' cx cy) = ((6*bx+by') - (6*cx+cy)) * crossI cx cy dx dy ax ay + ((6*cx+cy) - (6*ax+ay)) * crossI cx cy dx dy bx by' := by
  unfold crossI; grind
theorem id_4 (ax ay bx by' cx cy dx dy : Int) : ((6*dx+dy) - (6*cx+cy)) * (-crossI ax ay bx by' dx dy) = ((6*dx+dy) - (6*ax+ay)) * crossI cx cy dx dy bx by' + ((6*bx+by') - (6*dx+dy)) * crossI cx cy dx dy ax ay := by
  unfold crossI; grind
theorem lower_S {ax ay bx by' cx cy dx dy : Int} (ok1 : RowOk ax ay bx by') (ok2 : RowOk cx cy dx dy) :
    lowerI ax ay bx by' cx cy dx dy = sgnI (lowS ((6*ax+ay) - (6*cx+cy)) ((6*dx+dy) - (6*bx+by')) (crossI ax ay bx by' cx cy) (crossI ax ay bx by' dx dy) (crossI cx cy dx dy ax ay) (crossI cx cy dx dy bx by')) := by
  obtain ⟨a1, a2, a3, a4, b1, b2, b3, b4, lt1⟩ := ok1
  obtain ⟨c1, c2, c3, c4, d1, d2, d3, d4, lt2⟩ := ok2
  have p : ((6*ax+ay) - (6*cx+cy) < 0) ↔ lexLt ax ay cx cy = true := by rw [lex_X a3 a4 c3 c4]; omega
  have q : ((6*dx+dy) - (6*bx+by') < 0) ↔ lexLt dx dy bx by' = true := by rw [lex_X d3 d4 b3 b4]; omega
  unfold lowerI low2 lowS
  simp only [p, q]
  by_cases h1 : lexLt ax ay cx cy = true <;> by_cases h2 : lexLt dx dy bx by' = true <;>
    simp only [h1, h2, if_true, if_false, cross_s0, cross_e0, sgnI_zero, Int.neg_eq_zero] <;>
    (repeat' split) <;> simp_all [sgnI_negneg, sgnI_zero, sgnI_0, cross_s0, cross_e0]
theorem turn_nc {ax ay bx by' cx cy dx dy px py qx qy : Int} (ok1 : RowOk ax ay bx by') (ok2 : RowOk cx cy dx dy)
    (hz : (decide (sgnI (crossI ax ay bx by' cx cy) = 0) && decide (sgnI (crossI ax ay bx by' dx dy) = 0)) = false)
    (hpx : px = if lexLt ax ay cx cy = true then cx else ax) (hpy : py = if lexLt ax ay cx cy = true then cy else ay) (hqx : qx = if lexLt dx dy bx by' = true then dx else bx) (hqy : qy = if lexLt dx dy bx by' = true then dy else by')
    (hov : lexLt px py qx qy = true) :
    lowerI ax ay bx by' cx cy dx dy ≠ 0 ∧ keyLt ax ay bx by' cx cy dx dy = decide (0 < lowerI ax ay bx by' cx cy dx dy) ∧ keyLt cx cy dx dy ax ay bx by' = decide (lowerI ax ay bx by' cx cy dx dy < 0) := by
  have hn : ¬ (crossI ax ay bx by' cx cy = 0 ∧ crossI ax ay bx by' dx dy = 0) := by
    rintro ⟨e1, e2⟩; rw [e1, e2] at hz; exact absurd hz (by decide)
  rw [lower_S ok1 ok2]
  obtain ⟨a1, a2, a3, a4, b1, b2, b3, b4, lt1⟩ := ok1
  obtain ⟨c1, c2, c3, c4, d1, d2, d3, d4, lt2⟩ := ok2
  have p : lexLt ax ay cx cy = true ↔ 6*ax+ay < 6*cx+cy := lex_X a3 a4 c3 c4
  have q : lexLt dx dy bx by' = true ↔ 6*dx+dy < 6*bx+by' := lex_X d3 d4 b3 b4
  have hX : 6*ax+ay < 6*dx+dy ∧ 6*cx+cy < 6*bx+by' := by
    subst hpx hpy hqx hqy
    by_cases h1 : lexLt ax ay cx cy = true <;> by_cases h2 : lexLt dx dy bx by' = true <;>
      simp only [h1, h2, if_true, if_false, Bool.false_eq_true] at hov <;> rw [lex_X (by omega) (by omega) (by omega) (by omega)] at hov <;> rw [p] at h1 <;> rw [q] at h2 <;> omega
  have hn2 : ¬ (crossI cx cy dx dy ax ay = 0 ∧ crossI cx cy dx dy bx by' = 0) := by
    rintro ⟨e1, e2⟩
    apply hn
    have i3 := id_3 ax ay bx by' cx cy dx dy
    have i4 := id_4 ax ay bx by' cx cy dx dy
    rw [e1, e2, Int.mul_zero, Int.mul_zero] at i3 i4
    have g : (6*dx+dy) - (6*cx+cy) ≠ 0 := by omega
    rcases Int.mul_eq_zero.mp i3 with h | h
    · exact absurd h g
    · rcases Int.mul_eq_zero.mp i4 with h' | h'
      · exact absurd h' g
      · omega
  have core := @core_sides ((6*dx+dy) - (6*ax+ay)) ((6*ax+ay) - (6*cx+cy)) ((6*bx+by') - (6*cx+cy)) ((6*dx+dy) - (6*bx+by')) _ _ _ _ (by omega) (by omega) (by omega) (by omega)
    (id_sum ax ay bx by' cx cy dx dy)
    (by have := id_1 ax ay bx by' cx cy dx dy; rw [show (6*bx+by') - (6*cx+cy) - ((6*ax+ay) - (6*cx+cy)) = (6*bx+by') - (6*ax+ay) by omega]; exact this)
    (by have := id_2 ax ay bx by' cx cy dx dy; rw [show (6*bx+by') - (6*cx+cy) - ((6*ax+ay) - (6*cx+cy)) = (6*bx+by') - (6*ax+ay) by omega]; exact this)
    (by have := id_3 ax ay bx by' cx cy dx dy; rw [show (6*dx+dy) - (6*ax+ay) + ((6*ax+ay) - (6*cx+cy)) = (6*dx+dy) - (6*cx+cy) by omega, show -((6*ax+ay) - (6*cx+cy)) = (6*cx+cy) - (6*ax+ay) by omega]; exact this)
    (by have := id_4 ax ay bx by' cx cy dx dy; rw [show (6*dx+dy) - (6*ax+ay) + ((6*ax+ay) - (6*cx+cy)) = (6*dx+dy) - (6*cx+cy) by omega, show -((6*dx+dy) - (6*bx+by')) = (6*bx+by') - (6*dx+dy) by omega]; exact this)
    hn
  obtain ⟨k1, k2, k3⟩ := core
  rw [keyLt_side hn, keyLt_side hn2]
  refine ⟨?_, ?_, ?_⟩
  · rw [ne_eq, sgnI_zero]; exact k1
  · rw [k2]; simp only [sgnI_pos]
  · rw [k3]; simp only [sgnI_neg]
theorem turn_col {ax ay bx by' cx cy dx dy : Int} (ok1 : RowOk ax ay bx by')
    (hz : (decide (sgnI (crossI ax ay bx by' cx cy) = 0) && decide (sgnI (crossI ax ay bx by' dx dy) = 0)) = true) :
    ((ax == cx && ay == cy && (bx == dx && by' == dy)) = true → keyLt ax ay bx by' cx cy dx dy = false ∧ keyLt cx cy dx dy ax ay bx by' = false) ∧
    ((ax == cx && ay == cy && (bx == dx && by' == dy)) = false → keyLt ax ay bx by' cx cy dx dy = !keyLt cx cy dx dy ax ay bx by') := by
  rw [Bool.and_eq_true, decide_eq_true_iff, decide_eq_true_iff, sgnI_zero, sgnI_zero] at hz
  obtain ⟨e1, e2⟩ := hz
  have i1 := id_1 ax ay bx by' cx cy dx dy
  have i2 := id_2 ax ay bx by' cx cy dx dy
  rw [e1, e2, Int.mul_zero, Int.mul_zero] at i1 i2
  have g : (6*bx+by') - (6*ax+ay) ≠ 0 := by have := ok1.lt; omega
  have e3 : crossI cx cy dx dy ax ay = 0 := by
    rcases Int.mul_eq_zero.mp i1 with h | h
    · exact absurd h g
    · omega
  have e4 : crossI cx cy dx dy bx by' = 0 := by
    rcases Int.mul_eq_zero.mp i2 with h | h
    · exact absurd h g
    · omega
  have k0 : kindAt 0 = 168 := rfl
  unfold keyLt
  simp only [e1, e2, e3, e4, k0, if_true]
  refine ⟨fun h => ?_, fun h => ?_⟩
  · simp only [Bool.and_eq_true, beq_iff_eq] at h
    obtain ⟨⟨rfl, rfl⟩, rfl, rfl⟩ := h
    simp
  · by_cases h1 : ay = cy
    · by_cases h2 : ax = cx
      · by_cases h3 : by' = dy
        · by_cases h4 : bx = dx
          · subst h1 h2 h3 h4; simp at h
          · simp only [h1, h2, h3, if_true, if_false, decide_eq_true_iff]
            rw [← decide_not, decide_eq_decide]; omega
        · simp only [h1, h2, if_true, if_neg h3, if_neg (Ne.symm h3)]
          rw [← decide_not, decide_eq_decide]; omega
      · simp only [h1, if_true, if_neg h2, if_neg (Ne.symm h2)]
        rw [← decide_not, decide_eq_decide]; omega
    · simp only [if_neg h1, if_neg (Ne.symm h1)]
      rw [← decide_not, decide_eq_decide]; omega
theorem bad_zero {ax ay bx by' cx cy dx dy px py qx qy : Int} (ok1 : RowOk ax ay bx by') (ok2 : RowOk cx cy dx dy)
    (hz : (decide (sgnI (crossI ax ay bx by' cx cy) = 0) && decide (sgnI (crossI ax ay bx by' dx dy) = 0)) = false)
    (hpx : px = if lexLt ax ay cx cy = true then cx else ax) (hpy : py = if lexLt ax ay cx cy = true then cy else ay) (hqx : qx = if lexLt dx dy bx by' = true then dx else bx) (hqy : qy = if lexLt dx dy bx by' = true then dy else by')
    (hov : lexLt px py qx qy = true) (l0 : lowerI ax ay bx by' cx cy dx dy = 0) : False :=
  (turn_nc ok1 ok2 hz hpx hpy hqx hqy hov).1 l0
theorem bad_nc {ax ay bx by' cx cy dx dy px py qx qy w : Int} (ok1 : RowOk ax ay bx by') (ok2 : RowOk cx cy dx dy)
    (hz : (decide (sgnI (crossI ax ay bx by' cx cy) = 0) && decide (sgnI (crossI ax ay bx by' dx dy) = 0)) = false)
    (hpx : px = if lexLt ax ay cx cy = true then cx else ax) (hpy : py = if lexLt ax ay cx cy = true then cy else ay) (hqx : qx = if lexLt dx dy bx by' = true then dx else bx) (hqy : qy = if lexLt dx dy bx by' = true then dy else by')
    (hov : lexLt px py qx qy = true)
    (t : (keyLt (ax + w) (ay - w) (bx + w) (by' - w) (cx + w) (cy - w) (dx + w) (dy - w) == decide (0 < lowerI ax ay bx by' cx cy dx dy) && keyLt (cx + w) (cy - w) (dx + w) (dy - w) (ax + w) (ay - w) (bx + w) (by' - w) == decide (lowerI ax ay bx by' cx cy dx dy < 0)) = false) : False := by
  obtain ⟨_, k2, k3⟩ := turn_nc ok1 ok2 hz hpx hpy hqx hqy hov
  rw [keyLt_shift, keyLt_shift, k2, k3] at t
  simp at t
theorem bad_same {ax ay bx by' cx cy dx dy w : Int} (ok1 : RowOk ax ay bx by')
    (hz : (decide (sgnI (crossI ax ay bx by' cx cy) = 0) && decide (sgnI (crossI ax ay bx by' dx dy) = 0)) = true)
    (e : (ax == cx && ay == cy && (bx == dx && by' == dy)) = true)
    (t : (false == keyLt (ax + w) (ay - w) (bx + w) (by' - w) (cx + w) (cy - w) (dx + w) (dy - w) && false == keyLt (cx + w) (cy - w) (dx + w) (dy - w) (ax + w) (ay - w) (bx + w) (by' - w)) = false) : False := by
  obtain ⟨k2, k3⟩ := (turn_col ok1 hz).1 e
  rw [keyLt_shift, keyLt_shift, k2, k3] at t
  exact absurd t (by decide)
theorem bad_diff {ax ay bx by' cx cy dx dy w : Int} (ok1 : RowOk ax ay bx by')
    (hz : (decide (sgnI (crossI ax ay bx by' cx cy) = 0) && decide (sgnI (crossI ax ay bx by' dx dy) = 0)) = true)
    (e : (ax == cx && ay == cy && (bx == dx && by' == dy)) = false)
    (t : ((true == keyLt (ax + w) (ay - w) (bx + w) (by' - w) (cx + w) (cy - w) (dx + w) (dy - w) && false == keyLt (cx + w) (cy - w) (dx + w) (dy - w) (ax + w) (ay - w) (bx + w) (by' - w)) || (false == keyLt (ax + w) (ay - w) (bx + w) (by' - w) (cx + w) (cy - w) (dx + w) (dy - w) && true == keyLt (cx + w) (cy - w) (dx + w) (dy - w) (ax + w) (ay - w) (bx + w) (by' - w))) = false) : False := by
  have k := (turn_col ok1 hz).2 e
  rw [keyLt_shift, keyLt_shift, k] at t
  revert t
  cases keyLt cx cy dx dy ax ay bx by' <;> decide
end Mine
end
section
open PySem PySem.W PySem.Calls PyProof.Rows
namespace Mine
theorem off_J7U : True := by w_top off; trivial
variable {w : World} {A : Around} {s : Shared} {R : Result → Shared → Prop} {mg mb : Str → Option Value} {mean : ExcName → Option Value}
theorem lower_at {po pa pb qo qa qb : Addr} {ax ay bx by' cx cy dx dy : Int} {t1 t2 t3 t4 t5 t6 t7 t8 : Tok} {n0 n1 n2 n3 n4 n5 : Nat} {h₀ : Heap} {L : Addr} {m : Str → Option Value} {news : List (Addr × Obj)} {Q E : Value → Shared → Prop}
    (F : Fr h₀ L s.heap m) (X : (hd.heap_39 w.params).In h₀)
    (T : Top hd.view_39 (looseW hd.view_39 [Str.ofString "_tuplegetter", Str.ofString "Point", Str.ofString "Orientation"]) mean mg mb h₀) (N : News h₀ L s.heap news)
    (m0 : (po, rwObj pa pb n0) ∈ news) (m1 : (pa, prObj ax ay t1 t2 n1) ∈ news) (m2 : (pb, prObj bx by' t3 t4 n2) ∈ news) (m3 : (qo, rwObj qa qb n3) ∈ news) (m4 : (qa, prObj cx cy t5 t6 n4) ∈ news) (m5 : (qb, prObj dx dy t7 t8 n5) ∈ news)
    (ok1 : RowOk ax ay bx by') (ok2 : RowOk cx cy dx dy) (hh : A.handled = none) (hun : A.units < 5000) (hroom : A.depth < 450)
    (h : ∀ h' tk tr, Fr h₀ L h' m → News h₀ L h' news → Q (.int (lowerI ax ay bx by' cx cy dx dy) tr) { s with heap := h', toks := tk }) :
    wpAny (model Challenge.rw_ja0007_01.row.prog w) A (call (.ref 270) [.ref po, .ref qo]) Q E s :=
  wpAny_call (lower_fn X T F.keep (news_sub N (List.forall_mem_cons.mpr ⟨m0, List.forall_mem_cons.mpr ⟨m1, List.forall_mem_cons.mpr ⟨m2, List.forall_mem_cons.mpr ⟨m3, List.forall_mem_cons.mpr ⟨m4, List.forall_mem_cons.mpr ⟨m5, List.forall_mem_nil _⟩⟩⟩⟩⟩⟩))
    ok1 ok2 hh hun hroom fun h' tk tr k => h h' tk tr (fr_kept F k) (news_kept N k))
local macro_rules | `(tactic| k_mem) => `(tactic| assumption)
local macro_rules | `(tactic| walk_at "eval Name") => `(tactic| (k_here; k_dflt (first
  | (refine' nameX_L ?F ?v ?_ ?a ?b; (case F => k_asm); (case a => rfl); (case b => rfl); (case v => assumption); k_whole)
  | (refine' nameX_C ?N ?c ?m ?d ?_ ?a ?b; (case a => rfl); (case b => rfl); (case N => k_asm); (case c => rfl); (case m => k_mem); (case d => k_asm); k_whole))))
theorem item_row0 {h₀ : Heap} {L l : Addr} {news : List (Addr × Obj)} {prog : Program} {n : Nat} {u : Tok} {v v' : Value} {Q E : Value → Shared → Prop} {value slice : PySem.Expr} (N : News h₀ L s.heap news) (m : (l, lsObj #[v, v'] n) ∈ news) (h : Q v s)
    (hs : subscripted slice false (.ref l) (.int 0 u) = operate [.ref l, .int 0 u] (getItem (.ref l) (.int 0 u)) := by with_unfolding_all rfl) : wpAny (model prog w) A (subscriptTail value slice (.ref l) (.int 0 u)) Q E s :=
  item_led N m (by decide) (by decide) rfl h hs
theorem item_row1 {h₀ : Heap} {L l : Addr} {news : List (Addr × Obj)} {prog : Program} {n : Nat} {u : Tok} {v v' : Value} {Q E : Value → Shared → Prop} {value slice : PySem.Expr} (N : News h₀ L s.heap news) (m : (l, lsObj #[v, v'] n) ∈ news) (h : Q v' s)
    (hs : subscripted slice false (.ref l) (.int 1 u) = operate [.ref l, .int 1 u] (getItem (.ref l) (.int 1 u)) := by with_unfolding_all rfl) : wpAny (model prog w) A (subscriptTail value slice (.ref l) (.int 1 u)) Q E s :=
  item_led N m (by decide) (by decide) rfl h hs
local macro_rules | `(tactic| walk_at "subscriptTail") => `(tactic| (k_here; (with_reducible show wpAny _ _ (subscriptTail _ _ (Value.ref _) (Value.int _ _)) _ _ _); k_dflt (refine' item_led ?N ?m ?h0 ?h1 ?hx ?_ ?hs; (case N => k_asm); (case m => k_mem); (case h0 => omega); (case h1 => omega); (case hx => assumption); (case hs => with_unfolding_all rfl); k_whole)))
local macro_rules | `(tactic| walk_at "subscriptTail") => `(tactic| (k_here; (with_reducible show wpAny _ _ (subscriptTail _ _ (Value.ref _) (Value.int 0 _)) _ _ _); k_dflt (refine' item_row0 ?N ?m ?_ ?hs; (case N => k_asm); (case m => k_mem); (case hs => with_unfolding_all rfl); k_whole)))
local macro_rules | `(tactic| walk_at "subscriptTail") => `(tactic| (k_here; (with_reducible show wpAny _ _ (subscriptTail _ _ (Value.ref _) (Value.int 1 _)) _ _ _); k_dflt (refine' item_row1 ?N ?m ?_ ?hs; (case N => k_asm); (case m => k_mem); (case hs => with_unfolding_all rfl); k_whole)))
local macro_rules | `(tactic| walk_at "compareOp Lt ref ref") => `(tactic| (k_here; (with_reducible show wpAny _ _ (compareOp CmpOp.Lt (Value.ref _) (Value.ref _)) _ _ _); k_dflt (refine' lt_at ?F ?X ?T ?N ?m1 ?m2 ?m3 ?m4 ?m5 ?m6 ?m7 ?m8 ?m9 ?m10 ?m11 ?m12 ?m13 ?m14 ?m15 ?m16 ?i1 ?i2 ?i3 ?i4 ?k1 ?k2 ?k3 ?k4 ?k5 ?k6 ?b1 ?b3 ?b5 ?b7 ?hh ?u ?r ?_; (case F => k_asm); (case X => k_asm); (case T => k_asm); (case N => k_asm); (case m1 => k_mem); (case m2 => k_mem); (case m3 => k_mem); (case m4 => k_mem); (case m5 => k_mem); (case m6 => k_mem); (case m7 => k_mem); (case m8 => k_mem); (case k1 => assumption); (case k5 => assumption); (case k2 => assumption); (case k3 => assumption); (case k6 => assumption); (case k4 => assumption); (case m9 => k_mem); (case m10 => k_mem); (case m11 => k_mem); (case m12 => k_mem); (case m13 => k_mem); (case m14 => k_mem); (case m15 => k_mem); (case m16 => k_mem); (case i1 => assumption); (case i2 => assumption); (case i3 => assumption); (case i4 => assumption); (case b1 => assumption); (case b3 => assumption); (case b5 => assumption); (case b7 => assumption); (case hh => exact rfl); (case u => (simp only [Around.deeper_units]; omega)); (case r => (simp only [depth_under_make, depth_under_kw, depth_in1, depth_deeper]; omega)); k_whole; intro h' tk' F' N'; (try k_sweep); (try dsimp only))))
local macro_rules | `(tactic| walk_at "call ref") => `(tactic| (k_here; (with_reducible show wpAny _ _ (call (Value.ref 263) [Value.ref _, Value.ref _] _) _ _ _); k_dflt (refine' side_at ?F ?X ?T ?N ?m0 ?m1 ?m2 ?m3 ?ok ?hh ?r ?_; (case F => k_asm); (case X => k_asm); (case T => k_asm); (case N => k_asm); (case m0 => k_mem); (case m1 => k_mem); (case m2 => k_mem); (case m3 => k_mem); (case ok => assumption); (case hh => exact rfl); (case r => (simp only [depth_under_make, depth_under_kw, depth_in1, depth_deeper]; omega)); k_whole; intro h' tk' tr' F' N'; (try k_sweep); (try dsimp only))))
local macro_rules | `(tactic| walk_at "call builtin:max") => `(tactic| (k_here; (with_reducible show wpAny _ _ (call (Value.builtin _) [Value.ref _, Value.ref _] _) _ _ _); k_dflt (refine' max_at ?F ?N ?m1 ?m2 ?hh ?u ?_; (case F => k_asm); (case N => k_asm); (case m1 => k_mem); (case m2 => k_mem); (case hh => exact rfl); (case u => (simp only [Around.deeper_units]; have hcL := cLine_is; omega)); k_whole; intro h' tk' P' px' py' u1' u2' k' hx' hy' F' N'; (try k_sweep); (try dsimp only))))
local macro_rules | `(tactic| walk_at "call builtin:min") => `(tactic| (k_here; (with_reducible show wpAny _ _ (call (Value.builtin _) [Value.ref _, Value.ref _] _) _ _ _); k_dflt (refine' min_at ?F ?N ?m1 ?m2 ?hh ?u ?_; (case F => k_asm); (case N => k_asm); (case m1 => k_mem); (case m2 => k_mem); (case hh => exact rfl); (case u => (simp only [Around.deeper_units]; have hcL := cLine_is; omega)); k_whole; intro h' tk' P' px' py' u1' u2' k' hx' hy' F' N'; (try k_sweep); (try dsimp only))))
local macro_rules | `(tactic| walk_at "call ref") => `(tactic| (k_here; (with_reducible show wpAny _ _ (call (Value.ref 270) [Value.ref _, Value.ref _] _) _ _ _); k_dflt (refine' lower_at ?F ?X ?T ?N ?m0 ?m1 ?m2 ?m3 ?m4 ?m5 ?ok1 ?ok2 ?hh ?u ?r ?_; (case F => k_asm); (case X => k_asm); (case T => k_asm); (case N => k_asm); (case m0 => k_mem); (case m1 => k_mem); (case m2 => k_mem); (case m3 => k_mem); (case m4 => k_mem); (case m5 => k_mem); (case ok1 => assumption); (case ok2 => assumption); (case hh => exact rfl); (case u => (simp only [Around.deeper_units]; omega)); (case r => (simp only [depth_under_make, depth_under_kw, depth_in1, depth_deeper]; omega)); k_whole; intro h' tk' tr' F' N'; (try k_sweep); (try dsimp only))))
local macro_rules | `(tactic| walk_at "CompEnd") => `(tactic| (k_here; (refine LCg.CompEnd.intro (by k_asm) (by k_asm) _ (fun _ hp => hp) (by assumption) (by lcg_src) ?_)))
def CompMark (P : Prop) : Prop := P
theorem comp_mark {P : Prop} (h : CompMark P) : P := h
def TestOut (h₀ : Heap) (L : Addr) (m : Str → Option Value) (news : List (Addr × Obj)) (s : Shared) (z : Bool) (b : Bool) (s' : Shared) : Prop :=
  b = z ∧ ∃ h' tk, s' = { s with heap := h', toks := tk } ∧ Fr h₀ L h' m ∧ News h₀ L h' news
theorem test_out {M : Model} {A : Around} {t : Sem Bool} {Q : Bool → Shared → Prop} {E : Value → Shared → Prop} {s : Shared} {h₀ : Heap} {L : Addr} {m : Str → Option Value} {news : List (Addr × Obj)} (z : Bool) (_F : Fr h₀ L s.heap m) (_N : News h₀ L s.heap news)
    (h1 : wpAny M A t (TestOut h₀ L m news s z) E s) (h2 : ∀ h' tk, Fr h₀ L h' m → News h₀ L h' news → Q z { s with heap := h', toks := tk }) : CompMark (wpAny M A t Q E s) :=
  wpAny_mono h1 (fun b s' h => by obtain ⟨rfl, h', tk, rfl, F, N⟩ := h; exact h2 h' tk F N) fun _ _ e => e
theorem test_close {s : Shared} {h₀ h' : Heap} {tk : Nat} {L : Addr} {m : Str → Option Value} {news all : List (Addr × Obj)} {z b : Bool} (F : Fr h₀ L h' m) (N : News h₀ L h' all) (hs : ∀ q ∈ news, q ∈ all) (e : b = z) : TestOut h₀ L m news s z b { s with heap := h', toks := tk } :=
  ⟨e, h', tk, rfl, F, fun q hq => N q (hs q hq)⟩
local macro_rules | `(tactic| walk_at "isTrue Compare") => `(tactic| (k_here; (with_reducible show wpAny _ _ (PySem.isTrue (PySem.Expr.Compare (PySem.Expr.ListComp _ _ _ _) _ _ _) _ _) _ _ _); refine comp_mark ?_))
local macro_rules | `(tactic| walk_at "compareOp NotIn ref ref") => `(tactic| (k_here; k_dflt (first
  | (refine' notin_one ?N ?ml ?mt ?mu ?u ?_; (case N => k_asm); (case ml => k_mem); (case mt => k_mem); (case mu => k_mem); (case u => (simp only [Around.deeper_units]; have hcL := cLine_is; omega)); k_whole)
  | (refine' notin_two ?N ?ml ?mt ?mu ?mv ?u ?_; (case N => k_asm); (case ml => k_mem); (case mt => k_mem); (case mu => k_mem); (case mv => k_mem); (case u => (simp only [Around.deeper_units]; have hcL := cLine_is; omega)); k_whole))))
local macro_rules | `(tactic| walk_at "compareOp GtE ref ref") => `(tactic| (k_here; k_dflt (refine' ge_at ?N ?m1 ?m2 ?u ?_; (case N => k_asm); (case m1 => k_mem); (case m2 => k_mem); (case u => (simp only [Around.deeper_units]; have hcL := cLine_is; omega)); k_whole)))
local macro_rules | `(tactic| walk_at "compareOp NotEq ref ref") => `(tactic| (k_here; k_dflt (refine' bne_at ?N ?m1 ?m2 ?u ?_; (case N => k_asm); (case m1 => k_mem); (case m2 => k_mem); (case u => (simp only [Around.deeper_units]; have hcL := cLine_is; omega)); k_whole)))
/-- what a turn of the inner loop leaves -/
def TurnEnd (h₀ : Heap) (L : Addr) (own : List (Addr × Obj)) (m : Str → Option Value) (s : Shared) (f : Flow) (s' : Shared) : Prop :=
  (f = .next ∨ f = .cont) ∧ ∃ h' tk m', s' = { s with heap := h', toks := tk } ∧ Fr h₀ L h' m' ∧ News h₀ L h' own ∧ m' (Str.ofString "j") = m (Str.ofString "j") ∧ m' (Str.ofString "keys") = m (Str.ofString "keys")
theorem turn_end {h₀ h' : Heap} {tk : Nat} {L : Addr} {own all : List (Addr × Obj)} {m m' : Str → Option Value} {s : Shared} {f : Flow} (hf : f = .next ∨ f = .cont) (F : Fr h₀ L h' m') (N : News h₀ L h' all) (hs : ∀ q ∈ own, q ∈ all)
    (e1 : m' (Str.ofString "j") = m (Str.ofString "j")) (e2 : m' (Str.ofString "keys") = m (Str.ofString "keys")) : TurnEnd h₀ L own m s f { s with heap := h', toks := tk } :=
  ⟨hf, h', tk, m', rfl, F, fun q hq => N q (hs q hq), e1, e2⟩
set_option maxHeartbeats 4000000 in
theorem turn {L fa : Addr} {cdv : Value} {h₀ : Heap} {m : Str → Option Value} {own : List (Addr × Obj)} {oR oI : Obj} {rl kl ends opp r1 a1 b1 r2 a2 b2 x1 dx1 q1 c1 x2 dx2 q2 c2 p1 d1 p2 d2 p3 d3 p4 d4 : Addr} {i j : Int} {ti tj : Tok} {rs ks pts ops : Array Value} {nr nk np no : Nat}
    {n1 n2 n3 n4 n5 n6 l1 l2 l3 l4 : Nat} {g1 g2 g3 g4 g5 g6 g7 g8 t1 t2 t3 t4 t5 t6 t7 t8 : Tok} {ax ay bx by' cx cy dx dy aw : Int} {ha1 ha2 ha3 ha4 hb1 hb2 hb3 hb4 : Int} {u1 u2 u3 u4 u5 v1 v2 v3 v4 v5 : Tok} {e1 e2 f1 f2 : Int} {w1 w2 : Tok}
    (X : (hd.heap_39 w.params).In h₀)
    (T : Top hd.view_39 (looseW hd.view_39 [Str.ofString "_tuplegetter", Str.ofString "Point", Str.ofString "Orientation"]) mean mg mb h₀)
    (F : Fr h₀ L s.heap m) (N : News h₀ L s.heap own)
    (mK : m (Str.ofString "keys") = some (.ref kl)) (mJ : m (Str.ofString "j") = some (.int j tj))
    (z1 : (L + 1, oR) ∈ own) (z2 : oR.data = .cell (some (.ref rl))) (z3 : (L + 1 + 1 + 1 + 1, oI) ∈ own) (z4 : oI.data = .cell (some (.int i ti)))
    (y1 : (rl, lsObj rs nr) ∈ own) (y2 : (kl, lsObj ks nk) ∈ own) (hij : 0 ≤ i ∧ i < j ∧ j < 6)
    (y3 : rs[i.toNat]? = some (.ref r1)) (y4 : rs[j.toNat]? = some (.ref r2)) (y5 : ks[i.toNat]? = some (.ref x1)) (y6 : ks[j.toNat]? = some (.ref x2))
    (o1 : (r1, rwObj a1 b1 n1) ∈ own) (o2 : (a1, prObj ax ay g1 g2 n2) ∈ own) (o3 : (b1, prObj bx by' g3 g4 n3) ∈ own) (o4 : (r2, rwObj a2 b2 n4) ∈ own) (o5 : (a2, prObj cx cy g5 g6 n5) ∈ own) (o6 : (b2, prObj dx dy g7 g8 n6) ∈ own)
    (ok1 : RowOk ax ay bx by') (ok2 : RowOk cx cy dx dy)
    (m1 : (x1, instObj 245 dx1) ∈ own) (m2 : (dx1, keyDict ha1 ha2 ha3 ha4 u1 u2 u3 u4 u5 ends opp q1 e1) ∈ own) (m3 : (x2, instObj 245 dx2) ∈ own) (m4 : (dx2, keyDict hb1 hb2 hb3 hb4 v1 v2 v3 v4 v5 ends opp q2 e2) ∈ own)
    (m5 : (q1, methodObj (.ref 207) (.ref c1)) ∈ own) (m6 : (q2, methodObj (.ref 207) (.ref c2)) ∈ own) (m7 : (ends, lsObj pts np) ∈ own) (m8 : (opp, lsObj ops no) ∈ own)
    (m9 : (p1, ptObj d1 (ax + aw) (ay - aw) t1 t2 l1) ∈ own) (m10 : (d1, emptyDict) ∈ own) (m11 : (p2, ptObj d2 (bx + aw) (by' - aw) t3 t4 l2) ∈ own) (m12 : (d2, emptyDict) ∈ own) (m13 : (p3, ptObj d3 (cx + aw) (cy - aw) t5 t6 l3) ∈ own) (m14 : (d3, emptyDict) ∈ own)
    (m15 : (p4, ptObj d4 (dx + aw) (dy - aw) t7 t8 l4) ∈ own) (m16 : (d4, emptyDict) ∈ own)
    (i1 : 0 ≤ e1 ∧ e1 < 12) (i2 : 0 ≤ e2 ∧ e2 < 12) (i3 : 0 ≤ f1 ∧ f1 < 12) (i4 : 0 ≤ f2 ∧ f2 < 12)
    (k1 : pts[e1.toNat]? = some (.ref p1)) (k2 : pts[f1.toNat]? = some (.ref p2)) (k3 : pts[e2.toNat]? = some (.ref p3)) (k4 : pts[f2.toNat]? = some (.ref p4)) (k5 : ops[e1.toNat]? = some (.int f1 w1)) (k6 : ops[e2.toNat]? = some (.int f2 w2))
    (hh : A.handled = none) (hun : A.units < 3000) (hroom : A.depth < 400) :
    wpAny (model Challenge.rw_ja0007_01.row.prog w) A (execs iBody (envOfC (Str.ofString "law") lawScope L fa cdv)) (fun f s' => TurnEnd h₀ L own m s f s') (fun _ _ => False) s := by
  obtain ⟨ah, dep, fra, gua, uni⟩ := A
  cases hh
  dsimp only at hun hroom
  have b1 : -5 ≤ (bx + aw) - (ax + aw) ∧ (bx + aw) - (ax + aw) ≤ 5 := by obtain ⟨_, _, _, _, _, _, _, _, _⟩ := ok1; omega
  have b3 : -5 ≤ (by' - aw) - (ay - aw) ∧ (by' - aw) - (ay - aw) ≤ 5 := by obtain ⟨_, _, _, _, _, _, _, _, _⟩ := ok1; omega
  have b5 : -5 ≤ (dx + aw) - (cx + aw) ∧ (dx + aw) - (cx + aw) ≤ 5 := by obtain ⟨_, _, _, _, _, _, _, _, _⟩ := ok2; omega
  have b7 : -5 ≤ (dy - aw) - (cy - aw) ∧ (dy - aw) - (cy - aw) ≤ 5 := by obtain ⟨_, _, _, _, _, _, _, _, _⟩ := ok2; omega
  have eB := iBody_is
  conv at eB => rhs; whnf
  rw [eB]
  clear eB
  revert X; k_fill; intro X
  show wpAny _ _ _ _ _ _
  k_fold
  k_steps
  refine test_out (!(decide (sgnI (crossI ax ay bx by' cx cy) = 0) && decide (sgnI (crossI ax ay bx by' dx dy) = 0))) (by k_asm) (by k_asm) ?_ ?_
  · refine wpAny_isTrue_Compare1 ?_
    k_steps
    all_goals first
      | exact test_close (by k_asm) (by assumption) (fun q hq => by repeat (first | exact hq | refine List.mem_cons_of_mem _ ?_)) (by simp [*])
      | skip
  · intro h' tk' F' N'
    k_steps
    all_goals repeat (first | (k_unfold; (try dsimp only)) | dsimp only)
    all_goals try exact (bad_zero ok1 ok2 (by assumption) (by assumption) (by assumption) (by assumption) (by assumption) (by assumption) (by assumption)).elim
    all_goals try exact (bad_nc ok1 ok2 (by assumption) (by assumption) (by assumption) (by assumption) (by assumption) (by assumption) (by assumption)).elim
    all_goals try exact (bad_same ok1 (by assumption) (by assumption) (by assumption)).elim
    all_goals try exact (bad_diff ok1 (by assumption) (by assumption) (by assumption)).elim
    all_goals ((refine' turn_end ?a ?F ?N ?s ?e1 ?e2; (case a => first | exact Or.inl rfl | exact Or.inr rfl); (case F => assumption); (case N => assumption); (case s => exact fun q hq => by repeat (first | exact hq | refine List.mem_cons_of_mem _ ?_)); (case e1 => rfl); (case e2 => rfl)))
end Mine
end
section
open PySem PySem.W PySem.Calls PyProof.Rows
namespace Mine
theorem off_J7Z : True := by w_top off; trivial
variable {w : World} {A : Around} {s : Shared} {mg mb : Str → Option Value} {mean : ExcName → Option Value}
/-- a for over a range, by an invariant that the iterator's own object does not touch -/
theorem rng_loop {prog : Program} {R : Result → Shared → Prop} {x : Str} {px : Pos} {body : List Stmt} {env : Env} {I : Addr} {n : Nat} (hh : A.handled = none) (Inv : Nat → Heap → Prop)
    (keep : ∀ i h h', Inv i h → (∀ b o, b ≠ I → h.get? b = some o → h'.get? b = some o) → Inv i h')
    (step : ∀ i tk h₁, i < n → Inv i h₁ → IsRangeIter h₁ I ((i : Int) + 1) ((n : Int) - (i : Int) - 1) 1 → wpAny (model prog w) A (assign (.Name x px) env (.int (i : Int) tk)) (fun _ s₂ => wpAny (model prog w) A (execs body env)
      (fun f s₃ => (f = .next ∨ f = .cont) ∧ ∃ h' tk', s₃ = { s with heap := h', toks := tk' } ∧ IsRangeIter h' I ((i : Int) + 1) ((n : Int) - (i : Int) - 1) 1 ∧ Inv (i + 1) h') (fun _ _ => False) s₂) (fun _ _ => False) { s with heap := h₁, toks := tk + 1 })
    (done : ∀ h' tk, Inv n h' → R (.ok .next) { s with heap := h', toks := tk })
    (hit : IsRangeIter s.heap I 0 n 1) (h0 : Inv 0 s.heap) : codeAny (model prog w) A (.forLoop (.Name x px) (.ref I) body [] env) R s := by
  refine codeAny_forLoop (fun k s' => ∃ h' tk i, s' = { s with heap := h', toks := tk } ∧ IsRangeIter h' I (i : Nat) ((n : Int) - (i : Nat)) 1 ∧ Inv i h' ∧ i ≤ n ∧ k = n + 1 - i) ?_ (n + 1) ⟨s.heap, s.toks, 0, rfl, by simpa using hit, h0, Nat.zero_le _, rfl⟩
  rintro k s' ⟨h', tk, i, rfl, hit', hI, hi, rfl⟩
  by_cases hlt : i < n
  · refine wpAny_pyNext_range_item hit' (by omega) fun h₁ hit₁ hs₁ => ?_
    refine wpAny_mono (step i _ h₁ hlt (keep _ _ _ hI fun b o hb e => hs₁.extBut b o hb e) hit₁) (fun _ s₂ h₂ => wpAny_mono h₂ (fun f s₃ h₃ => ?_) fun _ _ e => e.elim) fun _ _ e => e.elim
    obtain ⟨hf, h₃', tk₃, rfl, hit₃, hI₃⟩ := h₃
    have fin : ∃ m, m < n + 1 - i ∧ ∃ h' tk i', ({ s with heap := h₃', toks := tk₃ } : Shared) = { s with heap := h', toks := tk } ∧ IsRangeIter h' I (i' : Nat) ((n : Int) - (i' : Nat)) 1 ∧ Inv i' h' ∧ i' ≤ n ∧ m = n + 1 - i' := by
      refine ⟨n + 1 - (i + 1), by omega, h₃', tk₃, i + 1, rfl, ?_, hI₃, hlt, rfl⟩
      have e2 : (n : Int) - ((i + 1 : Nat) : Int) = (n : Int) - (i : Int) - 1 := by push_cast; omega
      rw [e2]
      exact hit₃
    rcases hf with rfl | rfl
    · exact fin
    · exact fin
  · have hin : i = n := by omega
    subst hin
    refine wpAny_pyNext_range_end hh hit' (by omega) fun h₁ he₁ => wpAny_execs_nil ?_
    exact done h₁ tk (keep _ _ _ hI he₁)
/-- the k-th segment with its two ends, its opposite's number and its key -/
def KDat (own : List (Addr × Obj)) (ends opp : Addr) (pts ops rs ks : Array Value) (aw : Int) (k : Nat) : Prop :=
  ∃ (ax ay bx by' : Int), RowOk ax ay bx by' ∧
    (∃ r a b n1 n2 n3 g1 g2 g3 g4, rs[k]? = some (.ref r) ∧ (r, rwObj a b n1) ∈ own ∧ (a, prObj ax ay g1 g2 n2) ∈ own ∧ (b, prObj bx by' g3 g4 n3) ∈ own) ∧
    (∃ p d t1 t2 l, pts[2 * k]? = some (.ref p) ∧ (p, ptObj d (ax + aw) (ay - aw) t1 t2 l) ∈ own ∧ (d, emptyDict) ∈ own) ∧
    (∃ p d t1 t2 l, pts[2 * k + 1]? = some (.ref p) ∧ (p, ptObj d (bx + aw) (by' - aw) t1 t2 l) ∈ own ∧ (d, emptyDict) ∈ own) ∧
    (∃ t, ops[2 * k]? = some (.int ((2 * k + 1 : Nat) : Int) t)) ∧
    (∃ x dx q c h1 h2 h3 h4 u1 u2 u3 u4 u5, ks[k]? = some (.ref x) ∧ (x, instObj 245 dx) ∈ own ∧ (dx, keyDict h1 h2 h3 h4 u1 u2 u3 u4 u5 ends opp q ((2 * k : Nat) : Int)) ∈ own ∧ (q, methodObj (.ref 207) (.ref c)) ∈ own)
theorem KDat.mono {own own' : List (Addr × Obj)} {ends opp : Addr} {pts ops rs ks : Array Value} {aw : Int} {k : Nat} (h : KDat own ends opp pts ops rs ks aw k) (hs : ∀ p ∈ own, p ∈ own') : KDat own' ends opp pts ops rs ks aw k := by
  obtain ⟨ax, ay, bx, by', ok, ⟨r, a, b, n1, n2, n3, g1, g2, g3, g4, e1, e2, e3, e4⟩, ⟨p, d, t1, t2, l, e5, e6, e7⟩, ⟨p', d', t1', t2', l', e8, e9, e10⟩, e11, ⟨x, dx, q, c, h1, h2, h3, h4, u1, u2, u3, u4, u5, e12, e13, e14, e15⟩⟩ := h
  exact ⟨ax, ay, bx, by', ok, ⟨r, a, b, n1, n2, n3, g1, g2, g3, g4, e1, hs _ e2, hs _ e3, hs _ e4⟩, ⟨p, d, t1, t2, l, e5, hs _ e6, hs _ e7⟩, ⟨p', d', t1', t2', l', e8, hs _ e9, hs _ e10⟩, e11, ⟨x, dx, q, c, h1, h2, h3, h4, u1, u2, u3, u4, u5, e12, hs _ e13, hs _ e14, hs _ e15⟩⟩
set_option maxHeartbeats 1000000 in
/-- turn, by the data of the two -/
theorem turn_dat {L fa : Addr} {cdv : Value} {h₀ : Heap} {m : Str → Option Value} {own : List (Addr × Obj)} {oR oI : Obj} {rl kl ends opp : Addr} {i j n : Nat} {ti tj : Tok} {rs ks pts ops : Array Value} {nr nk np no : Nat} {aw : Int}
    (X : (hd.heap_39 w.params).In h₀)
    (T : Top hd.view_39 (looseW hd.view_39 [Str.ofString "_tuplegetter", Str.ofString "Point", Str.ofString "Orientation"]) mean mg mb h₀)
    (F : Fr h₀ L s.heap m) (N : News h₀ L s.heap own)
    (mK : m (Str.ofString "keys") = some (.ref kl)) (mJ : m (Str.ofString "j") = some (.int (j : Int) tj))
    (z1 : (L + 1, oR) ∈ own) (z2 : oR.data = .cell (some (.ref rl))) (z3 : (L + 1 + 1 + 1 + 1, oI) ∈ own) (z4 : oI.data = .cell (some (.int (i : Int) ti)))
    (y1 : (rl, lsObj rs nr) ∈ own) (y2 : (kl, lsObj ks nk) ∈ own) (hij : i < j) (hjn : j < n) (hn : n ≤ 6) (m7 : (ends, lsObj pts np) ∈ own) (m8 : (opp, lsObj ops no) ∈ own)
    (D : ∀ k, k < n → KDat own ends opp pts ops rs ks aw k)
    (hh : A.handled = none) (hun : A.units < 3000) (hroom : A.depth < 400) :
    wpAny (model Challenge.rw_ja0007_01.row.prog w) A (execs iBody (envOfC (Str.ofString "law") lawScope L fa cdv)) (fun f s' => TurnEnd h₀ L own m s f s') (fun _ _ => False) s := by
  obtain ⟨ax, ay, bx, by', ok, ⟨r, a, b, n1, n2, n3, g1, g2, g3, g4, e1, e2, e3, e4⟩, ⟨p, d, t1, t2, l, e5, e6, e7⟩, ⟨p', d', t1', t2', l', e8, e9, e10⟩, ⟨t, e11⟩, ⟨x, dx, q, c, h1, h2, h3, h4, u1, u2, u3, u4, u5, e12, e13, e14, e15⟩⟩ := D i (by omega)
  obtain ⟨cx, cy, dx', dy', ok', ⟨r', a', b', n1', n2', n3', g1', g2', g3', g4', f1, f2, f3, f4⟩, ⟨P, Dd, T1, T2, l1, f5, f6, f7⟩, ⟨P', D', T1', T2', L', f8, f9, f10⟩, ⟨t', f11⟩, ⟨x', dxx, q', c', h1', h2', h3', h4', u1', u2', u3', u4', u5', f12, f13, f14, f15⟩⟩ := D j hjn
  exact turn (i := (i : Int)) (j := (j : Int)) X T F N mK mJ z1 z2 z3 z4 y1 y2 (by omega) e1 f1 e12 f12 e2 e3 e4 f2 f3 f4 ok ok' e13 e14 f13 f14 e15 f15 m7 m8 e6 e7 e9 e10 f6 f7 f9 f10
    (e1 := ((2 * i : Nat) : Int)) (e2 := ((2 * j : Nat) : Int)) (f1 := ((2 * i + 1 : Nat) : Int)) (f2 := ((2 * j + 1 : Nat) : Int)) (by omega) (by omega) (by omega) (by omega) e5 e8 f5 f8 e11 f11 hh hun hroom
theorem L4_ne : ∀ L : Nat, L + 1 + 1 + 1 + 1 ≠ L := by intro L; omega
theorem L4_nlt : ∀ L : Nat, ¬ (L + 1 + 1 + 1 + 1 < L) := by intro L; omega
theorem news_at {h₀ h h' : Heap} {L : Addr} {own : List (Addr × Obj)} (N : News h₀ L h own) (hk : ∀ p ∈ own, ∀ o, h.get? p.1 = some o → h'.get? p.1 = some o) : News h₀ L h' own :=
  fun p hp => ⟨hk p hp _ (N p hp).1, (N p hp).2⟩
set_option maxHeartbeats 1000000 in
theorem inner {L fa : Addr} {cdv : Value} {h₀ : Heap} {m : Str → Option Value} {own : List (Addr × Obj)} {oR : Obj} {rl kl ends opp : Addr} {j n : Nat} {tj : Tok} {rs ks pts ops : Array Value} {nr nk np no : Nat} {aw : Int} {vC : Option Value} {r : Addr} {t u v : Tok} {px : Pos} {Q : Flow → Shared → Prop} {E : Value → Shared → Prop}
    (X : (hd.heap_39 w.params).In h₀)
    (T : Top hd.view_39 (looseW hd.view_39 [Str.ofString "_tuplegetter", Str.ofString "Point", Str.ofString "Orientation"]) mean mg mb h₀)
    (F : Fr h₀ L s.heap m) (N : News h₀ L s.heap own) (hC : s.heap.IsCell (L + 1 + 1 + 1 + 1) vC) (hCo : ∀ p ∈ own, p.1 ≠ L + 1 + 1 + 1 + 1)
    (mK : m (Str.ofString "keys") = some (.ref kl)) (mJ : m (Str.ofString "j") = some (.int (j : Int) tj))
    (z1 : (L + 1, oR) ∈ own) (z2 : oR.data = .cell (some (.ref rl)))
    (y1 : (rl, lsObj rs nr) ∈ own) (y2 : (kl, lsObj ks nk) ∈ own) (hjn : j < n) (hn : n ≤ 6) (m7 : (ends, lsObj pts np) ∈ own) (m8 : (opp, lsObj ops no) ∈ own)
    (D : ∀ k, k < n → KDat own ends opp pts ops rs ks aw k)
    (hr : IsRange s.heap r 0 (j : Int) 1 t u v)
    (hh : A.handled = none) (hun : A.units < 3000) (hroom : A.depth < 400)
    (hQ : ∀ h' tk m', Fr h₀ L h' m' → News h₀ L h' own → (∃ v, h'.IsCell (L + 1 + 1 + 1 + 1) v) → m' (Str.ofString "keys") = some (.ref kl) → Q .next { s with heap := h', toks := tk }) :
    wpAny (model Challenge.rw_ja0007_01.row.prog w) A (pyIter (.ref r)) (fun it s₂ => codeAny (model Challenge.rw_ja0007_01.row.prog w) A (.forLoop (.Name (Str.ofString "i") px) it iBody [] (envOfC (Str.ofString "law") lawScope L fa cdv))
      (fun r s' => match r with | .ok f => Q f s' | .error e => cameBackBy (model Challenge.rw_ja0007_01.row.prog w) A (envOfC (Str.ofString "law") lawScope L fa cdv) E e s') s₂) E s := by
  have hsz : Builtin.Range.rangeSize 0 (j : Int) 1 = (j : Int) := by
    unfold Builtin.Range.rangeSize
    split
    · simp <;> omega
    · omega
  have hsm : Builtin.Range.small 0 (j : Int) 1 = true := by
    have : j = 0 ∨ j = 1 ∨ j = 2 ∨ j = 3 ∨ j = 4 ∨ j = 5 := by omega
    rcases this with rfl | rfl | rfl | rfl | rfl | rfl <;> decide
  refine wpAny_pyIter_range hr hsm ?_
  rw [hsz]
  have hI0 := next_is_new F
  have hIL : L ≠ s.heap.objs.size := Nat.ne_of_lt F.ns.lt
  have hIo : ∀ p ∈ own, p.1 ≠ s.heap.objs.size := fun p hp => Nat.ne_of_lt (Heap.lt_size (N p hp).1)
  have hIC : L + 1 + 1 + 1 + 1 ≠ s.heap.objs.size := by obtain ⟨o, e, _⟩ := hC; exact Nat.ne_of_lt (Heap.lt_size e)
  have hC0 : h₀.get? (L + 1 + 1 + 1 + 1) = none := by
    cases e : h₀.get? (L + 1 + 1 + 1 + 1) with
    | none => rfl
    | some o => exact absurd (Nat.lt_of_lt_of_le (Heap.lt_size e) F.above) (L4_nlt L)
  refine rng_loop hh (fun _ h => ∃ m', Fr h₀ L h m' ∧ m' (Str.ofString "j") = some (.int (j : Int) tj) ∧ m' (Str.ofString "keys") = some (.ref kl) ∧ News h₀ L h own ∧ ∃ v, h.IsCell (L + 1 + 1 + 1 + 1) v) ?_ ?_ ?_
    (Heap.get?_push_size _ rfl) ⟨m, F.push _, mJ, mK, fun p hp => ⟨Heap.get?_push_of_some _ (N p hp).1, (N p hp).2⟩, vC, hC.keeps fun b o e => Heap.get?_push_of_some _ e⟩
  · rintro i h h' ⟨m', F', a, b, N', vv, hv⟩ hk
    refine ⟨m', ⟨F'.ns.at' fun o e => hk _ o hIL e, fun b o e => hk b o (fun q => by rw [q, hI0] at e; cases e) (F'.keep b o e), F'.above⟩, a, b, news_at N' fun p hp o e => hk _ o (hIo p hp) e, vv, ?_⟩
    obtain ⟨o, e, d⟩ := hv
    exact ⟨o, hk _ o hIC e, d⟩
  · rintro i tk h₁ hi ⟨m', F', a, b, N', vv, hv⟩ hit
    refine wpAny_assign_Name (wpAny_storeName_cell rfl rfl rfl hv fun h₂ hv₂ hs₂ => ?_)
    obtain ⟨oI, eI, dI⟩ := hv₂
    have F₂ : Fr h₀ L h₂ m' := ⟨F'.ns.at' fun o e => (hs₂.2 L (Ne.symm (L4_ne L))).trans e, fun b o e => (hs₂.2 b (fun q => by rw [q, hC0] at e; cases e)).trans (F'.keep b o e), F'.above⟩
    have N₂ : News h₀ L h₂ ((L + 1 + 1 + 1 + 1, oI) :: (s.heap.objs.size, { cls := .type "range_iterator", dict := none, data := .fields #[rawInt ((i : Int) + 1), rawInt ((j : Int) - (i : Int) - 1), rawInt 1], slots := #[] }) :: own) :=
      List.forall_mem_cons.mpr ⟨⟨eI, L4_ne L, hC0⟩, List.forall_mem_cons.mpr ⟨⟨(hs₂.2 _ (Ne.symm hIC)).trans hit, Ne.symm hIL, hI0⟩, news_at N' fun p hp o e => (hs₂.2 _ (hCo p hp)).trans e⟩⟩
    have sub : ∀ p ∈ own, p ∈ ((L + 1 + 1 + 1 + 1, oI) :: (s.heap.objs.size, { cls := .type "range_iterator", dict := none, data := .fields #[rawInt ((i : Int) + 1), rawInt ((j : Int) - (i : Int) - 1), rawInt 1], slots := #[] }) :: own) := fun p hp => List.mem_cons_of_mem _ (List.mem_cons_of_mem _ hp)
    refine wpAny_mono (turn_dat (i := i) (j := j) X T F₂ N₂ b a (sub _ z1) z2 List.mem_cons_self dI (sub _ y1) (sub _ y2) hi hjn hn (sub _ m7) (sub _ m8) (fun k hk => (D k hk).mono sub) hh hun hroom) (fun f s₃ h₃ => ?_) fun _ _ e => e
    obtain ⟨hf, h', tk', m₃, rfl, F₃, N₃, e1, e2⟩ := h₃
    refine ⟨hf, h', tk', rfl, (N₃ _ (List.mem_cons_of_mem _ List.mem_cons_self)).1, m₃, F₃, e1.trans a, e2.trans b, fun p hp => N₃ p (sub p hp), _, oI, (N₃ _ List.mem_cons_self).1, dI⟩
  · rintro h' tk ⟨m', F', a, b, N', hv⟩
    exact hQ h' tk m' F' N' hv b
end Mine
end
section
open PySem PySem.W PySem.Calls PyProof.Rows
namespace Mine
theorem off_J8A : True := by w_top off; trivial
variable {w : World} {A : Around} {s : Shared} {mg mb : Str → Option Value} {mean : ExcName → Option Value}
local macro_rules | `(tactic| k_mem) => `(tactic| assumption)
local macro_rules | `(tactic| walk_at "eval Name") => `(tactic| (k_here; k_dflt (first
  | (refine' nameX_L ?F ?v ?_ ?a ?b; (case F => k_asm); (case a => rfl); (case b => rfl); (case v => assumption); k_whole)
  | (refine' nameX_C ?N ?c ?m ?d ?_ ?a ?b; (case a => rfl); (case b => rfl); (case N => k_asm); (case c => rfl); (case m => k_mem); (case d => k_asm); k_whole))))
theorem jBody_is : jBody = jBody := rfl
def RangeEnd (h₀ : Heap) (L : Addr) (m : Str → Option Value) (own : List (Addr × Obj)) (n : Int) (s : Shared) (x : Value) (s' : Shared) : Prop :=
  ∃ r t u v h' tk, x = .ref r ∧ s' = { s with heap := h', toks := tk } ∧ IsRange h' r 0 n 1 t u v ∧ Fr h₀ L h' m ∧ News h₀ L h' own
def LoopEnd (h₀ : Heap) (L : Addr) (own : List (Addr × Obj)) (kl : Addr) (s : Shared) (f : Flow) (s' : Shared) : Prop :=
  (f = .next ∨ f = .cont) ∧ ∃ h' tk m', s' = { s with heap := h', toks := tk } ∧ Fr h₀ L h' m' ∧ News h₀ L h' own ∧ (∃ v, h'.IsCell (L + 1 + 1 + 1 + 1) v) ∧ m' (Str.ofString "keys") = some (.ref kl)
set_option maxHeartbeats 1000000 in
theorem jturn {L fa : Addr} {cdv : Value} {h₀ : Heap} {m : Str → Option Value} {own : List (Addr × Obj)} {oR : Obj} {rl kl ends opp : Addr} {j n : Nat} {tj : Tok} {rs ks pts ops : Array Value} {nr nk np no : Nat} {aw : Int} {vC : Option Value}
    (X : (hd.heap_39 w.params).In h₀)
    (T : Top hd.view_39 (looseW hd.view_39 [Str.ofString "_tuplegetter", Str.ofString "Point", Str.ofString "Orientation"]) mean mg mb h₀)
    (F : Fr h₀ L s.heap m) (N : News h₀ L s.heap own) (hC : s.heap.IsCell (L + 1 + 1 + 1 + 1) vC) (hCo : ∀ p ∈ own, p.1 ≠ L + 1 + 1 + 1 + 1)
    (mK : m (Str.ofString "keys") = some (.ref kl)) (mJ : m (Str.ofString "j") = some (.int (j : Int) tj))
    (z1 : (L + 1, oR) ∈ own) (z2 : oR.data = .cell (some (.ref rl)))
    (y1 : (rl, lsObj rs nr) ∈ own) (y2 : (kl, lsObj ks nk) ∈ own) (hjn : j < n) (hn : n ≤ 6) (m7 : (ends, lsObj pts np) ∈ own) (m8 : (opp, lsObj ops no) ∈ own)
    (D : ∀ k, k < n → KDat own ends opp pts ops rs ks aw k)
    (hh : A.handled = none) (hun : A.units < 3000) (hroom : A.depth < 400) :
    wpAny (model Challenge.rw_ja0007_01.row.prog w) A (execs jBody (envOfC (Str.ofString "law") lawScope L fa cdv)) (LoopEnd h₀ L own kl s) (fun _ _ => False) s := by
  obtain ⟨oC, eC, dC⟩ := hC
  have hC0 : h₀.get? (L + 1 + 1 + 1 + 1) = none := by
    cases e : h₀.get? (L + 1 + 1 + 1 + 1) with
    | none => rfl
    | some o => exact absurd (Nat.lt_of_lt_of_le (Heap.lt_size e) F.above) (L4_nlt L)
  have N1 : News h₀ L s.heap ((L + 1 + 1 + 1 + 1, oC) :: own) := List.forall_mem_cons.mpr ⟨⟨eC, L4_ne L, hC0⟩, N⟩
  have eB := jBody_is
  conv at eB => rhs; whnf
  rw [eB]
  clear eB
  refine wpAny_execs_cons (wpAny_For ?_)
  refine wpAny_mono (Q := RangeEnd h₀ L m ((L + 1 + 1 + 1 + 1, oC) :: own) (j : Int) s) (E := fun _ _ => False) ?_ ?_ (fun _ _ e => e)
  · clear D N hCo
    obtain ⟨ah, dep, fra, gua, uni⟩ := A
    cases hh
    dsimp only at hun hroom
    revert X; k_fill; intro X
    show wpAny _ _ _ _ _ _
    k_fold
    k_steps
    all_goals repeat (first | (k_unfold; (try dsimp only)) | dsimp only)
    exact ⟨_, _, _, _, _, _, rfl, rfl, by assumption, by assumption, by assumption⟩
  · rintro x s₁ ⟨r, t, u, v, h', tk, rfl, rfl, hr, F1, N2⟩
    refine inner X T F1 (fun p hp => N2 p (List.mem_cons_of_mem _ hp)) ⟨oC, (N2 _ List.mem_cons_self).1, dC⟩ hCo mK mJ z1 z2 y1 y2 hjn hn m7 m8 D hr hh hun hroom fun h₂ tk₂ m₂ F₂ N₂ c₂ k₂ => ?_
    exact wpAny_execs_nil ⟨.inl rfl, h₂, tk₂, m₂, rfl, F₂, N₂, c₂, k₂⟩
/-- a range short enough for every part of it to be a machine's number -/
theorem small_six {j : Nat} (h : j ≤ 6) : Builtin.Range.rangeSize 0 (j : Int) 1 = (j : Int) ∧ Builtin.Range.small 0 (j : Int) 1 = true := by
  have : j = 0 ∨ j = 1 ∨ j = 2 ∨ j = 3 ∨ j = 4 ∨ j = 5 ∨ j = 6 := by omega
  rcases this with rfl | rfl | rfl | rfl | rfl | rfl | rfl <;> exact ⟨by decide, by decide⟩
set_option maxHeartbeats 1000000 in
theorem outer {L fa : Addr} {cdv : Value} {h₀ : Heap} {m : Str → Option Value} {own : List (Addr × Obj)} {oR : Obj} {rl kl ends opp : Addr} {n : Nat} {rs ks pts ops : Array Value} {nr nk np no : Nat} {aw : Int} {vC : Option Value} {r : Addr} {t u v : Tok} {px : Pos} {Q : Flow → Shared → Prop} {E : Value → Shared → Prop}
    (X : (hd.heap_39 w.params).In h₀)
    (T : Top hd.view_39 (looseW hd.view_39 [Str.ofString "_tuplegetter", Str.ofString "Point", Str.ofString "Orientation"]) mean mg mb h₀)
    (F : Fr h₀ L s.heap m) (N : News h₀ L s.heap own) (hC : s.heap.IsCell (L + 1 + 1 + 1 + 1) vC) (hCo : ∀ p ∈ own, p.1 ≠ L + 1 + 1 + 1 + 1)
    (mK : m (Str.ofString "keys") = some (.ref kl))
    (z1 : (L + 1, oR) ∈ own) (z2 : oR.data = .cell (some (.ref rl)))
    (y1 : (rl, lsObj rs nr) ∈ own) (y2 : (kl, lsObj ks nk) ∈ own) (hn : n ≤ 6) (m7 : (ends, lsObj pts np) ∈ own) (m8 : (opp, lsObj ops no) ∈ own)
    (D : ∀ k, k < n → KDat own ends opp pts ops rs ks aw k)
    (hr : IsRange s.heap r 0 (n : Int) 1 t u v)
    (hh : A.handled = none) (hun : A.units < 3000) (hroom : A.depth < 400)
    (hQ : ∀ h' tk m', Fr h₀ L h' m' → Q .next { s with heap := h', toks := tk }) :
    wpAny (model Challenge.rw_ja0007_01.row.prog w) A (pyIter (.ref r)) (fun it s₂ => codeAny (model Challenge.rw_ja0007_01.row.prog w) A (.forLoop (.Name (Str.ofString "j") px) it jBody [] (envOfC (Str.ofString "law") lawScope L fa cdv))
      (fun r s' => match r with | .ok f => Q f s' | .error e => cameBackBy (model Challenge.rw_ja0007_01.row.prog w) A (envOfC (Str.ofString "law") lawScope L fa cdv) E e s') s₂) E s := by
  obtain ⟨hsz, hsm⟩ := small_six hn
  refine wpAny_pyIter_range hr hsm ?_
  rw [hsz]
  have hI0 := next_is_new F
  have hIL : L ≠ s.heap.objs.size := Nat.ne_of_lt F.ns.lt
  have hIo : ∀ p ∈ own, p.1 ≠ s.heap.objs.size := fun p hp => Nat.ne_of_lt (Heap.lt_size (N p hp).1)
  have hIC : L + 1 + 1 + 1 + 1 ≠ s.heap.objs.size := by obtain ⟨o, e, _⟩ := hC; exact Nat.ne_of_lt (Heap.lt_size e)
  have hC0 : h₀.get? (L + 1 + 1 + 1 + 1) = none := by
    cases e : h₀.get? (L + 1 + 1 + 1 + 1) with
    | none => rfl
    | some o => exact absurd (Nat.lt_of_lt_of_le (Heap.lt_size e) F.above) (L4_nlt L)
  refine rng_loop hh (fun _ h => ∃ m', Fr h₀ L h m' ∧ m' (Str.ofString "keys") = some (.ref kl) ∧ News h₀ L h own ∧ ∃ v, h.IsCell (L + 1 + 1 + 1 + 1) v) ?_ ?_ ?_
    (Heap.get?_push_size _ rfl) ⟨m, F.push _, mK, fun p hp => ⟨Heap.get?_push_of_some _ (N p hp).1, (N p hp).2⟩, vC, hC.keeps fun b o e => Heap.get?_push_of_some _ e⟩
  · rintro i h h' ⟨m', F', b, N', vv, hv⟩ hk
    refine ⟨m', ⟨F'.ns.at' fun o e => hk _ o hIL e, fun b o e => hk b o (fun q => by rw [q, hI0] at e; cases e) (F'.keep b o e), F'.above⟩, b, news_at N' fun p hp o e => hk _ o (hIo p hp) e, vv, ?_⟩
    obtain ⟨o, e, d⟩ := hv
    exact ⟨o, hk _ o hIC e, d⟩
  · rintro j tk h₁ hj ⟨m', F', b, N', vv, hv⟩ hit
    refine wpAny_assign_Name (wpAny_storeName_local rfl F'.ns (fun h₂ hn₂ hs₂ => ?_) rfl)
    have F₂ := F'.set hn₂ hs₂
    have N₂ : News h₀ L h₂ ((s.heap.objs.size, { cls := .type "range_iterator", dict := none, data := .fields #[rawInt ((j : Int) + 1), rawInt ((n : Int) - (j : Int) - 1), rawInt 1], slots := #[] }) :: own) :=
      List.forall_mem_cons.mpr ⟨⟨(hs₂.2 _ (Ne.symm hIL)).trans hit, Ne.symm hIL, hI0⟩, news_at N' fun p hp o e => (hs₂.2 _ (N' p hp).2.1).trans e⟩
    have hC₂ : h₂.IsCell (L + 1 + 1 + 1 + 1) vv := by
      obtain ⟨o, e, d⟩ := hv
      exact ⟨o, (hs₂.2 _ (L4_ne L)).trans e, d⟩
    have sub : ∀ p ∈ own, p ∈ ((s.heap.objs.size, { cls := .type "range_iterator", dict := none, data := .fields #[rawInt ((j : Int) + 1), rawInt ((n : Int) - (j : Int) - 1), rawInt 1], slots := #[] }) :: own) := fun p hp => List.mem_cons_of_mem _ hp
    refine wpAny_mono (jturn (j := j) X T F₂ N₂ hC₂ (List.forall_mem_cons.mpr ⟨Ne.symm hIC, hCo⟩) b rfl (sub _ z1) z2 (sub _ y1) (sub _ y2) hj hn (sub _ m7) (sub _ m8) (fun k hk => (D k hk).mono sub) hh hun hroom) (fun f s₃ h₃ => ?_) fun _ _ e => e
    obtain ⟨hf, h', tk', m₃, rfl, F₃, N₃, c₃, e2⟩ := h₃
    exact ⟨hf, h', tk', rfl, (N₃ _ List.mem_cons_self).1, m₃, F₃, e2, fun p hp => N₃ p (sub p hp), c₃⟩
  · rintro h' tk ⟨m', F', _⟩
    exact hQ h' tk m' F'
end Mine
end
section
open PySem PySem.W PySem.Calls PyProof.Rows
namespace Mine
theorem off_J8B : True := by w_top off; trivial
variable {w : World} {A : Around} {s : Shared} {mg mb : Str → Option Value} {mean : ExcName → Option Value}
local macro_rules | `(tactic| k_mem) => `(tactic| assumption)
local macro_rules | `(tactic| walk_at "eval Name") => `(tactic| (k_here; k_dflt (first
  | (refine' nameX_L ?F ?v ?_ ?a ?b; (case F => k_asm); (case a => rfl); (case b => rfl); (case v => assumption); k_whole)
  | (refine' nameX_C ?N ?c ?m ?d ?_ ?a ?b; (case a => rfl); (case b => rfl); (case N => k_asm); (case c => rfl); (case m => k_mem); (case d => k_asm); k_whole))))
/-- an address that the heap does not hold is new to the ledger -/
theorem fresh_at {h₀ h h' : Heap} {L : Addr} {m : Str → Option Value} {a : Addr} {o : Obj} (F : Fr h₀ L h m) (e : h'.get? a = some o) (n : h.get? a = none) : h'.get? a = some o ∧ a ≠ L ∧ h₀.get? a = none := by
  refine ⟨e, fun q => ?_, ?_⟩
  · obtain ⟨oL, _, _, hL, _⟩ := F.ns
    rw [q, hL] at n; cases n
  · cases e0 : h₀.get? a with
    | none => rfl
    | some o0 => rw [F.keep _ _ e0] at n; cases n
theorem drawn_at {h₀ : Heap} {L : Addr} {m : Str → Option Value} {news : List (Addr × Obj)} {num : Int} {tn : Tok} {Q E : Value → Shared → Prop}
    (F : Fr h₀ L s.heap m) (X : (hd.heap_39 w.params).In h₀)
    (T : Top hd.view_39 (looseW hd.view_39 [Str.ofString "_tuplegetter", Str.ofString "Point", Str.ofString "Orientation"]) mean mg mb h₀)
    (N : News h₀ L s.heap news) (hh : A.handled = none) (hun : A.units < 5000) (hroom : A.depth < 450)
    (h : ∀ h' tk r a b ax ay bx by' t1 t2 t3 t4 n0 n1 n2, RowOk ax ay bx by' → Fr h₀ L h' m → News h₀ L h' ((r, rwObj a b n0) :: (a, prObj ax ay t1 t2 n1) :: (b, prObj bx by' t3 t4 n2) :: news) → Q (.ref r) { s with heap := h', toks := tk }) :
    wpAny (model Challenge.rw_ja0007_01.row.prog w) A (call (.ref 256) [.int num tn]) Q E s :=
  wpAny_call (drawn_fn X T F.keep hh hun hroom fun h' tk r a b ax ay bx by' t1 t2 t3 t4 n0 n1 n2 ok k hq =>
    h h' tk r a b ax ay bx by' t1 t2 t3 t4 n0 n1 n2 ok (fr_kept F k) (List.forall_mem_cons.mpr ⟨fresh_at F (hq _ (.head _)).1 (hq _ (.head _)).2, List.forall_mem_cons.mpr ⟨fresh_at F (hq _ (.tail _ (.head _))).1 (hq _ (.tail _ (.head _))).2, List.forall_mem_cons.mpr ⟨fresh_at F (hq _ (.tail _ (.tail _ (.head _)))).1 (hq _ (.tail _ (.tail _ (.head _)))).2, news_kept N k⟩⟩⟩))
theorem point_at {h₀ : Heap} {L : Addr} {m : Str → Option Value} {news : List (Addr × Obj)} {x y : Int} {tx ty : Tok} {Q E : Value → Shared → Prop}
    (F : Fr h₀ L s.heap m) (X : (hd.heap_39 w.params).In h₀)
    (T : Top hd.view_39 (looseW hd.view_39 [Str.ofString "_tuplegetter", Str.ofString "Point", Str.ofString "Orientation"]) mean mg mb h₀)
    (N : News h₀ L s.heap news) (hh : A.handled = none) (hroom : A.depth < 450)
    (h : ∀ h' tk p dx, Fr h₀ L h' m → News h₀ L h' ((p, ptObj dx x y tx ty 0) :: (dx, emptyDict) :: news) → Q (.ref p) { s with heap := h', toks := tk }) :
    wpAny (model Challenge.rw_ja0007_01.row.prog w) A (call (.ref 132) [.int x tx, .int y ty]) Q E s :=
  wpAny_call (point_fn X T F.keep hh hroom fun h' tk p dx k n1 n2 e1 e2 =>
    h h' tk p dx (fr_kept F k) (List.forall_mem_cons.mpr ⟨fresh_at F e1 n1, List.forall_mem_cons.mpr ⟨fresh_at F e2 n2, news_kept N k⟩⟩))
theorem add_led {h₀ : Heap} {L l b : Addr} {m : Str → Option Value} {news : List (Addr × Obj)} {prog : Program} {xs ys : Array Value} {n n2 : Nat} {Q E : Value → Shared → Prop} (F : Fr h₀ L s.heap m) (N : News h₀ L s.heap news) (m1 : (l, lsObj xs n) ∈ news) (m2 : (b, lsObj ys n2) ∈ news) (hz : xs.size + ys.size ≤ 100)
    (h : ∀ D h', Fr h₀ L h' m → News h₀ L h' ((D, lsObj (xs ++ ys) 0) :: news) → Q (.ref D) { s with heap := h' }) :
    wpAny (model prog w) A (binaryOp .Add (.ref l) (.ref b)) Q E s := by
  refine add_lists (vs := xs.toList) (ws := ys.toList) F N (by rw [Array.toArray_toList]; exact ⟨_, (N _ m1).1, rfl, n, rfl⟩) (by rw [Array.toArray_toList]; exact ⟨_, (N _ m2).1, rfl, n2, rfl⟩) (fun h' F' N' => ?_) (by rw [Array.length_toList, Array.length_toList]; exact Nat.le_trans hz (by decide))
  have e : (xs.toList ++ ys.toList).toArray = xs ++ ys := by simp
  rw [e] at N'
  exact h _ h' F' N'
def NCO (o : Obj) : Prop := ∀ v, o.data ≠ .cell v
theorem off_cell {h₀ h : Heap} {L c : Addr} {all : List (Addr × Obj)} {oR : Obj} {v0 : Option Value} {p : Addr × Obj} (N : News h₀ L h all) (mc : (c, oR) ∈ all) (z2 : oR.data = .cell v0) (hp : p ∈ all) (n : NCO p.2) : p.1 ≠ c := fun q => by
  have e1 := (N _ hp).1
  have e2 := (N _ mc).1
  dsimp only at e2
  rw [q, e2] at e1
  exact n v0 (by rw [← Option.some.inj e1]; exact z2)
/-- a store into a cell, when the ledger is not written out -/
theorem cell_store {M : Model} {env : Env} {name : Str} {c : Addr} {h₀ : Heap} {m : Str → Option Value} {oR : Obj} {v0 : Option Value} {v : Value} {all own : List (Addr × Obj)} {Q : Unit → Shared → Prop} {E : Value → Shared → Prop} (F : Fr h₀ env.locals s.heap m) (N : News h₀ env.locals s.heap all) (mc : (c, oR) ∈ all) (z2 : oR.data = .cell v0)
    (hs : ∀ p ∈ all, p = (c, oR) ∨ p ∈ own ∨ NCO p.2) (hoff : ∀ p ∈ own, p.1 ≠ c) (hsub : ∀ p ∈ own, p ∈ all)
    (h : ∀ h' o' own', Fr h₀ env.locals h' m → News h₀ env.locals h' ((c, o') :: own') → o'.data = .cell (some v) → (∀ p ∈ own, p ∈ own') → (∀ p ∈ own', p ∈ own ∨ NCO p.2) → (∀ p ∈ all, NCO p.2 → p ∈ own') → Q () { s with heap := h' })
    (hk : env.scope.kind = .function) (hl : env.kindOf name = some .cell) (hc : env.cells.lookup name = some c) : wpAny M A (storeName env name v) Q E s := by
  refine wpAny_storeName_cell hk hl hc ⟨oR, (N _ mc).1, z2⟩ fun h' hv hs' => ?_
  obtain ⟨o', e', d'⟩ := hv
  have hcL : c ≠ env.locals := (N _ mc).2.1
  have hc0 : h₀.get? c = none := (N _ mc).2.2
  classical
  refine h h' o' (all.filter fun p => decide (p.1 ≠ c)) ⟨F.ns.sameBut hs' (Ne.symm hcL), fun b ob e => (hs'.2 b (fun q => by rw [q, hc0] at e; cases e)).trans (F.keep b ob e), F.above⟩
    (List.forall_mem_cons.mpr ⟨⟨e', hcL, hc0⟩, fun p hp => ?_⟩) d' (fun p hp => List.mem_filter.mpr ⟨hsub p hp, by simpa using hoff p hp⟩) (fun p hp => ?_) fun p hp n => List.mem_filter.mpr ⟨hp, by simpa using off_cell N mc z2 hp n⟩
  · obtain ⟨hp1, hp2⟩ := List.mem_filter.mp hp
    have hne : p.1 ≠ c := by simpa using hp2
    exact ⟨(hs'.2 _ hne).trans (N p hp1).1, (N p hp1).2⟩
  · obtain ⟨hp1, hp2⟩ := List.mem_filter.mp hp
    have hne : p.1 ≠ c := by simpa using hp2
    rcases hs p hp1 with rfl | q | q
    · exact absurd rfl hne
    · exact .inl q
    · exact .inr q
def RowAt (own : List (Addr × Obj)) (v : Value) (c : Int × Int × Int × Int) : Prop :=
  ∃ r a b n1 n2 n3 g1 g2 g3 g4, v = .ref r ∧ (r, rwObj a b n1) ∈ own ∧ (a, prObj c.1 c.2.1 g1 g2 n2) ∈ own ∧ (b, prObj c.2.2.1 c.2.2.2 g3 g4 n3) ∈ own ∧ RowOk c.1 c.2.1 c.2.2.1 c.2.2.2
def rBody : List Stmt := forBody (nthS lawBody 2)
theorem rBody_is : rBody = rBody := rfl
/-- what a turn of the first loop leaves -/
def RowsEnd (h₀ : Heap) (L : Addr) (m : Str → Option Value) (own : List (Addr × Obj)) (rs : Array Value) (s : Shared) (f : Flow) (s' : Shared) : Prop :=
  f = .next ∧ ∃ h' tk oR rl nr own' v1 v2 c1 c2, s' = { s with heap := h', toks := tk } ∧ Fr h₀ L h' m ∧ News h₀ L h' ((L + 1, oR) :: own') ∧ oR.data = .cell (some (.ref rl)) ∧ (rl, lsObj (rs ++ #[v1, v2]) nr) ∈ own' ∧
    RowAt own' v1 c1 ∧ RowAt own' v2 c2 ∧ (∀ p ∈ own, p ∈ own') ∧ ∀ p ∈ own', p ∈ own ∨ NCO p.2
theorem rows_end {h₀ h' : Heap} {L : Addr} {m : Str → Option Value} {own own' : List (Addr × Obj)} {rs : Array Value} {tk : Nat} {oR : Obj} {rl r1 r2 a1 a2 b1 b2 : Addr} {nr n1 n2 n3 n4 n5 n6 : Nat} {ax ay bx by' cx cy dx dy : Int} {g1 g2 g3 g4 g5 g6 g7 g8 : Tok} {f : Flow} (hf : f = .next) (F : Fr h₀ L h' m) (N : News h₀ L h' ((L + 1, oR) :: own')) (d : oR.data = .cell (some (.ref rl))) (m0 : (rl, lsObj (rs ++ #[.ref r1, .ref r2]) nr) ∈ own')
    (m1 : (r1, rwObj a1 b1 n1) ∈ own') (m2 : (a1, prObj ax ay g1 g2 n2) ∈ own') (m3 : (b1, prObj bx by' g3 g4 n3) ∈ own') (m4 : (r2, rwObj a2 b2 n4) ∈ own') (m5 : (a2, prObj cx cy g5 g6 n5) ∈ own') (m6 : (b2, prObj dx dy g7 g8 n6) ∈ own') (k1 : RowOk ax ay bx by') (k2 : RowOk cx cy dx dy)
    (s9 : ∀ p ∈ own, p ∈ own') (n9 : ∀ p ∈ own', p ∈ own ∨ NCO p.2) : RowsEnd h₀ L m own rs s f { s with heap := h', toks := tk } :=
  ⟨hf, h', tk, oR, rl, nr, own', .ref r1, .ref r2, (ax, ay, bx, by'), (cx, cy, dx, dy), rfl, F, N, d, m0, ⟨r1, a1, b1, _, _, _, _, _, _, _, rfl, m1, m2, m3, k1⟩, ⟨r2, a2, b2, _, _, _, _, _, _, _, rfl, m4, m5, m6, k2⟩, s9, n9⟩
local macro_rules | `(tactic| walk_at "call ref") => `(tactic| (k_here; (with_reducible show wpAny _ _ (call (Value.ref 256) [Value.int _ _] _) _ _ _); k_dflt (refine' drawn_at ?F ?X ?T ?N ?hh ?u ?r ?_; (case F => k_asm); (case X => k_asm); (case T => k_asm); (case N => k_asm); (case hh => exact rfl); (case u => (simp only [Around.deeper_units]; omega)); (case r => (simp only [depth_under_make, depth_under_kw, depth_in1, depth_deeper]; omega)); k_whole; intro h' tk' r' a' b' ax' ay' bx' by' t1' t2' t3' t4' n0' n1' n2' ok' F' N'; (try k_sweep); (try dsimp only))))
local macro_rules | `(tactic| walk_at "binaryOp Add ref ref") => `(tactic| (k_here; (with_reducible show wpAny _ _ (binaryOp _ (Value.ref _) (Value.ref _)) _ _ _); k_dflt (refine' add_led ?F ?N ?m1 ?m2 ?z ?_; (case F => k_asm); (case N => k_asm); (case m1 => k_mem); (case m2 => k_mem); (case z => (simp only [List.size_toArray, List.length_cons, List.length_nil]; omega))); intro D' h' F' N'; (try k_sweep)))
set_option maxHeartbeats 1000000 in
theorem rturn {L fa : Addr} {cdv : Value} {h₀ : Heap} {m : Str → Option Value} {own : List (Addr × Obj)} {oR : Obj} {rl : Addr} {rs : Array Value} {nr : Nat} {z : Int} {tz : Tok}
    (X : (hd.heap_39 w.params).In h₀)
    (T : Top hd.view_39 (looseW hd.view_39 [Str.ofString "_tuplegetter", Str.ofString "Point", Str.ofString "Orientation"]) mean mg mb h₀)
    (F : Fr h₀ L s.heap m) (N : News h₀ L s.heap ((L + 1, oR) :: own)) (hoff : ∀ p ∈ own, p.1 ≠ L + 1)
    (mN : m (Str.ofString "number") = some (.int z tz))
    (z2 : oR.data = .cell (some (.ref rl))) (y1 : (rl, lsObj rs nr) ∈ own) (hsz : rs.size ≤ 6)
    (hh : A.handled = none) (hun : A.units < 3000) (hroom : A.depth < 400) :
    wpAny (model Challenge.rw_ja0007_01.row.prog w) A (execs rBody (envOfC (Str.ofString "law") lawScope L fa cdv)) (RowsEnd h₀ L m own rs s) (fun _ _ => False) s := by
  obtain ⟨ah, dep, fra, gua, uni⟩ := A
  cases hh
  dsimp only at hun hroom
  have eB := rBody_is
  conv at eB => rhs; whnf
  rw [eB]
  clear eB
  revert X; k_fill; intro X
  show wpAny _ _ _ _ _ _
  k_fold
  k_steps
  all_goals repeat (first | (k_unfold; (try dsimp only)) | dsimp only)
  refine' cell_store (own := own) ?F ?N ?mc z2 ?hs hoff ?sub ?_ rfl rfl rfl
  case F => assumption
  case N => assumption
  case mc => k_mem
  case hs => ((repeat (first | exact fun p hp => Or.inr (Or.inl hp) | (refine List.forall_mem_cons.mpr (And.intro (by first | exact Or.inl rfl | exact Or.inr (Or.inr (by intro v h; cases h))) ?_)))))
  case sub => (exact fun q hq => by repeat (first | exact hq | refine List.mem_cons_of_mem _ ?_))
  intro h9 o9 own9 F9 N9 d9 s9 n9 k9
  refine wpAny_execs_nil ?_
  k_unfold
  refine' rows_end rfl F9 N9 d9 (k9 _ ?m0 (by ((intro v h; cases h)))) (k9 _ ?m1 (by ((intro v h; cases h)))) (k9 _ ?m2 (by ((intro v h; cases h)))) (k9 _ ?m3 (by ((intro v h; cases h)))) (k9 _ ?m4 (by ((intro v h; cases h)))) (k9 _ ?m5 (by ((intro v h; cases h)))) (k9 _ ?m6 (by ((intro v h; cases h)))) ?k1 ?k2 s9 n9
  case m0 => k_mem
  case m1 => k_mem
  case m2 => k_mem
  case m3 => k_mem
  case m4 => k_mem
  case m5 => k_mem
  case m6 => k_mem
  case k1 => assumption
  case k2 => assumption
end Mine
end
section
open PySem PySem.W PySem.Calls PyProof.Rows
namespace Mine
theorem off_J8C : True := by w_top off; trivial
variable {w : World} {A : Around} {s : Shared} {mg mb : Str → Option Value} {mean : ExcName → Option Value}
local macro_rules | `(tactic| k_mem) => `(tactic| assumption)
local macro_rules | `(tactic| walk_at "eval Name") => `(tactic| (k_here; k_dflt (first
  | (refine' nameX_L ?F ?v ?_ ?a ?b; (case F => k_asm); (case a => rfl); (case b => rfl); (case v => assumption); k_whole)
  | (refine' nameX_C ?N ?c ?m ?d ?_ ?a ?b; (case a => rfl); (case b => rfl); (case N => k_asm); (case c => rfl); (case m => k_mem); (case d => k_asm); k_whole))))
def PtAt (own : List (Addr × Obj)) (v : Value) (x y : Int) : Prop := ∃ p d t1 t2 l, v = .ref p ∧ (p, ptObj d x y t1 t2 l) ∈ own ∧ (d, emptyDict) ∈ own
/-- what a point's turn leaves -/
def PtEnd (h₀ : Heap) (L : Addr) (m : Str → Option Value) (own : List (Addr × Obj)) (el : Addr) (pts : Array Value) (x y : Int) (s : Shared) (f : Flow) (s' : Shared) : Prop :=
  f = .next ∧ ∃ h' tk np v ne, s' = { s with heap := h', toks := tk } ∧ Fr h₀ L h' m ∧ News h₀ L h' ((el, lsObj (pts.push v) np) :: (ne ++ own)) ∧ PtAt ne v x y ∧ ∀ p ∈ ne, NCO p.2 ∧ p.1 ≠ el ∧ p.2.cls ≠ .type "list_iterator"
theorem off_obj {h₀ h : Heap} {L a b : Addr} {all : List (Addr × Obj)} {o o' : Obj} (N : News h₀ L h all) (m1 : (a, o) ∈ all) (m2 : (b, o') ∈ all) (n : o ≠ o') : a ≠ b := fun q => by
  have e1 := (N _ m1).1
  have e2 := (N _ m2).1
  dsimp only at e1 e2
  rw [q, e2] at e1
  exact n (Option.some.inj e1).symm
def kBody : List Stmt := forBody (nthS lawBody 5)
def eBody : List Stmt := forBody (nthS kBody 0)
theorem eBody_is : eBody = eBody := rfl
theorem kBody_is : kBody = kBody := rfl
local macro_rules | `(tactic| walk_at "call ref") => `(tactic| (k_here; (with_reducible show wpAny _ _ (call (Value.ref 132) [Value.int _ _, Value.int _ _] _) _ _ _); k_dflt (refine' point_at ?F ?X ?T ?N ?hh ?r ?_; (case F => k_asm); (case X => k_asm); (case T => k_asm); (case N => k_asm); (case hh => exact rfl); (case r => (simp only [depth_under_make, depth_under_kw, depth_in1, depth_deeper]; omega)); k_whole; intro h' tk' p' dx' F' N'; (try k_sweep); (try dsimp only))))
set_option maxHeartbeats 1000000 in
theorem eturn {L fa : Addr} {cdv : Value} {h₀ : Heap} {m : Str → Option Value} {own : List (Addr × Obj)} {oE : Obj} {el a : Addr} {pts : Array Value} {np n1 : Nat} {x y aw : Int} {t1 t2 ta : Tok}
    (X : (hd.heap_39 w.params).In h₀)
    (T : Top hd.view_39 (looseW hd.view_39 [Str.ofString "_tuplegetter", Str.ofString "Point", Str.ofString "Orientation"]) mean mg mb h₀)
    (F : Fr h₀ L s.heap m) (N : News h₀ L s.heap ((el, lsObj pts np) :: own)) (hoff : ∀ p ∈ own, p.1 ≠ el)
    (mE : m (Str.ofString "end") = some (.ref a)) (mA : m (Str.ofString "away") = some (.int aw ta))
    (z1 : (L + 1 + 1, oE) ∈ own) (z2 : oE.data = .cell (some (.ref el))) (y1 : (a, prObj x y t1 t2 n1) ∈ own) (hsz : pts.size ≤ 12)
    (hh : A.handled = none) (hun : A.units < 3000) (hroom : A.depth < 400) :
    wpAny (model Challenge.rw_ja0007_01.row.prog w) A (execs eBody (envOfC (Str.ofString "law") lawScope L fa cdv)) (PtEnd h₀ L m own el pts (x + aw) (y - aw) s) (fun _ _ => False) s := by
  obtain ⟨ah, dep, fra, gua, uni⟩ := A
  cases hh
  dsimp only at hun hroom
  have eB := eBody_is
  conv at eB => rhs; whnf
  rw [eB]
  clear eB
  revert X; k_fill; intro X
  show wpAny _ _ _ _ _ _
  k_fold
  k_steps
  all_goals repeat (first | (k_unfold; (try dsimp only)) | dsimp only)
  rename_i h8 tk8 p8 dx8 F8 N8
  have n1 := off_obj N8 (.head _) (.tail _ (.tail _ (.head _))) (fun q => by cases q)
  have n2 := off_obj N8 (.tail _ (.head _)) (.tail _ (.tail _ (.head _))) (fun q => by have q2 := congrArg Obj.data q; cases q2)
  refine append_K F8 N8 (.tail n1 (.tail n2 (.head hoff))) (fun h9 F9 N9 => ?_) (Nat.le_trans hsz (by decide))
  refine wpAny_execs_nil ?_
  k_unfold
  refine ⟨rfl, h9, _, np + 1, .ref p8, [(p8, ptObj dx8 (x + aw) (y - aw) (s.toks + 1) (s.toks + 1 + 1 + 1) 0), (dx8, emptyDict)], rfl, F9, ?_, ⟨p8, dx8, _, _, _, rfl, .head _, .tail _ (.head _)⟩, ?_⟩
  · exact List.forall_mem_cons.mpr ⟨N9 _ (.tail _ (.tail _ (.head _))), List.forall_mem_cons.mpr ⟨N9 _ (.head _), List.forall_mem_cons.mpr ⟨N9 _ (.tail _ (.head _)), fun p hp => N9 p (.tail _ (.tail _ (.tail _ hp)))⟩⟩⟩
  · exact List.forall_mem_cons.mpr ⟨⟨by ((intro v h; cases h)), n1, fun q => by cases q⟩, List.forall_mem_cons.mpr ⟨⟨by ((intro v h; cases h)), n2, fun q => absurd (Value.type.inj q) (by decide)⟩, List.forall_mem_nil _⟩⟩
/-- a for over a list that stands, by an invariant that the iterator's own object does not touch -/
theorem lst_loop {prog : Program} {R : Result → Shared → Prop} {x : Str} {px : Pos} {body : List Stmt} {env : Env} {I l : Addr} {items : Array Value} (hh : A.handled = none) (Inv : Nat → Heap → Prop)
    (hl : ∀ i h, Inv i h → h.IsList l items)
    (keep : ∀ i h h', Inv i h → (∀ b o, b ≠ I → h.get? b = some o → h'.get? b = some o) → Inv i h')
    (step : ∀ i tk h₁ v, items[i]? = some v → Inv i h₁ → h₁.IsListIter I l (i + 1) → wpAny (model prog w) A (assign (.Name x px) env v) (fun _ s₂ => wpAny (model prog w) A (execs body env)
      (fun f s₃ => (f = .next ∨ f = .cont) ∧ ∃ h' tk', s₃ = { s with heap := h', toks := tk' } ∧ h'.IsListIter I l (i + 1) ∧ Inv (i + 1) h') (fun _ _ => False) s₂) (fun _ _ => False) { s with heap := h₁, toks := tk })
    (done : ∀ h' tk, Inv items.size h' → R (.ok .next) { s with heap := h', toks := tk })
    (hit : s.heap.IsListIter I l 0) (h0 : Inv 0 s.heap) : codeAny (model prog w) A (.forLoop (.Name x px) (.ref I) body [] env) R s := by
  refine codeAny_forLoop (fun k s' => ∃ h' tk i, s' = { s with heap := h', toks := tk } ∧ h'.IsListIter I l i ∧ Inv i h' ∧ i ≤ items.size ∧ k = items.size + 1 - i) ?_ (items.size + 1) ⟨s.heap, s.toks, 0, rfl, hit, h0, Nat.zero_le _, rfl⟩
  rintro k s' ⟨h', tk, i, rfl, hit', hI, hi, rfl⟩
  by_cases hlt : i < items.size
  · refine wpAny_pyNext_list_item hit' (hl _ _ hI) (Array.getElem?_eq_getElem hlt) fun h₁ hit₁ hs₁ => ?_
    refine wpAny_mono (step i _ h₁ _ (Array.getElem?_eq_getElem hlt) (keep _ _ _ hI fun b o hb e => hs₁.extBut b o hb e) hit₁) (fun _ s₂ h₂ => wpAny_mono h₂ (fun f s₃ h₃ => ?_) fun _ _ e => e.elim) fun _ _ e => e.elim
    obtain ⟨hf, h₃', tk₃, rfl, hit₃, hI₃⟩ := h₃
    have fin : ∃ m, m < items.size + 1 - i ∧ ∃ h' tk i', ({ s with heap := h₃', toks := tk₃ } : Shared) = { s with heap := h', toks := tk } ∧ h'.IsListIter I l i' ∧ Inv i' h' ∧ i' ≤ items.size ∧ m = items.size + 1 - i' :=
      ⟨items.size + 1 - (i + 1), by omega, h₃', tk₃, i + 1, rfl, hit₃, hI₃, hlt, rfl⟩
    rcases hf with rfl | rfl
    · exact fin
    · exact fin
  · have hin : i = items.size := by omega
    subst hin
    refine wpAny_pyNext_list_end hh hit' (hl _ _ hI) (Array.getElem?_eq_none (Nat.le_refl _)) fun h₁ he₁ => wpAny_execs_nil ?_
    exact done h₁ tk (keep _ _ _ hI he₁)
end Mine
end
section
open PySem PySem.W PySem.Calls PyProof.Rows
namespace Mine
theorem off_J8D : True := by w_top off; trivial
variable {w : World} {A : Around} {s : Shared} {mg mb : Str → Option Value} {mean : ExcName → Option Value}
local macro_rules | `(tactic| k_mem) => `(tactic| assumption)
local macro_rules | `(tactic| walk_at "eval Name") => `(tactic| (k_here; k_dflt (first
  | (refine' nameX_L ?F ?v ?_ ?a ?b; (case F => k_asm); (case a => rfl); (case b => rfl); (case v => assumption); k_whole)
  | (refine' nameX_C ?N ?c ?m ?d ?_ ?a ?b; (case a => rfl); (case b => rfl); (case N => k_asm); (case c => rfl); (case m => k_mem); (case d => k_asm); k_whole))))
theorem PtAt.mono {own own' : List (Addr × Obj)} {v : Value} {x y : Int} (h : PtAt own v x y) (hs : ∀ p ∈ own, p ∈ own') : PtAt own' v x y := by
  obtain ⟨p, d, t1, t2, l, e, a, b⟩ := h
  exact ⟨p, d, t1, t2, l, e, hs _ a, hs _ b⟩
def pick (i : Nat) (a b : Int) : Int := if i = 0 then a else b
set_option maxHeartbeats 1000000 in
theorem eloop {L fa : Addr} {cdv : Value} {h₀ : Heap} {m : Str → Option Value} {own : List (Addr × Obj)} {oE : Obj} {el r a b : Addr} {pts : Array Value} {np n0 n1 n2 : Nat} {ax ay bx by' aw : Int} {t1 t2 t3 t4 ta : Tok} {px : Pos} {Q : Flow → Shared → Prop} {E : Value → Shared → Prop}
    (X : (hd.heap_39 w.params).In h₀)
    (T : Top hd.view_39 (looseW hd.view_39 [Str.ofString "_tuplegetter", Str.ofString "Point", Str.ofString "Orientation"]) mean mg mb h₀)
    (F : Fr h₀ L s.heap m) (N : News h₀ L s.heap ((el, lsObj pts np) :: own)) (hoff : ∀ p ∈ own, p.1 ≠ el)
    (mA : m (Str.ofString "away") = some (.int aw ta))
    (z1 : (L + 1 + 1, oE) ∈ own) (z2 : oE.data = .cell (some (.ref el))) (y0 : (r, rwObj a b n0) ∈ own) (y1 : (a, prObj ax ay t1 t2 n1) ∈ own) (y2 : (b, prObj bx by' t3 t4 n2) ∈ own) (hsz : pts.size ≤ 10)
    (hh : A.handled = none) (hun : A.units < 3000) (hroom : A.depth < 400)
    (hQ : ∀ h' tk m' np' v1 v2 ne, Fr h₀ L h' m' → (∀ y, y ≠ Str.ofString "end" → m' y = m y) → News h₀ L h' ((el, lsObj ((pts.push v1).push v2) np') :: (ne ++ own)) → PtAt ne v1 (ax + aw) (ay - aw) → PtAt ne v2 (bx + aw) (by' - aw) → (∀ p ∈ ne, NCO p.2 ∧ p.1 ≠ el) → Q .next { s with heap := h', toks := tk }) :
    wpAny (model Challenge.rw_ja0007_01.row.prog w) A (pyIter (.ref r)) (fun it s₂ => codeAny (model Challenge.rw_ja0007_01.row.prog w) A (.forLoop (.Name (Str.ofString "end") px) it eBody [] (envOfC (Str.ofString "law") lawScope L fa cdv))
      (fun r s' => match r with | .ok f => Q f s' | .error e => cameBackBy (model Challenge.rw_ja0007_01.row.prog w) A (envOfC (Str.ofString "law") lawScope L fa cdv) E e s') s₂) E s := by
  have hls : s.heap.IsList r #[.ref a, .ref b] := ⟨_, (N _ (.tail _ y0)).1, rfl, n0, rfl⟩
  refine wpAny_pyIter_list hls ?_
  have hI0 := next_is_new F
  have hIL : L ≠ s.heap.objs.size := Nat.ne_of_lt F.ns.lt
  have hIo : ∀ p ∈ own, p.1 ≠ s.heap.objs.size := fun p hp => Nat.ne_of_lt (Heap.lt_size (N p (.tail _ hp)).1)
  have hIE : el ≠ s.heap.objs.size := Nat.ne_of_lt (Heap.lt_size (N _ (.head _)).1)
  generalize hI : s.heap.objs.size = I at *
  refine lst_loop (l := r) (items := #[.ref a, .ref b]) hh (fun i h => ∃ m' np' vs ne, Fr h₀ L h m' ∧ (∀ y, y ≠ Str.ofString "end" → m' y = m y) ∧ News h₀ L h ((el, lsObj (pts.toList ++ vs).toArray np') :: (ne ++ own)) ∧ vs.length = i ∧
      (∀ j v, vs[j]? = some v → PtAt ne v (pick j ax bx + aw) (pick j ay by' - aw)) ∧ ∀ p ∈ ne, NCO p.2 ∧ p.1 ≠ el ∧ p.1 ≠ I) ?_ ?_ ?_ ?_
    ⟨_, by rw [← hI]; exact Heap.get?_push_size _ rfl, rfl, rfl⟩ ⟨m, np, [], [], F.push _, fun _ _ => rfl, fun p hp => ?_, rfl, fun j v e => by simp at e, fun p hp => by cases hp⟩
  · rintro i h ⟨m', np', vs, ne, F', _, N', _⟩
    exact ⟨_, (N' _ (.tail _ (List.mem_append_right _ y0))).1, rfl, n0, rfl⟩
  · rintro i h h' ⟨m', np', vs, ne, F', ag, N', e1, e2, e3⟩ hk
    refine ⟨m', np', vs, ne, ⟨F'.ns.at' fun o e => hk _ o hIL e, fun b o e => hk b o (fun q => by rw [q, hI0] at e; cases e) (F'.keep b o e), F'.above⟩, ag, news_at N' fun p hp o e => hk _ o ?_ e, e1, e2, e3⟩
    rcases List.mem_cons.mp hp with rfl | hp
    · exact hIE
    · rcases List.mem_append.mp hp with hp | hp
      · exact (e3 p hp).2.2
      · exact hIo p hp
  · rintro i tk h₁ v hv ⟨m', np', vs, ne, F', ag, N', e1, e2, e3⟩ hit
    obtain ⟨oI, eI, cI, dI⟩ := hit
    have hi2 : i = 0 ∨ i = 1 := by
      have : i < 2 := by
        rcases Nat.lt_or_ge i 2 with q | q
        · exact q
        · rw [Array.getElem?_eq_none (by simpa using q)] at hv; cases hv
      omega
    obtain ⟨c, x, y, tx, ty, nn, hv', hc, hx, hy⟩ : ∃ c x y tx ty nn, v = .ref c ∧ (c, prObj x y tx ty nn) ∈ own ∧ x = pick i ax bx ∧ y = pick i ay by' := by
      rcases hi2 with rfl | rfl
      · exact ⟨a, ax, ay, t1, t2, n1, (Option.some.inj hv).symm, y1, rfl, rfl⟩
      · exact ⟨b, bx, by', t3, t4, n2, (Option.some.inj hv).symm, y2, rfl, rfl⟩
    subst hv'
    have hsz' : (pts.toList ++ vs).toArray.size ≤ 12 := by
      simp only [List.size_toArray, List.length_append, Array.length_toList]
      omega
    refine wpAny_assign_Name (wpAny_storeName_local rfl F'.ns (fun h₂ hn₂ hs₂ => ?_) rfl)
    have F₂ := F'.set hn₂ hs₂
    have N₂ : News h₀ L h₂ ((el, lsObj (pts.toList ++ vs).toArray np') :: ((I, oI) :: (ne ++ own))) := by
      refine List.forall_mem_cons.mpr ⟨?_, List.forall_mem_cons.mpr ⟨⟨(hs₂.2 _ (Ne.symm hIL)).trans eI, Ne.symm hIL, hI0⟩, fun p hp => ?_⟩⟩
      · have q := N' _ (.head _)
        exact ⟨(hs₂.2 _ q.2.1).trans q.1, q.2⟩
      · have q := N' _ (.tail _ hp)
        exact ⟨(hs₂.2 _ q.2.1).trans q.1, q.2⟩
    have off₂ : ∀ p ∈ ((I, oI) :: (ne ++ own)), p.1 ≠ el := List.forall_mem_cons.mpr ⟨Ne.symm hIE, fun p hp => by
      rcases List.mem_append.mp hp with hp | hp
      · exact (e3 p hp).2.1
      · exact hoff p hp⟩
    have sub : ∀ p ∈ own, p ∈ ((I, oI) :: (ne ++ own)) := fun p hp => .tail _ (List.mem_append_right _ hp)
    have nA : (Str.ofString "away" : Str) ≠ Str.ofString "end" := by decide
    refine wpAny_mono (eturn (x := x) (y := y) (aw := aw) (ta := ta) X T F₂ N₂ off₂ (if_pos rfl) (by show (if _ then _ else _) = _; rw [if_neg nA, ag _ nA]; exact mA) (sub _ z1) z2 (sub _ hc) hsz' hh hun hroom) (fun f s₃ h₃ => ?_) fun _ _ e => e
    obtain ⟨rfl, h', tk', np₃, v₃, ne₃, rfl, F₃, N₃, P₃, q₃⟩ := h₃
    have gI := N₃ (I, oI) (.tail _ (List.mem_append_right _ (.head _)))
    refine ⟨.inl rfl, h', tk', rfl, ⟨oI, gI.1, cI, dI⟩, _, np₃, vs ++ [v₃], ne₃ ++ ne, F₃, fun y hy => (if_neg hy).trans (ag y hy), ?_, by simp [e1], ?_, ?_⟩
    · have e : ((pts.toList ++ vs).toArray.push v₃) = (pts.toList ++ (vs ++ [v₃])).toArray := by simp
      rw [e] at N₃
      refine List.forall_mem_cons.mpr ⟨N₃ _ (.head _), fun p hp => N₃ p (.tail _ ?_)⟩
      rw [List.append_assoc] at hp
      rcases List.mem_append.mp hp with hp | hp
      · exact List.mem_append_left _ hp
      · exact List.mem_append_right _ (.tail _ hp)
    · intro j v hj
      by_cases hlt : j < vs.length
      · rw [List.getElem?_append_left hlt] at hj
        exact (e2 j v hj).mono fun p hp => List.mem_append_right _ hp
      · have hje : j = vs.length := by
          have : j < (vs ++ [v₃]).length := by
            rcases Nat.lt_or_ge j (vs ++ [v₃]).length with q | q
            · exact q
            · rw [List.getElem?_eq_none q] at hj; cases hj
          simp at this
          omega
        subst hje
        have : v = v₃ := by simpa using hj.symm
        subst this
        rw [e1, ← hx, ← hy]
        exact P₃.mono fun p hp => List.mem_append_left _ hp
    · intro p hp
      rcases List.mem_append.mp hp with hp | hp
      · refine ⟨(q₃ p hp).1, (q₃ p hp).2.1, fun q => ?_⟩
        have g1 := (N₃ p (.tail _ (List.mem_append_left _ hp))).1
        rw [q, gI.1] at g1
        exact (q₃ p hp).2.2 (by rw [← Option.some.inj g1]; exact cI)
      · exact e3 p hp
  · rintro h' tk ⟨m', np', vs, ne, F', ag, N', e1, e2, e3⟩
    obtain ⟨v1, v2, rfl⟩ : ∃ v1 v2, vs = [v1, v2] := by
      rcases vs with _ | ⟨v1, _ | ⟨v2, _ | _⟩⟩ <;> simp at e1
      exact ⟨v1, v2, rfl⟩
    have e : (pts.toList ++ [v1, v2]).toArray = (pts.push v1).push v2 := by
      rw [← Array.toArray_toList (xs := (pts.push v1).push v2)]; simp
    rw [e] at N'
    exact hQ h' tk m' np' v1 v2 ne F' ag N' (e2 0 v1 rfl) (e2 1 v2 rfl) fun p hp => ⟨(e3 p hp).1, (e3 p hp).2.1⟩
  · rw [List.append_nil, Array.toArray_toList] at hp
    exact ⟨Heap.get?_push_of_some _ (N p hp).1, (N p hp).2⟩
end Mine
end
section
open PySem PySem.W PySem.Calls PyProof.Rows
namespace Mine
theorem off_J8E : True := by w_top off; trivial
local macro_rules | `(tactic| walk_at "MINE pad") => `(tactic| skip)
variable {w : World} {A : Around} {s : Shared} {mg mb : Str → Option Value} {mean : ExcName → Option Value}
local macro_rules | `(tactic| k_mem) => `(tactic| assumption)
local macro_rules | `(tactic| walk_at "eval Name") => `(tactic| (k_here; k_dflt (first
  | (refine' nameX_L ?F ?v ?_ ?a ?b; (case F => k_asm); (case a => rfl); (case b => rfl); (case v => assumption); k_whole)
  | (refine' nameX_C ?N ?c ?m ?d ?_ ?a ?b; (case a => rfl); (case b => rfl); (case N => k_asm); (case c => rfl); (case m => k_mem); (case d => k_asm); k_whole))))
local macro_rules | `(tactic| walk_at "binaryOp Add ref ref") => `(tactic| (k_here; (with_reducible show wpAny _ _ (binaryOp _ (Value.ref _) (Value.ref _)) _ _ _); k_dflt (refine' add_led ?F ?N ?m1 ?m2 ?z ?_; (case F => k_asm); (case N => k_asm); (case m1 => k_mem); (case m2 => k_mem); (case z => (simp only [List.size_toArray, List.length_cons, List.length_nil]; omega))); intro D' h' F' N'; (try k_sweep)))
def oBody : List Stmt := kBody.drop 1
theorem oBody_is : oBody = oBody := rfl
set_option maxHeartbeats 1000000 in
theorem oturn {L fa : Addr} {cdv : Value} {h₀ : Heap} {m : Str → Option Value} {all own : List (Addr × Obj)} {oO : Obj} {ol : Addr} {ops : Array Value} {no : Nat} {k : Int} {tk : Tok} {Q : Flow → Shared → Prop} {E : Value → Shared → Prop}
    (X : (hd.heap_39 w.params).In h₀)
    (T : Top hd.view_39 (looseW hd.view_39 [Str.ofString "_tuplegetter", Str.ofString "Point", Str.ofString "Orientation"]) mean mg mb h₀)
    (F : Fr h₀ L s.heap m) (N : News h₀ L s.heap all) (z1 : (L + 1 + 1 + 1, oO) ∈ all) (z2 : oO.data = .cell (some (.ref ol))) (y1 : (ol, lsObj ops no) ∈ all)
    (mk : m (Str.ofString "k") = some (.int k tk)) (hs : ∀ p ∈ all, p = (L + 1 + 1 + 1, oO) ∨ p ∈ own ∨ NCO p.2) (hoff : ∀ p ∈ own, p.1 ≠ L + 1 + 1 + 1) (hsub : ∀ p ∈ own, p ∈ all) (hsz : ops.size ≤ 10)
    (hh : A.handled = none) (hun : A.units < 3000) (hroom : A.depth < 400)
    (hQ : ∀ h' tk' o' ol' w1 w2 no' own', Fr h₀ L h' m → News h₀ L h' ((L + 1 + 1 + 1, o') :: own') → o'.data = .cell (some (.ref ol')) → (ol', lsObj (ops ++ #[.int (2 * k + 1) w1, .int (2 * k) w2]) no') ∈ own' → (∀ p ∈ own, p ∈ own') → (∀ p ∈ own', p ∈ own ∨ NCO p.2) → (∀ p ∈ all, NCO p.2 → p ∈ own') → Q .next { s with heap := h', toks := tk' }) :
    wpAny (model Challenge.rw_ja0007_01.row.prog w) A (execs oBody (envOfC (Str.ofString "law") lawScope L fa cdv)) Q E s := by
  obtain ⟨ah, dep, fra, gua, uni⟩ := A
  cases hh
  dsimp only at hun hroom
  have eB := oBody_is
  conv at eB => rhs; whnf
  rw [eB]
  clear eB
  revert X; k_fill; intro X
  show wpAny _ _ _ _ _ _
  try k_fold
  k_steps
  all_goals repeat (first | (k_unfold; (try dsimp only)) | dsimp only)
  rename_i l8 h8 q8 D8 h88 F8 N8
  refine' cell_store (own := own) F8 N8 (.tail _ (.tail _ z1)) z2 ?hs hoff (fun p hp => .tail _ (.tail _ (hsub p hp))) ?_ rfl rfl rfl
  case hs => exact List.forall_mem_cons.mpr ⟨.inr (.inr (by ((intro v h; cases h)))), List.forall_mem_cons.mpr ⟨.inr (.inr (by ((intro v h; cases h)))), hs⟩⟩
  intro h9 o9 own9 F9 N9 d9 s9 n9 k9
  refine wpAny_execs_nil ?_
  exact hQ h9 _ o9 _ _ _ _ own9 F9 N9 d9 (k9 _ (.head _) (by ((intro v h; cases h)))) s9 n9 fun p hp => k9 p (.tail _ (.tail _ hp))
/-- what a segment's turn leaves -/
def KEnd (h₀ : Heap) (L : Addr) (m : Str → Option Value) (own : List (Addr × Obj)) (el : Addr) (pts ops : Array Value) (aw : Int) (k : Nat) (c : Int × Int × Int × Int) (s : Shared) (f : Flow) (s' : Shared) : Prop :=
  f = .next ∧ ∃ h' tk m' np v1 v2 oO ol no w1 w2 own', s' = { s with heap := h', toks := tk } ∧ Fr h₀ L h' m' ∧ (∀ y, y ≠ Str.ofString "end" → m' y = m y) ∧ News h₀ L h' ((el, lsObj ((pts.push v1).push v2) np) :: (L + 1 + 1 + 1, oO) :: own') ∧
    oO.data = .cell (some (.ref ol)) ∧ (ol, lsObj (ops ++ #[.int ((2 * k + 1 : Nat) : Int) w1, .int ((2 * k : Nat) : Int) w2]) no) ∈ own' ∧ PtAt own' v1 (c.1 + aw) (c.2.1 - aw) ∧ PtAt own' v2 (c.2.2.1 + aw) (c.2.2.2 - aw) ∧
    (∀ p ∈ own, p ∈ own') ∧ (∀ p ∈ own', p ∈ own ∨ NCO p.2) ∧ ∀ p ∈ own', p.1 ≠ el
end Mine
end
section
open PySem PySem.W PySem.Calls PyProof.Rows
namespace Mine
theorem off_J8F : True := by w_top off; trivial
variable {w : World} {A : Around} {s : Shared} {mg mb : Str → Option Value} {mean : ExcName → Option Value}
local macro_rules | `(tactic| k_mem) => `(tactic| assumption)
local macro_rules | `(tactic| walk_at "eval Name") => `(tactic| (k_here; k_dflt (first
  | (refine' nameX_L ?F ?v ?_ ?a ?b; (case F => k_asm); (case a => rfl); (case b => rfl); (case v => assumption); k_whole)
  | (refine' nameX_C ?N ?c ?m ?d ?_ ?a ?b; (case a => rfl); (case b => rfl); (case N => k_asm); (case c => rfl); (case m => k_mem); (case d => k_asm); k_whole))))
local macro_rules | `(tactic| walk_at "subscriptTail") => `(tactic| (k_here; (with_reducible show wpAny _ _ (subscriptTail _ _ (Value.ref _) (Value.int _ _)) _ _ _); k_dflt (refine' item_led ?N ?m ?h0 ?h1 ?hx ?_ ?hs; (case N => k_asm); (case m => k_mem); (case h0 => omega); (case h1 => omega); (case hx => assumption); (case hs => with_unfolding_all rfl); k_whole)))
def ValEnd (h₀ : Heap) (L : Addr) (m : Str → Option Value) (all : List (Addr × Obj)) (v : Value) (s : Shared) (x : Value) (s' : Shared) : Prop :=
  x = v ∧ ∃ h' tk, s' = { s with heap := h', toks := tk } ∧ Fr h₀ L h' m ∧ News h₀ L h' all
theorem kDrop_is : kBody.drop 1 = oBody := rfl
set_option maxHeartbeats 1000000 in
theorem kturn {L fa : Addr} {cdv : Value} {h₀ : Heap} {m : Str → Option Value} {own : List (Addr × Obj)} {oR oE oO : Obj} {rl el ol r : Addr} {rs pts ops : Array Value} {nr np no k : Nat} {aw : Int} {ta tk : Tok} {c : Int × Int × Int × Int}
    (X : (hd.heap_39 w.params).In h₀)
    (T : Top hd.view_39 (looseW hd.view_39 [Str.ofString "_tuplegetter", Str.ofString "Point", Str.ofString "Orientation"]) mean mg mb h₀)
    (F : Fr h₀ L s.heap m) (N : News h₀ L s.heap ((el, lsObj pts np) :: (L + 1 + 1 + 1, oO) :: own)) (hoff : ∀ p ∈ own, p.1 ≠ el) (hoff3 : ∀ p ∈ own, p.1 ≠ L + 1 + 1 + 1)
    (mA : m (Str.ofString "away") = some (.int aw ta)) (mk : m (Str.ofString "k") = some (.int (k : Int) tk))
    (c1 : (L + 1, oR) ∈ own) (d1 : oR.data = .cell (some (.ref rl))) (c2 : (L + 1 + 1, oE) ∈ own) (d2 : oE.data = .cell (some (.ref el))) (d3 : oO.data = .cell (some (.ref ol)))
    (y1 : (rl, lsObj rs nr) ∈ own) (y3 : (ol, lsObj ops no) ∈ own) (hk6 : k < 6) (hr : rs[k]? = some (.ref r)) (R1 : RowAt own (.ref r) c) (hsz : pts.size ≤ 10) (hszo : ops.size ≤ 10)
    (hh : A.handled = none) (hun : A.units < 3000) (hroom : A.depth < 400) :
    wpAny (model Challenge.rw_ja0007_01.row.prog w) A (execs kBody (envOfC (Str.ofString "law") lawScope L fa cdv)) (KEnd h₀ L m own el pts ops aw k c s) (fun _ _ => False) s := by
  have hne : el ≠ L + 1 + 1 + 1 := off_obj N (.head _) (.tail _ (.head _)) (fun q => by have q2 := congrArg Obj.data q; rw [d3] at q2; cases q2)
  have eB := kBody_is
  conv at eB => rhs; whnf
  rw [eB]
  clear eB
  refine wpAny_execs_cons (wpAny_For ?_)
  refine wpAny_mono (Q := ValEnd h₀ L m ((el, lsObj pts np) :: (L + 1 + 1 + 1, oO) :: own) (.ref r) s) (E := fun _ _ => False) ?_ ?_ (fun _ _ e => e)
  · obtain ⟨ah, dep, fra, gua, uni⟩ := A
    cases hh
    dsimp only at hun hroom
    have hr' : rs[((k : Int)).toNat]? = some (.ref r) := hr
    have hk0 : (0 : Int) ≤ (k : Int) ∧ (k : Int) < 6 := by omega
    revert X; k_fill; intro X
    show wpAny _ _ _ _ _ _
    k_fold
    k_steps
    all_goals repeat (first | (k_unfold; (try dsimp only)) | dsimp only)
    exact ⟨rfl, _, _, rfl, by assumption, by assumption⟩
  · rintro x s₁ ⟨rfl, h', tk', rfl, F1, N1⟩
    obtain ⟨r', a, b, n1, n2, n3, g1, g2, g3, g4, er, R2, R3, R4, ok⟩ := R1
    cases er
    refine eloop (aw := aw) (ta := ta) X T F1 N1 (List.forall_mem_cons.mpr ⟨Ne.symm hne, hoff⟩) mA (.tail _ c2) d2 (.tail _ R2) (.tail _ R3) (.tail _ R4) hsz hh hun hroom fun h2 tk2 m2 np2 v1 v2 ne F2 ag N2 P1 P2 q2 => ?_
    have nk : (Str.ofString "k" : Str) ≠ Str.ofString "end" := by decide
    refine oturn (own := own) X T F2 N2 (.tail _ (List.mem_append_right _ (.head _))) d3 (.tail _ (List.mem_append_right _ (.tail _ y3))) ((ag _ nk).trans mk) ?_ hoff3 (fun p hp => .tail _ (List.mem_append_right _ (.tail _ hp))) hszo hh hun hroom fun h3 tk3 o3 ol3 w1 w2 no3 own3 F3 N3 d3' y3' s3 n3 k3 => ?_
    · refine List.forall_mem_cons.mpr ⟨.inr (.inr (by ((intro v h; cases h)))), fun p hp => ?_⟩
      rcases List.mem_append.mp hp with hp | hp
      · exact .inr (.inr (q2 p hp).1)
      · rcases List.mem_cons.mp hp with rfl | hp
        · exact .inl rfl
        · exact .inr (.inl hp)
    · have m1 : (el, lsObj ((pts.push v1).push v2) np2) ∈ own3 := k3 _ (.head _) (by ((intro v h; cases h)))
      have hel : ∀ p ∈ own, p.1 ≠ el := hoff
      classical
      have sub9 : ∀ p ∈ own3, p.1 ≠ el → p ∈ own3.filter fun p => decide (p.1 ≠ el) := fun p hp hn => List.mem_filter.mpr ⟨hp, by simpa using hn⟩
      have ne9 : ∀ p ∈ ne, p ∈ own3.filter fun p => decide (p.1 ≠ el) := fun p hp => sub9 p (k3 p (.tail _ (List.mem_append_left _ hp)) (q2 p hp).1) (q2 p hp).2
      have hol : ol3 ≠ el := fun q => by
        have g1 := (N3 _ (.tail _ m1)).1
        have g2 := (N3 _ (.tail _ y3')).1
        dsimp only at g1 g2
        rw [q, g1] at g2
        have g3 := congrArg Obj.data (Option.some.inj g2)
        injection g3 with g4 g5
        have g6 := congrArg (fun a => a.toList.getLast?) g4
        obtain ⟨p2, _, _, _, _, e2, _⟩ := P2
        subst e2
        simp at g6
      refine ⟨rfl, h3, tk3, m2, np2, v1, v2, o3, ol3, no3, w1, w2, own3.filter fun p => decide (p.1 ≠ el), rfl, F3, ag, ?_, d3', sub9 _ y3' hol, P1.mono ne9, P2.mono ne9, fun p hp => sub9 p (s3 p hp) (hoff p hp), fun p hp => n3 p (List.mem_filter.mp hp).1, fun p hp => by simpa using (List.mem_filter.mp hp).2⟩
      exact List.forall_mem_cons.mpr ⟨N3 _ (.tail _ m1), List.forall_mem_cons.mpr ⟨N3 _ (.head _), fun p hp => N3 p (.tail _ (List.mem_filter.mp hp).1)⟩⟩
end Mine
end
section
open PySem PySem.W PySem.Calls PyProof.Rows
namespace Mine
theorem off_J8G : True := by w_top off; trivial
variable {w : World} {A : Around} {s : Shared} {mg mb : Str → Option Value} {mean : ExcName → Option Value}
local macro_rules | `(tactic| k_mem) => `(tactic| assumption)
local macro_rules | `(tactic| walk_at "eval Name") => `(tactic| (k_here; k_dflt (first
  | (refine' nameX_L ?F ?v ?_ ?a ?b; (case F => k_asm); (case a => rfl); (case b => rfl); (case v => assumption); k_whole)
  | (refine' nameX_C ?N ?c ?m ?d ?_ ?a ?b; (case a => rfl); (case b => rfl); (case N => k_asm); (case c => rfl); (case m => k_mem); (case d => k_asm); k_whole))))
/-- what stands after k segments -/
structure KInv (h₀ : Heap) (L I el : Addr) (own : List (Addr × Obj)) (C : Nat → Int × Int × Int × Int) (aw : Int) (ta : Tok) (k : Nat) (h : Heap) (m : Str → Option Value) (np : Nat) (pts : Array Value) (no : Nat) (ops : Array Value) (oO : Obj) (ol : Addr) (own' : List (Addr × Obj)) : Prop where
  F : Fr h₀ L h m
  mA : m (Str.ofString "away") = some (.int aw ta)
  N : News h₀ L h ((el, lsObj pts np) :: (L + 1 + 1 + 1, oO) :: own')
  d : oO.data = .cell (some (.ref ol))
  o : (ol, lsObj ops no) ∈ own'
  s1 : pts.size = 2 * k
  s2 : ops.size = 2 * k
  P : ∀ j, j < k → (∃ v, pts[2 * j]? = some v ∧ PtAt own' v ((C j).1 + aw) ((C j).2.1 - aw)) ∧ (∃ v, pts[2 * j + 1]? = some v ∧ PtAt own' v ((C j).2.2.1 + aw) ((C j).2.2.2 - aw)) ∧ ∃ t, ops[2 * j]? = some (.int ((2 * j + 1 : Nat) : Int) t)
  sub : ∀ p ∈ own, p ∈ own'
  n : ∀ p ∈ own', p ∈ own ∨ NCO p.2
  off : ∀ p ∈ own', p.1 ≠ el
  off3 : ∀ p ∈ own', p.1 ≠ L + 1 + 1 + 1
  offI : ∀ p ∈ own', p.1 ≠ I
theorem arr_push2 {xs : Array Value} {a b : Value} {i : Nat} (hi : i = xs.size) : (∀ j, j < i → ((xs.push a).push b)[j]? = xs[j]?) ∧ ((xs.push a).push b)[i]? = some a ∧ ((xs.push a).push b)[i + 1]? = some b := by
  subst hi
  refine ⟨fun j hj => ?_, ?_, ?_⟩
  · rw [Array.getElem?_push, if_neg (by rw [Array.size_push]; omega), Array.getElem?_push, if_neg (by omega)]
  · rw [Array.getElem?_push, if_neg (by rw [Array.size_push]; omega), Array.getElem?_push, if_pos rfl]
  · rw [Array.getElem?_push, if_pos (by rw [Array.size_push])]
theorem arr_app2 {xs : Array Value} {a b : Value} {i : Nat} (hi : i = xs.size) : (∀ j, j < i → (xs ++ #[a, b])[j]? = xs[j]?) ∧ (xs ++ #[a, b])[i]? = some a ∧ (xs ++ #[a, b])[i + 1]? = some b := by
  subst hi
  have e : xs ++ #[a, b] = (xs.push a).push b := by
    rw [← Array.toArray_toList (xs := (xs.push a).push b), ← Array.toArray_toList (xs := xs ++ #[a, b])]; simp
  rw [e]
  exact arr_push2 rfl
set_option maxHeartbeats 1000000 in
theorem kloop {L fa : Addr} {cdv : Value} {h₀ : Heap} {m : Str → Option Value} {own : List (Addr × Obj)} {oR oE oO : Obj} {rl el ol r : Addr} {rs : Array Value} {nr np no n : Nat} {aw : Int} {ta t u v : Tok} {C : Nat → Int × Int × Int × Int} {px : Pos} {Q : Flow → Shared → Prop} {E : Value → Shared → Prop}
    (X : (hd.heap_39 w.params).In h₀)
    (T : Top hd.view_39 (looseW hd.view_39 [Str.ofString "_tuplegetter", Str.ofString "Point", Str.ofString "Orientation"]) mean mg mb h₀)
    (F : Fr h₀ L s.heap m) (N : News h₀ L s.heap ((el, lsObj #[] np) :: (L + 1 + 1 + 1, oO) :: own)) (hoff : ∀ p ∈ own, p.1 ≠ el) (hoff3 : ∀ p ∈ own, p.1 ≠ L + 1 + 1 + 1)
    (mA : m (Str.ofString "away") = some (.int aw ta))
    (c1 : (L + 1, oR) ∈ own) (d1 : oR.data = .cell (some (.ref rl))) (c2 : (L + 1 + 1, oE) ∈ own) (d2 : oE.data = .cell (some (.ref el))) (d3 : oO.data = .cell (some (.ref ol)))
    (y1 : (rl, lsObj rs nr) ∈ own) (y3 : (ol, lsObj #[] no) ∈ own) (hn : n ≤ 6) (R : ∀ k, k < n → ∃ r, rs[k]? = some (.ref r) ∧ RowAt own (.ref r) (C k))
    (hr : IsRange s.heap r 0 (n : Int) 1 t u v)
    (hh : A.handled = none) (hun : A.units < 3000) (hroom : A.depth < 400)
    (hQ : ∀ h' tk m' np' pts no' ops oO' ol' own', KInv h₀ L s.heap.objs.size el own C aw ta n h' m' np' pts no' ops oO' ol' own' → Q .next { s with heap := h', toks := tk }) :
    wpAny (model Challenge.rw_ja0007_01.row.prog w) A (pyIter (.ref r)) (fun it s₂ => codeAny (model Challenge.rw_ja0007_01.row.prog w) A (.forLoop (.Name (Str.ofString "k") px) it kBody [] (envOfC (Str.ofString "law") lawScope L fa cdv))
      (fun r s' => match r with | .ok f => Q f s' | .error e => cameBackBy (model Challenge.rw_ja0007_01.row.prog w) A (envOfC (Str.ofString "law") lawScope L fa cdv) E e s') s₂) E s := by
  obtain ⟨hsz, hsm⟩ := small_six hn
  refine wpAny_pyIter_range hr hsm ?_
  rw [hsz]
  have hI0 := next_is_new F
  have hIL : L ≠ s.heap.objs.size := Nat.ne_of_lt F.ns.lt
  have hIo : ∀ p ∈ ((el, lsObj #[] np) :: (L + 1 + 1 + 1, oO) :: own), p.1 ≠ s.heap.objs.size := fun p hp => Nat.ne_of_lt (Heap.lt_size (N p hp).1)
  have hit0 : IsRangeIter (s.heap.push { cls := .type "range_iterator", data := .fields #[rawInt 0, rawInt (n : Int), rawInt 1] }) s.heap.objs.size 0 n 1 := Heap.get?_push_size _ rfl
  have F0 : Fr h₀ L (s.heap.push { cls := .type "range_iterator", data := .fields #[rawInt 0, rawInt (n : Int), rawInt 1] }) m := F.push _
  have N0 : News h₀ L (s.heap.push { cls := .type "range_iterator", data := .fields #[rawInt 0, rawInt (n : Int), rawInt 1] }) ((el, lsObj #[] np) :: (L + 1 + 1 + 1, oO) :: own) := fun p hp => ⟨Heap.get?_push_of_some _ (N p hp).1, (N p hp).2⟩
  generalize s.heap.objs.size = I at *
  refine rng_loop hh (fun k h => ∃ m' np' pts no' ops oO' ol' own', KInv h₀ L I el own C aw ta k h m' np' pts no' ops oO' ol' own') ?_ ?_ ?_ hit0
    ⟨m, np, #[], no, #[], oO, ol, own, ⟨F0, mA, N0, d3, y3, rfl, rfl, fun j hj => absurd hj (Nat.not_lt_zero _), fun p hp => hp, fun p hp => .inl hp, hoff, hoff3, fun p hp => hIo p (.tail _ (.tail _ hp))⟩⟩
  · rintro k h h' ⟨m', np', pts, no', ops, oO', ol', own', K⟩ hk
    refine ⟨m', np', pts, no', ops, oO', ol', own', ⟨⟨K.F.ns.at' fun o e => hk _ o hIL e, fun b o e => hk b o (fun q => by rw [q, hI0] at e; cases e) (K.F.keep b o e), K.F.above⟩, K.mA, news_at K.N fun p hp o e => hk _ o ?_ e, K.d, K.o, K.s1, K.s2, K.P, K.sub, K.n, K.off, K.off3, K.offI⟩⟩
    rcases List.mem_cons.mp hp with rfl | hp
    · exact hIo (el, lsObj #[] np) (.head _)
    · rcases List.mem_cons.mp hp with rfl | hp
      · exact hIo (L + 1 + 1 + 1, oO) (.tail _ (.head _))
      · exact K.offI p hp
  · rintro k tk h₁ hk ⟨m', np', pts, no', ops, oO', ol', own', K⟩ hit
    obtain ⟨rr, hrr, hRR⟩ := R k hk
    refine wpAny_assign_Name (wpAny_storeName_local rfl K.F.ns (fun h₂ hn₂ hs₂ => ?_) rfl)
    have F₂ := K.F.set hn₂ hs₂
    have N₂ : News h₀ L h₂ ((el, lsObj pts np') :: (L + 1 + 1 + 1, oO') :: (I, { cls := .type "range_iterator", dict := none, data := .fields #[rawInt ((k : Int) + 1), rawInt ((n : Int) - (k : Int) - 1), rawInt 1], slots := #[] }) :: own') := by
      have N1 : News h₀ L h₂ ((el, lsObj pts np') :: (L + 1 + 1 + 1, oO') :: own') := news_at K.N fun p hp o e => (hs₂.2 _ (K.N p hp).2.1).trans e
      exact List.forall_mem_cons.mpr ⟨N1 _ (.head _), List.forall_mem_cons.mpr ⟨N1 _ (.tail _ (.head _)), List.forall_mem_cons.mpr ⟨⟨(hs₂.2 _ (Ne.symm hIL)).trans hit, Ne.symm hIL, hI0⟩, fun p hp => N1 p (.tail _ (.tail _ hp))⟩⟩⟩
    have nA : (Str.ofString "away" : Str) ≠ Str.ofString "k" := by decide
    have nA2 : (Str.ofString "away" : Str) ≠ Str.ofString "end" := by decide
    have sub1 : ∀ p ∈ own, p ∈ ((I, { cls := .type "range_iterator", dict := none, data := .fields #[rawInt ((k : Int) + 1), rawInt ((n : Int) - (k : Int) - 1), rawInt 1], slots := #[] }) :: own') := fun p hp => .tail _ (K.sub p hp)
    have hRR' : RowAt ((I, { cls := .type "range_iterator", dict := none, data := .fields #[rawInt ((k : Int) + 1), rawInt ((n : Int) - (k : Int) - 1), rawInt 1], slots := #[] }) :: own') (.ref rr) (C k) := by
      obtain ⟨r1, a, b, n1, n2, n3, g1, g2, g3, g4, e, e1, e2, e3, ok⟩ := hRR
      exact ⟨r1, a, b, n1, n2, n3, g1, g2, g3, g4, e, sub1 _ e1, sub1 _ e2, sub1 _ e3, ok⟩
    refine wpAny_mono (kturn (aw := aw) (ta := ta) (c := C k) X T F₂ N₂ (List.forall_mem_cons.mpr ⟨Ne.symm (hIo _ (.head _)), K.off⟩) (List.forall_mem_cons.mpr ⟨Ne.symm (hIo _ (.tail _ (.head _))), K.off3⟩)
      (by show (if _ then _ else _) = _; rw [if_neg nA]; exact K.mA) (if_pos rfl) (sub1 _ c1) d1 (sub1 _ c2) d2 K.d (sub1 _ y1) (.tail _ K.o) (by omega) hrr hRR' (by rw [K.s1]; omega) (by rw [K.s2]; omega) hh hun hroom) (fun f s₃ h₃ => ?_) fun _ _ e => e
    obtain ⟨rfl, h3, tk3, m3, np3, v1, v2, oO3, ol3, no3, w1, w2, own3, rfl, F3, ag, N3, d3', y3', P1, P2, s3, n3, off3⟩ := h₃
    have mI := s3 _ (List.mem_cons_self)
    classical
    have fil : ∀ p ∈ own3, (∀ xs, p.2.data ≠ .fields xs) → p ∈ own3.filter fun p => decide (p.1 ≠ I) := fun p hp hx => List.mem_filter.mpr ⟨hp, by
      have : p.1 ≠ I := off_obj (o := p.2) (N3) (.tail _ (.tail _ hp)) (.tail _ (.tail _ mI)) fun q => hx _ (by rw [q])
      simpa using this⟩
    have filK : ∀ p ∈ own', p ∈ own3.filter fun p => decide (p.1 ≠ I) := fun p hp => List.mem_filter.mpr ⟨s3 p (.tail _ hp), by simpa using K.offI p hp⟩
    have filP : ∀ {v x y}, PtAt own3 v x y → PtAt (own3.filter fun p => decide (p.1 ≠ I)) v x y := by
      rintro v x y ⟨p, d, t1, t2, l, e, a, b⟩
      exact ⟨p, d, t1, t2, l, e, fil _ a (by intro xs q; cases q), fil _ b (by intro xs q; cases q)⟩
    obtain ⟨q1, q2, q3⟩ := arr_push2 (xs := pts) (a := v1) (b := v2) K.s1.symm
    obtain ⟨z1, z2, z3⟩ := arr_app2 (xs := ops) (a := .int ((2 * k + 1 : Nat) : Int) w1) (b := .int ((2 * k : Nat) : Int) w2) K.s2.symm
    refine ⟨.inl rfl, h3, tk3, rfl, (N3 _ (.tail _ (.tail _ mI))).1, m3, np3, (pts.push v1).push v2, no3, ops ++ #[.int ((2 * k + 1 : Nat) : Int) w1, .int ((2 * k : Nat) : Int) w2], oO3, ol3, own3.filter fun p => decide (p.1 ≠ I), ⟨F3, ?_, ?_, d3', fil _ y3' (by intro xs q; cases q), ?_, ?_, ?_, fun p hp => filK p (K.sub p hp), ?_, fun p hp => off3 p (List.mem_filter.mp hp).1, ?_, fun p hp => by simpa using (List.mem_filter.mp hp).2⟩⟩
    · rw [ag _ nA2]
      show (if _ then _ else _) = _
      rw [if_neg nA]; exact K.mA
    · exact List.forall_mem_cons.mpr ⟨N3 _ (.head _), List.forall_mem_cons.mpr ⟨N3 _ (.tail _ (.head _)), fun p hp => N3 p (.tail _ (.tail _ (List.mem_filter.mp hp).1))⟩⟩
    · rw [Array.size_push, Array.size_push, K.s1]; omega
    · rw [Array.size_append, K.s2]; show 2 * k + 2 = _; omega
    · intro j hj
      by_cases e : j < k
      · obtain ⟨⟨a, a1, a2⟩, ⟨b, b1, b2⟩, t, t1⟩ := K.P j e
        refine ⟨⟨a, (q1 _ (by omega)).trans a1, a2.mono filK⟩, ⟨b, (q1 _ (by omega)).trans b1, b2.mono filK⟩, t, (z1 _ (by omega)).trans t1⟩
      · have : j = k := by omega
        subst this
        exact ⟨⟨v1, q2, filP P1⟩, ⟨v2, q3, filP P2⟩, w1, z2⟩
    · intro p hp
      rcases n3 p (List.mem_filter.mp hp).1 with q | q
      · rcases List.mem_cons.mp q with rfl | q
        · exact .inr (by ((intro v h; cases h)))
        · exact K.n p q
      · exact .inr q
    · intro p hp
      rcases n3 p (List.mem_filter.mp hp).1 with q | q
      · rcases List.mem_cons.mp q with rfl | q
        · exact Ne.symm (hIo _ (.tail _ (.head _)))
        · exact K.off3 p q
      · exact off_cell N3 (.tail _ (.head _)) d3' (.tail _ (.tail _ (List.mem_filter.mp hp).1)) q
  · rintro h' tk ⟨m', np', pts, no', ops, oO', ol', own', K⟩
    exact hQ h' tk m' np' pts no' ops oO' ol' own' K
end Mine
end
section
open PySem PySem.W PySem.Calls PyProof.Rows
namespace Mine
theorem off_J8H : True := by w_top off; trivial
variable {w : World} {A : Around} {s : Shared} {mg mb : Str → Option Value} {mean : ExcName → Option Value}
local macro_rules | `(tactic| k_mem) => `(tactic| assumption)
local macro_rules | `(tactic| walk_at "eval Name") => `(tactic| (k_here; k_dflt (first
  | (refine' nameX_L ?F ?v ?_ ?a ?b; (case F => k_asm); (case a => rfl); (case b => rfl); (case v => assumption); k_whole)
  | (refine' nameX_C ?N ?c ?m ?d ?_ ?a ?b; (case a => rfl); (case b => rfl); (case N => k_asm); (case c => rfl); (case m => k_mem); (case d => k_asm); k_whole))))
theorem RowAt.mono {own own' : List (Addr × Obj)} {v : Value} {c : Int × Int × Int × Int} (h : RowAt own v c) (hs : ∀ p ∈ own, (∀ xs, p.2.data ≠ .fields xs) → p ∈ own') : RowAt own' v c := by
  obtain ⟨r1, a, b, n1, n2, n3, g1, g2, g3, g4, e, e1, e2, e3, ok⟩ := h
  exact ⟨r1, a, b, n1, n2, n3, g1, g2, g3, g4, e, hs _ e1 (by intro xs q; cases q), hs _ e2 (by intro xs q; cases q), hs _ e3 (by intro xs q; cases q), ok⟩
/-- what stands after i numbers -/
structure RInv (h₀ : Heap) (L I : Addr) (own : List (Addr × Obj)) (aw : Int) (ta : Tok) (i : Nat) (h : Heap) (m : Str → Option Value) (oR : Obj) (rl : Addr) (nr : Nat) (rs : Array Value) (own' : List (Addr × Obj)) : Prop where
  F : Fr h₀ L h m
  mA : m (Str.ofString "away") = some (.int aw ta)
  N : News h₀ L h ((L + 1, oR) :: own')
  d : oR.data = .cell (some (.ref rl))
  o : (rl, lsObj rs nr) ∈ own'
  s1 : rs.size = 2 * i
  P : ∀ j, j < 2 * i → ∃ v c, rs[j]? = some v ∧ RowAt own' v c
  sub : ∀ p ∈ own, p ∈ own'
  n : ∀ p ∈ own', p ∈ own ∨ NCO p.2
  off : ∀ p ∈ own', p.1 ≠ L + 1
  offI : ∀ p ∈ own', p.1 ≠ I
set_option maxHeartbeats 1000000 in
theorem rloop {L fa : Addr} {cdv : Value} {h₀ : Heap} {m : Str → Option Value} {own : List (Addr × Obj)} {oR : Obj} {rl l : Addr} {items : Array Value} {nr nl : Nat} {aw : Int} {ta : Tok} {px : Pos} {Q : Flow → Shared → Prop} {E : Value → Shared → Prop}
    (X : (hd.heap_39 w.params).In h₀)
    (T : Top hd.view_39 (looseW hd.view_39 [Str.ofString "_tuplegetter", Str.ofString "Point", Str.ofString "Orientation"]) mean mg mb h₀)
    (F : Fr h₀ L s.heap m) (N : News h₀ L s.heap ((L + 1, oR) :: own)) (hoff : ∀ p ∈ own, p.1 ≠ L + 1)
    (mA : m (Str.ofString "away") = some (.int aw ta)) (d1 : oR.data = .cell (some (.ref rl))) (y1 : (rl, lsObj #[] nr) ∈ own)
    (y2 : (l, lsObj items nl) ∈ own) (hi : ∀ v ∈ items.toList, ∃ z t, v = .int z t) (hsz : items.size ≤ 3)
    (hh : A.handled = none) (hun : A.units < 3000) (hroom : A.depth < 400)
    (hQ : ∀ h' tk m' oR' rl' nr' rs own', RInv h₀ L s.heap.objs.size own aw ta items.size h' m' oR' rl' nr' rs own' → Q .next { s with heap := h', toks := tk }) :
    wpAny (model Challenge.rw_ja0007_01.row.prog w) A (pyIter (.ref l)) (fun it s₂ => codeAny (model Challenge.rw_ja0007_01.row.prog w) A (.forLoop (.Name (Str.ofString "number") px) it rBody [] (envOfC (Str.ofString "law") lawScope L fa cdv))
      (fun r s' => match r with | .ok f => Q f s' | .error e => cameBackBy (model Challenge.rw_ja0007_01.row.prog w) A (envOfC (Str.ofString "law") lawScope L fa cdv) E e s') s₂) E s := by
  have hls : s.heap.IsList l items := ⟨_, (N _ (.tail _ y2)).1, rfl, nl, rfl⟩
  refine wpAny_pyIter_list hls ?_
  have hI0 := next_is_new F
  have hIL : L ≠ s.heap.objs.size := Nat.ne_of_lt F.ns.lt
  have hIo : ∀ p ∈ ((L + 1, oR) :: own), p.1 ≠ s.heap.objs.size := fun p hp => Nat.ne_of_lt (Heap.lt_size (N p hp).1)
  have F0 : Fr h₀ L (s.heap.push { cls := .type "list_iterator", data := .fields #[.ref l, .int 0 0] }) m := F.push _
  have N0 : News h₀ L (s.heap.push { cls := .type "list_iterator", data := .fields #[.ref l, .int 0 0] }) ((L + 1, oR) :: own) := fun p hp => ⟨Heap.get?_push_of_some _ (N p hp).1, (N p hp).2⟩
  have hit0 : (s.heap.push { cls := .type "list_iterator", data := .fields #[.ref l, .int 0 0] }).IsListIter s.heap.objs.size l 0 := ⟨_, Heap.get?_push_size _ rfl, rfl, rfl⟩
  generalize s.heap.objs.size = I at *
  refine lst_loop (l := l) (items := items) hh (fun i h => ∃ m' oR' rl' nr' rs own', RInv h₀ L I own aw ta i h m' oR' rl' nr' rs own') ?_ ?_ ?_ ?_ hit0
    ⟨m, oR, rl, nr, #[], own, ⟨F0, mA, N0, d1, y1, rfl, fun j hj => absurd hj (Nat.not_lt_zero _), fun p hp => hp, fun p hp => .inl hp, hoff, fun p hp => hIo p (.tail _ hp)⟩⟩
  · rintro i h ⟨m', oR', rl', nr', rs, own', K⟩
    exact ⟨_, (K.N _ (.tail _ (K.sub _ y2))).1, rfl, nl, rfl⟩
  · rintro i h h' ⟨m', oR', rl', nr', rs, own', K⟩ hk
    refine ⟨m', oR', rl', nr', rs, own', ⟨⟨K.F.ns.at' fun o e => hk _ o hIL e, fun b o e => hk b o (fun q => by rw [q, hI0] at e; cases e) (K.F.keep b o e), K.F.above⟩, K.mA, news_at K.N fun p hp o e => hk _ o ?_ e, K.d, K.o, K.s1, K.P, K.sub, K.n, K.off, K.offI⟩⟩
    rcases List.mem_cons.mp hp with rfl | hp
    · exact hIo (L + 1, oR) (.head _)
    · exact K.offI p hp
  · rintro i tk h₁ v hv ⟨m', oR', rl', nr', rs, own', K⟩ hit
    obtain ⟨oI, eI, cI, dI⟩ := hit
    obtain ⟨z, tz, rfl⟩ := hi v (by rw [← Array.getElem?_toList] at hv; exact List.mem_of_getElem? hv)
    have hi3 : i < items.size := by
      rcases Nat.lt_or_ge i items.size with q | q
      · exact q
      · rw [Array.getElem?_eq_none q] at hv; cases hv
    refine wpAny_assign_Name (wpAny_storeName_local rfl K.F.ns (fun h₂ hn₂ hs₂ => ?_) rfl)
    have F₂ := K.F.set hn₂ hs₂
    have N₂ : News h₀ L h₂ ((L + 1, oR') :: (I, oI) :: own') := by
      have N1 : News h₀ L h₂ ((L + 1, oR') :: own') := news_at K.N fun p hp o e => (hs₂.2 _ (K.N p hp).2.1).trans e
      exact List.forall_mem_cons.mpr ⟨N1 _ (.head _), List.forall_mem_cons.mpr ⟨⟨(hs₂.2 _ (Ne.symm hIL)).trans eI, Ne.symm hIL, hI0⟩, fun p hp => N1 p (.tail _ hp)⟩⟩
    have nA : (Str.ofString "away" : Str) ≠ Str.ofString "number" := by decide
    refine wpAny_mono (rturn X T F₂ N₂ (List.forall_mem_cons.mpr ⟨Ne.symm (hIo (L + 1, oR) (.head _)), K.off⟩) (if_pos rfl) K.d (.tail _ K.o) (by rw [K.s1]; omega) hh hun hroom) (fun f s₃ h₃ => ?_) fun _ _ e => e
    obtain ⟨rfl, h3, tk3, oR3, rl3, nr3, own3, v1, v2, cc1, cc2, rfl, F3, N3, d3', y3', P1, P2, s3, n3⟩ := h₃
    have mI := s3 _ (List.mem_cons_self)
    classical
    have fil : ∀ p ∈ own3, (∀ xs, p.2.data ≠ .fields xs) → p ∈ own3.filter fun p => decide (p.1 ≠ I) := fun p hp hx => List.mem_filter.mpr ⟨hp, by
      have : p.1 ≠ I := off_obj (o := p.2) (N3) (.tail _ hp) (.tail _ mI) fun q => hx _ (by rw [q]; exact dI)
      simpa using this⟩
    have filK : ∀ p ∈ own', p ∈ own3.filter fun p => decide (p.1 ≠ I) := fun p hp => List.mem_filter.mpr ⟨s3 p (.tail _ hp), by simpa using K.offI p hp⟩
    obtain ⟨q1, q2, q3⟩ := arr_app2 (xs := rs) (a := v1) (b := v2) K.s1.symm
    refine ⟨.inl rfl, h3, tk3, rfl, ⟨oI, (N3 _ (.tail _ mI)).1, cI, dI⟩, _, oR3, rl3, nr3, rs ++ #[v1, v2], own3.filter fun p => decide (p.1 ≠ I), ⟨F3, ?_, ?_, d3', fil _ y3' (by intro xs q; cases q), ?_, ?_, fun p hp => filK p (K.sub p hp), ?_, ?_, fun p hp => by simpa using (List.mem_filter.mp hp).2⟩⟩
    · show (if _ then _ else _) = _
      rw [if_neg nA]; exact K.mA
    · exact List.forall_mem_cons.mpr ⟨N3 _ (.head _), fun p hp => N3 p (.tail _ (List.mem_filter.mp hp).1)⟩
    · rw [Array.size_append, K.s1]; show 2 * i + 2 = _; omega
    · intro j hj
      by_cases e : j < 2 * i
      · obtain ⟨v, c, a1, a2⟩ := K.P j e
        exact ⟨v, c, (q1 _ e).trans a1, a2.mono fun p hp _ => filK p hp⟩
      · by_cases e2 : j = 2 * i
        · subst e2
          exact ⟨v1, cc1, q2, P1.mono fil⟩
        · have : j = 2 * i + 1 := by omega
          subst this
          exact ⟨v2, cc2, q3, P2.mono fil⟩
    · intro p hp
      rcases n3 p (List.mem_filter.mp hp).1 with q | q
      · rcases List.mem_cons.mp q with rfl | q
        · exact .inr (by intro v h; rw [dI] at h; cases h)
        · exact K.n p q
      · exact .inr q
    · intro p hp
      rcases n3 p (List.mem_filter.mp hp).1 with q | q
      · rcases List.mem_cons.mp q with rfl | q
        · exact Ne.symm (hIo (L + 1, oR) (.head _))
        · exact K.off p q
      · exact off_cell N3 (.head _) d3' (.tail _ (List.mem_filter.mp hp).1) q
  · rintro h' tk ⟨m', oR', rl', nr', rs, own', K⟩
    exact hQ h' tk m' oR' rl' nr' rs own' K
end Mine
end
section
open PySem PySem.W PySem.Calls PyProof.Rows
namespace Mine
theorem off_J8I : True := by w_top off; trivial
variable {w : World} {A : Around} {s : Shared} {mg mb : Str → Option Value} {mean : ExcName → Option Value}
local macro_rules | `(tactic| k_mem) => `(tactic| assumption)
local macro_rules | `(tactic| walk_at "eval Name") => `(tactic| (k_here; k_dflt (first
  | (refine' nameX_L ?F ?v ?_ ?a ?b; (case F => k_asm); (case a => rfl); (case b => rfl); (case v => assumption); k_whole)
  | (refine' nameX_C ?N ?c ?m ?d ?_ ?a ?b; (case a => rfl); (case b => rfl); (case N => k_asm); (case c => rfl); (case m => k_mem); (case d => k_asm); k_whole))))
set_option maxHeartbeats 1000000 in
theorem range_len {L fa : Addr} {cdv : Value} {h₀ : Heap} {m : Str → Option Value} {all : List (Addr × Obj)} {oR : Obj} {rl : Addr} {rs : Array Value} {nr n : Nat} {p1 p2 p3 p4 p5 : Pos}
    (X : (hd.heap_39 w.params).In h₀)
    (T : Top hd.view_39 (looseW hd.view_39 [Str.ofString "_tuplegetter", Str.ofString "Point", Str.ofString "Orientation"]) mean mg mb h₀)
    (F : Fr h₀ L s.heap m) (N : News h₀ L s.heap all) (c1 : (L + 1, oR) ∈ all) (d1 : oR.data = .cell (some (.ref rl))) (y1 : (rl, lsObj rs nr) ∈ all) (hrs : rs.size = n) (hn : n ≤ 6)
    (hh : A.handled = none) (hun : A.units < 3000) (hroom : A.depth < 400) :
    wpAny (model Challenge.rw_ja0007_01.row.prog w) A (eval (.Call (.Name (Str.ofString "range") p1) [.Call (.Name (Str.ofString "len") p2) [.Name (Str.ofString "rows") p3] [] p4] [] p5) (envOfC (Str.ofString "law") lawScope L fa cdv)) (RangeEnd h₀ L m all (n : Int) s) (fun _ _ => False) s := by
  obtain ⟨ah, dep, fra, gua, uni⟩ := A
  cases hh
  dsimp only at hun hroom
  revert X; k_fill; intro X
  show wpAny _ _ _ _ _ _
  k_fold
  k_steps
  all_goals repeat (first | (k_unfold; (try dsimp only)) | dsimp only)
  exact ⟨_, _, _, _, _, _, rfl, rfl, by assumption, by assumption, by assumption⟩
def sKeys : List Stmt := (lawBody.drop 6).take 1
theorem sKeys_is : sKeys = sKeys := rfl
/-- a key is made -/
theorem key_at2 {h₀ : Heap} {L : Addr} {m : Str → Option Value} {news : List (Addr × Obj)} {ends opp q : Addr} {e : Int} {te : Tok} {Q E : Value → Shared → Prop}
    (F : Fr h₀ L s.heap m) (X : (hd.heap_39 w.params).In h₀)
    (T : Top hd.view_39 (looseW hd.view_39 [Str.ofString "_tuplegetter", Str.ofString "Point", Str.ofString "Orientation"]) mean mg mb h₀)
    (N : News h₀ L s.heap news) (hh : A.handled = none) (hroom : A.depth < 450)
    (h : ∀ h' tk x dx h1 h2 h3 h4 t1 t2 t3 t4, @LT.lt Nat _ dx x → (∀ p ∈ news, @LT.lt Nat _ p.1 dx) → Fr h₀ L h' m → News h₀ L h' ((x, instObj 245 dx) :: (dx, keyDict h1 h2 h3 h4 t1 t2 t3 t4 te ends opp q e) :: news) → Q (.ref x) { s with heap := h', toks := tk }) :
    wpAny (model Challenge.rw_ja0007_01.row.prog w) A (call (.ref 245) [.ref ends, .ref opp, .int e te, .ref q]) Q E s := by
  revert X; k_fill; intro X
  refine wpAny_call (make_K (K := hd.heap_39 w.params) (C := 245) (fI := 235) F N (X.keeps F.keep) (by k_is) (by k_is) (by k_is) fun x dx h' F1 N1 hnd hlt => ?_)
  refine init_fn X T F1.keep (news_sub N1 (List.forall_mem_cons.mpr ⟨.head _, List.forall_mem_cons.mpr ⟨.tail _ (.head _), List.forall_mem_nil _⟩⟩)) hlt hh (by rw [depth_under_make]; omega) fun h'' tk h1 h2 h3 h4 t1 t2 t3 t4 k e1 e2 => ⟨rfl, ?_⟩
  obtain ⟨oL, es, ep, hL, hLd, hLk, hLf⟩ := F1.ns
  have nx : L ≠ x := fun c => (N1 _ (.head _)).2.1 c.symm
  have nd : L ≠ dx := fun c => (N1 _ (.tail _ (.head _))).2.1 c.symm
  have off : ∀ b o, h₀.get? b = some o → b ∉ [x, dx] := fun b o e hm => by
    rcases List.mem_cons.mp hm with c | hm
    · have := (N1 _ (.head _)).2.2; rw [← c, e] at this; cases this
    · have c := List.mem_singleton.mp hm
      have := (N1 _ (.tail _ (.head _))).2.2; rw [← c, e] at this; cases this
  refine h h'' tk x dx h1 h2 h3 h4 t1 t2 t3 t4 hlt hnd ⟨⟨oL, es, ep, k _ _ (by simp [nx, nd]) hL, hLd, hLk, hLf⟩, fun b o e => k _ _ (off b o e) (F1.keep b o e), F1.above⟩ ?_
  refine List.forall_mem_cons.mpr ⟨⟨e1, (N1 _ (.head _)).2⟩, List.forall_mem_cons.mpr ⟨⟨e2, (N1 _ (.tail _ (.head _))).2⟩, fun p hp => ?_⟩⟩
  have hb := hnd p hp
  refine ⟨k _ _ (fun hm => ?_) (N1 _ (.tail _ (.tail _ hp))).1, (N1 _ (.tail _ (.tail _ hp))).2⟩
  rcases List.mem_cons.mp hm with c | hm
  · exact absurd (Nat.lt_trans hb hlt) (by rw [c]; exact Nat.lt_irrefl _)
  · exact absurd hb (by rw [List.mem_singleton.mp hm]; exact Nat.lt_irrefl _)
def keyLC : PySem.Expr := match sKeys with | [.Assign _ e _] => e | _ => .Name (Str.ofString "") default
def keyElt : PySem.Expr := match keyLC with | .ListComp e _ _ _ => e | e => e
def keyScope : Scope := match keyLC with | .ListComp _ _ sc _ => sc | _ => default
def KeyAt (own : List (Addr × Obj)) (v : Value) (el ol : Addr) (k : Nat) : Prop :=
  ∃ x dx q c h1 h2 h3 h4 u1 u2 u3 u4 u5, v = .ref x ∧ (x, instObj 245 dx) ∈ own ∧ (dx, keyDict h1 h2 h3 h4 u1 u2 u3 u4 u5 el ol q ((2 * k : Nat) : Int)) ∈ own ∧ (q, methodObj (.ref 207) (.ref c)) ∈ own
theorem KeyAt.mono {own own' : List (Addr × Obj)} {v : Value} {el ol : Addr} {k : Nat} (h : KeyAt own v el ol k) (hs : ∀ p ∈ own, p ∈ own') : KeyAt own' v el ol k := by
  obtain ⟨x, dx, q, c, h1, h2, h3, h4, u1, u2, u3, u4, u5, e, a, b, d⟩ := h
  exact ⟨x, dx, q, c, h1, h2, h3, h4, u1, u2, u3, u4, u5, e, hs _ a, hs _ b, hs _ d⟩
theorem keyElt_is : keyElt = keyElt := rfl
theorem keyScope_is : keyScope = keyScope := rfl
local macro_rules | `(tactic| walk_at "call ref") => `(tactic| (k_here; (with_reducible show wpAny _ _ (call (Value.ref 245) [Value.ref _, Value.ref _, Value.int _ _, Value.ref _] _) _ _ _); k_dflt (refine' key_at2 ?F ?X ?T ?N ?hh ?r ?_; (case F => k_asm); (case X => k_asm); (case T => k_asm); (case N => k_asm); (case hh => exact rfl); (case r => (simp only [depth_under_make, depth_under_kw, depth_in1, depth_deeper]; omega)); k_whole; intro h' tk' x' dx' h1' h2' h3' h4' t1' t2' t3' t4' lx' ln' F' N'; (try k_sweep); (try dsimp only))))
set_option maxHeartbeats 1000000 in
theorem elt_at {L fa : Addr} {cdv : Value} {h₀ : Heap} {m m₂ : Str → Option Value} {oE oO oI oC : Obj} {el ol I C D : Addr} {ys : List Value} {news : List (Addr × Obj)} {i : Nat} {t : Tok} {Q E : Value → Shared → Prop}
    (X : (hd.heap_39 w.params).In h₀)
    (T : Top hd.view_39 (looseW hd.view_39 [Str.ofString "_tuplegetter", Str.ofString "Point", Str.ofString "Orientation"]) mean mg mb h₀)
    (c2 : (L + 1 + 1, oE) ∈ news) (d2 : oE.data = .cell (some (.ref el))) (c3 : (L + 1 + 1 + 1, oO) ∈ news) (d3 : oO.data = .cell (some (.ref ol)))
    (nC : LCg.NsObj oC m₂) (vk : m₂ (Str.ofString "k") = some (.int (0 + (i : Int)) t)) (F : Fr h₀ L s.heap m) (N : News h₀ L s.heap ((I, oI) :: (C, oC) :: (D, LCg.lst ys) :: news))
    (hh : A.handled = none) (hun : A.units < 3000) (hroom : A.depth < 400)
    (hQ : ∀ h' tk v ne, Fr h₀ L h' m → News h₀ L h' (ne ++ ((I, oI) :: (C, oC) :: (D, LCg.lst ys) :: news)) → KeyAt ne v el ol i → (∀ p ∈ ne, NCO p.2 ∧ (@Ne Nat p.1 I) ∧ (@Ne Nat p.1 C) ∧ (@Ne Nat p.1 D)) → Q v { s with heap := h', toks := tk }) :
    wpAny (model Challenge.rw_ja0007_01.row.prog w) A (eval keyElt (compEnvC keyScope [(Str.ofString "opposites", L + 1 + 1 + 1), (Str.ofString "ends", L + 1 + 1)] C (envOfC (Str.ofString "law") lawScope L fa cdv))) Q E s := by
  obtain ⟨ah, dep, fra, gua, uni⟩ := A
  cases hh
  dsimp only at hun hroom
  have eB := keyElt_is
  conv at eB => rhs; whnf
  rw [eB]
  clear eB
  have eB := keyScope_is
  conv at eB => rhs; whnf
  rw [eB]
  clear eB
  revert X; k_fill; intro X
  show wpAny _ _ _ _ _ _
  try k_fold
  k_steps
  all_goals repeat (first | (k_unfold; (try dsimp only)) | dsimp only)
  rename_i x8 d8 hA l1 l2 q8 hB l3 hC tk8 x9 dx9 h1 h2 h3 h4 t1 t2 t3 t4 lx ln F8 N8
  have e2 : 2 * (0 + (i : Int)) = ((2 * i : Nat) : Int) := by push_cast; omega
  rw [e2] at N8
  have a1 := ln _ (.tail _ (.tail _ (.tail _ (.head _))))
  have a2 := ln _ (.tail _ (.tail _ (.tail _ (.tail _ (.head _)))))
  have a3 := ln _ (.tail _ (.tail _ (.tail _ (.tail _ (.tail _ (.head _))))))
  have b1 : @LT.lt Nat _ I d8 := l1.1
  have b2 : @LT.lt Nat _ C d8 := l1.2.1
  have b3 : @LT.lt Nat _ D d8 := l1.2.2.1
  have b4 : @LT.lt Nat _ d8 x8 := l2
  have b5 : @LT.lt Nat _ I q8 := l3.2.2.1
  have b6 : @LT.lt Nat _ C q8 := l3.2.2.2.1
  have b7 : @LT.lt Nat _ D q8 := l3.2.2.2.2.1
  dsimp only at a1 a2 a3
  refine hQ _ _ _ [(x9, instObj 245 dx9), (dx9, keyDict h1 h2 h3 h4 t1 t2 t3 t4 (s.toks + 1) el ol q8 ((2 * i : Nat) : Int)), (q8, methodObj (.ref 207) (.ref x8)), (x8, instObj 217 d8), (d8, dictOf [] 0)] F8 N8
    ⟨x9, dx9, q8, x8, _, _, _, _, _, _, _, _, _, rfl, .head _, .tail _ (.head _), .tail _ (.tail _ (.head _))⟩ ?_
  refine List.forall_mem_cons.mpr ⟨⟨by ((intro v h; cases h)), ?_, ?_, ?_⟩, List.forall_mem_cons.mpr ⟨⟨by ((intro v h; cases h)), ?_, ?_, ?_⟩, List.forall_mem_cons.mpr ⟨⟨by ((intro v h; cases h)), ?_, ?_, ?_⟩, List.forall_mem_cons.mpr ⟨⟨by ((intro v h; cases h)), ?_, ?_, ?_⟩, List.forall_mem_cons.mpr ⟨⟨by ((intro v h; cases h)), ?_, ?_, ?_⟩, List.forall_mem_nil _⟩⟩⟩⟩⟩ <;> dsimp only <;> omega
theorem krest {L fa : Addr} {cdv : Value} {h₀ : Heap} {m : Str → Option Value} {all : List (Addr × Obj)} {oE oO : Obj} {el ol : Addr} {n : Nat} {Fin : List Value → List (Addr × Obj) → Prop}
    (X : (hd.heap_39 w.params).In h₀)
    (T : Top hd.view_39 (looseW hd.view_39 [Str.ofString "_tuplegetter", Str.ofString "Point", Str.ofString "Orientation"]) mean mg mb h₀)
    (c2 : (L + 1 + 1, oE) ∈ all) (d2 : oE.data = .cell (some (.ref el))) (c3 : (L + 1 + 1 + 1, oO) ∈ all) (d3 : oO.data = .cell (some (.ref ol)))
    (hh : A.handled = none) (hun : A.units < 3000) (hroom : A.depth < 400)
    (hFin : ∀ ys news, ys.length = n → (∀ p ∈ all, p ∈ news) → (∀ p ∈ news, p ∈ all ∨ NCO p.2) → (∀ j, j < n → ∃ v, ys[j]? = some v ∧ KeyAt news v el ol j) → Fin ys news) :
    ∀ k i ys news, k + i = n → ys.length = i → (∀ p ∈ all, p ∈ news) → (∀ p ∈ news, p ∈ all ∨ NCO p.2) → (∀ j, j < i → ∃ v, ys[j]? = some v ∧ KeyAt news v el ol j) →
      LCg.CompRest Challenge.rw_ja0007_01.row.prog w A h₀ L m (envOfC (Str.ofString "law") lawScope L fa cdv) keyElt (Str.ofString "k") keyScope [(Str.ofString "opposites", L + 1 + 1 + 1), (Str.ofString "ends", L + 1 + 1)] s (fun _ => True) (fun i v => ∃ t, v = .int (0 + (i : Int)) t) Fin k i ys news := by
  intro k
  induction k with
  | zero =>
    intro i ys news e1 e2 a1 a2 a3
    have : i = n := by omega
    subst this
    exact LCg.CompRest.zero (hFin ys news e2 a1 a2 a3)
  | succ k ih =>
    intro i ys news e1 e2 a1 a2 a3
    refine LCg.CompRest.succ fun v I oI C oC D m₂ h tk E' hP nC vk F N off _ => ?_
    obtain ⟨t, rfl⟩ := hP
    refine elt_at X T (a1 _ c2) d2 (a1 _ c3) d3 nC vk F N hh hun hroom fun h' tk' v ne F' N' K q => ?_
    refine LCg.CompEnd.intro F' N' (ne ++ news) (fun p hp => ?_) (LCg.Off3.of fun p hp => ?_) trivial (ih (i + 1) _ _ (by omega) (by simp [e2]) (fun p hp => List.mem_append_right _ (a1 p hp)) (fun p hp => ?_) fun j hj => ?_)
    · rcases List.mem_cons.mp hp with rfl | hp
      · exact List.mem_append_right _ (.head _)
      · rcases List.mem_cons.mp hp with rfl | hp
        · exact List.mem_append_right _ (.tail _ (.head _))
        · rcases List.mem_cons.mp hp with rfl | hp
          · exact List.mem_append_right _ (.tail _ (.tail _ (.head _)))
          · rcases List.mem_append.mp hp with hp | hp
            · exact List.mem_append_left _ hp
            · exact List.mem_append_right _ (.tail _ (.tail _ (.tail _ hp)))
    · rcases List.mem_append.mp hp with hp | hp
      · exact (q p hp).2
      · exact off.mem p hp
    · rcases List.mem_append.mp hp with hp | hp
      · exact .inr (q p hp).1
      · exact a2 p hp
    · by_cases hlt : j < i
      · obtain ⟨v', b1, b2⟩ := a3 j hlt
        exact ⟨v', by rw [List.getElem?_append_left (by omega)]; exact b1, b2.mono fun p hp => List.mem_append_right _ hp⟩
      · have : j = i := by omega
        subst this
        exact ⟨v, by rw [← e2]; simp, K.mono fun p hp => List.mem_append_left _ hp⟩
theorem s6_is : nthS lawBody 6 = nthS lawBody 6 := rfl
theorem keys_stmt {L fa : Addr} {cdv : Value} {h₀ : Heap} {m : Str → Option Value} {all : List (Addr × Obj)} {oR oE oO : Obj} {rl el ol : Addr} {rs : Array Value} {nr n : Nat} {Q : Flow → Shared → Prop} {E : Value → Shared → Prop}
    (X : (hd.heap_39 w.params).In h₀)
    (T : Top hd.view_39 (looseW hd.view_39 [Str.ofString "_tuplegetter", Str.ofString "Point", Str.ofString "Orientation"]) mean mg mb h₀)
    (F : Fr h₀ L s.heap m) (N : News h₀ L s.heap all)
    (c1 : (L + 1, oR) ∈ all) (d1 : oR.data = .cell (some (.ref rl))) (c2 : (L + 1 + 1, oE) ∈ all) (d2 : oE.data = .cell (some (.ref el))) (c3 : (L + 1 + 1 + 1, oO) ∈ all) (d3 : oO.data = .cell (some (.ref ol)))
    (y1 : (rl, lsObj rs nr) ∈ all) (hrs : rs.size = n) (hn : n ≤ 6)
    (hh : A.handled = none) (hun : A.units < 3000) (hroom : A.depth < 400)
    (hQ : ∀ h' tk D ys news, Fr h₀ L h' (fun z => if z = Str.ofString "keys" then some (.ref D) else m z) → News h₀ L h' ((D, LCg.lst ys) :: news) → (∀ p ∈ all, p ∈ news) → (∀ p ∈ news, p ∈ all ∨ NCO p.2) → (∀ j, j < n → ∃ v, ys[j]? = some v ∧ KeyAt news v el ol j) → Q .next { s with heap := h', toks := tk }) :
    wpAny (model Challenge.rw_ja0007_01.row.prog w) A (exec (nthS lawBody 6) (envOfC (Str.ofString "law") lawScope L fa cdv)) Q E s := by
  have eB := s6_is
  conv at eB => rhs; whnf
  rw [eB]
  clear eB
  refine LCg.Assign_ListComp_U (F₀ := F) (by rfl) (by with_unfolding_all rfl) (by with_unfolding_all rfl) (by decide) (by rfl) (by decide) (by rfl) (by rfl) (by rfl) ?_
  refine wpAny_mono (range_len X T F N c1 d1 y1 hrs hn hh hun hroom) (fun x s₁ h₁ => ?_) (fun _ _ e => e.elim)
  obtain ⟨r, t, u, v, h', tk, rfl, rfl, hr, F1, N1⟩ := h₁
  obtain ⟨hsz, hsm⟩ := small_six hn
  refine LCg.CompSrc.range hh F1 N1 hr hsm hsz (Nat.le_trans hn (by decide)) fun g => ?_
  refine krest X T c2 d2 c3 d3 hh hun hroom (fun ys news e1 a1 a2 a3 => ?_) n 0 [] all rfl rfl (fun p hp => hp) (fun p hp => .inl hp) (fun j hj => absurd hj (Nat.not_lt_zero _))
  intro D h9 tk9 F9 N9 _
  exact (hQ h9 tk9 D ys news F9 N9 a1 a2 a3)
end Mine
end
section
open PySem PySem.W PySem.Calls PyProof.Rows
namespace Mine
theorem off_J8J : True := by w_top off; trivial
variable {w : World} {A : Around} {s : Shared} {mg mb : Str → Option Value} {mean : ExcName → Option Value}
local macro_rules | `(tactic| k_mem) => `(tactic| assumption)
local macro_rules | `(tactic| walk_at "eval Name") => `(tactic| (k_here; k_dflt (first
  | (refine' nameX_L ?F ?v ?_ ?a ?b; (case F => k_asm); (case a => rfl); (case b => rfl); (case v => assumption); k_whole)
  | (refine' nameX_C ?N ?c ?m ?d ?_ ?a ?b; (case a => rfl); (case b => rfl); (case N => k_asm); (case c => rfl); (case m => k_mem); (case d => k_asm); k_whole))))
theorem s5_is : ∃ p0 p1 p2 p3 p4 p5 p6, nthS lawBody 5 = .For (.Name (Str.ofString "k") p0) (.Call (.Name (Str.ofString "range") p1) [.Call (.Name (Str.ofString "len") p2) [.Name (Str.ofString "rows") p3] [] p4] [] p5) kBody [] p6 := ⟨_, _, _, _, _, _, _, rfl⟩
theorem s7_is : ∃ p0 p1 p2 p3 p4 p5 p6, nthS lawBody 7 = .For (.Name (Str.ofString "j") p0) (.Call (.Name (Str.ofString "range") p1) [.Call (.Name (Str.ofString "len") p2) [.Name (Str.ofString "rows") p3] [] p4] [] p5) jBody [] p6 := ⟨_, _, _, _, _, _, _, rfl⟩
theorem d5_is : lawBody.drop 5 = [nthS lawBody 5, nthS lawBody 6, nthS lawBody 7, nthS lawBody 8] := rfl
theorem s8_is : ∃ p0 p1, nthS lawBody 8 = .Return (some (.Constant (.bool true) 0 p0)) p1 := ⟨_, _, rfl⟩
set_option maxHeartbeats 1000000 in
theorem tail5 {L fa : Addr} {cdv : Value} {h₀ : Heap} {m : Str → Option Value} {own : List (Addr × Obj)} {oR oE oO oI0 : Obj} {vC : Option Value} {rl el ol : Addr} {rs : Array Value} {nr np no n : Nat} {aw : Int} {ta : Tok} {C : Nat → Int × Int × Int × Int} {Q : Flow → Shared → Prop} {E : Value → Shared → Prop}
    (X : (hd.heap_39 w.params).In h₀)
    (T : Top hd.view_39 (looseW hd.view_39 [Str.ofString "_tuplegetter", Str.ofString "Point", Str.ofString "Orientation"]) mean mg mb h₀)
    (F : Fr h₀ L s.heap m) (N : News h₀ L s.heap ((el, lsObj #[] np) :: (L + 1 + 1 + 1, oO) :: own)) (hoff : ∀ p ∈ own, p.1 ≠ el) (hoff3 : ∀ p ∈ own, p.1 ≠ L + 1 + 1 + 1)
    (mA : m (Str.ofString "away") = some (.int aw ta))
    (c1 : (L + 1, oR) ∈ own) (d1 : oR.data = .cell (some (.ref rl))) (c2 : (L + 1 + 1, oE) ∈ own) (d2 : oE.data = .cell (some (.ref el))) (d3 : oO.data = .cell (some (.ref ol))) (c4 : (L + 1 + 1 + 1 + 1, oI0) ∈ own) (d4 : oI0.data = .cell vC)
    (y1 : (rl, lsObj rs nr) ∈ own) (y3 : (ol, lsObj #[] no) ∈ own) (hrs : rs.size = n) (hn : n ≤ 6) (R : ∀ k, k < n → ∃ r, rs[k]? = some (.ref r) ∧ RowAt own (.ref r) (C k))
    (hh : A.handled = none) (hun : A.units < 3000) (hroom : A.depth < 400)
    (hQ : ∀ h' tk m', Fr h₀ L h' m' → wpAny (model Challenge.rw_ja0007_01.row.prog w) A (execs [nthS lawBody 8] (envOfC (Str.ofString "law") lawScope L fa cdv)) Q E { s with heap := h', toks := tk }) :
    wpAny (model Challenge.rw_ja0007_01.row.prog w) A (execs (lawBody.drop 5) (envOfC (Str.ofString "law") lawScope L fa cdv)) Q E s := by
  rw [d5_is]
  obtain ⟨p0, p1, p2, p3, p4, p5, p6, e5⟩ := s5_is
  refine wpAny_execs_cons ?_
  rw [e5]
  refine wpAny_For (wpAny_mono (range_len X T F N (.tail _ (.tail _ c1)) d1 (.tail _ (.tail _ y1)) hrs hn hh hun hroom) (fun x s₁ h₁ => ?_) fun _ _ e => e.elim)
  obtain ⟨r, t, u, v, h', tk, rfl, rfl, hr, F1, N1⟩ := h₁
  refine kloop X T F1 N1 hoff hoff3 mA c1 d1 c2 d2 d3 y1 y3 hn R hr hh hun hroom fun h2 tk2 m2 np2 pts no2 ops oO2 ol2 own2 K => ?_
  have up2 : ∀ p ∈ own, p ∈ (el, lsObj pts np2) :: (L + 1 + 1 + 1, oO2) :: own2 := fun p hp => .tail _ (.tail _ (K.sub p hp))
  refine wpAny_execs_cons (keys_stmt (all := (el, lsObj pts np2) :: (L + 1 + 1 + 1, oO2) :: own2) X T K.F K.N (up2 _ c1) d1 (up2 _ c2) d2 (.tail _ (.head _)) K.d (up2 _ y1) hrs hn hh hun hroom fun h3 tk3 D ys news F3 N3 a1 a2 a3 => ?_)
  obtain ⟨q0, q1, q2, q3, q4, q5, q6, e7⟩ := s7_is
  refine wpAny_execs_cons ?_
  rw [e7]
  have up3 : ∀ p ∈ own, p ∈ (D, LCg.lst ys) :: news := fun p hp => .tail _ (a1 p (up2 p hp))
  have up4 : ∀ p ∈ own2, p ∈ (D, LCg.lst ys) :: news := fun p hp => .tail _ (a1 p (.tail _ (.tail _ hp)))
  refine wpAny_For (wpAny_mono (range_len X T F3 N3 (up3 _ c1) d1 (up3 _ y1) hrs hn hh hun hroom) (fun x s₁ h₁ => ?_) fun _ _ e => e.elim)
  obtain ⟨r4, t4, u4, v4, h4, tk4, rfl, rfl, hr4, F4, N4⟩ := h₁
  classical
  have fil : ∀ p ∈ (D, LCg.lst ys) :: news, NCO p.2 → p ∈ ((D, LCg.lst ys) :: news).filter fun p => decide (p.1 ≠ L + 1 + 1 + 1 + 1) := fun p hp n => List.mem_filter.mpr ⟨hp, by simpa using off_cell N4 (up3 _ c4) d4 hp n⟩
  have L14 : ∀ L : Nat, L + 1 ≠ L + 1 + 1 + 1 + 1 := fun L => by omega
  refine outer (own := ((D, LCg.lst ys) :: news).filter fun p => decide (p.1 ≠ L + 1 + 1 + 1 + 1)) (aw := aw) (ends := el) (opp := ol2) (pts := pts) (ops := ops) (ks := ys.toArray) (rs := rs) X T F4 (fun p hp => N4 p (List.mem_filter.mp hp).1) ⟨oI0, (N4 _ (up3 _ c4)).1, d4⟩ (fun p hp => by simpa using (List.mem_filter.mp hp).2)
    (if_pos rfl) (List.mem_filter.mpr ⟨up3 _ c1, by simpa using L14 L⟩) d1 (fil _ (up3 _ y1) (by ((intro v h; cases h)))) (fil _ (.head _) (by ((intro v h; cases h)))) hn (fil _ (.tail _ (a1 _ (.head _))) (by ((intro v h; cases h)))) (fil _ (up4 _ K.o) (by ((intro v h; cases h)))) (fun k hk => ?_) hr4 hh hun hroom fun h5 tk5 m5 F5 => hQ h5 tk5 m5 F5
  obtain ⟨rr, hr1, r', a, b, n1, n2, n3, g1, g2, g3, g4, er, R2, R3, R4, ok⟩ := R k hk
  cases er
  obtain ⟨⟨v1, e1, x1, dd1, t1, l1, k1, rfl, P1, P1'⟩, ⟨v2, e2, x2, dd2, t2, l2, k2, rfl, P2, P2'⟩, t3, e3⟩ := K.P k hk
  obtain ⟨v3, e4, x, dx, q, c, hh1, hh2, hh3, hh4, uu1, uu2, uu3, uu4, uu5, rfl, K1, K2, K3⟩ := a3 k hk
  exact ⟨(C k).1, (C k).2.1, (C k).2.2.1, (C k).2.2.2, ok,
    ⟨rr, a, b, n1, n2, n3, g1, g2, g3, g4, hr1, fil _ (up3 _ R2) (by ((intro v h; cases h))), fil _ (up3 _ R3) (by ((intro v h; cases h))), fil _ (up3 _ R4) (by ((intro v h; cases h)))⟩,
    ⟨x1, dd1, t1, l1, k1, e1, fil _ (up4 _ P1) (by ((intro v h; cases h))), fil _ (up4 _ P1') (by ((intro v h; cases h)))⟩,
    ⟨x2, dd2, t2, l2, k2, e2, fil _ (up4 _ P2) (by ((intro v h; cases h))), fil _ (up4 _ P2') (by ((intro v h; cases h)))⟩, ⟨t3, e3⟩,
    ⟨x, dx, q, c, hh1, hh2, hh3, hh4, uu1, uu2, uu3, uu4, uu5, by simpa using e4, fil _ (.tail _ K1) (by ((intro v h; cases h))), fil _ (.tail _ K2) (by ((intro v h; cases h))), fil _ (.tail _ K3) (by ((intro v h; cases h)))⟩⟩
set_option maxHeartbeats 1000000 in
theorem ret_true {L fa : Addr} {cdv : Value} {Q : Flow → Shared → Prop} {E : Value → Shared → Prop}
    (hQ : Q (.ret (.bool true)) s) :
    wpAny (model Challenge.rw_ja0007_01.row.prog w) A (execs [nthS lawBody 8] (envOfC (Str.ofString "law") lawScope L fa cdv)) Q E s := by
  obtain ⟨p0, p1, e8⟩ := s8_is
  rw [e8]
  k_steps
  exact hQ
end Mine
end
section
open PySem PySem.W PySem.Calls PyProof.Rows
namespace Mine
theorem off_J8K : True := by w_top off; trivial
local macro_rules | `(tactic| walk_at "MINE pad") => `(tactic| skip)
variable {w : World} {A : Around} {s : Shared} {mg mb : Str → Option Value} {mean : ExcName → Option Value}
local macro_rules | `(tactic| k_mem) => `(tactic| assumption)
local macro_rules | `(tactic| walk_at "eval Name") => `(tactic| (k_here; k_dflt (first
  | (refine' nameX_L ?F ?v ?_ ?a ?b; (case F => k_asm); (case a => rfl); (case b => rfl); (case v => assumption); k_whole)
  | (refine' nameX_C ?N ?c ?m ?d ?_ ?a ?b; (case a => rfl); (case b => rfl); (case N => k_asm); (case c => rfl); (case m => k_mem); (case d => k_asm); k_whole))))
def sAway : List Stmt := lawBody.take 2
theorem sAway_is : sAway = sAway := rfl
set_option maxHeartbeats 1000000 in
theorem head01 {L fa : Addr} {cdv : Value} {h₀ : Heap} {m : Str → Option Value} {o1 o2 o3 o4 : Obj} {l : Addr} {vs : List Value} {ns : List Int} {v1 : Option Value} {Q : Flow → Shared → Prop} {E : Value → Shared → Prop}
    (X : (hd.heap_39 w.params).In h₀)
    (T : Top hd.view_39 (looseW hd.view_39 [Str.ofString "_tuplegetter", Str.ofString "Point", Str.ofString "Orientation"]) mean mg mb h₀)
    (F : Fr h₀ L s.heap m) (N : News h₀ L s.heap [(L + 1 + 1 + 1 + 1, o4), (L + 1 + 1 + 1, o3), (L + 1 + 1, o2), (L + 1, o1)]) (d1 : o1.data = .cell v1)
    (mS : m (Str.ofString "script") = some (.ref l)) (hL : h₀.IsList l vs.toArray) (hI : IntsAre vs ns) (h63 : ns.length ≤ 63)
    (hh : A.handled = none) (hun : A.units < 3000) (hroom : A.depth < 400)
    (hQ : ∀ h' tk aw ta, Fr h₀ L h' (fun y => if y = Str.ofString "away" then some (.int aw ta) else m y) → News h₀ L h' [(L + 1 + 1 + 1 + 1, o4), (L + 1 + 1 + 1, o3), (L + 1 + 1, o2), (L + 1, o1)] → Q .next { s with heap := h', toks := tk }) :
    wpAny (model Challenge.rw_ja0007_01.row.prog w) A (exec (nthS lawBody 0) (envOfC (Str.ofString "law") lawScope L fa cdv)) Q E s := by
  obtain ⟨ah, dep, fra, gua, uni⟩ := A
  cases hh
  dsimp only at hun hroom
  have eB : nthS lawBody 0 = nthS lawBody 0 := rfl
  conv at eB => rhs; whnf
  rw [eB]
  clear eB
  revert X; k_fill; intro X
  show wpAny _ _ _ _ _ _
  try k_fold
  k_steps
  all_goals repeat (first | (k_unfold; (try dsimp only)) | dsimp only)
  all_goals exact hQ _ _ _ _ (by assumption) (by assumption)
def rIter : PySem.Expr := match nthS lawBody 2 with | .For (iter := e) .. => e | _ => .Name (Str.ofString "") default
theorem s2_is : ∃ p0 p1, nthS lawBody 2 = .For (.Name (Str.ofString "number") p0) rIter rBody [] p1 := ⟨_, _, rfl⟩
theorem rIter_is : rIter = rIter := rfl
def IterEnd (h₀ : Heap) (L : Addr) (m : Str → Option Value) (all : List (Addr × Obj)) (s : Shared) (x : Value) (s' : Shared) : Prop :=
  ∃ l' items nl ne h' tk, x = .ref l' ∧ s' = { s with heap := h', toks := tk } ∧ Fr h₀ L h' m ∧ News h₀ L h' (ne ++ all) ∧ (l', lsObj items nl) ∈ ne ∧ (∀ v ∈ items.toList, ∃ z t, v = .int z t) ∧ items.size ≤ 3 ∧ ∀ p ∈ ne, NCO p.2
theorem ints_all {ws : List Value} {ns : List Int} (h : IntsAre ws ns) : ∀ v ∈ ws, ∃ z t, v = .int z t := fun v hv => by
  obtain ⟨i, hi, rfl⟩ := List.mem_iff_getElem.mp hv
  have hl : i < ns.length := by rw [← h.length]; exact hi
  obtain ⟨t, ht⟩ := h.get i ns[i] (by simp [hl])
  rw [List.getElem?_eq_getElem hi] at ht
  exact ⟨_, t, Option.some.inj ht⟩
set_option maxHeartbeats 1000000 in
theorem iter2 {L fa : Addr} {cdv : Value} {h₀ : Heap} {m : Str → Option Value} {all : List (Addr × Obj)} {l : Addr} {vs : List Value} {ns : List Int}
    (X : (hd.heap_39 w.params).In h₀)
    (T : Top hd.view_39 (looseW hd.view_39 [Str.ofString "_tuplegetter", Str.ofString "Point", Str.ofString "Orientation"]) mean mg mb h₀)
    (F : Fr h₀ L s.heap m) (N : News h₀ L s.heap all)
    (mS : m (Str.ofString "script") = some (.ref l)) (hL : h₀.IsList l vs.toArray) (hI : IntsAre vs ns) (h63 : ns.length ≤ 63)
    (hh : A.handled = none) (hun : A.units < 3000) (hroom : A.depth < 400) :
    wpAny (model Challenge.rw_ja0007_01.row.prog w) A (eval rIter (envOfC (Str.ofString "law") lawScope L fa cdv)) (IterEnd h₀ L m all s) (fun _ _ => False) s := by
  obtain ⟨ah, dep, fra, gua, uni⟩ := A
  cases hh
  dsimp only at hun hroom
  have eB := rIter_is
  conv at eB => rhs; whnf
  rw [eB]
  clear eB
  revert X; k_fill; intro X
  show wpAny _ _ _ _ _ _
  k_fold
  k_steps
  all_goals repeat (first | (k_unfold; (try dsimp only)) | dsimp only)
  · rename_i ws8 h8 F8 N8 l8 hI8 hC8 hL8 p8
    exact ⟨_, ws8.toArray, 0, [(_, W.listOf ws8.toArray 0)], _, _, rfl, rfl, F8, N8, .head _, fun v hv => ints_all hI8 v (by simpa using hv), by rw [List.size_toArray, hI8.length]; omega, List.forall_mem_cons.mpr ⟨by ((intro v h; cases h)), List.forall_mem_nil _⟩⟩
  · rename_i D8 ws8 h8 l8 hI8 hC8 hL8 p8 l9 h9 F8 N8 l10
    exact ⟨_, #[.int 1260 (s.toks + 1 + 1 + 1)], 0, [(l9, W.listOf #[.int 1260 (s.toks + 1 + 1 + 1)] 0), (D8, W.listOf ws8.toArray 0)], h9, _, rfl, rfl, F8, N8, .head _, fun v hv => ⟨1260, _, by simpa using hv⟩, by simp, List.forall_mem_cons.mpr ⟨by ((intro v h; cases h)), List.forall_mem_cons.mpr ⟨by ((intro v h; cases h)), List.forall_mem_nil _⟩⟩⟩
set_option maxHeartbeats 1000000 in
theorem new_rows {L fa : Addr} {cdv : Value} {h₀ : Heap} {m : Str → Option Value} {all own : List (Addr × Obj)} {o : Obj} {v0 : Option Value} {Q : Flow → Shared → Prop} {E : Value → Shared → Prop}
    (F : Fr h₀ L s.heap m) (N : News h₀ L s.heap all) (mc : (L + 1, o) ∈ all) (d : o.data = .cell v0) (hs : ∀ p ∈ all, p = (L + 1, o) ∨ p ∈ own ∨ NCO p.2) (hoff : ∀ p ∈ own, p.1 ≠ L + 1) (hsub : ∀ p ∈ own, p ∈ all)
    (hh : A.handled = none) (hun : A.units < 3000) (hroom : A.depth < 400)
    (hQ : ∀ h' tk D o' own', Fr h₀ L h' m → News h₀ L h' ((L + 1, o') :: own') → o'.data = .cell (some (.ref D)) → (D, lsObj #[] 0) ∈ own' → (∀ p ∈ own, p ∈ own') → (∀ p ∈ own', p ∈ own ∨ NCO p.2) → (∀ p ∈ all, NCO p.2 → p ∈ own') → (∀ p ∈ all, p.1 ≠ D) → Q .next { s with heap := h', toks := tk }) :
    wpAny (model Challenge.rw_ja0007_01.row.prog w) A (exec (nthS lawBody 1) (envOfC (Str.ofString "law") lawScope L fa cdv)) Q E s := by
  obtain ⟨ah, dep, fra, gua, uni⟩ := A
  cases hh
  dsimp only at hun hroom
  have eB : nthS lawBody 1 = nthS lawBody 1 := rfl
  conv at eB => rhs; whnf
  rw [eB]
  clear eB
  k_steps
  all_goals repeat (first | (k_unfold; (try dsimp only)) | dsimp only)
  rename_i h8 F8 N8
  refine' cell_store (own := own) F8 N8 (.tail _ mc) d ?hs hoff (fun p hp => .tail _ (hsub p hp)) ?_ rfl rfl rfl
  case hs => exact List.forall_mem_cons.mpr ⟨.inr (.inr (by ((intro v h; cases h)))), hs⟩
  intro h9 o9 own9 F9 N9 d9 s9 n9 k9
  exact hQ h9 _ _ o9 own9 F9 N9 d9 (k9 _ (.head _) (by ((intro v h; cases h)))) s9 n9 (fun p hp => k9 p (.tail _ hp)) (fun p hp => Nat.ne_of_lt (Heap.lt_size (N p hp).1))
set_option maxHeartbeats 1000000 in
theorem new_ends {L fa : Addr} {cdv : Value} {h₀ : Heap} {m : Str → Option Value} {all own : List (Addr × Obj)} {o : Obj} {v0 : Option Value} {Q : Flow → Shared → Prop} {E : Value → Shared → Prop}
    (F : Fr h₀ L s.heap m) (N : News h₀ L s.heap all) (mc : (L + 1 + 1, o) ∈ all) (d : o.data = .cell v0) (hs : ∀ p ∈ all, p = (L + 1 + 1, o) ∨ p ∈ own ∨ NCO p.2) (hoff : ∀ p ∈ own, p.1 ≠ L + 1 + 1) (hsub : ∀ p ∈ own, p ∈ all)
    (hh : A.handled = none) (hun : A.units < 3000) (hroom : A.depth < 400)
    (hQ : ∀ h' tk D o' own', Fr h₀ L h' m → News h₀ L h' ((L + 1 + 1, o') :: own') → o'.data = .cell (some (.ref D)) → (D, lsObj #[] 0) ∈ own' → (∀ p ∈ own, p ∈ own') → (∀ p ∈ own', p ∈ own ∨ NCO p.2) → (∀ p ∈ all, NCO p.2 → p ∈ own') → (∀ p ∈ all, p.1 ≠ D) → Q .next { s with heap := h', toks := tk }) :
    wpAny (model Challenge.rw_ja0007_01.row.prog w) A (exec (nthS lawBody 3) (envOfC (Str.ofString "law") lawScope L fa cdv)) Q E s := by
  obtain ⟨ah, dep, fra, gua, uni⟩ := A
  cases hh
  dsimp only at hun hroom
  have eB : nthS lawBody 3 = nthS lawBody 3 := rfl
  conv at eB => rhs; whnf
  rw [eB]
  clear eB
  k_steps
  all_goals repeat (first | (k_unfold; (try dsimp only)) | dsimp only)
  rename_i h8 F8 N8
  refine' cell_store (own := own) F8 N8 (.tail _ mc) d ?hs hoff (fun p hp => .tail _ (hsub p hp)) ?_ rfl rfl rfl
  case hs => exact List.forall_mem_cons.mpr ⟨.inr (.inr (by ((intro v h; cases h)))), hs⟩
  intro h9 o9 own9 F9 N9 d9 s9 n9 k9
  exact hQ h9 _ _ o9 own9 F9 N9 d9 (k9 _ (.head _) (by ((intro v h; cases h)))) s9 n9 (fun p hp => k9 p (.tail _ hp)) (fun p hp => Nat.ne_of_lt (Heap.lt_size (N p hp).1))
set_option maxHeartbeats 1000000 in
theorem new_opposites {L fa : Addr} {cdv : Value} {h₀ : Heap} {m : Str → Option Value} {all own : List (Addr × Obj)} {o : Obj} {v0 : Option Value} {Q : Flow → Shared → Prop} {E : Value → Shared → Prop}
    (F : Fr h₀ L s.heap m) (N : News h₀ L s.heap all) (mc : (L + 1 + 1 + 1, o) ∈ all) (d : o.data = .cell v0) (hs : ∀ p ∈ all, p = (L + 1 + 1 + 1, o) ∨ p ∈ own ∨ NCO p.2) (hoff : ∀ p ∈ own, p.1 ≠ L + 1 + 1 + 1) (hsub : ∀ p ∈ own, p ∈ all)
    (hh : A.handled = none) (hun : A.units < 3000) (hroom : A.depth < 400)
    (hQ : ∀ h' tk D o' own', Fr h₀ L h' m → News h₀ L h' ((L + 1 + 1 + 1, o') :: own') → o'.data = .cell (some (.ref D)) → (D, lsObj #[] 0) ∈ own' → (∀ p ∈ own, p ∈ own') → (∀ p ∈ own', p ∈ own ∨ NCO p.2) → (∀ p ∈ all, NCO p.2 → p ∈ own') → (∀ p ∈ all, p.1 ≠ D) → Q .next { s with heap := h', toks := tk }) :
    wpAny (model Challenge.rw_ja0007_01.row.prog w) A (exec (nthS lawBody 4) (envOfC (Str.ofString "law") lawScope L fa cdv)) Q E s := by
  obtain ⟨ah, dep, fra, gua, uni⟩ := A
  cases hh
  dsimp only at hun hroom
  have eB : nthS lawBody 4 = nthS lawBody 4 := rfl
  conv at eB => rhs; whnf
  rw [eB]
  clear eB
  k_steps
  all_goals repeat (first | (k_unfold; (try dsimp only)) | dsimp only)
  rename_i h8 F8 N8
  refine' cell_store (own := own) F8 N8 (.tail _ mc) d ?hs hoff (fun p hp => .tail _ (hsub p hp)) ?_ rfl rfl rfl
  case hs => exact List.forall_mem_cons.mpr ⟨.inr (.inr (by ((intro v h; cases h)))), hs⟩
  intro h9 o9 own9 F9 N9 d9 s9 n9 k9
  exact hQ h9 _ _ o9 own9 F9 N9 d9 (k9 _ (.head _) (by ((intro v h; cases h)))) s9 n9 (fun p hp => k9 p (.tail _ hp)) (fun p hp => Nat.ne_of_lt (Heap.lt_size (N p hp).1))
end Mine
end
section
open PySem PySem.W PySem.Calls PyProof.Rows
namespace Mine
theorem off_J8L : True := by w_top off; trivial
variable {w : World} {A : Around} {s : Shared} {mg mb : Str → Option Value} {mean : ExcName → Option Value}
local macro_rules | `(tactic| k_mem) => `(tactic| assumption)
local macro_rules | `(tactic| walk_at "eval Name") => `(tactic| (k_here; k_dflt (first
  | (refine' nameX_L ?F ?v ?_ ?a ?b; (case F => k_asm); (case a => rfl); (case b => rfl); (case v => assumption); k_whole)
  | (refine' nameX_C ?N ?c ?m ?d ?_ ?a ?b; (case a => rfl); (case b => rfl); (case N => k_asm); (case c => rfl); (case m => k_mem); (case d => k_asm); k_whole))))
theorem law_is : lawBody = nthS lawBody 0 :: nthS lawBody 1 :: nthS lawBody 2 :: nthS lawBody 3 :: nthS lawBody 4 :: lawBody.drop 5 := rfl
set_option maxHeartbeats 1000000 in
theorem law_all {L fa : Addr} {cdv : Value} {h₀ : Heap} {m : Str → Option Value} {o1 o2 o3 o4 : Obj} {l : Addr} {vs : List Value} {ns : List Int} {v1 v2 v3 v4 : Option Value} {Q : Flow → Shared → Prop} {E : Value → Shared → Prop}
    (X : (hd.heap_39 w.params).In h₀)
    (T : Top hd.view_39 (looseW hd.view_39 [Str.ofString "_tuplegetter", Str.ofString "Point", Str.ofString "Orientation"]) mean mg mb h₀)
    (F : Fr h₀ L s.heap m) (N : News h₀ L s.heap [(L + 1 + 1 + 1 + 1, o4), (L + 1 + 1 + 1, o3), (L + 1 + 1, o2), (L + 1, o1)]) (d1 : o1.data = .cell v1) (d2 : o2.data = .cell v2) (d3 : o3.data = .cell v3) (d4 : o4.data = .cell v4)
    (mS : m (Str.ofString "script") = some (.ref l)) (hL : h₀.IsList l vs.toArray) (hI : IntsAre vs ns) (h63 : ns.length ≤ 63)
    (hh : A.handled = none) (hun : A.units < 3000) (hroom : A.depth < 400)
    (hQ : ∀ h' tk m', Fr h₀ L h' m' → Q (.ret (.bool true)) { s with heap := h', toks := tk }) :
    wpAny (model Challenge.rw_ja0007_01.row.prog w) A (execs lawBody (envOfC (Str.ofString "law") lawScope L fa cdv)) Q E s := by
  have n21 : ∀ L : Nat, L + 1 + 1 ≠ L + 1 := fun L => by omega
  have n31 : ∀ L : Nat, L + 1 + 1 + 1 ≠ L + 1 := fun L => by omega
  have n41 : ∀ L : Nat, L + 1 + 1 + 1 + 1 ≠ L + 1 := fun L => by omega
  have nS : (Str.ofString "script" : Str) ≠ Str.ofString "away" := by decide
  rw [law_is]
  refine wpAny_execs_cons (head01 X T F N d1 mS hL hI h63 hh hun hroom fun h1 tk1 aw ta F1 N1 => ?_)
  refine wpAny_execs_cons (new_rows (own := [(L + 1 + 1 + 1 + 1, o4), (L + 1 + 1 + 1, o3), (L + 1 + 1, o2)]) F1 N1 (.tail _ (.tail _ (.tail _ (.head _)))) d1
    (List.forall_mem_cons.mpr ⟨.inr (.inl (.head _)), List.forall_mem_cons.mpr ⟨.inr (.inl (.tail _ (.head _))), List.forall_mem_cons.mpr ⟨.inr (.inl (.tail _ (.tail _ (.head _)))), List.forall_mem_cons.mpr ⟨.inl rfl, List.forall_mem_nil _⟩⟩⟩⟩)
    (List.forall_mem_cons.mpr ⟨n41 L, List.forall_mem_cons.mpr ⟨n31 L, List.forall_mem_cons.mpr ⟨n21 L, List.forall_mem_nil _⟩⟩⟩)
    (List.forall_mem_cons.mpr ⟨.head _, List.forall_mem_cons.mpr ⟨.tail _ (.head _), List.forall_mem_cons.mpr ⟨.tail _ (.tail _ (.head _)), List.forall_mem_nil _⟩⟩⟩) hh hun hroom fun h2 tk2 D2 oR own2 F2 N2 dR mD s2 n2 k2 f2 => ?_)
  obtain ⟨p0, p1, e2⟩ := s2_is
  refine wpAny_execs_cons ?_
  rw [e2]
  have mS2 : (fun y => if y = Str.ofString "away" then some (.int aw ta) else m y) (Str.ofString "script") = some (.ref l) := (if_neg nS).trans mS
  refine wpAny_For (wpAny_mono (iter2 X T F2 N2 mS2 hL hI h63 hh hun hroom) (fun x s₁ h₁ => ?_) fun _ _ e => e.elim)
  obtain ⟨l', items, nl, ne, h3, tk3, rfl, rfl, F3, N3, ml, hz, hsz, hne⟩ := h₁
  have N3' : News h₀ L h3 ((L + 1, oR) :: (ne ++ own2)) := fun p hp => N3 p (by
    rcases List.mem_cons.mp hp with rfl | hp
    · exact List.mem_append_right _ (.head _)
    · rcases List.mem_append.mp hp with hp | hp
      · exact List.mem_append_left _ hp
      · exact List.mem_append_right _ (.tail _ hp))
  have nco2 : ∀ p ∈ own2, p ∈ [(L + 1 + 1 + 1 + 1, o4), (L + 1 + 1 + 1, o3), (L + 1 + 1, o2)] ∨ NCO p.2 := n2
  have hoff3 : ∀ p ∈ ne ++ own2, p.1 ≠ L + 1 := fun p hp => by
    rcases List.mem_append.mp hp with q | q
    · exact off_cell N3' (.head _) dR (.tail _ hp) (hne p q)
    · rcases nco2 p q with q | q
      · rcases List.mem_cons.mp q with rfl | q
        · exact n41 L
        · rcases List.mem_cons.mp q with rfl | q
          · exact n31 L
          · rw [List.mem_singleton.mp q]; exact n21 L
      · exact off_cell N3' (.head _) dR (.tail _ hp) q
  refine rloop (own := ne ++ own2) (aw := aw) (ta := ta) X T F3 N3' hoff3 (if_pos rfl) dR (List.mem_append_right _ mD) (List.mem_append_left _ ml) hz hsz hh hun hroom fun h4 tk4 m4 oR4 rl4 nr4 rs own4 K => ?_
  have m4' : ∀ p ∈ [(L + 1 + 1 + 1 + 1, o4), (L + 1 + 1 + 1, o3), (L + 1 + 1, o2)], p ∈ own4 := fun p hp => K.sub p (List.mem_append_right _ (s2 p hp))
  have n4' : ∀ p ∈ own4, p ∈ [(L + 1 + 1 + 1 + 1, o4), (L + 1 + 1 + 1, o3), (L + 1 + 1, o2)] ∨ NCO p.2 := fun p hp => by
    rcases K.n p hp with q | q
    · rcases List.mem_append.mp q with q | q
      · exact .inr (hne p q)
      · exact n2 p q
    · exact .inr q
  have n42 : ∀ L : Nat, L + 1 + 1 + 1 + 1 ≠ L + 1 + 1 := fun L => by omega
  have n32 : ∀ L : Nat, L + 1 + 1 + 1 ≠ L + 1 + 1 := fun L => by omega
  have n12 : ∀ L : Nat, L + 1 ≠ L + 1 + 1 := fun L => by omega
  have n43 : ∀ L : Nat, L + 1 + 1 + 1 + 1 ≠ L + 1 + 1 + 1 := fun L => by omega
  have n13 : ∀ L : Nat, L + 1 ≠ L + 1 + 1 + 1 := fun L => by omega
  have n23 : ∀ L : Nat, L + 1 + 1 ≠ L + 1 + 1 + 1 := fun L => by omega
  refine wpAny_execs_cons (new_ends (own := [(L + 1 + 1 + 1 + 1, o4), (L + 1 + 1 + 1, o3), (L + 1, oR4)]) K.F K.N (.tail _ (m4' _ (.tail _ (.tail _ (.head _))))) d2
    (List.forall_mem_cons.mpr ⟨.inr (.inl (.tail _ (.tail _ (.head _)))), fun p hp => by
      rcases n4' p hp with q | q
      · rcases List.mem_cons.mp q with rfl | q
        · exact .inr (.inl (.head _))
        · rcases List.mem_cons.mp q with rfl | q
          · exact .inr (.inl (.tail _ (.head _)))
          · exact .inl (List.mem_singleton.mp q)
      · exact .inr (.inr q)⟩)
    (List.forall_mem_cons.mpr ⟨n42 L, List.forall_mem_cons.mpr ⟨n32 L, List.forall_mem_cons.mpr ⟨n12 L, List.forall_mem_nil _⟩⟩⟩)
    (List.forall_mem_cons.mpr ⟨.tail _ (m4' _ (.head _)), List.forall_mem_cons.mpr ⟨.tail _ (m4' _ (.tail _ (.head _))), List.forall_mem_cons.mpr ⟨.head _, List.forall_mem_nil _⟩⟩⟩) hh hun hroom fun h5 tk5 el oE own5 F5 N5 dE mE s5 n5 k5 f5 => ?_)
  refine wpAny_execs_cons (new_opposites (own := [(L + 1 + 1 + 1 + 1, o4), (L + 1, oR4), (L + 1 + 1, oE)]) F5 N5 (.tail _ (s5 _ (.tail _ (.head _)))) d3
    (List.forall_mem_cons.mpr ⟨.inr (.inl (.tail _ (.tail _ (.head _)))), fun p hp => by
      rcases n5 p hp with q | q
      · rcases List.mem_cons.mp q with rfl | q
        · exact .inr (.inl (.head _))
        · rcases List.mem_cons.mp q with rfl | q
          · exact .inl rfl
          · rw [List.mem_singleton.mp q]; exact .inr (.inl (.tail _ (.head _)))
      · exact .inr (.inr q)⟩)
    (List.forall_mem_cons.mpr ⟨n43 L, List.forall_mem_cons.mpr ⟨n13 L, List.forall_mem_cons.mpr ⟨n23 L, List.forall_mem_nil _⟩⟩⟩)
    (List.forall_mem_cons.mpr ⟨.tail _ (s5 _ (.head _)), List.forall_mem_cons.mpr ⟨.tail _ (s5 _ (.tail _ (.tail _ (.head _)))), List.forall_mem_cons.mpr ⟨.head _, List.forall_mem_nil _⟩⟩⟩) hh hun hroom fun h6 tk6 ol oO own6 F6 N6 dO mO s6 n6 k6 f6 => ?_)
  have mE6 : (el, lsObj #[] 0) ∈ own6 := k6 _ (.tail _ mE) (by ((intro v h; cases h)))
  classical
  have cel : ∀ {a : Addr} {o : Obj} {v}, (a, o) ∈ own6 → o.data = .cell v → a ≠ el := fun ha hd => off_obj N6 (.tail _ ha) (.tail _ mE6) fun q => by rw [q] at hd; cases hd
  have fc : ∀ {a : Addr} {o : Obj} {v}, (a, o) ∈ own6 → o.data = .cell v → (a, o) ∈ own6.filter fun p => decide (p.1 ≠ el) := fun ha hd => List.mem_filter.mpr ⟨ha, by simpa using cel ha hd⟩
  have f4 : ∀ p ∈ own4, NCO p.2 → p ∈ own6.filter fun p => decide (p.1 ≠ el) := fun p hp n => List.mem_filter.mpr ⟨k6 p (.tail _ (k5 p (.tail _ hp) n)) n, by simpa using f5 p (.tail _ hp)⟩
  have hP : ∀ k, ∃ c : Int × Int × Int × Int, k < 2 * items.size → ∃ r, rs[k]? = some (.ref r) ∧ RowAt (own6.filter fun p => decide (p.1 ≠ el)) (.ref r) c := fun k => by
    by_cases hk : k < 2 * items.size
    · obtain ⟨v, c, e1, r1, a, b, x1, x2, x3, g1, g2, g3, g4, e, R1, R2, R3, ok⟩ := K.P k hk
      subst e
      exact ⟨c, fun _ => ⟨r1, e1, r1, a, b, x1, x2, x3, g1, g2, g3, g4, rfl, f4 _ R1 (by ((intro v h; cases h))), f4 _ R2 (by ((intro v h; cases h))), f4 _ R3 (by ((intro v h; cases h))), ok⟩⟩
    · exact ⟨(0, 0, 0, 0), fun q => absurd q hk⟩
  refine tail5 (np := 0) (own := own6.filter fun p => decide (p.1 ≠ el)) (n := 2 * items.size) (C := fun k => (hP k).choose) X T F6 ?_ (fun p hp => by simpa using (List.mem_filter.mp hp).2) (fun p hp => ?_) K.mA
    (fc (s6 _ (.tail _ (.head _))) K.d) K.d (fc (s6 _ (.tail _ (.tail _ (.head _)))) dE) dE dO (fc (s6 _ (.head _)) d4) d4 (f4 _ K.o (by ((intro v h; cases h)))) (List.mem_filter.mpr ⟨mO, by simpa using Ne.symm (f6 (el, lsObj #[] 0) (.tail _ mE))⟩) K.s1 (by omega)
    (fun k hk => (hP k).choose_spec hk) hh hun hroom fun h7 tk7 m7 F7 => ret_true (hQ h7 tk7 m7 F7)
  · exact List.forall_mem_cons.mpr ⟨N6 _ (.tail _ mE6), List.forall_mem_cons.mpr ⟨N6 _ (.head _), fun p hp => N6 p (.tail _ (List.mem_filter.mp hp).1)⟩⟩
  · have hp1 := (List.mem_filter.mp hp).1
    rcases n6 p hp1 with q | q
    · rcases List.mem_cons.mp q with rfl | q
      · exact n43 L
      · rcases List.mem_cons.mp q with rfl | q
        · exact n13 L
        · rw [List.mem_singleton.mp q]; exact n23 L
    · exact off_cell N6 (.head _) dO (.tail _ hp1) q
end Mine
end
section
open PySem PySem.W PySem.Calls PyProof.Rows
namespace Mine
theorem off_J8M : True := by w_top off; trivial
variable {w : World} {A : Around} {s : Shared} {mg mb : Str → Option Value} {mean : ExcName → Option Value}
local macro_rules | `(tactic| k_mem) => `(tactic| assumption)
local macro_rules | `(tactic| walk_at "eval Name") => `(tactic| (k_here; k_dflt (first
  | (refine' nameX_L ?F ?v ?_ ?a ?b; (case F => k_asm); (case a => rfl); (case b => rfl); (case v => assumption); k_whole)
  | (refine' nameX_C ?N ?c ?m ?d ?_ ?a ?b; (case a => rfl); (case b => rfl); (case N => k_asm); (case c => rfl); (case m => k_mem); (case d => k_asm); k_whole))))
set_option maxHeartbeats 8000000 in
theorem holds : PySem.Challenge.rw_ja0007_01.Holds := by
  w_on
  o_law
  refine holds_open (q := hd.view_39) (loose := hd_loose) (Xt := fun s => xlAt hd.view_39 [] s && recOk (RowW.records (OpenRow.toRowW PySem.Challenge.rw_ja0007_01.row)) s) (XP := XL hd.view_39 []) (Yf := Hook.obs hd_hook) (Ya := Hook.val hd_hook) (YP := Hook.says hd_hook) (N := 5638)
    hd_left (Hook.of hd_hook) (Hook.keeps hd_hook) (fun s e => xl_of s (Bool.and_eq_true_iff.mp e).1) XL.keeps (by rfl) (by rfl) (by rfl) (fun s e => recFacts_of (Bool.and_eq_true_iff.mp e).2) (by rfl) (by first | assumption | decide +kernel) (by decide +kernel) ⟨rfl, rfl, rfl, rfl, rfl, by decide +kernel⟩ ?hw ?hc
  case hw => w_witness2
  w_strict (k_go0; (all_goals try k_fold); (refine law_all (by assumption) (by assumption) (by assumption) (by assumption) (by assumption) (by assumption) (by assumption) (by assumption) rfl (by assumption) (by assumption) (by omega) rfl (by (try simp only [Around.deeper_units]); exact Nat.le_of_ble_eq_true rfl) (by (try simp only [depth_deeper]); exact Nat.le_of_ble_eq_true rfl) ?_); intro h9 tk9 m9 F9; (repeat (first | (k_unfold; (try dsimp only)) | dsimp only)); wrow_close)
end Mine
end
theorem PySem.Challenge.cw_ja0007_01_holds : PySem.Challenge.rw_ja0007_01.Holds := by
  exact Mine.holds
