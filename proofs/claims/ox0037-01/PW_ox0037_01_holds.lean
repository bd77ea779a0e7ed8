import PyProof.Rows.All
import Wide.All
import OpenK.AllK
import Wide.FinOn
import PySem.Challenge.RW_ox0037_01
set_option Elab.async false
section
open PySem PySem.W PySem.Calls PyProof.Rows
namespace Mine
set_option maxRecDepth 100000
set_option maxHeartbeats 8000000
noncomputable def sta (i : Nat) : Stmt := PySem.Challenge.pw_ox0037_01.main.body.getD i (.Pass default)
noncomputable def sub (s : Stmt) (i : Nat) : Stmt := match s with
  | .ClassDef _ _ _ b _ _ _ _ _ _ _ => b.getD i (.Pass default)
  | s => s
noncomputable def fB (s : Stmt) : List Stmt := match s with
  | .FunctionDef _ _ b _ _ _ _ _ _ _ => b
  | _ => []
noncomputable def fA (s : Stmt) : Arguments := match s with
  | .FunctionDef _ a _ _ _ _ _ _ _ _ => a
  | _ => default
noncomputable def fS (s : Stmt) : Scope := match s with
  | .FunctionDef _ _ _ _ _ _ c _ _ _ => c
  | _ => default
noncomputable def fD (s : Stmt) : Str := match fB s with
  | .Expr (.Constant (.str x) _ _) _ :: _ => x
  | _ => Str.empty
noncomputable def heap1 (fB0 : List Stmt) (fA0 : Arguments) (fS0 : Scope) (fB1 : List Stmt) (fA1 : Arguments) (fS1 : Scope) (fD1 : Str) (fB2 : List Stmt) (fA2 : Arguments) (fS2 : Scope) (fD2 : Str) (fB3 : List Stmt) (fA3 : Arguments) (fS3 : Scope) (fB4 : List Stmt) (fA4 : Arguments) (fS4 : Scope) (fB5 : List Stmt) (fA5 : Arguments) (fS5 : Scope) (fB6 : List Stmt) (fA6 : Arguments) (fS6 : Scope) (fB7 : List Stmt) (fA7 : Arguments) (fS7 : Scope) (fB8 : List Stmt) (fA8 : Arguments) (fS8 : Scope) (fB9 : List Stmt) (fA9 : Arguments) (fS9 : Scope) (fB10 : List Stmt) (fA10 : Arguments) (fS10 : Scope) (fB11 : List Stmt) (fA11 : Arguments) (fS11 : Scope) (fB12 : List Stmt) (fA12 : Arguments) (fS12 : Scope) (fB13 : List Stmt) (fA13 : Arguments) (fS13 : Scope) (P : Params) : List (Nat × Obj) :=
  (nat_lit 2, { cls := PySem.Value.none, data := PySem.Data.dict #[] }) ::
  (nat_lit 3, { cls := PySem.Value.type "dict", data := PySem.Data.dict #[{ hash := PySem.PyData.keyHash P (PySem.Str.ofString "__name__"), key := PySem.Value.str (PySem.Str.ofString "__name__") 165, val := PySem.Value.str (PySem.Str.ofString "law_ox0037_01") 443 }, { hash := PySem.PyData.keyHash P (PySem.Str.ofString "__doc__"), key := PySem.Value.str (PySem.Str.ofString "__doc__") 166, val := PySem.Value.none }, { hash := PySem.PyData.keyHash P (PySem.Str.ofString "__package__"), key := PySem.Value.str (PySem.Str.ofString "__package__") 167, val := PySem.Value.none }, { hash := PySem.PyData.keyHash P (PySem.Str.ofString "__loader__"), key := PySem.Value.str (PySem.Str.ofString "__loader__") 168, val := PySem.Value.builtin "__main__.__loader__#opaque" }, { hash := PySem.PyData.keyHash P (PySem.Str.ofString "__spec__"), key := PySem.Value.str (PySem.Str.ofString "__spec__") 169, val := PySem.Value.none }, { hash := PySem.PyData.keyHash P (PySem.Str.ofString "__annotations__"), key := PySem.Value.str (PySem.Str.ofString "__annotations__") 170, val := PySem.Value.ref 6 }, { hash := PySem.PyData.keyHash P (PySem.Str.ofString "__builtins__"), key := PySem.Value.str (PySem.Str.ofString "__builtins__") 171, val := PySem.Value.ref 4 }, { hash := PySem.PyData.keyHash P (PySem.Str.ofString "__file__"), key := PySem.Value.str (PySem.Str.ofString "__file__") 173, val := PySem.Value.str (PySem.Str.ofString "/claim/cut.py") 172 }, { hash := PySem.PyData.keyHash P (PySem.Str.ofString "__cached__"), key := PySem.Value.str (PySem.Str.ofString "__cached__") 174, val := PySem.Value.none }, { hash := PySem.PyData.keyHash P (PySem.Str.ofString "_wall"), key := PySem.Value.str (PySem.Str.ofString "_wall") 193, val := PySem.Value.ref 21 }, { hash := PySem.PyData.keyHash P (PySem.Str.ofString "_tuplegetter"), key := PySem.Value.str (PySem.Str.ofString "_tuplegetter") 252, val := PySem.Value.ref 60 }, { hash := PySem.PyData.keyHash P (PySem.Str.ofString "Mismatch"), key := PySem.Value.str (PySem.Str.ofString "Mismatch") 380, val := PySem.Value.ref 135 }, { hash := PySem.PyData.keyHash P (PySem.Str.ofString "_Mismatch"), key := PySem.Value.str (PySem.Str.ofString "_Mismatch") 381, val := PySem.Value.ref 135 }, { hash := PySem.PyData.keyHash P (PySem.Str.ofString "_count_diff_all_purpose"), key := PySem.Value.str (PySem.Str.ofString "_count_diff_all_purpose") 403, val := PySem.Value.ref 145 }, { hash := PySem.PyData.keyHash P (PySem.Str.ofString "rgb_to_hls"), key := PySem.Value.str (PySem.Str.ofString "rgb_to_hls") 424, val := PySem.Value.ref 152 }, { hash := PySem.PyData.keyHash P (PySem.Str.ofString "rgb_to_hsv"), key := PySem.Value.str (PySem.Str.ofString "rgb_to_hsv") 442, val := PySem.Value.ref 159 }, { hash := PySem.PyData.keyHash P (PySem.Str.ofString "_law_spots"), key := PySem.Value.str (PySem.Str.ofString "_law_spots") 455, val := PySem.Value.ref 166 }, { hash := PySem.PyData.keyHash P (PySem.Str.ofString "_law_hsv"), key := PySem.Value.str (PySem.Str.ofString "_law_hsv") 468, val := PySem.Value.ref 173 }, { hash := PySem.PyData.keyHash P (PySem.Str.ofString "_law_hls"), key := PySem.Value.str (PySem.Str.ofString "_law_hls") 481, val := PySem.Value.ref 180 }, { hash := PySem.PyData.keyHash P (PySem.Str.ofString "_law_negative"), key := PySem.Value.str (PySem.Str.ofString "_law_negative") 494, val := PySem.Value.ref 187 }, { hash := PySem.PyData.keyHash P (PySem.Str.ofString "_law_shade"), key := PySem.Value.str (PySem.Str.ofString "_law_shade") 500, val := PySem.Value.ref 192 }, { hash := PySem.PyData.keyHash P (PySem.Str.ofString "_law_due"), key := PySem.Value.str (PySem.Str.ofString "_law_due") 506, val := PySem.Value.ref 197 }, { hash := PySem.PyData.keyHash P (PySem.Str.ofString "_law_rows_hold"), key := PySem.Value.str (PySem.Str.ofString "_law_rows_hold") 512, val := PySem.Value.ref 202 }, { hash := PySem.PyData.keyHash P (PySem.Str.ofString "_law_spot_holds"), key := PySem.Value.str (PySem.Str.ofString "_law_spot_holds") 525, val := PySem.Value.ref 209 }, { hash := PySem.PyData.keyHash P (PySem.Str.ofString "law"), key := PySem.Value.str (PySem.Str.ofString "law") 531, val := PySem.Value.ref 214 }] 25 }) ::
  (nat_lit 15, { cls := PySem.Value.type "tuple", data := PySem.Data.seq #[] }) ::
  (nat_lit 17, { cls := PySem.Value.type "tuple", data := PySem.Data.seq #[PySem.Value.str (PySem.Str.ofString "k") 190] }) ::
  (nat_lit 18, { cls := PySem.Value.type "tuple", data := PySem.Data.seq #[] }) ::
  (nat_lit 20, { cls := PySem.Value.type "code", data := PySem.Data.fields #[PySem.Value.str (PySem.Str.ofString "_wall") 187, PySem.Value.str (PySem.Str.ofString "_wall") 188, PySem.Value.str (PySem.Str.ofString "/claim/cut.py") 189, PySem.Value.int 1 0, PySem.Value.int 1 0, PySem.Value.int 0 0, PySem.Value.int 0 0, PySem.Value.int 3 0, PySem.Value.ref 15, PySem.Value.bool Bool.true, PySem.Value.int 181 0, PySem.Value.ref 16, PySem.Value.none, PySem.Value.ref 17, PySem.Value.ref 18, PySem.Value.ref 19, PySem.Value.int 191 0, PySem.Value.int 1 0, PySem.Value.str (PySem.Str.ofString "/claim/cut.py") 192] }) ::
  (nat_lit 29, { cls := PySem.Value.type "tuple", data := PySem.Data.seq #[] }) ::
  (nat_lit 31, { cls := PySem.Value.type "tuple", data := PySem.Data.seq #[PySem.Value.str (PySem.Str.ofString "self") 211, PySem.Value.str (PySem.Str.ofString "index") 212, PySem.Value.str (PySem.Str.ofString "doc") 213] }) ::
  (nat_lit 32, { cls := PySem.Value.type "tuple", data := PySem.Data.seq #[] }) ::
  (nat_lit 34, { cls := PySem.Value.type "code", data := PySem.Data.fields #[PySem.Value.str (PySem.Str.ofString "__init__") 208, PySem.Value.str (PySem.Str.ofString "_tuplegetter.__init__") 209, PySem.Value.str (PySem.Str.ofString "/claim/cut.py") 210, PySem.Value.int 7 0, PySem.Value.int 3 0, PySem.Value.int 0 0, PySem.Value.int 0 0, PySem.Value.int 3 0, PySem.Value.ref 29, PySem.Value.bool Bool.true, PySem.Value.int 181 0, PySem.Value.ref 30, PySem.Value.none, PySem.Value.ref 31, PySem.Value.ref 32, PySem.Value.ref 33, PySem.Value.int 214 0, PySem.Value.int 7 0, PySem.Value.str (PySem.Str.ofString "/claim/cut.py") 215] }) ::
  (nat_lit 36, { cls := PySem.Value.type "tuple", data := PySem.Data.seq #[PySem.Value.none] }) ::
  (nat_lit 37, { cls := PySem.Value.type "tuple", data := PySem.Data.seq #[] }) ::
  (nat_lit 39, { cls := PySem.Value.type "tuple", data := PySem.Data.seq #[PySem.Value.str (PySem.Str.ofString "self") 220, PySem.Value.str (PySem.Str.ofString "obj") 221, PySem.Value.str (PySem.Str.ofString "objtype") 222] }) ::
  (nat_lit 40, { cls := PySem.Value.type "tuple", data := PySem.Data.seq #[] }) ::
  (nat_lit 42, { cls := PySem.Value.type "code", data := PySem.Data.fields #[PySem.Value.str (PySem.Str.ofString "__get__") 217, PySem.Value.str (PySem.Str.ofString "_tuplegetter.__get__") 218, PySem.Value.str (PySem.Str.ofString "/claim/cut.py") 219, PySem.Value.int 11 0, PySem.Value.int 3 0, PySem.Value.int 0 0, PySem.Value.int 0 0, PySem.Value.int 3 0, PySem.Value.ref 37, PySem.Value.bool Bool.true, PySem.Value.int 181 0, PySem.Value.ref 38, PySem.Value.none, PySem.Value.ref 39, PySem.Value.ref 40, PySem.Value.ref 41, PySem.Value.int 223 0, PySem.Value.int 11 0, PySem.Value.str (PySem.Str.ofString "/claim/cut.py") 224] }) ::
  (nat_lit 43, { cls := PySem.Value.type "function", data := PySem.Data.func { name := PySem.Str.ofString "__get__", qualname := PySem.Str.ofString "_tuplegetter.__get__", params := fA0, body := PySem.FuncBody.stmts fB0, scope := fS0, globals := 3, closure := [], defaults := PySem.Value.ref 36, kwdefaults := PySem.Value.none, pyModule := PySem.Value.str (PySem.Str.ofString "cpy313.unittest.util") 194, code := PySem.Value.ref 42 } }) ::
  (nat_lit 44, { cls := PySem.Value.type "tuple", data := PySem.Data.seq #[] }) ::
  (nat_lit 46, { cls := PySem.Value.type "tuple", data := PySem.Data.seq #[PySem.Value.str (PySem.Str.ofString "self") 229, PySem.Value.str (PySem.Str.ofString "obj") 230, PySem.Value.str (PySem.Str.ofString "value") 231] }) ::
  (nat_lit 47, { cls := PySem.Value.type "tuple", data := PySem.Data.seq #[] }) ::
  (nat_lit 49, { cls := PySem.Value.type "code", data := PySem.Data.fields #[PySem.Value.str (PySem.Str.ofString "__set__") 226, PySem.Value.str (PySem.Str.ofString "_tuplegetter.__set__") 227, PySem.Value.str (PySem.Str.ofString "/claim/cut.py") 228, PySem.Value.int 18 0, PySem.Value.int 3 0, PySem.Value.int 0 0, PySem.Value.int 0 0, PySem.Value.int 3 0, PySem.Value.ref 44, PySem.Value.bool Bool.true, PySem.Value.int 181 0, PySem.Value.ref 45, PySem.Value.none, PySem.Value.ref 46, PySem.Value.ref 47, PySem.Value.ref 48, PySem.Value.int 232 0, PySem.Value.int 18 0, PySem.Value.str (PySem.Str.ofString "/claim/cut.py") 233] }) ::
  (nat_lit 51, { cls := PySem.Value.type "tuple", data := PySem.Data.seq #[] }) ::
  (nat_lit 53, { cls := PySem.Value.type "tuple", data := PySem.Data.seq #[PySem.Value.str (PySem.Str.ofString "self") 238, PySem.Value.str (PySem.Str.ofString "obj") 239] }) ::
  (nat_lit 54, { cls := PySem.Value.type "tuple", data := PySem.Data.seq #[] }) ::
  (nat_lit 56, { cls := PySem.Value.type "code", data := PySem.Data.fields #[PySem.Value.str (PySem.Str.ofString "__delete__") 235, PySem.Value.str (PySem.Str.ofString "_tuplegetter.__delete__") 236, PySem.Value.str (PySem.Str.ofString "/claim/cut.py") 237, PySem.Value.int 21 0, PySem.Value.int 2 0, PySem.Value.int 0 0, PySem.Value.int 0 0, PySem.Value.int 3 0, PySem.Value.ref 51, PySem.Value.bool Bool.true, PySem.Value.int 181 0, PySem.Value.ref 52, PySem.Value.none, PySem.Value.ref 53, PySem.Value.ref 54, PySem.Value.ref 55, PySem.Value.int 240 0, PySem.Value.int 21 0, PySem.Value.str (PySem.Str.ofString "/claim/cut.py") 241] }) ::
  (nat_lit 58, { cls := PySem.Value.type "tuple", data := PySem.Data.seq #[PySem.Value.str (PySem.Str.ofString "__doc__") 243, PySem.Value.str (PySem.Str.ofString "index") 244] }) ::
  (nat_lit 59, { cls := PySem.Value.type "dict", data := PySem.Data.dict #[{ hash := PySem.PyData.keyHash P (PySem.Str.ofString "__module__"), key := PySem.Value.str (PySem.Str.ofString "__module__") 203, val := PySem.Value.str (PySem.Str.ofString "cpy313.unittest.util") 194 }, { hash := PySem.PyData.keyHash P (PySem.Str.ofString "__firstlineno__"), key := PySem.Value.str (PySem.Str.ofString "__firstlineno__") 207, val := PySem.Value.int 5 206 }, { hash := PySem.PyData.keyHash P (PySem.Str.ofString "__init__"), key := PySem.Value.str (PySem.Str.ofString "__init__") 216, val := PySem.Value.ref 35 }, { hash := PySem.PyData.keyHash P (PySem.Str.ofString "__get__"), key := PySem.Value.str (PySem.Str.ofString "__get__") 225, val := PySem.Value.ref 43 }, { hash := PySem.PyData.keyHash P (PySem.Str.ofString "__set__"), key := PySem.Value.str (PySem.Str.ofString "__set__") 234, val := PySem.Value.ref 50 }, { hash := PySem.PyData.keyHash P (PySem.Str.ofString "__delete__"), key := PySem.Value.str (PySem.Str.ofString "__delete__") 242, val := PySem.Value.ref 57 }, { hash := PySem.PyData.keyHash P (PySem.Str.ofString "__static_attributes__"), key := PySem.Value.str (PySem.Str.ofString "__static_attributes__") 245, val := PySem.Value.ref 58 }, { hash := PySem.PyData.keyHash P (PySem.Str.ofString "__dict__"), key := PySem.Value.str (PySem.Str.ofString "__dict__") 247, val := PySem.Value.ref 61 }, { hash := PySem.PyData.keyHash P (PySem.Str.ofString "__weakref__"), key := PySem.Value.str (PySem.Str.ofString "__weakref__") 249, val := PySem.Value.ref 62 }, { hash := PySem.PyData.keyHash P (PySem.Str.ofString "__doc__"), key := PySem.Value.str (PySem.Str.ofString "__doc__") 250, val := PySem.Value.none }] 4 }) ::
  (nat_lit 60, { cls := PySem.Value.type "type", data := PySem.Data.cls { name := PySem.Str.ofString "_tuplegetter", bases := [PySem.Value.type "object"], mro := [PySem.Value.ref 60, PySem.Value.type "object"], ns := 59, qualname := PySem.Str.ofString "_tuplegetter" }, slots := #[Option.none, Option.none, Option.some (PySem.Value.str (PySem.Str.ofString "_tuplegetter") 196), Option.some (PySem.Value.str (PySem.Str.ofString "_tuplegetter") 204), Option.some (PySem.Value.builtin "object.__new__"), Option.some (PySem.Value.bool Bool.true)] }) ::
  (nat_lit 61, { cls := PySem.Value.type "getset_descriptor", data := PySem.Data.fields #[PySem.Value.str (PySem.Str.ofString "__dict__") 246, PySem.Value.ref 60, PySem.Value.builtin "function.__dict__", PySem.Value.builtin "function.__dict__#set"] }) ::
  (nat_lit 62, { cls := PySem.Value.type "getset_descriptor", data := PySem.Data.fields #[PySem.Value.str (PySem.Str.ofString "__weakref__") 248, PySem.Value.ref 60, PySem.Value.builtin "ExceptionGroup.__weakref__", PySem.Value.none] }) ::
  (nat_lit 65, { cls := PySem.Value.type "tuple", data := PySem.Data.seq #[PySem.Value.type "tuple"] }) ::
  (nat_lit 68, { cls := PySem.Value.type "cell", data := PySem.Data.cell (Option.some (PySem.Value.ref 135)) }) ::
  (nat_lit 73, { cls := PySem.Value.type "tuple", data := PySem.Data.seq #[] }) ::
  (nat_lit 74, { cls := PySem.Value.type "tuple", data := PySem.Data.seq #[PySem.Value.str (PySem.Str.ofString "actual") 269, PySem.Value.str (PySem.Str.ofString "expected") 270, PySem.Value.str (PySem.Str.ofString "value") 271] }) ::
  (nat_lit 75, { cls := PySem.Value.type "dict", data := PySem.Data.dict #[] }) ::
  (nat_lit 76, { cls := PySem.Value.type "tuple", data := PySem.Data.seq #[] }) ::
  (nat_lit 78, { cls := PySem.Value.type "tuple", data := PySem.Data.seq #[PySem.Value.str (PySem.Str.ofString "_cls") 277, PySem.Value.str (PySem.Str.ofString "actual") 278, PySem.Value.str (PySem.Str.ofString "expected") 279, PySem.Value.str (PySem.Str.ofString "value") 280] }) ::
  (nat_lit 79, { cls := PySem.Value.type "tuple", data := PySem.Data.seq #[] }) ::
  (nat_lit 81, { cls := PySem.Value.type "code", data := PySem.Data.fields #[PySem.Value.str (PySem.Str.ofString "__new__") 274, PySem.Value.str (PySem.Str.ofString "Mismatch.__new__") 275, PySem.Value.str (PySem.Str.ofString "/claim/cut.py") 276, PySem.Value.int 29 0, PySem.Value.int 4 0, PySem.Value.int 0 0, PySem.Value.int 0 0, PySem.Value.int 3 0, PySem.Value.ref 76, PySem.Value.bool Bool.true, PySem.Value.int 181 0, PySem.Value.ref 77, PySem.Value.none, PySem.Value.ref 78, PySem.Value.ref 79, PySem.Value.ref 80, PySem.Value.int 281 0, PySem.Value.int 29 0, PySem.Value.str (PySem.Str.ofString "/claim/cut.py") 282] }) ::
  (nat_lit 82, { cls := PySem.Value.type "function", data := PySem.Data.func { name := PySem.Str.ofString "__new__", qualname := PySem.Str.ofString "Mismatch.__new__", params := fA1, body := PySem.FuncBody.stmts fB1, scope := fS1, globals := 3, closure := [], defaults := PySem.Value.none, kwdefaults := PySem.Value.none, doc := PySem.Value.str fD1 283, pyModule := PySem.Value.str (PySem.Str.ofString "cpy313.unittest.util") 194, code := PySem.Value.ref 81 } }) ::
  (nat_lit 83, { cls := PySem.Value.type "tuple", data := PySem.Data.seq #[] }) ::
  (nat_lit 85, { cls := PySem.Value.type "tuple", data := PySem.Data.seq #[PySem.Value.str (PySem.Str.ofString "cls") 288, PySem.Value.str (PySem.Str.ofString "iterable") 289, PySem.Value.str (PySem.Str.ofString "result") 290] }) ::
  (nat_lit 86, { cls := PySem.Value.type "tuple", data := PySem.Data.seq #[] }) ::
  (nat_lit 88, { cls := PySem.Value.type "code", data := PySem.Data.fields #[PySem.Value.str (PySem.Str.ofString "_make") 285, PySem.Value.str (PySem.Str.ofString "Mismatch._make") 286, PySem.Value.str (PySem.Str.ofString "/claim/cut.py") 287, PySem.Value.int 33 0, PySem.Value.int 2 0, PySem.Value.int 0 0, PySem.Value.int 0 0, PySem.Value.int 3 0, PySem.Value.ref 83, PySem.Value.bool Bool.true, PySem.Value.int 181 0, PySem.Value.ref 84, PySem.Value.none, PySem.Value.ref 85, PySem.Value.ref 86, PySem.Value.ref 87, PySem.Value.int 291 0, PySem.Value.int 33 0, PySem.Value.str (PySem.Str.ofString "/claim/cut.py") 292] }) ::
  (nat_lit 90, { cls := PySem.Value.type "dict", data := PySem.Data.dict #[{ hash := PySem.PyData.keyHash P (PySem.Str.ofString "__module__"), key := PySem.Value.str (PySem.Str.ofString "__module__") 295, val := PySem.Value.str (PySem.Str.ofString "cpy313.unittest.util") 194 }, { hash := PySem.PyData.keyHash P (PySem.Str.ofString "__name__"), key := PySem.Value.str (PySem.Str.ofString "__name__") 298, val := PySem.Value.str (PySem.Str.ofString "_make") 297 }, { hash := PySem.PyData.keyHash P (PySem.Str.ofString "__qualname__"), key := PySem.Value.str (PySem.Str.ofString "__qualname__") 301, val := PySem.Value.str (PySem.Str.ofString "Mismatch._make") 300 }, { hash := PySem.PyData.keyHash P (PySem.Str.ofString "__doc__"), key := PySem.Value.str (PySem.Str.ofString "__doc__") 303, val := PySem.Value.str (PySem.Str.ofString "Make a new Mismatch object from a sequence or iterable") 293 }, { hash := PySem.PyData.keyHash P (PySem.Str.ofString "__annotations__"), key := PySem.Value.str (PySem.Str.ofString "__annotations__") 305, val := PySem.Value.ref 92 }] 5 }) ::
  (nat_lit 91, { cls := PySem.Value.type "classmethod", dict := Option.some 90, data := PySem.Data.fields #[PySem.Value.ref 89, PySem.Value.bool Bool.false] }) ::
  (nat_lit 92, { cls := PySem.Value.type "dict", data := PySem.Data.dict #[] }) ::
  (nat_lit 93, { cls := PySem.Value.type "tuple", data := PySem.Data.seq #[PySem.Value.ref 68] }) ::
  (nat_lit 94, { cls := PySem.Value.type "tuple", data := PySem.Data.seq #[PySem.Value.str (PySem.Str.ofString "__class__") 310] }) ::
  (nat_lit 96, { cls := PySem.Value.type "tuple", data := PySem.Data.seq #[PySem.Value.str (PySem.Str.ofString "self") 311, PySem.Value.str (PySem.Str.ofString "kwds") 312, PySem.Value.str (PySem.Str.ofString "result") 313] }) ::
  (nat_lit 97, { cls := PySem.Value.type "tuple", data := PySem.Data.seq #[] }) ::
  (nat_lit 99, { cls := PySem.Value.type "code", data := PySem.Data.fields #[PySem.Value.str (PySem.Str.ofString "_replace") 307, PySem.Value.str (PySem.Str.ofString "Mismatch._replace") 308, PySem.Value.str (PySem.Str.ofString "/claim/cut.py") 309, PySem.Value.int 41 0, PySem.Value.int 1 0, PySem.Value.int 1 0, PySem.Value.int 0 0, PySem.Value.int 11 0, PySem.Value.ref 94, PySem.Value.bool Bool.true, PySem.Value.int 181 0, PySem.Value.ref 95, PySem.Value.none, PySem.Value.ref 96, PySem.Value.ref 97, PySem.Value.ref 98, PySem.Value.int 314 0, PySem.Value.int 41 0, PySem.Value.str (PySem.Str.ofString "/claim/cut.py") 315] }) ::
  (nat_lit 101, { cls := PySem.Value.type "tuple", data := PySem.Data.seq #[] }) ::
  (nat_lit 103, { cls := PySem.Value.type "tuple", data := PySem.Data.seq #[PySem.Value.str (PySem.Str.ofString "self") 322] }) ::
  (nat_lit 104, { cls := PySem.Value.type "tuple", data := PySem.Data.seq #[] }) ::
  (nat_lit 106, { cls := PySem.Value.type "code", data := PySem.Data.fields #[PySem.Value.str (PySem.Str.ofString "__repr__") 319, PySem.Value.str (PySem.Str.ofString "Mismatch.__repr__") 320, PySem.Value.str (PySem.Str.ofString "/claim/cut.py") 321, PySem.Value.int 52 0, PySem.Value.int 1 0, PySem.Value.int 0 0, PySem.Value.int 0 0, PySem.Value.int 3 0, PySem.Value.ref 101, PySem.Value.bool Bool.true, PySem.Value.int 181 0, PySem.Value.ref 102, PySem.Value.none, PySem.Value.ref 103, PySem.Value.ref 104, PySem.Value.ref 105, PySem.Value.int 323 0, PySem.Value.int 52 0, PySem.Value.str (PySem.Str.ofString "/claim/cut.py") 324] }) ::
  (nat_lit 108, { cls := PySem.Value.type "tuple", data := PySem.Data.seq #[] }) ::
  (nat_lit 110, { cls := PySem.Value.type "tuple", data := PySem.Data.seq #[PySem.Value.str (PySem.Str.ofString "self") 330] }) ::
  (nat_lit 111, { cls := PySem.Value.type "tuple", data := PySem.Data.seq #[] }) ::
  (nat_lit 113, { cls := PySem.Value.type "code", data := PySem.Data.fields #[PySem.Value.str (PySem.Str.ofString "_asdict") 327, PySem.Value.str (PySem.Str.ofString "Mismatch._asdict") 328, PySem.Value.str (PySem.Str.ofString "/claim/cut.py") 329, PySem.Value.int 56 0, PySem.Value.int 1 0, PySem.Value.int 0 0, PySem.Value.int 0 0, PySem.Value.int 3 0, PySem.Value.ref 108, PySem.Value.bool Bool.true, PySem.Value.int 181 0, PySem.Value.ref 109, PySem.Value.none, PySem.Value.ref 110, PySem.Value.ref 111, PySem.Value.ref 112, PySem.Value.int 331 0, PySem.Value.int 56 0, PySem.Value.str (PySem.Str.ofString "/claim/cut.py") 332] }) ::
  (nat_lit 115, { cls := PySem.Value.type "tuple", data := PySem.Data.seq #[] }) ::
  (nat_lit 117, { cls := PySem.Value.type "tuple", data := PySem.Data.seq #[PySem.Value.str (PySem.Str.ofString "self") 337] }) ::
  (nat_lit 118, { cls := PySem.Value.type "tuple", data := PySem.Data.seq #[] }) ::
  (nat_lit 120, { cls := PySem.Value.type "code", data := PySem.Data.fields #[PySem.Value.str (PySem.Str.ofString "__getnewargs__") 334, PySem.Value.str (PySem.Str.ofString "Mismatch.__getnewargs__") 335, PySem.Value.str (PySem.Str.ofString "/claim/cut.py") 336, PySem.Value.int 59 0, PySem.Value.int 1 0, PySem.Value.int 0 0, PySem.Value.int 0 0, PySem.Value.int 3 0, PySem.Value.ref 115, PySem.Value.bool Bool.true, PySem.Value.int 181 0, PySem.Value.ref 116, PySem.Value.none, PySem.Value.ref 117, PySem.Value.ref 118, PySem.Value.ref 119, PySem.Value.int 338 0, PySem.Value.int 59 0, PySem.Value.str (PySem.Str.ofString "/claim/cut.py") 339] }) ::
  (nat_lit 122, { cls := PySem.Value.type "tuple", data := PySem.Data.seq #[PySem.Value.str (PySem.Str.ofString "actual") 342, PySem.Value.str (PySem.Str.ofString "expected") 343, PySem.Value.str (PySem.Str.ofString "value") 344] }) ::
  (nat_lit 123, { cls := PySem.Value.type "dict", data := PySem.Data.dict #[{ hash := PySem.PyData.keyHash P (PySem.Str.ofString "index"), key := PySem.Value.str (PySem.Str.ofString "index") 352, val := PySem.Value.int 0 346 }, { hash := PySem.PyData.keyHash P (PySem.Str.ofString "__doc__"), key := PySem.Value.str (PySem.Str.ofString "__doc__") 354, val := PySem.Value.str (PySem.Str.ofString "Alias for field number 0") 347 }] 2 }) ::
  (nat_lit 124, { cls := PySem.Value.ref 60, dict := Option.some 123 }) ::
  (nat_lit 126, { cls := PySem.Value.type "dict", data := PySem.Data.dict #[{ hash := PySem.PyData.keyHash P (PySem.Str.ofString "index"), key := PySem.Value.str (PySem.Str.ofString "index") 362, val := PySem.Value.int 1 356 }, { hash := PySem.PyData.keyHash P (PySem.Str.ofString "__doc__"), key := PySem.Value.str (PySem.Str.ofString "__doc__") 364, val := PySem.Value.str (PySem.Str.ofString "Alias for field number 1") 357 }] 2 }) ::
  (nat_lit 127, { cls := PySem.Value.ref 60, dict := Option.some 126 }) ::
  (nat_lit 129, { cls := PySem.Value.type "dict", data := PySem.Data.dict #[{ hash := PySem.PyData.keyHash P (PySem.Str.ofString "index"), key := PySem.Value.str (PySem.Str.ofString "index") 372, val := PySem.Value.int 2 366 }, { hash := PySem.PyData.keyHash P (PySem.Str.ofString "__doc__"), key := PySem.Value.str (PySem.Str.ofString "__doc__") 374, val := PySem.Value.str (PySem.Str.ofString "Alias for field number 2") 367 }] 2 }) ::
  (nat_lit 130, { cls := PySem.Value.ref 60, dict := Option.some 129 }) ::
  (nat_lit 132, { cls := PySem.Value.type "tuple", data := PySem.Data.seq #[] }) ::
  (nat_lit 134, { cls := PySem.Value.type "dict", data := PySem.Data.dict #[{ hash := PySem.PyData.keyHash P (PySem.Str.ofString "__module__"), key := PySem.Value.str (PySem.Str.ofString "__module__") 260, val := PySem.Value.str (PySem.Str.ofString "cpy313.unittest.util") 194 }, { hash := PySem.PyData.keyHash P (PySem.Str.ofString "__firstlineno__"), key := PySem.Value.str (PySem.Str.ofString "__firstlineno__") 264, val := PySem.Value.int 23 263 }, { hash := PySem.PyData.keyHash P (PySem.Str.ofString "__doc__"), key := PySem.Value.str (PySem.Str.ofString "__doc__") 266, val := PySem.Value.str (PySem.Str.ofString "Mismatch(actual, expected, value)") 265 }, { hash := PySem.PyData.keyHash P (PySem.Str.ofString "__slots__"), key := PySem.Value.str (PySem.Str.ofString "__slots__") 268, val := PySem.Value.ref 73 }, { hash := PySem.PyData.keyHash P (PySem.Str.ofString "_fields"), key := PySem.Value.str (PySem.Str.ofString "_fields") 272, val := PySem.Value.ref 74 }, { hash := PySem.PyData.keyHash P (PySem.Str.ofString "_field_defaults"), key := PySem.Value.str (PySem.Str.ofString "_field_defaults") 273, val := PySem.Value.ref 75 }, { hash := PySem.PyData.keyHash P (PySem.Str.ofString "__new__"), key := PySem.Value.str (PySem.Str.ofString "__new__") 284, val := PySem.Value.ref 136 }, { hash := PySem.PyData.keyHash P (PySem.Str.ofString "_make"), key := PySem.Value.str (PySem.Str.ofString "_make") 306, val := PySem.Value.ref 91 }, { hash := PySem.PyData.keyHash P (PySem.Str.ofString "_replace"), key := PySem.Value.str (PySem.Str.ofString "_replace") 317, val := PySem.Value.ref 100 }, { hash := PySem.PyData.keyHash P (PySem.Str.ofString "__replace__"), key := PySem.Value.str (PySem.Str.ofString "__replace__") 318, val := PySem.Value.ref 100 }, { hash := PySem.PyData.keyHash P (PySem.Str.ofString "__repr__"), key := PySem.Value.str (PySem.Str.ofString "__repr__") 326, val := PySem.Value.ref 107 }, { hash := PySem.PyData.keyHash P (PySem.Str.ofString "_asdict"), key := PySem.Value.str (PySem.Str.ofString "_asdict") 333, val := PySem.Value.ref 114 }, { hash := PySem.PyData.keyHash P (PySem.Str.ofString "__getnewargs__"), key := PySem.Value.str (PySem.Str.ofString "__getnewargs__") 341, val := PySem.Value.ref 121 }, { hash := PySem.PyData.keyHash P (PySem.Str.ofString "__match_args__"), key := PySem.Value.str (PySem.Str.ofString "__match_args__") 345, val := PySem.Value.ref 122 }, { hash := PySem.PyData.keyHash P (PySem.Str.ofString "actual"), key := PySem.Value.str (PySem.Str.ofString "actual") 355, val := PySem.Value.ref 124 }, { hash := PySem.PyData.keyHash P (PySem.Str.ofString "expected"), key := PySem.Value.str (PySem.Str.ofString "expected") 365, val := PySem.Value.ref 127 }, { hash := PySem.PyData.keyHash P (PySem.Str.ofString "value"), key := PySem.Value.str (PySem.Str.ofString "value") 375, val := PySem.Value.ref 130 }, { hash := PySem.PyData.keyHash P (PySem.Str.ofString "__static_attributes__"), key := PySem.Value.str (PySem.Str.ofString "__static_attributes__") 376, val := PySem.Value.ref 132 }] 2 }) ::
  (nat_lit 135, { cls := PySem.Value.type "type", data := PySem.Data.cls { name := PySem.Str.ofString "Mismatch", bases := [PySem.Value.type "tuple"], mro := [PySem.Value.ref 135, PySem.Value.type "tuple", PySem.Value.type "object"], ns := 134, qualname := PySem.Str.ofString "Mismatch", hasDict := Bool.false }, slots := #[Option.some (PySem.Value.ref 65), Option.none, Option.some (PySem.Value.str (PySem.Str.ofString "Mismatch") 253), Option.some (PySem.Value.str (PySem.Str.ofString "Mismatch") 261), Option.some PySem.Value.none, Option.some (PySem.Value.bool Bool.false)] }) ::
  (nat_lit 136, { cls := PySem.Value.type "staticmethod", data := PySem.Data.fields #[PySem.Value.ref 82] }) ::
  (nat_lit 139, { cls := PySem.Value.type "tuple", data := PySem.Data.seq #[] }) ::
  (nat_lit 141, { cls := PySem.Value.type "tuple", data := PySem.Data.seq #[PySem.Value.str (PySem.Str.ofString "actual") 385, PySem.Value.str (PySem.Str.ofString "expected") 386, PySem.Value.str (PySem.Str.ofString "s") 387, PySem.Value.str (PySem.Str.ofString "t") 388, PySem.Value.str (PySem.Str.ofString "m") 389, PySem.Value.str (PySem.Str.ofString "n") 390, PySem.Value.str (PySem.Str.ofString "NULL") 391, PySem.Value.str (PySem.Str.ofString "result") 392, PySem.Value.str (PySem.Str.ofString "i") 393, PySem.Value.str (PySem.Str.ofString "elem") 394, PySem.Value.str (PySem.Str.ofString "cnt_s") 395, PySem.Value.str (PySem.Str.ofString "cnt_t") 396, PySem.Value.str (PySem.Str.ofString "j") 397, PySem.Value.str (PySem.Str.ofString "other_elem") 398, PySem.Value.str (PySem.Str.ofString "diff") 399] }) ::
  (nat_lit 142, { cls := PySem.Value.type "tuple", data := PySem.Data.seq #[] }) ::
  (nat_lit 144, { cls := PySem.Value.type "code", data := PySem.Data.fields #[PySem.Value.str (PySem.Str.ofString "_count_diff_all_purpose") 382, PySem.Value.str (PySem.Str.ofString "_count_diff_all_purpose") 383, PySem.Value.str (PySem.Str.ofString "/claim/cut.py") 384, PySem.Value.int 67 0, PySem.Value.int 2 0, PySem.Value.int 0 0, PySem.Value.int 0 0, PySem.Value.int 3 0, PySem.Value.ref 139, PySem.Value.bool Bool.true, PySem.Value.int 181 0, PySem.Value.ref 140, PySem.Value.none, PySem.Value.ref 141, PySem.Value.ref 142, PySem.Value.ref 143, PySem.Value.int 400 0, PySem.Value.int 67 0, PySem.Value.str (PySem.Str.ofString "/claim/cut.py") 401] }) ::
  (nat_lit 145, { cls := PySem.Value.type "function", data := PySem.Data.func { name := PySem.Str.ofString "_count_diff_all_purpose", qualname := PySem.Str.ofString "_count_diff_all_purpose", params := fA2, body := PySem.FuncBody.stmts fB2, scope := fS2, globals := 3, closure := [], defaults := PySem.Value.none, kwdefaults := PySem.Value.none, doc := PySem.Value.str fD2 402, pyModule := PySem.Value.str (PySem.Str.ofString "cpy313.unittest.util") 194, code := PySem.Value.ref 144 } }) ::
  (nat_lit 146, { cls := PySem.Value.type "tuple", data := PySem.Data.seq #[] }) ::
  (nat_lit 148, { cls := PySem.Value.type "tuple", data := PySem.Data.seq #[PySem.Value.str (PySem.Str.ofString "r") 409, PySem.Value.str (PySem.Str.ofString "g") 410, PySem.Value.str (PySem.Str.ofString "b") 411, PySem.Value.str (PySem.Str.ofString "maxc") 412, PySem.Value.str (PySem.Str.ofString "minc") 413, PySem.Value.str (PySem.Str.ofString "sumc") 414, PySem.Value.str (PySem.Str.ofString "rangec") 415, PySem.Value.str (PySem.Str.ofString "l") 416, PySem.Value.str (PySem.Str.ofString "s") 417, PySem.Value.str (PySem.Str.ofString "rc") 418, PySem.Value.str (PySem.Str.ofString "gc") 419, PySem.Value.str (PySem.Str.ofString "bc") 420, PySem.Value.str (PySem.Str.ofString "h") 421] }) ::
  (nat_lit 149, { cls := PySem.Value.type "tuple", data := PySem.Data.seq #[] }) ::
  (nat_lit 151, { cls := PySem.Value.type "code", data := PySem.Data.fields #[PySem.Value.str (PySem.Str.ofString "rgb_to_hls") 406, PySem.Value.str (PySem.Str.ofString "rgb_to_hls") 407, PySem.Value.str (PySem.Str.ofString "/claim/cut.py") 408, PySem.Value.int 100 0, PySem.Value.int 3 0, PySem.Value.int 0 0, PySem.Value.int 0 0, PySem.Value.int 3 0, PySem.Value.ref 146, PySem.Value.bool Bool.true, PySem.Value.int 181 0, PySem.Value.ref 147, PySem.Value.none, PySem.Value.ref 148, PySem.Value.ref 149, PySem.Value.ref 150, PySem.Value.int 422 0, PySem.Value.int 100 0, PySem.Value.str (PySem.Str.ofString "/claim/cut.py") 423] }) ::
  (nat_lit 152, { cls := PySem.Value.type "function", data := PySem.Data.func { name := PySem.Str.ofString "rgb_to_hls", qualname := PySem.Str.ofString "rgb_to_hls", params := fA3, body := PySem.FuncBody.stmts fB3, scope := fS3, globals := 3, closure := [], defaults := PySem.Value.none, kwdefaults := PySem.Value.none, pyModule := PySem.Value.str (PySem.Str.ofString "cpy313.colorsys") 404, code := PySem.Value.ref 151 } }) ::
  (nat_lit 153, { cls := PySem.Value.type "tuple", data := PySem.Data.seq #[] }) ::
  (nat_lit 155, { cls := PySem.Value.type "tuple", data := PySem.Data.seq #[PySem.Value.str (PySem.Str.ofString "r") 428, PySem.Value.str (PySem.Str.ofString "g") 429, PySem.Value.str (PySem.Str.ofString "b") 430, PySem.Value.str (PySem.Str.ofString "maxc") 431, PySem.Value.str (PySem.Str.ofString "minc") 432, PySem.Value.str (PySem.Str.ofString "rangec") 433, PySem.Value.str (PySem.Str.ofString "v") 434, PySem.Value.str (PySem.Str.ofString "s") 435, PySem.Value.str (PySem.Str.ofString "rc") 436, PySem.Value.str (PySem.Str.ofString "gc") 437, PySem.Value.str (PySem.Str.ofString "bc") 438, PySem.Value.str (PySem.Str.ofString "h") 439] }) ::
  (nat_lit 156, { cls := PySem.Value.type "tuple", data := PySem.Data.seq #[] }) ::
  (nat_lit 158, { cls := PySem.Value.type "code", data := PySem.Data.fields #[PySem.Value.str (PySem.Str.ofString "rgb_to_hsv") 425, PySem.Value.str (PySem.Str.ofString "rgb_to_hsv") 426, PySem.Value.str (PySem.Str.ofString "/claim/cut.py") 427, PySem.Value.int 123 0, PySem.Value.int 3 0, PySem.Value.int 0 0, PySem.Value.int 0 0, PySem.Value.int 3 0, PySem.Value.ref 153, PySem.Value.bool Bool.true, PySem.Value.int 181 0, PySem.Value.ref 154, PySem.Value.none, PySem.Value.ref 155, PySem.Value.ref 156, PySem.Value.ref 157, PySem.Value.int 440 0, PySem.Value.int 123 0, PySem.Value.str (PySem.Str.ofString "/claim/cut.py") 441] }) ::
  (nat_lit 159, { cls := PySem.Value.type "function", data := PySem.Data.func { name := PySem.Str.ofString "rgb_to_hsv", qualname := PySem.Str.ofString "rgb_to_hsv", params := fA4, body := PySem.FuncBody.stmts fB4, scope := fS4, globals := 3, closure := [], defaults := PySem.Value.none, kwdefaults := PySem.Value.none, pyModule := PySem.Value.str (PySem.Str.ofString "cpy313.colorsys") 404, code := PySem.Value.ref 158 } }) ::
  (nat_lit 160, { cls := PySem.Value.type "tuple", data := PySem.Data.seq #[] }) ::
  (nat_lit 162, { cls := PySem.Value.type "tuple", data := PySem.Data.seq #[PySem.Value.str (PySem.Str.ofString "numbers") 448, PySem.Value.str (PySem.Str.ofString "side") 449, PySem.Value.str (PySem.Str.ofString "spots") 450, PySem.Value.str (PySem.Str.ofString "number") 451, PySem.Value.str (PySem.Str.ofString "times") 452] }) ::
  (nat_lit 163, { cls := PySem.Value.type "tuple", data := PySem.Data.seq #[] }) ::
  (nat_lit 165, { cls := PySem.Value.type "code", data := PySem.Data.fields #[PySem.Value.str (PySem.Str.ofString "_law_spots") 445, PySem.Value.str (PySem.Str.ofString "_law_spots") 446, PySem.Value.str (PySem.Str.ofString "/claim/cut.py") 447, PySem.Value.int 143 0, PySem.Value.int 2 0, PySem.Value.int 0 0, PySem.Value.int 0 0, PySem.Value.int 3 0, PySem.Value.ref 160, PySem.Value.bool Bool.true, PySem.Value.int 181 0, PySem.Value.ref 161, PySem.Value.none, PySem.Value.ref 162, PySem.Value.ref 163, PySem.Value.ref 164, PySem.Value.int 453 0, PySem.Value.int 143 0, PySem.Value.str (PySem.Str.ofString "/claim/cut.py") 454] }) ::
  (nat_lit 166, { cls := PySem.Value.type "function", data := PySem.Data.func { name := PySem.Str.ofString "_law_spots", qualname := PySem.Str.ofString "_law_spots", params := fA5, body := PySem.FuncBody.stmts fB5, scope := fS5, globals := 3, closure := [], defaults := PySem.Value.none, kwdefaults := PySem.Value.none, pyModule := PySem.Value.str (PySem.Str.ofString "law_ox0037_01") 443, code := PySem.Value.ref 165 } }) ::
  (nat_lit 167, { cls := PySem.Value.type "tuple", data := PySem.Data.seq #[] }) ::
  (nat_lit 169, { cls := PySem.Value.type "tuple", data := PySem.Data.seq #[PySem.Value.str (PySem.Str.ofString "spot") 459, PySem.Value.str (PySem.Str.ofString "red") 460, PySem.Value.str (PySem.Str.ofString "green") 461, PySem.Value.str (PySem.Str.ofString "blue") 462, PySem.Value.str (PySem.Str.ofString "hue") 463, PySem.Value.str (PySem.Str.ofString "share") 464, PySem.Value.str (PySem.Str.ofString "level") 465] }) ::
  (nat_lit 170, { cls := PySem.Value.type "tuple", data := PySem.Data.seq #[] }) ::
  (nat_lit 172, { cls := PySem.Value.type "code", data := PySem.Data.fields #[PySem.Value.str (PySem.Str.ofString "_law_hsv") 456, PySem.Value.str (PySem.Str.ofString "_law_hsv") 457, PySem.Value.str (PySem.Str.ofString "/claim/cut.py") 458, PySem.Value.int 150 0, PySem.Value.int 1 0, PySem.Value.int 0 0, PySem.Value.int 0 0, PySem.Value.int 3 0, PySem.Value.ref 167, PySem.Value.bool Bool.true, PySem.Value.int 181 0, PySem.Value.ref 168, PySem.Value.none, PySem.Value.ref 169, PySem.Value.ref 170, PySem.Value.ref 171, PySem.Value.int 466 0, PySem.Value.int 150 0, PySem.Value.str (PySem.Str.ofString "/claim/cut.py") 467] }) ::
  (nat_lit 173, { cls := PySem.Value.type "function", data := PySem.Data.func { name := PySem.Str.ofString "_law_hsv", qualname := PySem.Str.ofString "_law_hsv", params := fA6, body := PySem.FuncBody.stmts fB6, scope := fS6, globals := 3, closure := [], defaults := PySem.Value.none, kwdefaults := PySem.Value.none, pyModule := PySem.Value.str (PySem.Str.ofString "law_ox0037_01") 443, code := PySem.Value.ref 172 } }) ::
  (nat_lit 174, { cls := PySem.Value.type "tuple", data := PySem.Data.seq #[] }) ::
  (nat_lit 176, { cls := PySem.Value.type "tuple", data := PySem.Data.seq #[PySem.Value.str (PySem.Str.ofString "spot") 472, PySem.Value.str (PySem.Str.ofString "red") 473, PySem.Value.str (PySem.Str.ofString "green") 474, PySem.Value.str (PySem.Str.ofString "blue") 475, PySem.Value.str (PySem.Str.ofString "hue") 476, PySem.Value.str (PySem.Str.ofString "light") 477, PySem.Value.str (PySem.Str.ofString "share") 478] }) ::
  (nat_lit 177, { cls := PySem.Value.type "tuple", data := PySem.Data.seq #[] }) ::
  (nat_lit 179, { cls := PySem.Value.type "code", data := PySem.Data.fields #[PySem.Value.str (PySem.Str.ofString "_law_hls") 469, PySem.Value.str (PySem.Str.ofString "_law_hls") 470, PySem.Value.str (PySem.Str.ofString "/claim/cut.py") 471, PySem.Value.int 154 0, PySem.Value.int 1 0, PySem.Value.int 0 0, PySem.Value.int 0 0, PySem.Value.int 3 0, PySem.Value.ref 174, PySem.Value.bool Bool.true, PySem.Value.int 181 0, PySem.Value.ref 175, PySem.Value.none, PySem.Value.ref 176, PySem.Value.ref 177, PySem.Value.ref 178, PySem.Value.int 479 0, PySem.Value.int 154 0, PySem.Value.str (PySem.Str.ofString "/claim/cut.py") 480] }) ::
  (nat_lit 180, { cls := PySem.Value.type "function", data := PySem.Data.func { name := PySem.Str.ofString "_law_hls", qualname := PySem.Str.ofString "_law_hls", params := fA7, body := PySem.FuncBody.stmts fB7, scope := fS7, globals := 3, closure := [], defaults := PySem.Value.none, kwdefaults := PySem.Value.none, pyModule := PySem.Value.str (PySem.Str.ofString "law_ox0037_01") 443, code := PySem.Value.ref 179 } }) ::
  (nat_lit 181, { cls := PySem.Value.type "tuple", data := PySem.Data.seq #[] }) ::
  (nat_lit 183, { cls := PySem.Value.type "tuple", data := PySem.Data.seq #[PySem.Value.str (PySem.Str.ofString "spot") 485, PySem.Value.str (PySem.Str.ofString "red") 486, PySem.Value.str (PySem.Str.ofString "green") 487, PySem.Value.str (PySem.Str.ofString "blue") 488, PySem.Value.str (PySem.Str.ofString "hue") 489, PySem.Value.str (PySem.Str.ofString "light") 490, PySem.Value.str (PySem.Str.ofString "share") 491] }) ::
  (nat_lit 184, { cls := PySem.Value.type "tuple", data := PySem.Data.seq #[] }) ::
  (nat_lit 186, { cls := PySem.Value.type "code", data := PySem.Data.fields #[PySem.Value.str (PySem.Str.ofString "_law_negative") 482, PySem.Value.str (PySem.Str.ofString "_law_negative") 483, PySem.Value.str (PySem.Str.ofString "/claim/cut.py") 484, PySem.Value.int 158 0, PySem.Value.int 1 0, PySem.Value.int 0 0, PySem.Value.int 0 0, PySem.Value.int 3 0, PySem.Value.ref 181, PySem.Value.bool Bool.true, PySem.Value.int 181 0, PySem.Value.ref 182, PySem.Value.none, PySem.Value.ref 183, PySem.Value.ref 184, PySem.Value.ref 185, PySem.Value.int 492 0, PySem.Value.int 158 0, PySem.Value.str (PySem.Str.ofString "/claim/cut.py") 493] }) ::
  (nat_lit 187, { cls := PySem.Value.type "function", data := PySem.Data.func { name := PySem.Str.ofString "_law_negative", qualname := PySem.Str.ofString "_law_negative", params := fA8, body := PySem.FuncBody.stmts fB8, scope := fS8, globals := 3, closure := [], defaults := PySem.Value.none, kwdefaults := PySem.Value.none, pyModule := PySem.Value.str (PySem.Str.ofString "law_ox0037_01") 443, code := PySem.Value.ref 186 } }) ::
  (nat_lit 188, { cls := PySem.Value.type "tuple", data := PySem.Data.seq #[] }) ::
  (nat_lit 191, { cls := PySem.Value.type "code", data := PySem.Data.fields #[PySem.Value.str (PySem.Str.ofString "_law_shade") 495, PySem.Value.str (PySem.Str.ofString "_law_shade") 496, PySem.Value.str (PySem.Str.ofString "/claim/cut.py") 497, PySem.Value.int 162 0, PySem.Value.int 1 0, PySem.Value.int 0 0, PySem.Value.int 0 0, PySem.Value.int 3 0, PySem.Value.ref 188, PySem.Value.bool Bool.true, PySem.Value.int 181 0, PySem.Value.ref 189, PySem.Value.none, PySem.Value.none, PySem.Value.none, PySem.Value.ref 190, PySem.Value.int 498 0, PySem.Value.int 162 0, PySem.Value.str (PySem.Str.ofString "/claim/cut.py") 499] }) ::
  (nat_lit 192, { cls := PySem.Value.type "function", data := PySem.Data.func { name := PySem.Str.ofString "_law_shade", qualname := PySem.Str.ofString "_law_shade", params := fA9, body := PySem.FuncBody.stmts fB9, scope := fS9, globals := 3, closure := [], defaults := PySem.Value.none, kwdefaults := PySem.Value.none, pyModule := PySem.Value.str (PySem.Str.ofString "law_ox0037_01") 443, code := PySem.Value.ref 191 } }) ::
  (nat_lit 193, { cls := PySem.Value.type "tuple", data := PySem.Data.seq #[] }) ::
  (nat_lit 196, { cls := PySem.Value.type "code", data := PySem.Data.fields #[PySem.Value.str (PySem.Str.ofString "_law_due") 501, PySem.Value.str (PySem.Str.ofString "_law_due") 502, PySem.Value.str (PySem.Str.ofString "/claim/cut.py") 503, PySem.Value.int 167 0, PySem.Value.int 2 0, PySem.Value.int 0 0, PySem.Value.int 0 0, PySem.Value.int 3 0, PySem.Value.ref 193, PySem.Value.bool Bool.true, PySem.Value.int 181 0, PySem.Value.ref 194, PySem.Value.none, PySem.Value.none, PySem.Value.none, PySem.Value.ref 195, PySem.Value.int 504 0, PySem.Value.int 167 0, PySem.Value.str (PySem.Str.ofString "/claim/cut.py") 505] }) ::
  (nat_lit 197, { cls := PySem.Value.type "function", data := PySem.Data.func { name := PySem.Str.ofString "_law_due", qualname := PySem.Str.ofString "_law_due", params := fA10, body := PySem.FuncBody.stmts fB10, scope := fS10, globals := 3, closure := [], defaults := PySem.Value.none, kwdefaults := PySem.Value.none, pyModule := PySem.Value.str (PySem.Str.ofString "law_ox0037_01") 443, code := PySem.Value.ref 196 } }) ::
  (nat_lit 198, { cls := PySem.Value.type "tuple", data := PySem.Data.seq #[] }) ::
  (nat_lit 201, { cls := PySem.Value.type "code", data := PySem.Data.fields #[PySem.Value.str (PySem.Str.ofString "_law_rows_hold") 507, PySem.Value.str (PySem.Str.ofString "_law_rows_hold") 508, PySem.Value.str (PySem.Str.ofString "/claim/cut.py") 509, PySem.Value.int 176 0, PySem.Value.int 4 0, PySem.Value.int 0 0, PySem.Value.int 0 0, PySem.Value.int 3 0, PySem.Value.ref 198, PySem.Value.bool Bool.true, PySem.Value.int 181 0, PySem.Value.ref 199, PySem.Value.none, PySem.Value.none, PySem.Value.none, PySem.Value.ref 200, PySem.Value.int 510 0, PySem.Value.int 176 0, PySem.Value.str (PySem.Str.ofString "/claim/cut.py") 511] }) ::
  (nat_lit 202, { cls := PySem.Value.type "function", data := PySem.Data.func { name := PySem.Str.ofString "_law_rows_hold", qualname := PySem.Str.ofString "_law_rows_hold", params := fA11, body := PySem.FuncBody.stmts fB11, scope := fS11, globals := 3, closure := [], defaults := PySem.Value.none, kwdefaults := PySem.Value.none, pyModule := PySem.Value.str (PySem.Str.ofString "law_ox0037_01") 443, code := PySem.Value.ref 201 } }) ::
  (nat_lit 203, { cls := PySem.Value.type "tuple", data := PySem.Data.seq #[] }) ::
  (nat_lit 205, { cls := PySem.Value.type "tuple", data := PySem.Data.seq #[PySem.Value.str (PySem.Str.ofString "spot") 516, PySem.Value.str (PySem.Str.ofString "least") 517, PySem.Value.str (PySem.Str.ofString "most") 518, PySem.Value.str (PySem.Str.ofString "hue") 519, PySem.Value.str (PySem.Str.ofString "share") 520, PySem.Value.str (PySem.Str.ofString "turned") 521, PySem.Value.str (PySem.Str.ofString "kept") 522] }) ::
  (nat_lit 206, { cls := PySem.Value.type "tuple", data := PySem.Data.seq #[] }) ::
  (nat_lit 208, { cls := PySem.Value.type "code", data := PySem.Data.fields #[PySem.Value.str (PySem.Str.ofString "_law_spot_holds") 513, PySem.Value.str (PySem.Str.ofString "_law_spot_holds") 514, PySem.Value.str (PySem.Str.ofString "/claim/cut.py") 515, PySem.Value.int 179 0, PySem.Value.int 1 0, PySem.Value.int 0 0, PySem.Value.int 0 0, PySem.Value.int 3 0, PySem.Value.ref 203, PySem.Value.bool Bool.true, PySem.Value.int 181 0, PySem.Value.ref 204, PySem.Value.none, PySem.Value.ref 205, PySem.Value.ref 206, PySem.Value.ref 207, PySem.Value.int 523 0, PySem.Value.int 179 0, PySem.Value.str (PySem.Str.ofString "/claim/cut.py") 524] }) ::
  (nat_lit 209, { cls := PySem.Value.type "function", data := PySem.Data.func { name := PySem.Str.ofString "_law_spot_holds", qualname := PySem.Str.ofString "_law_spot_holds", params := fA12, body := PySem.FuncBody.stmts fB12, scope := fS12, globals := 3, closure := [], defaults := PySem.Value.none, kwdefaults := PySem.Value.none, pyModule := PySem.Value.str (PySem.Str.ofString "law_ox0037_01") 443, code := PySem.Value.ref 208 } }) ::
  (nat_lit 210, { cls := PySem.Value.type "tuple", data := PySem.Data.seq #[] }) ::
  (nat_lit 213, { cls := PySem.Value.type "code", data := PySem.Data.fields #[PySem.Value.str (PySem.Str.ofString "law") 526, PySem.Value.str (PySem.Str.ofString "law") 527, PySem.Value.str (PySem.Str.ofString "/claim/cut.py") 528, PySem.Value.int 186 0, PySem.Value.int 1 0, PySem.Value.int 0 0, PySem.Value.int 0 0, PySem.Value.int 3 0, PySem.Value.ref 210, PySem.Value.bool Bool.true, PySem.Value.int 181 0, PySem.Value.ref 211, PySem.Value.none, PySem.Value.none, PySem.Value.none, PySem.Value.ref 212, PySem.Value.int 529 0, PySem.Value.int 186 0, PySem.Value.str (PySem.Str.ofString "/claim/cut.py") 530] }) ::
  (nat_lit 214, { cls := PySem.Value.type "function", data := PySem.Data.func { name := PySem.Str.ofString "law", qualname := PySem.Str.ofString "law", params := fA13, body := PySem.FuncBody.stmts fB13, scope := fS13, globals := 3, closure := [], defaults := PySem.Value.none, kwdefaults := PySem.Value.none, pyModule := PySem.Value.str (PySem.Str.ofString "law_ox0037_01") 443, code := PySem.Value.ref 213 } }) :: []
noncomputable def heap0 (P : Params) : List (Nat × Obj) := heap1 (fB (sub (sta 2) 1)) (fA (sub (sta 2) 1)) (fS (sub (sta 2) 1)) (fB (sub (sta 3) 4)) (fA (sub (sta 3) 4)) (fS (sub (sta 3) 4)) (fD (sub (sta 3) 4)) (fB (sta 5)) (fA (sta 5)) (fS (sta 5)) (fD (sta 5)) (fB (sta 7)) (fA (sta 7)) (fS (sta 7)) (fB (sta 8)) (fA (sta 8)) (fS (sta 8)) (fB (sta 10)) (fA (sta 10)) (fS (sta 10)) (fB (sta 11)) (fA (sta 11)) (fS (sta 11)) (fB (sta 12)) (fA (sta 12)) (fS (sta 12)) (fB (sta 13)) (fA (sta 13)) (fS (sta 13)) (fB (sta 14)) (fA (sta 14)) (fS (sta 14)) (fB (sta 15)) (fA (sta 15)) (fS (sta 15)) (fB (sta 16)) (fA (sta 16)) (fS (sta 16)) (fB (sta 17)) (fA (sta 17)) (fS (sta 17)) (fB (sta 18)) (fA (sta 18)) (fS (sta 18)) P
noncomputable abbrev addrs0 : List Addr := [2, 3, 15, 17, 18, 20, 29, 31, 32, 34, 36, 37, 39, 40, 42, 43, 44, 46, 47, 49, 51, 53, 54, 56, 58, 59, 60, 61, 62, 65, 68, 73, 74, 75, 76, 78, 79, 81, 82, 83, 85, 86, 88, 90, 91, 92, 93, 94, 96, 97, 99, 101, 103, 104, 106, 108, 110, 111, 113, 115, 117, 118, 120, 122, 123, 124, 126, 127, 129, 130, 132, 134, 135, 136, 139, 141, 142, 144, 145, 146, 148, 149, 151, 152, 153, 155, 156, 158, 159, 160, 162, 163, 165, 166, 167, 169, 170, 172, 173, 174, 176, 177, 179, 180, 181, 183, 184, 186, 187, 188, 191, 192, 193, 196, 197, 198, 201, 202, 203, 205, 206, 208, 209, 210, 213, 214]
noncomputable def Lk {α : Type} (x : α) : α := x
noncomputable def Sm (K L : Params → Frag) : Prop := ∀ P, Lk (K P) = L P
noncomputable def hd.heap_39 : Params → Frag := by
  refine' (?f : (K : Params → Frag) → Sm K heap0 → Params → Frag) _ ?p
  case f => exact fun K _ => K
  case p =>
    intro P
    unfold heap0
    conv => rhs; arg 1; whnf
    conv => rhs; arg 2; whnf
    conv => rhs; arg 3; whnf
    conv => rhs; arg 4; whnf
    conv => rhs; arg 5; whnf
    conv => rhs; arg 6; whnf
    conv => rhs; arg 7; whnf
    conv => rhs; arg 8; whnf
    conv => rhs; arg 9; whnf
    conv => rhs; arg 10; whnf
    conv => rhs; arg 11; whnf
    conv => rhs; arg 12; whnf
    conv => rhs; arg 13; whnf
    conv => rhs; arg 14; whnf
    conv => rhs; arg 15; whnf
    conv => rhs; arg 16; whnf
    conv => rhs; arg 17; whnf
    conv => rhs; arg 18; whnf
    conv => rhs; arg 19; whnf
    conv => rhs; arg 20; whnf
    conv => rhs; arg 21; whnf
    conv => rhs; arg 22; whnf
    conv => rhs; arg 23; whnf
    conv => rhs; arg 24; whnf
    conv => rhs; arg 25; whnf
    conv => rhs; arg 26; whnf
    conv => rhs; arg 27; whnf
    conv => rhs; arg 28; whnf
    conv => rhs; arg 29; whnf
    conv => rhs; arg 30; whnf
    conv => rhs; arg 31; whnf
    conv => rhs; arg 32; whnf
    conv => rhs; arg 33; whnf
    conv => rhs; arg 34; whnf
    conv => rhs; arg 35; whnf
    conv => rhs; arg 36; whnf
    conv => rhs; arg 37; whnf
    conv => rhs; arg 38; whnf
    conv => rhs; arg 39; whnf
    conv => rhs; arg 40; whnf
    conv => rhs; arg 41; whnf
    conv => rhs; arg 42; whnf
    conv => rhs; arg 43; whnf
    conv => rhs; arg 44; whnf
    conv => rhs; delta heap1
    exact rfl
theorem addrs : ∀ P, addrs0 = (hd.heap_39 P).map (·.1) := fun _ => by kernel_rfl
noncomputable def hd.view_39 : Program := view PySem.Challenge.pw_ox0037_01 [0, 2, 3, 4, 5, 7, 8, 10, 11, 12, 13, 14, 15, 16, 17, 18]
noncomputable abbrev los : List Str := [Str.ofString "_tuplegetter", Str.ofString "Mismatch", Str.ofString "_Mismatch"]
noncomputable abbrev rr := (OpenRow.toRowW PySem.Challenge.rw_ox0037_01.row)
end Mine
end
section
open PySem PySem.W PySem.Calls PyProof.Rows
namespace Mine
set_option maxRecDepth 100000
set_option maxHeartbeats 8000000
noncomputable def hob0 (_ : Params) : Obj := { cls := Value.type "tuple", data := Data.seq #[] }
noncomputable def hob1 (_ : Params) : Obj := { cls := Value.none, data := Data.fields #[] }
noncomputable def hob2 (_ : Params) : Obj := { cls := Value.type "code", data := Data.fields #[Value.str (Str.ofString "<module>") 182, Value.str (Str.ofString "<module>") 183, Value.str (Str.ofString "/claim/cut.py") 184, Value.int 1 0, Value.int 0 0, Value.int 0 0, Value.int 0 0, Value.int 0 0, Value.ref 11, Value.bool Bool.false, Value.int 181 0, Value.ref 12, Value.none, Value.none, Value.none, Value.none, Value.int 185 0, Value.int 1 0, Value.str (Str.ofString "/claim/cut.py") 186] }
noncomputable def hob3 (_ : Params) : Obj := { cls := Value.type "frame", slots := #[Option.some (Value.ref 13), Option.some (Value.ref 3), Option.some (Value.ref 3), Option.none, Option.some (Value.str (Str.ofString "__main__") 164), Option.none, Option.some (Value.ref 0)] }
noncomputable def hob4 (P : Params) : Obj := { cls := Value.type "dict", data := Data.dict #[{ hash := PyData.keyHash P (Str.ofString "__name__"), key := Value.str (Str.ofString "__name__") 165, val := Value.str (Str.ofString "cpy313.unittest.util") 194 }, { hash := PyData.keyHash P (Str.ofString "__doc__"), key := Value.str (Str.ofString "__doc__") 166, val := Value.none }, { hash := PyData.keyHash P (Str.ofString "__package__"), key := Value.str (Str.ofString "__package__") 167, val := Value.none }, { hash := PyData.keyHash P (Str.ofString "__loader__"), key := Value.str (Str.ofString "__loader__") 168, val := Value.builtin "__main__.__loader__#opaque" }, { hash := PyData.keyHash P (Str.ofString "__spec__"), key := Value.str (Str.ofString "__spec__") 169, val := Value.none }, { hash := PyData.keyHash P (Str.ofString "__annotations__"), key := Value.str (Str.ofString "__annotations__") 170, val := Value.ref 6 }, { hash := PyData.keyHash P (Str.ofString "__builtins__"), key := Value.str (Str.ofString "__builtins__") 171, val := Value.ref 4 }, { hash := PyData.keyHash P (Str.ofString "__file__"), key := Value.str (Str.ofString "__file__") 173, val := Value.str (Str.ofString "/claim/cut.py") 172 }, { hash := PyData.keyHash P (Str.ofString "__cached__"), key := Value.str (Str.ofString "__cached__") 174, val := Value.none }, { hash := PyData.keyHash P (Str.ofString "_wall"), key := Value.str (Str.ofString "_wall") 193, val := Value.ref 21 }, { hash := PyData.keyHash P (Str.ofString "_tuplegetter"), key := Value.str (Str.ofString "_tuplegetter") 252, val := Value.ref 60 }] 11 }
noncomputable def hob5 (_ : Params) : Obj := { cls := Value.none, data := Data.fields #[Value.int 1 0, Value.int 0 0, Value.ref 20, Value.int 5 0, Value.int 0 0, Value.ref 27] }
noncomputable def hob6 (_ : Params) : Obj := { cls := Value.type "tuple", data := Data.seq #[] }
noncomputable def hob7 (_ : Params) : Obj := { cls := Value.none, data := Data.fields #[] }
noncomputable def hob8 (_ : Params) : Obj := { cls := Value.type "tuple", data := Data.seq #[Value.str (Str.ofString "k") 190] }
noncomputable def hob9 (_ : Params) : Obj := { cls := Value.type "tuple", data := Data.seq #[] }
noncomputable def hob10 (_ : Params) : Obj := { cls := Value.none, data := Data.func { name := Str.ofString "_wall", qualname := Str.ofString "_wall", params := fA (sta 0), body := FuncBody.stmts (fB (sta 0)), scope := fS (sta 0), globals := 0, closure := [], defaults := Value.none, kwdefaults := Value.none } }
noncomputable def hob11 (_ : Params) : Obj := { cls := Value.type "code", data := Data.fields #[Value.str (Str.ofString "_wall") 187, Value.str (Str.ofString "_wall") 188, Value.str (Str.ofString "/claim/cut.py") 189, Value.int 1 0, Value.int 1 0, Value.int 0 0, Value.int 0 0, Value.int 3 0, Value.ref 15, Value.bool Bool.true, Value.int 181 0, Value.ref 16, Value.none, Value.ref 17, Value.ref 18, Value.ref 19, Value.int 191 0, Value.int 1 0, Value.str (Str.ofString "/claim/cut.py") 192] }
noncomputable def hob12 (_ : Params) : Obj := { cls := Value.type "function", data := Data.func { name := Str.ofString "_wall", qualname := Str.ofString "_wall", params := fA (sta 0), body := FuncBody.stmts (fB (sta 0)), scope := fS (sta 0), globals := 3, closure := [], defaults := Value.none, kwdefaults := Value.none, pyModule := Value.str (Str.ofString "__main__") 164, code := Value.ref 20 } }
noncomputable def hob13 (_ : Params) : Obj := { cls := Value.type "tuple", data := Data.seq #[] }
noncomputable def hob14 (_ : Params) : Obj := { cls := Value.type "builtin_function_or_method", data := Data.fields #[Value.builtin "type.__prepare__", Value.type "type"] }
noncomputable def hob15 (P : Params) : Obj := { cls := Value.type "dict", data := Data.dict #[{ hash := PyData.keyHash P (Str.ofString "__module__"), key := Value.str (Str.ofString "__module__") 203, val := Value.str (Str.ofString "cpy313.unittest.util") 194 }, { hash := PyData.keyHash P (Str.ofString "__qualname__"), key := Value.str (Str.ofString "__qualname__") 205, val := Value.str (Str.ofString "_tuplegetter") 204 }, { hash := PyData.keyHash P (Str.ofString "__firstlineno__"), key := Value.str (Str.ofString "__firstlineno__") 207, val := Value.int 5 206 }, { hash := PyData.keyHash P (Str.ofString "__init__"), key := Value.str (Str.ofString "__init__") 216, val := Value.ref 35 }, { hash := PyData.keyHash P (Str.ofString "__get__"), key := Value.str (Str.ofString "__get__") 225, val := Value.ref 43 }, { hash := PyData.keyHash P (Str.ofString "__set__"), key := Value.str (Str.ofString "__set__") 234, val := Value.ref 50 }, { hash := PyData.keyHash P (Str.ofString "__delete__"), key := Value.str (Str.ofString "__delete__") 242, val := Value.ref 57 }, { hash := PyData.keyHash P (Str.ofString "__static_attributes__"), key := Value.str (Str.ofString "__static_attributes__") 245, val := Value.ref 58 }] 8 }
noncomputable def hob16 (_ : Params) : Obj := { cls := Value.type "tuple", data := Data.seq #[] }
noncomputable def hob17 (_ : Params) : Obj := { cls := Value.none, data := Data.fields #[Value.int 7 0, Value.int 4 0, Value.ref 34, Value.int 11 0, Value.int 4 0, Value.ref 42, Value.int 18 0, Value.int 4 0, Value.ref 49, Value.int 21 0, Value.int 4 0, Value.ref 56] }
noncomputable def hob18 (_ : Params) : Obj := { cls := Value.type "code", data := Data.fields #[Value.str (Str.ofString "_tuplegetter") 198, Value.str (Str.ofString "_tuplegetter") 199, Value.str (Str.ofString "/claim/cut.py") 200, Value.int 5 0, Value.int 0 0, Value.int 0 0, Value.int 0 0, Value.int 0 0, Value.ref 25, Value.bool Bool.false, Value.int 181 0, Value.ref 26, Value.none, Value.none, Value.none, Value.none, Value.int 201 0, Value.int 5 0, Value.str (Str.ofString "/claim/cut.py") 202] }
noncomputable def hob19 (_ : Params) : Obj := { cls := Value.type "frame", slots := #[Option.some (Value.ref 27), Option.some (Value.ref 3), Option.some (Value.ref 24), Option.none, Option.some (Value.str (Str.ofString "cpy313.unittest.util") 194), Option.none, Option.some (Value.ref 0)] }
noncomputable def hob20 (_ : Params) : Obj := { cls := Value.type "tuple", data := Data.seq #[] }
noncomputable def hob21 (_ : Params) : Obj := { cls := Value.none, data := Data.fields #[] }
noncomputable def hob22 (_ : Params) : Obj := { cls := Value.type "tuple", data := Data.seq #[Value.str (Str.ofString "self") 211, Value.str (Str.ofString "index") 212, Value.str (Str.ofString "doc") 213] }
noncomputable def hob23 (_ : Params) : Obj := { cls := Value.type "tuple", data := Data.seq #[] }
noncomputable def hob24 (_ : Params) : Obj := { cls := Value.none, data := Data.func { name := Str.ofString "__init__", qualname := Str.ofString "_tuplegetter.__init__", params := fA (sub (sta 2) 0), body := FuncBody.stmts (fB (sub (sta 2) 0)), scope := fS (sub (sta 2) 0), globals := 0, closure := [], defaults := Value.none, kwdefaults := Value.none } }
noncomputable def hob25 (_ : Params) : Obj := { cls := Value.type "code", data := Data.fields #[Value.str (Str.ofString "__init__") 208, Value.str (Str.ofString "_tuplegetter.__init__") 209, Value.str (Str.ofString "/claim/cut.py") 210, Value.int 7 0, Value.int 3 0, Value.int 0 0, Value.int 0 0, Value.int 3 0, Value.ref 29, Value.bool Bool.true, Value.int 181 0, Value.ref 30, Value.none, Value.ref 31, Value.ref 32, Value.ref 33, Value.int 214 0, Value.int 7 0, Value.str (Str.ofString "/claim/cut.py") 215] }
noncomputable def hob26 (_ : Params) : Obj := { cls := Value.type "function", data := Data.func { name := Str.ofString "__init__", qualname := Str.ofString "_tuplegetter.__init__", params := fA (sub (sta 2) 0), body := FuncBody.stmts (fB (sub (sta 2) 0)), scope := fS (sub (sta 2) 0), globals := 3, closure := [], defaults := Value.none, kwdefaults := Value.none, pyModule := Value.str (Str.ofString "cpy313.unittest.util") 194, code := Value.ref 34 } }
noncomputable def hob27 (_ : Params) : Obj := { cls := Value.type "tuple", data := Data.seq #[Value.none] }
noncomputable def hob28 (_ : Params) : Obj := { cls := Value.type "tuple", data := Data.seq #[] }
noncomputable def hob29 (_ : Params) : Obj := { cls := Value.none, data := Data.fields #[] }
noncomputable def hob30 (_ : Params) : Obj := { cls := Value.type "tuple", data := Data.seq #[Value.str (Str.ofString "self") 220, Value.str (Str.ofString "obj") 221, Value.str (Str.ofString "objtype") 222] }
noncomputable def hob31 (_ : Params) : Obj := { cls := Value.type "tuple", data := Data.seq #[] }
noncomputable def hob32 (_ : Params) : Obj := { cls := Value.none, data := Data.func { name := Str.ofString "__get__", qualname := Str.ofString "_tuplegetter.__get__", params := fA (sub (sta 2) 1), body := FuncBody.stmts (fB (sub (sta 2) 1)), scope := fS (sub (sta 2) 1), globals := 0, closure := [], defaults := Value.none, kwdefaults := Value.none } }
noncomputable def hob33 (_ : Params) : Obj := { cls := Value.type "code", data := Data.fields #[Value.str (Str.ofString "__get__") 217, Value.str (Str.ofString "_tuplegetter.__get__") 218, Value.str (Str.ofString "/claim/cut.py") 219, Value.int 11 0, Value.int 3 0, Value.int 0 0, Value.int 0 0, Value.int 3 0, Value.ref 37, Value.bool Bool.true, Value.int 181 0, Value.ref 38, Value.none, Value.ref 39, Value.ref 40, Value.ref 41, Value.int 223 0, Value.int 11 0, Value.str (Str.ofString "/claim/cut.py") 224] }
noncomputable def hob34 (_ : Params) : Obj := { cls := Value.type "function", data := Data.func { name := Str.ofString "__get__", qualname := Str.ofString "_tuplegetter.__get__", params := fA (sub (sta 2) 1), body := FuncBody.stmts (fB (sub (sta 2) 1)), scope := fS (sub (sta 2) 1), globals := 3, closure := [], defaults := Value.ref 36, kwdefaults := Value.none, pyModule := Value.str (Str.ofString "cpy313.unittest.util") 194, code := Value.ref 42 } }
noncomputable def hob35 (_ : Params) : Obj := { cls := Value.type "tuple", data := Data.seq #[] }
noncomputable def hob36 (_ : Params) : Obj := { cls := Value.none, data := Data.fields #[] }
noncomputable def hob37 (_ : Params) : Obj := { cls := Value.type "tuple", data := Data.seq #[Value.str (Str.ofString "self") 229, Value.str (Str.ofString "obj") 230, Value.str (Str.ofString "value") 231] }
noncomputable def hob38 (_ : Params) : Obj := { cls := Value.type "tuple", data := Data.seq #[] }
noncomputable def hob39 (_ : Params) : Obj := { cls := Value.none, data := Data.func { name := Str.ofString "__set__", qualname := Str.ofString "_tuplegetter.__set__", params := fA (sub (sta 2) 2), body := FuncBody.stmts (fB (sub (sta 2) 2)), scope := fS (sub (sta 2) 2), globals := 0, closure := [], defaults := Value.none, kwdefaults := Value.none } }
noncomputable def hob40 (_ : Params) : Obj := { cls := Value.type "code", data := Data.fields #[Value.str (Str.ofString "__set__") 226, Value.str (Str.ofString "_tuplegetter.__set__") 227, Value.str (Str.ofString "/claim/cut.py") 228, Value.int 18 0, Value.int 3 0, Value.int 0 0, Value.int 0 0, Value.int 3 0, Value.ref 44, Value.bool Bool.true, Value.int 181 0, Value.ref 45, Value.none, Value.ref 46, Value.ref 47, Value.ref 48, Value.int 232 0, Value.int 18 0, Value.str (Str.ofString "/claim/cut.py") 233] }
noncomputable def hob41 (_ : Params) : Obj := { cls := Value.type "function", data := Data.func { name := Str.ofString "__set__", qualname := Str.ofString "_tuplegetter.__set__", params := fA (sub (sta 2) 2), body := FuncBody.stmts (fB (sub (sta 2) 2)), scope := fS (sub (sta 2) 2), globals := 3, closure := [], defaults := Value.none, kwdefaults := Value.none, pyModule := Value.str (Str.ofString "cpy313.unittest.util") 194, code := Value.ref 49 } }
noncomputable def hob42 (_ : Params) : Obj := { cls := Value.type "tuple", data := Data.seq #[] }
noncomputable def hob43 (_ : Params) : Obj := { cls := Value.none, data := Data.fields #[] }
noncomputable def hob44 (_ : Params) : Obj := { cls := Value.type "tuple", data := Data.seq #[Value.str (Str.ofString "self") 238, Value.str (Str.ofString "obj") 239] }
noncomputable def hob45 (_ : Params) : Obj := { cls := Value.type "tuple", data := Data.seq #[] }
noncomputable def hob46 (_ : Params) : Obj := { cls := Value.none, data := Data.func { name := Str.ofString "__delete__", qualname := Str.ofString "_tuplegetter.__delete__", params := fA (sub (sta 2) 3), body := FuncBody.stmts (fB (sub (sta 2) 3)), scope := fS (sub (sta 2) 3), globals := 0, closure := [], defaults := Value.none, kwdefaults := Value.none } }
noncomputable def hob47 (_ : Params) : Obj := { cls := Value.type "code", data := Data.fields #[Value.str (Str.ofString "__delete__") 235, Value.str (Str.ofString "_tuplegetter.__delete__") 236, Value.str (Str.ofString "/claim/cut.py") 237, Value.int 21 0, Value.int 2 0, Value.int 0 0, Value.int 0 0, Value.int 3 0, Value.ref 51, Value.bool Bool.true, Value.int 181 0, Value.ref 52, Value.none, Value.ref 53, Value.ref 54, Value.ref 55, Value.int 240 0, Value.int 21 0, Value.str (Str.ofString "/claim/cut.py") 241] }
noncomputable def hob48 (_ : Params) : Obj := { cls := Value.type "function", data := Data.func { name := Str.ofString "__delete__", qualname := Str.ofString "_tuplegetter.__delete__", params := fA (sub (sta 2) 3), body := FuncBody.stmts (fB (sub (sta 2) 3)), scope := fS (sub (sta 2) 3), globals := 3, closure := [], defaults := Value.none, kwdefaults := Value.none, pyModule := Value.str (Str.ofString "cpy313.unittest.util") 194, code := Value.ref 56 } }
noncomputable def hob49 (_ : Params) : Obj := { cls := Value.type "tuple", data := Data.seq #[Value.str (Str.ofString "__doc__") 243, Value.str (Str.ofString "index") 244] }
noncomputable def hob50 (P : Params) : Obj := { cls := Value.type "dict", data := Data.dict #[{ hash := PyData.keyHash P (Str.ofString "__module__"), key := Value.str (Str.ofString "__module__") 203, val := Value.str (Str.ofString "cpy313.unittest.util") 194 }, { hash := PyData.keyHash P (Str.ofString "__firstlineno__"), key := Value.str (Str.ofString "__firstlineno__") 207, val := Value.int 5 206 }, { hash := PyData.keyHash P (Str.ofString "__init__"), key := Value.str (Str.ofString "__init__") 216, val := Value.ref 35 }, { hash := PyData.keyHash P (Str.ofString "__get__"), key := Value.str (Str.ofString "__get__") 225, val := Value.ref 43 }, { hash := PyData.keyHash P (Str.ofString "__set__"), key := Value.str (Str.ofString "__set__") 234, val := Value.ref 50 }, { hash := PyData.keyHash P (Str.ofString "__delete__"), key := Value.str (Str.ofString "__delete__") 242, val := Value.ref 57 }, { hash := PyData.keyHash P (Str.ofString "__static_attributes__"), key := Value.str (Str.ofString "__static_attributes__") 245, val := Value.ref 58 }, { hash := PyData.keyHash P (Str.ofString "__dict__"), key := Value.str (Str.ofString "__dict__") 247, val := Value.ref 61 }, { hash := PyData.keyHash P (Str.ofString "__weakref__"), key := Value.str (Str.ofString "__weakref__") 249, val := Value.ref 62 }, { hash := PyData.keyHash P (Str.ofString "__doc__"), key := Value.str (Str.ofString "__doc__") 250, val := Value.none }] 4 }
noncomputable def hob51 (_ : Params) : Obj := { cls := Value.type "type", data := Data.cls { name := Str.ofString "_tuplegetter", bases := [Value.type "object"], mro := [Value.ref 60, Value.type "object"], ns := 59, qualname := Str.ofString "_tuplegetter" }, slots := #[Option.none, Option.none, Option.some (Value.str (Str.ofString "_tuplegetter") 196), Option.some (Value.str (Str.ofString "_tuplegetter") 204), Option.some (Value.builtin "object.__new__"), Option.some (Value.bool Bool.true)] }
noncomputable def hob52 (_ : Params) : Obj := { cls := Value.type "getset_descriptor", data := Data.fields #[Value.str (Str.ofString "__dict__") 246, Value.ref 60, Value.builtin "function.__dict__", Value.builtin "function.__dict__#set"] }
noncomputable def hob53 (_ : Params) : Obj := { cls := Value.type "getset_descriptor", data := Data.fields #[Value.str (Str.ofString "__weakref__") 248, Value.ref 60, Value.builtin "ExceptionGroup.__weakref__", Value.none] }
noncomputable def hob54 (_ : Params) : Obj := { cls := Value.type "super", data := Data.fields #[Value.ref 60, Value.ref 60, Value.ref 60] }
noncomputable def hob55 (_ : Params) : Obj := { cls := Value.type "builtin_function_or_method", data := Data.fields #[Value.builtin "object.__init_subclass__", Value.ref 60] }
noncomputable def hob56 (P : Params) : Obj := { cls := Value.type "dict", data := Data.dict #[{ hash := PyData.keyHash P (Str.ofString "__name__"), key := Value.str (Str.ofString "__name__") 165, val := Value.str (Str.ofString "cpy313.unittest.util") 194 }, { hash := PyData.keyHash P (Str.ofString "__doc__"), key := Value.str (Str.ofString "__doc__") 166, val := Value.none }, { hash := PyData.keyHash P (Str.ofString "__package__"), key := Value.str (Str.ofString "__package__") 167, val := Value.none }, { hash := PyData.keyHash P (Str.ofString "__loader__"), key := Value.str (Str.ofString "__loader__") 168, val := Value.builtin "__main__.__loader__#opaque" }, { hash := PyData.keyHash P (Str.ofString "__spec__"), key := Value.str (Str.ofString "__spec__") 169, val := Value.none }, { hash := PyData.keyHash P (Str.ofString "__annotations__"), key := Value.str (Str.ofString "__annotations__") 170, val := Value.ref 6 }, { hash := PyData.keyHash P (Str.ofString "__builtins__"), key := Value.str (Str.ofString "__builtins__") 171, val := Value.ref 4 }, { hash := PyData.keyHash P (Str.ofString "__file__"), key := Value.str (Str.ofString "__file__") 173, val := Value.str (Str.ofString "/claim/cut.py") 172 }, { hash := PyData.keyHash P (Str.ofString "__cached__"), key := Value.str (Str.ofString "__cached__") 174, val := Value.none }, { hash := PyData.keyHash P (Str.ofString "_wall"), key := Value.str (Str.ofString "_wall") 193, val := Value.ref 21 }, { hash := PyData.keyHash P (Str.ofString "_tuplegetter"), key := Value.str (Str.ofString "_tuplegetter") 252, val := Value.ref 60 }, { hash := PyData.keyHash P (Str.ofString "Mismatch"), key := Value.str (Str.ofString "Mismatch") 380, val := Value.ref 135 }] 12 }
noncomputable def hob57 (_ : Params) : Obj := { cls := Value.none, data := Data.fields #[Value.int 1 0, Value.int 0 0, Value.ref 20, Value.int 5 0, Value.int 0 0, Value.ref 27, Value.int 23 0, Value.int 0 0, Value.ref 71] }
noncomputable def hob58 (_ : Params) : Obj := { cls := Value.type "tuple", data := Data.seq #[Value.type "tuple"] }
noncomputable def hob59 (_ : Params) : Obj := { cls := Value.type "builtin_function_or_method", data := Data.fields #[Value.builtin "type.__prepare__", Value.type "type"] }
noncomputable def hob60 (P : Params) : Obj := { cls := Value.type "dict", data := Data.dict #[{ hash := PyData.keyHash P (Str.ofString "__module__"), key := Value.str (Str.ofString "__module__") 260, val := Value.str (Str.ofString "cpy313.unittest.util") 194 }, { hash := PyData.keyHash P (Str.ofString "__qualname__"), key := Value.str (Str.ofString "__qualname__") 262, val := Value.str (Str.ofString "Mismatch") 261 }, { hash := PyData.keyHash P (Str.ofString "__firstlineno__"), key := Value.str (Str.ofString "__firstlineno__") 264, val := Value.int 23 263 }, { hash := PyData.keyHash P (Str.ofString "__doc__"), key := Value.str (Str.ofString "__doc__") 266, val := Value.str (Str.ofString "Mismatch(actual, expected, value)") 265 }, { hash := PyData.keyHash P (Str.ofString "__slots__"), key := Value.str (Str.ofString "__slots__") 268, val := Value.ref 73 }, { hash := PyData.keyHash P (Str.ofString "_fields"), key := Value.str (Str.ofString "_fields") 272, val := Value.ref 74 }, { hash := PyData.keyHash P (Str.ofString "_field_defaults"), key := Value.str (Str.ofString "_field_defaults") 273, val := Value.ref 75 }, { hash := PyData.keyHash P (Str.ofString "__new__"), key := Value.str (Str.ofString "__new__") 284, val := Value.ref 82 }, { hash := PyData.keyHash P (Str.ofString "_make"), key := Value.str (Str.ofString "_make") 306, val := Value.ref 91 }, { hash := PyData.keyHash P (Str.ofString "_replace"), key := Value.str (Str.ofString "_replace") 317, val := Value.ref 100 }, { hash := PyData.keyHash P (Str.ofString "__replace__"), key := Value.str (Str.ofString "__replace__") 318, val := Value.ref 100 }, { hash := PyData.keyHash P (Str.ofString "__repr__"), key := Value.str (Str.ofString "__repr__") 326, val := Value.ref 107 }, { hash := PyData.keyHash P (Str.ofString "_asdict"), key := Value.str (Str.ofString "_asdict") 333, val := Value.ref 114 }, { hash := PyData.keyHash P (Str.ofString "__getnewargs__"), key := Value.str (Str.ofString "__getnewargs__") 341, val := Value.ref 121 }, { hash := PyData.keyHash P (Str.ofString "__match_args__"), key := Value.str (Str.ofString "__match_args__") 345, val := Value.ref 122 }, { hash := PyData.keyHash P (Str.ofString "actual"), key := Value.str (Str.ofString "actual") 355, val := Value.ref 124 }, { hash := PyData.keyHash P (Str.ofString "expected"), key := Value.str (Str.ofString "expected") 365, val := Value.ref 127 }, { hash := PyData.keyHash P (Str.ofString "value"), key := Value.str (Str.ofString "value") 375, val := Value.ref 130 }, { hash := PyData.keyHash P (Str.ofString "__static_attributes__"), key := Value.str (Str.ofString "__static_attributes__") 376, val := Value.ref 132 }, { hash := PyData.keyHash P (Str.ofString "__classcell__"), key := Value.str (Str.ofString "__classcell__") 377, val := Value.ref 68 }] 20 }
noncomputable def hob61 (_ : Params) : Obj := { cls := Value.type "cell", data := Data.cell (Option.some (Value.ref 135)) }
noncomputable def hob62 (_ : Params) : Obj := { cls := Value.type "tuple", data := Data.seq #[] }
noncomputable def hob63 (_ : Params) : Obj := { cls := Value.none, data := Data.fields #[Value.int 29 0, Value.int 4 0, Value.ref 81, Value.int 34 0, Value.int 4 0, Value.ref 88, Value.int 41 0, Value.int 4 0, Value.ref 99, Value.int 52 0, Value.int 4 0, Value.ref 106, Value.int 56 0, Value.int 4 0, Value.ref 113, Value.int 59 0, Value.int 4 0, Value.ref 120] }
noncomputable def hob64 (_ : Params) : Obj := { cls := Value.type "code", data := Data.fields #[Value.str (Str.ofString "Mismatch") 255, Value.str (Str.ofString "Mismatch") 256, Value.str (Str.ofString "/claim/cut.py") 257, Value.int 23 0, Value.int 0 0, Value.int 0 0, Value.int 0 0, Value.int 0 0, Value.ref 69, Value.bool Bool.false, Value.int 181 0, Value.ref 70, Value.none, Value.none, Value.none, Value.none, Value.int 258 0, Value.int 23 0, Value.str (Str.ofString "/claim/cut.py") 259] }
noncomputable def hob65 (_ : Params) : Obj := { cls := Value.type "frame", slots := #[Option.some (Value.ref 71), Option.some (Value.ref 3), Option.some (Value.ref 67), Option.none, Option.some (Value.str (Str.ofString "cpy313.unittest.util") 194), Option.none, Option.some (Value.ref 0)] }
noncomputable def hob66 (_ : Params) : Obj := { cls := Value.type "tuple", data := Data.seq #[] }
noncomputable def hob67 (_ : Params) : Obj := { cls := Value.type "tuple", data := Data.seq #[Value.str (Str.ofString "actual") 269, Value.str (Str.ofString "expected") 270, Value.str (Str.ofString "value") 271] }
noncomputable def hob68 (_ : Params) : Obj := { cls := Value.type "dict", data := Data.dict #[] }
noncomputable def hob69 (_ : Params) : Obj := { cls := Value.type "tuple", data := Data.seq #[] }
noncomputable def hob70 (_ : Params) : Obj := { cls := Value.none, data := Data.fields #[] }
noncomputable def hob71 (_ : Params) : Obj := { cls := Value.type "tuple", data := Data.seq #[Value.str (Str.ofString "_cls") 277, Value.str (Str.ofString "actual") 278, Value.str (Str.ofString "expected") 279, Value.str (Str.ofString "value") 280] }
noncomputable def hob72 (_ : Params) : Obj := { cls := Value.type "tuple", data := Data.seq #[] }
noncomputable def hob73 (_ : Params) : Obj := { cls := Value.none, data := Data.func { name := Str.ofString "__new__", qualname := Str.ofString "Mismatch.__new__", params := fA (sub (sta 3) 4), body := FuncBody.stmts (fB (sub (sta 3) 4)), scope := fS (sub (sta 3) 4), globals := 0, closure := [], defaults := Value.none, kwdefaults := Value.none } }
noncomputable def hob74 (_ : Params) : Obj := { cls := Value.type "code", data := Data.fields #[Value.str (Str.ofString "__new__") 274, Value.str (Str.ofString "Mismatch.__new__") 275, Value.str (Str.ofString "/claim/cut.py") 276, Value.int 29 0, Value.int 4 0, Value.int 0 0, Value.int 0 0, Value.int 3 0, Value.ref 76, Value.bool Bool.true, Value.int 181 0, Value.ref 77, Value.none, Value.ref 78, Value.ref 79, Value.ref 80, Value.int 281 0, Value.int 29 0, Value.str (Str.ofString "/claim/cut.py") 282] }
noncomputable def hob75 (_ : Params) : Obj := { cls := Value.type "function", data := Data.func { name := Str.ofString "__new__", qualname := Str.ofString "Mismatch.__new__", params := fA (sub (sta 3) 4), body := FuncBody.stmts (fB (sub (sta 3) 4)), scope := fS (sub (sta 3) 4), globals := 3, closure := [], defaults := Value.none, kwdefaults := Value.none, doc := Value.str (fD (sub (sta 3) 4)) 283, pyModule := Value.str (Str.ofString "cpy313.unittest.util") 194, code := Value.ref 81 } }
noncomputable def hob76 (_ : Params) : Obj := { cls := Value.type "tuple", data := Data.seq #[] }
noncomputable def hob77 (_ : Params) : Obj := { cls := Value.none, data := Data.fields #[] }
noncomputable def hob78 (_ : Params) : Obj := { cls := Value.type "tuple", data := Data.seq #[Value.str (Str.ofString "cls") 288, Value.str (Str.ofString "iterable") 289, Value.str (Str.ofString "result") 290] }
noncomputable def hob79 (_ : Params) : Obj := { cls := Value.type "tuple", data := Data.seq #[] }
noncomputable def hob80 (_ : Params) : Obj := { cls := Value.none, data := Data.func { name := Str.ofString "_make", qualname := Str.ofString "Mismatch._make", params := fA (sub (sta 3) 5), body := FuncBody.stmts (fB (sub (sta 3) 5)), scope := fS (sub (sta 3) 5), globals := 0, closure := [], defaults := Value.none, kwdefaults := Value.none } }
noncomputable def hob81 (_ : Params) : Obj := { cls := Value.type "code", data := Data.fields #[Value.str (Str.ofString "_make") 285, Value.str (Str.ofString "Mismatch._make") 286, Value.str (Str.ofString "/claim/cut.py") 287, Value.int 33 0, Value.int 2 0, Value.int 0 0, Value.int 0 0, Value.int 3 0, Value.ref 83, Value.bool Bool.true, Value.int 181 0, Value.ref 84, Value.none, Value.ref 85, Value.ref 86, Value.ref 87, Value.int 291 0, Value.int 33 0, Value.str (Str.ofString "/claim/cut.py") 292] }
noncomputable def hob82 (_ : Params) : Obj := { cls := Value.type "function", data := Data.func { name := Str.ofString "_make", qualname := Str.ofString "Mismatch._make", params := fA (sub (sta 3) 5), body := FuncBody.stmts (fB (sub (sta 3) 5)), scope := fS (sub (sta 3) 5), globals := 3, closure := [], defaults := Value.none, kwdefaults := Value.none, doc := Value.str (fD (sub (sta 3) 5)) 293, pyModule := Value.str (Str.ofString "cpy313.unittest.util") 194, annotations := Option.some 92, code := Value.ref 88 } }
noncomputable def hob83 (P : Params) : Obj := { cls := Value.type "dict", data := Data.dict #[{ hash := PyData.keyHash P (Str.ofString "__module__"), key := Value.str (Str.ofString "__module__") 295, val := Value.str (Str.ofString "cpy313.unittest.util") 194 }, { hash := PyData.keyHash P (Str.ofString "__name__"), key := Value.str (Str.ofString "__name__") 298, val := Value.str (Str.ofString "_make") 297 }, { hash := PyData.keyHash P (Str.ofString "__qualname__"), key := Value.str (Str.ofString "__qualname__") 301, val := Value.str (Str.ofString "Mismatch._make") 300 }, { hash := PyData.keyHash P (Str.ofString "__doc__"), key := Value.str (Str.ofString "__doc__") 303, val := Value.str (Str.ofString "Make a new Mismatch object from a sequence or iterable") 293 }, { hash := PyData.keyHash P (Str.ofString "__annotations__"), key := Value.str (Str.ofString "__annotations__") 305, val := Value.ref 92 }] 5 }
noncomputable def hob84 (_ : Params) : Obj := { cls := Value.type "classmethod", dict := Option.some 90, data := Data.fields #[Value.ref 89, Value.bool Bool.false] }
noncomputable def hob85 (_ : Params) : Obj := { cls := Value.type "dict", data := Data.dict #[] }
noncomputable def hob86 (_ : Params) : Obj := { cls := Value.type "tuple", data := Data.seq #[Value.ref 68] }
noncomputable def hob87 (_ : Params) : Obj := { cls := Value.type "tuple", data := Data.seq #[Value.str (Str.ofString "__class__") 310] }
noncomputable def hob88 (_ : Params) : Obj := { cls := Value.none, data := Data.fields #[] }
noncomputable def hob89 (_ : Params) : Obj := { cls := Value.type "tuple", data := Data.seq #[Value.str (Str.ofString "self") 311, Value.str (Str.ofString "kwds") 312, Value.str (Str.ofString "result") 313] }
noncomputable def hob90 (_ : Params) : Obj := { cls := Value.type "tuple", data := Data.seq #[] }
noncomputable def hob91 (_ : Params) : Obj := { cls := Value.none, data := Data.func { name := Str.ofString "_replace", qualname := Str.ofString "Mismatch._replace", params := fA (sub (sta 3) 6), body := FuncBody.stmts (fB (sub (sta 3) 6)), scope := fS (sub (sta 3) 6), globals := 0, closure := [], defaults := Value.none, kwdefaults := Value.none } }
noncomputable def hob92 (_ : Params) : Obj := { cls := Value.type "code", data := Data.fields #[Value.str (Str.ofString "_replace") 307, Value.str (Str.ofString "Mismatch._replace") 308, Value.str (Str.ofString "/claim/cut.py") 309, Value.int 41 0, Value.int 1 0, Value.int 1 0, Value.int 0 0, Value.int 11 0, Value.ref 94, Value.bool Bool.true, Value.int 181 0, Value.ref 95, Value.none, Value.ref 96, Value.ref 97, Value.ref 98, Value.int 314 0, Value.int 41 0, Value.str (Str.ofString "/claim/cut.py") 315] }
noncomputable def hob93 (_ : Params) : Obj := { cls := Value.type "function", data := Data.func { name := Str.ofString "_replace", qualname := Str.ofString "Mismatch._replace", params := fA (sub (sta 3) 6), body := FuncBody.stmts (fB (sub (sta 3) 6)), scope := fS (sub (sta 3) 6), globals := 3, closure := [(Str.ofString "__class__", 68)], defaults := Value.none, kwdefaults := Value.none, doc := Value.str (fD (sub (sta 3) 6)) 316, pyModule := Value.str (Str.ofString "cpy313.unittest.util") 194, code := Value.ref 99, closureTuple := Value.ref 93 } }
noncomputable def hob94 (_ : Params) : Obj := { cls := Value.type "tuple", data := Data.seq #[] }
noncomputable def hob95 (_ : Params) : Obj := { cls := Value.none, data := Data.fields #[] }
noncomputable def hob96 (_ : Params) : Obj := { cls := Value.type "tuple", data := Data.seq #[Value.str (Str.ofString "self") 322] }
noncomputable def hob97 (_ : Params) : Obj := { cls := Value.type "tuple", data := Data.seq #[] }
noncomputable def hob98 (_ : Params) : Obj := { cls := Value.none, data := Data.func { name := Str.ofString "__repr__", qualname := Str.ofString "Mismatch.__repr__", params := fA (sub (sta 3) 8), body := FuncBody.stmts (fB (sub (sta 3) 8)), scope := fS (sub (sta 3) 8), globals := 0, closure := [], defaults := Value.none, kwdefaults := Value.none } }
noncomputable def hob99 (_ : Params) : Obj := { cls := Value.type "code", data := Data.fields #[Value.str (Str.ofString "__repr__") 319, Value.str (Str.ofString "Mismatch.__repr__") 320, Value.str (Str.ofString "/claim/cut.py") 321, Value.int 52 0, Value.int 1 0, Value.int 0 0, Value.int 0 0, Value.int 3 0, Value.ref 101, Value.bool Bool.true, Value.int 181 0, Value.ref 102, Value.none, Value.ref 103, Value.ref 104, Value.ref 105, Value.int 323 0, Value.int 52 0, Value.str (Str.ofString "/claim/cut.py") 324] }
noncomputable def hob100 (_ : Params) : Obj := { cls := Value.type "function", data := Data.func { name := Str.ofString "__repr__", qualname := Str.ofString "Mismatch.__repr__", params := fA (sub (sta 3) 8), body := FuncBody.stmts (fB (sub (sta 3) 8)), scope := fS (sub (sta 3) 8), globals := 3, closure := [], defaults := Value.none, kwdefaults := Value.none, doc := Value.str (fD (sub (sta 3) 8)) 325, pyModule := Value.str (Str.ofString "cpy313.unittest.util") 194, code := Value.ref 106 } }
noncomputable def hob101 (_ : Params) : Obj := { cls := Value.type "tuple", data := Data.seq #[] }
noncomputable def hob102 (_ : Params) : Obj := { cls := Value.none, data := Data.fields #[] }
noncomputable def hob103 (_ : Params) : Obj := { cls := Value.type "tuple", data := Data.seq #[Value.str (Str.ofString "self") 330] }
noncomputable def hob104 (_ : Params) : Obj := { cls := Value.type "tuple", data := Data.seq #[] }
noncomputable def hob105 (_ : Params) : Obj := { cls := Value.none, data := Data.func { name := Str.ofString "_asdict", qualname := Str.ofString "Mismatch._asdict", params := fA (sub (sta 3) 9), body := FuncBody.stmts (fB (sub (sta 3) 9)), scope := fS (sub (sta 3) 9), globals := 0, closure := [], defaults := Value.none, kwdefaults := Value.none } }
noncomputable def hob106 (_ : Params) : Obj := { cls := Value.type "code", data := Data.fields #[Value.str (Str.ofString "_asdict") 327, Value.str (Str.ofString "Mismatch._asdict") 328, Value.str (Str.ofString "/claim/cut.py") 329, Value.int 56 0, Value.int 1 0, Value.int 0 0, Value.int 0 0, Value.int 3 0, Value.ref 108, Value.bool Bool.true, Value.int 181 0, Value.ref 109, Value.none, Value.ref 110, Value.ref 111, Value.ref 112, Value.int 331 0, Value.int 56 0, Value.str (Str.ofString "/claim/cut.py") 332] }
noncomputable def hob107 (_ : Params) : Obj := { cls := Value.type "function", data := Data.func { name := Str.ofString "_asdict", qualname := Str.ofString "Mismatch._asdict", params := fA (sub (sta 3) 9), body := FuncBody.stmts (fB (sub (sta 3) 9)), scope := fS (sub (sta 3) 9), globals := 3, closure := [], defaults := Value.none, kwdefaults := Value.none, pyModule := Value.str (Str.ofString "cpy313.unittest.util") 194, code := Value.ref 113 } }
noncomputable def hob108 (_ : Params) : Obj := { cls := Value.type "tuple", data := Data.seq #[] }
noncomputable def hob109 (_ : Params) : Obj := { cls := Value.none, data := Data.fields #[] }
noncomputable def hob110 (_ : Params) : Obj := { cls := Value.type "tuple", data := Data.seq #[Value.str (Str.ofString "self") 337] }
noncomputable def hob111 (_ : Params) : Obj := { cls := Value.type "tuple", data := Data.seq #[] }
noncomputable def hob112 (_ : Params) : Obj := { cls := Value.none, data := Data.func { name := Str.ofString "__getnewargs__", qualname := Str.ofString "Mismatch.__getnewargs__", params := fA (sub (sta 3) 10), body := FuncBody.stmts (fB (sub (sta 3) 10)), scope := fS (sub (sta 3) 10), globals := 0, closure := [], defaults := Value.none, kwdefaults := Value.none } }
noncomputable def hob113 (_ : Params) : Obj := { cls := Value.type "code", data := Data.fields #[Value.str (Str.ofString "__getnewargs__") 334, Value.str (Str.ofString "Mismatch.__getnewargs__") 335, Value.str (Str.ofString "/claim/cut.py") 336, Value.int 59 0, Value.int 1 0, Value.int 0 0, Value.int 0 0, Value.int 3 0, Value.ref 115, Value.bool Bool.true, Value.int 181 0, Value.ref 116, Value.none, Value.ref 117, Value.ref 118, Value.ref 119, Value.int 338 0, Value.int 59 0, Value.str (Str.ofString "/claim/cut.py") 339] }
noncomputable def hob114 (_ : Params) : Obj := { cls := Value.type "function", data := Data.func { name := Str.ofString "__getnewargs__", qualname := Str.ofString "Mismatch.__getnewargs__", params := fA (sub (sta 3) 10), body := FuncBody.stmts (fB (sub (sta 3) 10)), scope := fS (sub (sta 3) 10), globals := 3, closure := [], defaults := Value.none, kwdefaults := Value.none, doc := Value.str (fD (sub (sta 3) 10)) 340, pyModule := Value.str (Str.ofString "cpy313.unittest.util") 194, code := Value.ref 120 } }
noncomputable def hob115 (_ : Params) : Obj := { cls := Value.type "tuple", data := Data.seq #[Value.str (Str.ofString "actual") 342, Value.str (Str.ofString "expected") 343, Value.str (Str.ofString "value") 344] }
noncomputable def hob116 (P : Params) : Obj := { cls := Value.type "dict", data := Data.dict #[{ hash := PyData.keyHash P (Str.ofString "index"), key := Value.str (Str.ofString "index") 352, val := Value.int 0 346 }, { hash := PyData.keyHash P (Str.ofString "__doc__"), key := Value.str (Str.ofString "__doc__") 354, val := Value.str (Str.ofString "Alias for field number 0") 347 }] 2 }
noncomputable def hob117 (_ : Params) : Obj := { cls := Value.ref 60, dict := Option.some 123 }
noncomputable def hob118 (P : Params) : Obj := { cls := Value.type "frame", data := Data.dict #[{ hash := PyData.keyHash P (Str.ofString "self"), key := Value.str (Str.ofString "self") 348, val := Value.ref 124 }, { hash := PyData.keyHash P (Str.ofString "index"), key := Value.str (Str.ofString "index") 349, val := Value.int 0 346 }, { hash := PyData.keyHash P (Str.ofString "doc"), key := Value.str (Str.ofString "doc") 350, val := Value.str (Str.ofString "Alias for field number 0") 347 }] 3 }
noncomputable def hob119 (P : Params) : Obj := { cls := Value.type "dict", data := Data.dict #[{ hash := PyData.keyHash P (Str.ofString "index"), key := Value.str (Str.ofString "index") 362, val := Value.int 1 356 }, { hash := PyData.keyHash P (Str.ofString "__doc__"), key := Value.str (Str.ofString "__doc__") 364, val := Value.str (Str.ofString "Alias for field number 1") 357 }] 2 }
noncomputable def hob120 (_ : Params) : Obj := { cls := Value.ref 60, dict := Option.some 126 }
noncomputable def hob121 (P : Params) : Obj := { cls := Value.type "frame", data := Data.dict #[{ hash := PyData.keyHash P (Str.ofString "self"), key := Value.str (Str.ofString "self") 358, val := Value.ref 127 }, { hash := PyData.keyHash P (Str.ofString "index"), key := Value.str (Str.ofString "index") 359, val := Value.int 1 356 }, { hash := PyData.keyHash P (Str.ofString "doc"), key := Value.str (Str.ofString "doc") 360, val := Value.str (Str.ofString "Alias for field number 1") 357 }] 3 }
noncomputable def hob122 (P : Params) : Obj := { cls := Value.type "dict", data := Data.dict #[{ hash := PyData.keyHash P (Str.ofString "index"), key := Value.str (Str.ofString "index") 372, val := Value.int 2 366 }, { hash := PyData.keyHash P (Str.ofString "__doc__"), key := Value.str (Str.ofString "__doc__") 374, val := Value.str (Str.ofString "Alias for field number 2") 367 }] 2 }
noncomputable def hob123 (_ : Params) : Obj := { cls := Value.ref 60, dict := Option.some 129 }
noncomputable def hob124 (P : Params) : Obj := { cls := Value.type "frame", data := Data.dict #[{ hash := PyData.keyHash P (Str.ofString "self"), key := Value.str (Str.ofString "self") 368, val := Value.ref 130 }, { hash := PyData.keyHash P (Str.ofString "index"), key := Value.str (Str.ofString "index") 369, val := Value.int 2 366 }, { hash := PyData.keyHash P (Str.ofString "doc"), key := Value.str (Str.ofString "doc") 370, val := Value.str (Str.ofString "Alias for field number 2") 367 }] 3 }
noncomputable def hob125 (_ : Params) : Obj := { cls := Value.type "tuple", data := Data.seq #[] }
noncomputable def hob126 (_ : Params) : Obj := { cls := Value.type "list", data := Data.seq #[] }
noncomputable def hob127 (P : Params) : Obj := { cls := Value.type "dict", data := Data.dict #[{ hash := PyData.keyHash P (Str.ofString "__module__"), key := Value.str (Str.ofString "__module__") 260, val := Value.str (Str.ofString "cpy313.unittest.util") 194 }, { hash := PyData.keyHash P (Str.ofString "__firstlineno__"), key := Value.str (Str.ofString "__firstlineno__") 264, val := Value.int 23 263 }, { hash := PyData.keyHash P (Str.ofString "__doc__"), key := Value.str (Str.ofString "__doc__") 266, val := Value.str (Str.ofString "Mismatch(actual, expected, value)") 265 }, { hash := PyData.keyHash P (Str.ofString "__slots__"), key := Value.str (Str.ofString "__slots__") 268, val := Value.ref 73 }, { hash := PyData.keyHash P (Str.ofString "_fields"), key := Value.str (Str.ofString "_fields") 272, val := Value.ref 74 }, { hash := PyData.keyHash P (Str.ofString "_field_defaults"), key := Value.str (Str.ofString "_field_defaults") 273, val := Value.ref 75 }, { hash := PyData.keyHash P (Str.ofString "__new__"), key := Value.str (Str.ofString "__new__") 284, val := Value.ref 136 }, { hash := PyData.keyHash P (Str.ofString "_make"), key := Value.str (Str.ofString "_make") 306, val := Value.ref 91 }, { hash := PyData.keyHash P (Str.ofString "_replace"), key := Value.str (Str.ofString "_replace") 317, val := Value.ref 100 }, { hash := PyData.keyHash P (Str.ofString "__replace__"), key := Value.str (Str.ofString "__replace__") 318, val := Value.ref 100 }, { hash := PyData.keyHash P (Str.ofString "__repr__"), key := Value.str (Str.ofString "__repr__") 326, val := Value.ref 107 }, { hash := PyData.keyHash P (Str.ofString "_asdict"), key := Value.str (Str.ofString "_asdict") 333, val := Value.ref 114 }, { hash := PyData.keyHash P (Str.ofString "__getnewargs__"), key := Value.str (Str.ofString "__getnewargs__") 341, val := Value.ref 121 }, { hash := PyData.keyHash P (Str.ofString "__match_args__"), key := Value.str (Str.ofString "__match_args__") 345, val := Value.ref 122 }, { hash := PyData.keyHash P (Str.ofString "actual"), key := Value.str (Str.ofString "actual") 355, val := Value.ref 124 }, { hash := PyData.keyHash P (Str.ofString "expected"), key := Value.str (Str.ofString "expected") 365, val := Value.ref 127 }, { hash := PyData.keyHash P (Str.ofString "value"), key := Value.str (Str.ofString "value") 375, val := Value.ref 130 }, { hash := PyData.keyHash P (Str.ofString "__static_attributes__"), key := Value.str (Str.ofString "__static_attributes__") 376, val := Value.ref 132 }] 2 }
noncomputable def hob128 (_ : Params) : Obj := { cls := Value.type "type", data := Data.cls { name := Str.ofString "Mismatch", bases := [Value.type "tuple"], mro := [Value.ref 135, Value.type "tuple", Value.type "object"], ns := 134, qualname := Str.ofString "Mismatch", hasDict := Bool.false }, slots := #[Option.some (Value.ref 65), Option.none, Option.some (Value.str (Str.ofString "Mismatch") 253), Option.some (Value.str (Str.ofString "Mismatch") 261), Option.some Value.none, Option.some (Value.bool Bool.false)] }
noncomputable def hob129 (_ : Params) : Obj := { cls := Value.type "staticmethod", data := Data.fields #[Value.ref 82] }
noncomputable def hob130 (_ : Params) : Obj := { cls := Value.type "super", data := Data.fields #[Value.ref 135, Value.ref 135, Value.ref 135] }
noncomputable def hob131 (_ : Params) : Obj := { cls := Value.type "builtin_function_or_method", data := Data.fields #[Value.builtin "object.__init_subclass__", Value.ref 135] }
noncomputable def hob132 (P : Params) : Obj := { cls := Value.type "dict", data := Data.dict #[{ hash := PyData.keyHash P (Str.ofString "__name__"), key := Value.str (Str.ofString "__name__") 165, val := Value.str (Str.ofString "law_ox0037_01") 443 }, { hash := PyData.keyHash P (Str.ofString "__doc__"), key := Value.str (Str.ofString "__doc__") 166, val := Value.none }, { hash := PyData.keyHash P (Str.ofString "__package__"), key := Value.str (Str.ofString "__package__") 167, val := Value.none }, { hash := PyData.keyHash P (Str.ofString "__loader__"), key := Value.str (Str.ofString "__loader__") 168, val := Value.builtin "__main__.__loader__#opaque" }, { hash := PyData.keyHash P (Str.ofString "__spec__"), key := Value.str (Str.ofString "__spec__") 169, val := Value.none }, { hash := PyData.keyHash P (Str.ofString "__annotations__"), key := Value.str (Str.ofString "__annotations__") 170, val := Value.ref 6 }, { hash := PyData.keyHash P (Str.ofString "__builtins__"), key := Value.str (Str.ofString "__builtins__") 171, val := Value.ref 4 }, { hash := PyData.keyHash P (Str.ofString "__file__"), key := Value.str (Str.ofString "__file__") 173, val := Value.str (Str.ofString "/claim/cut.py") 172 }, { hash := PyData.keyHash P (Str.ofString "__cached__"), key := Value.str (Str.ofString "__cached__") 174, val := Value.none }, { hash := PyData.keyHash P (Str.ofString "_wall"), key := Value.str (Str.ofString "_wall") 193, val := Value.ref 21 }, { hash := PyData.keyHash P (Str.ofString "_tuplegetter"), key := Value.str (Str.ofString "_tuplegetter") 252, val := Value.ref 60 }, { hash := PyData.keyHash P (Str.ofString "Mismatch"), key := Value.str (Str.ofString "Mismatch") 380, val := Value.ref 135 }, { hash := PyData.keyHash P (Str.ofString "_Mismatch"), key := Value.str (Str.ofString "_Mismatch") 381, val := Value.ref 135 }, { hash := PyData.keyHash P (Str.ofString "_count_diff_all_purpose"), key := Value.str (Str.ofString "_count_diff_all_purpose") 403, val := Value.ref 145 }, { hash := PyData.keyHash P (Str.ofString "rgb_to_hls"), key := Value.str (Str.ofString "rgb_to_hls") 424, val := Value.ref 152 }, { hash := PyData.keyHash P (Str.ofString "rgb_to_hsv"), key := Value.str (Str.ofString "rgb_to_hsv") 442, val := Value.ref 159 }, { hash := PyData.keyHash P (Str.ofString "_law_spots"), key := Value.str (Str.ofString "_law_spots") 455, val := Value.ref 166 }, { hash := PyData.keyHash P (Str.ofString "_law_hsv"), key := Value.str (Str.ofString "_law_hsv") 468, val := Value.ref 173 }, { hash := PyData.keyHash P (Str.ofString "_law_hls"), key := Value.str (Str.ofString "_law_hls") 481, val := Value.ref 180 }, { hash := PyData.keyHash P (Str.ofString "_law_negative"), key := Value.str (Str.ofString "_law_negative") 494, val := Value.ref 187 }, { hash := PyData.keyHash P (Str.ofString "_law_shade"), key := Value.str (Str.ofString "_law_shade") 500, val := Value.ref 192 }, { hash := PyData.keyHash P (Str.ofString "_law_due"), key := Value.str (Str.ofString "_law_due") 506, val := Value.ref 197 }, { hash := PyData.keyHash P (Str.ofString "_law_rows_hold"), key := Value.str (Str.ofString "_law_rows_hold") 512, val := Value.ref 202 }, { hash := PyData.keyHash P (Str.ofString "_law_spot_holds"), key := Value.str (Str.ofString "_law_spot_holds") 525, val := Value.ref 209 }, { hash := PyData.keyHash P (Str.ofString "law"), key := Value.str (Str.ofString "law") 531, val := Value.ref 214 }] 25 }
noncomputable def hob133 (_ : Params) : Obj := { cls := Value.none, data := Data.fields #[Value.int 1 0, Value.int 0 0, Value.ref 20, Value.int 5 0, Value.int 0 0, Value.ref 27, Value.int 23 0, Value.int 0 0, Value.ref 71, Value.int 67 0, Value.int 0 0, Value.ref 144, Value.int 100 0, Value.int 0 0, Value.ref 151, Value.int 123 0, Value.int 0 0, Value.ref 158, Value.int 143 0, Value.int 0 0, Value.ref 165, Value.int 150 0, Value.int 0 0, Value.ref 172, Value.int 154 0, Value.int 0 0, Value.ref 179, Value.int 158 0, Value.int 0 0, Value.ref 186, Value.int 162 0, Value.int 0 0, Value.ref 191, Value.int 167 0, Value.int 0 0, Value.ref 196, Value.int 176 0, Value.int 0 0, Value.ref 201, Value.int 179 0, Value.int 0 0, Value.ref 208, Value.int 186 0, Value.int 0 0, Value.ref 213] }
noncomputable def hob134 (_ : Params) : Obj := { cls := Value.type "tuple", data := Data.seq #[] }
noncomputable def hob135 (_ : Params) : Obj := { cls := Value.none, data := Data.fields #[] }
noncomputable def hob136 (_ : Params) : Obj := { cls := Value.type "tuple", data := Data.seq #[Value.str (Str.ofString "actual") 385, Value.str (Str.ofString "expected") 386, Value.str (Str.ofString "s") 387, Value.str (Str.ofString "t") 388, Value.str (Str.ofString "m") 389, Value.str (Str.ofString "n") 390, Value.str (Str.ofString "NULL") 391, Value.str (Str.ofString "result") 392, Value.str (Str.ofString "i") 393, Value.str (Str.ofString "elem") 394, Value.str (Str.ofString "cnt_s") 395, Value.str (Str.ofString "cnt_t") 396, Value.str (Str.ofString "j") 397, Value.str (Str.ofString "other_elem") 398, Value.str (Str.ofString "diff") 399] }
noncomputable def hob137 (_ : Params) : Obj := { cls := Value.type "tuple", data := Data.seq #[] }
noncomputable def hob138 (_ : Params) : Obj := { cls := Value.none, data := Data.func { name := Str.ofString "_count_diff_all_purpose", qualname := Str.ofString "_count_diff_all_purpose", params := fA (sta 5), body := FuncBody.stmts (fB (sta 5)), scope := fS (sta 5), globals := 0, closure := [], defaults := Value.none, kwdefaults := Value.none } }
noncomputable def hob139 (_ : Params) : Obj := { cls := Value.type "code", data := Data.fields #[Value.str (Str.ofString "_count_diff_all_purpose") 382, Value.str (Str.ofString "_count_diff_all_purpose") 383, Value.str (Str.ofString "/claim/cut.py") 384, Value.int 67 0, Value.int 2 0, Value.int 0 0, Value.int 0 0, Value.int 3 0, Value.ref 139, Value.bool Bool.true, Value.int 181 0, Value.ref 140, Value.none, Value.ref 141, Value.ref 142, Value.ref 143, Value.int 400 0, Value.int 67 0, Value.str (Str.ofString "/claim/cut.py") 401] }
noncomputable def hob140 (_ : Params) : Obj := { cls := Value.type "function", data := Data.func { name := Str.ofString "_count_diff_all_purpose", qualname := Str.ofString "_count_diff_all_purpose", params := fA (sta 5), body := FuncBody.stmts (fB (sta 5)), scope := fS (sta 5), globals := 3, closure := [], defaults := Value.none, kwdefaults := Value.none, doc := Value.str (fD (sta 5)) 402, pyModule := Value.str (Str.ofString "cpy313.unittest.util") 194, code := Value.ref 144 } }
noncomputable def hob141 (_ : Params) : Obj := { cls := Value.type "tuple", data := Data.seq #[] }
noncomputable def hob142 (_ : Params) : Obj := { cls := Value.none, data := Data.fields #[] }
noncomputable def hob143 (_ : Params) : Obj := { cls := Value.type "tuple", data := Data.seq #[Value.str (Str.ofString "r") 409, Value.str (Str.ofString "g") 410, Value.str (Str.ofString "b") 411, Value.str (Str.ofString "maxc") 412, Value.str (Str.ofString "minc") 413, Value.str (Str.ofString "sumc") 414, Value.str (Str.ofString "rangec") 415, Value.str (Str.ofString "l") 416, Value.str (Str.ofString "s") 417, Value.str (Str.ofString "rc") 418, Value.str (Str.ofString "gc") 419, Value.str (Str.ofString "bc") 420, Value.str (Str.ofString "h") 421] }
noncomputable def hob144 (_ : Params) : Obj := { cls := Value.type "tuple", data := Data.seq #[] }
noncomputable def hob145 (_ : Params) : Obj := { cls := Value.none, data := Data.func { name := Str.ofString "rgb_to_hls", qualname := Str.ofString "rgb_to_hls", params := fA (sta 7), body := FuncBody.stmts (fB (sta 7)), scope := fS (sta 7), globals := 0, closure := [], defaults := Value.none, kwdefaults := Value.none } }
noncomputable def hob146 (_ : Params) : Obj := { cls := Value.type "code", data := Data.fields #[Value.str (Str.ofString "rgb_to_hls") 406, Value.str (Str.ofString "rgb_to_hls") 407, Value.str (Str.ofString "/claim/cut.py") 408, Value.int 100 0, Value.int 3 0, Value.int 0 0, Value.int 0 0, Value.int 3 0, Value.ref 146, Value.bool Bool.true, Value.int 181 0, Value.ref 147, Value.none, Value.ref 148, Value.ref 149, Value.ref 150, Value.int 422 0, Value.int 100 0, Value.str (Str.ofString "/claim/cut.py") 423] }
noncomputable def hob147 (_ : Params) : Obj := { cls := Value.type "function", data := Data.func { name := Str.ofString "rgb_to_hls", qualname := Str.ofString "rgb_to_hls", params := fA (sta 7), body := FuncBody.stmts (fB (sta 7)), scope := fS (sta 7), globals := 3, closure := [], defaults := Value.none, kwdefaults := Value.none, pyModule := Value.str (Str.ofString "cpy313.colorsys") 404, code := Value.ref 151 } }
noncomputable def hob148 (_ : Params) : Obj := { cls := Value.type "tuple", data := Data.seq #[] }
noncomputable def hob149 (_ : Params) : Obj := { cls := Value.none, data := Data.fields #[] }
noncomputable def hob150 (_ : Params) : Obj := { cls := Value.type "tuple", data := Data.seq #[Value.str (Str.ofString "r") 428, Value.str (Str.ofString "g") 429, Value.str (Str.ofString "b") 430, Value.str (Str.ofString "maxc") 431, Value.str (Str.ofString "minc") 432, Value.str (Str.ofString "rangec") 433, Value.str (Str.ofString "v") 434, Value.str (Str.ofString "s") 435, Value.str (Str.ofString "rc") 436, Value.str (Str.ofString "gc") 437, Value.str (Str.ofString "bc") 438, Value.str (Str.ofString "h") 439] }
noncomputable def hob151 (_ : Params) : Obj := { cls := Value.type "tuple", data := Data.seq #[] }
noncomputable def hob152 (_ : Params) : Obj := { cls := Value.none, data := Data.func { name := Str.ofString "rgb_to_hsv", qualname := Str.ofString "rgb_to_hsv", params := fA (sta 8), body := FuncBody.stmts (fB (sta 8)), scope := fS (sta 8), globals := 0, closure := [], defaults := Value.none, kwdefaults := Value.none } }
noncomputable def hob153 (_ : Params) : Obj := { cls := Value.type "code", data := Data.fields #[Value.str (Str.ofString "rgb_to_hsv") 425, Value.str (Str.ofString "rgb_to_hsv") 426, Value.str (Str.ofString "/claim/cut.py") 427, Value.int 123 0, Value.int 3 0, Value.int 0 0, Value.int 0 0, Value.int 3 0, Value.ref 153, Value.bool Bool.true, Value.int 181 0, Value.ref 154, Value.none, Value.ref 155, Value.ref 156, Value.ref 157, Value.int 440 0, Value.int 123 0, Value.str (Str.ofString "/claim/cut.py") 441] }
noncomputable def hob154 (_ : Params) : Obj := { cls := Value.type "function", data := Data.func { name := Str.ofString "rgb_to_hsv", qualname := Str.ofString "rgb_to_hsv", params := fA (sta 8), body := FuncBody.stmts (fB (sta 8)), scope := fS (sta 8), globals := 3, closure := [], defaults := Value.none, kwdefaults := Value.none, pyModule := Value.str (Str.ofString "cpy313.colorsys") 404, code := Value.ref 158 } }
noncomputable def hob155 (_ : Params) : Obj := { cls := Value.type "tuple", data := Data.seq #[] }
noncomputable def hob156 (_ : Params) : Obj := { cls := Value.none, data := Data.fields #[] }
noncomputable def hob157 (_ : Params) : Obj := { cls := Value.type "tuple", data := Data.seq #[Value.str (Str.ofString "numbers") 448, Value.str (Str.ofString "side") 449, Value.str (Str.ofString "spots") 450, Value.str (Str.ofString "number") 451, Value.str (Str.ofString "times") 452] }
noncomputable def hob158 (_ : Params) : Obj := { cls := Value.type "tuple", data := Data.seq #[] }
noncomputable def hob159 (_ : Params) : Obj := { cls := Value.none, data := Data.func { name := Str.ofString "_law_spots", qualname := Str.ofString "_law_spots", params := fA (sta 10), body := FuncBody.stmts (fB (sta 10)), scope := fS (sta 10), globals := 0, closure := [], defaults := Value.none, kwdefaults := Value.none } }
noncomputable def hob160 (_ : Params) : Obj := { cls := Value.type "code", data := Data.fields #[Value.str (Str.ofString "_law_spots") 445, Value.str (Str.ofString "_law_spots") 446, Value.str (Str.ofString "/claim/cut.py") 447, Value.int 143 0, Value.int 2 0, Value.int 0 0, Value.int 0 0, Value.int 3 0, Value.ref 160, Value.bool Bool.true, Value.int 181 0, Value.ref 161, Value.none, Value.ref 162, Value.ref 163, Value.ref 164, Value.int 453 0, Value.int 143 0, Value.str (Str.ofString "/claim/cut.py") 454] }
noncomputable def hob161 (_ : Params) : Obj := { cls := Value.type "function", data := Data.func { name := Str.ofString "_law_spots", qualname := Str.ofString "_law_spots", params := fA (sta 10), body := FuncBody.stmts (fB (sta 10)), scope := fS (sta 10), globals := 3, closure := [], defaults := Value.none, kwdefaults := Value.none, pyModule := Value.str (Str.ofString "law_ox0037_01") 443, code := Value.ref 165 } }
noncomputable def hob162 (_ : Params) : Obj := { cls := Value.type "tuple", data := Data.seq #[] }
noncomputable def hob163 (_ : Params) : Obj := { cls := Value.none, data := Data.fields #[] }
noncomputable def hob164 (_ : Params) : Obj := { cls := Value.type "tuple", data := Data.seq #[Value.str (Str.ofString "spot") 459, Value.str (Str.ofString "red") 460, Value.str (Str.ofString "green") 461, Value.str (Str.ofString "blue") 462, Value.str (Str.ofString "hue") 463, Value.str (Str.ofString "share") 464, Value.str (Str.ofString "level") 465] }
noncomputable def hob165 (_ : Params) : Obj := { cls := Value.type "tuple", data := Data.seq #[] }
noncomputable def hob166 (_ : Params) : Obj := { cls := Value.none, data := Data.func { name := Str.ofString "_law_hsv", qualname := Str.ofString "_law_hsv", params := fA (sta 11), body := FuncBody.stmts (fB (sta 11)), scope := fS (sta 11), globals := 0, closure := [], defaults := Value.none, kwdefaults := Value.none } }
noncomputable def hob167 (_ : Params) : Obj := { cls := Value.type "code", data := Data.fields #[Value.str (Str.ofString "_law_hsv") 456, Value.str (Str.ofString "_law_hsv") 457, Value.str (Str.ofString "/claim/cut.py") 458, Value.int 150 0, Value.int 1 0, Value.int 0 0, Value.int 0 0, Value.int 3 0, Value.ref 167, Value.bool Bool.true, Value.int 181 0, Value.ref 168, Value.none, Value.ref 169, Value.ref 170, Value.ref 171, Value.int 466 0, Value.int 150 0, Value.str (Str.ofString "/claim/cut.py") 467] }
noncomputable def hob168 (_ : Params) : Obj := { cls := Value.type "function", data := Data.func { name := Str.ofString "_law_hsv", qualname := Str.ofString "_law_hsv", params := fA (sta 11), body := FuncBody.stmts (fB (sta 11)), scope := fS (sta 11), globals := 3, closure := [], defaults := Value.none, kwdefaults := Value.none, pyModule := Value.str (Str.ofString "law_ox0037_01") 443, code := Value.ref 172 } }
noncomputable def hob169 (_ : Params) : Obj := { cls := Value.type "tuple", data := Data.seq #[] }
noncomputable def hob170 (_ : Params) : Obj := { cls := Value.none, data := Data.fields #[] }
noncomputable def hob171 (_ : Params) : Obj := { cls := Value.type "tuple", data := Data.seq #[Value.str (Str.ofString "spot") 472, Value.str (Str.ofString "red") 473, Value.str (Str.ofString "green") 474, Value.str (Str.ofString "blue") 475, Value.str (Str.ofString "hue") 476, Value.str (Str.ofString "light") 477, Value.str (Str.ofString "share") 478] }
noncomputable def hob172 (_ : Params) : Obj := { cls := Value.type "tuple", data := Data.seq #[] }
noncomputable def hob173 (_ : Params) : Obj := { cls := Value.none, data := Data.func { name := Str.ofString "_law_hls", qualname := Str.ofString "_law_hls", params := fA (sta 12), body := FuncBody.stmts (fB (sta 12)), scope := fS (sta 12), globals := 0, closure := [], defaults := Value.none, kwdefaults := Value.none } }
noncomputable def hob174 (_ : Params) : Obj := { cls := Value.type "code", data := Data.fields #[Value.str (Str.ofString "_law_hls") 469, Value.str (Str.ofString "_law_hls") 470, Value.str (Str.ofString "/claim/cut.py") 471, Value.int 154 0, Value.int 1 0, Value.int 0 0, Value.int 0 0, Value.int 3 0, Value.ref 174, Value.bool Bool.true, Value.int 181 0, Value.ref 175, Value.none, Value.ref 176, Value.ref 177, Value.ref 178, Value.int 479 0, Value.int 154 0, Value.str (Str.ofString "/claim/cut.py") 480] }
noncomputable def hob175 (_ : Params) : Obj := { cls := Value.type "function", data := Data.func { name := Str.ofString "_law_hls", qualname := Str.ofString "_law_hls", params := fA (sta 12), body := FuncBody.stmts (fB (sta 12)), scope := fS (sta 12), globals := 3, closure := [], defaults := Value.none, kwdefaults := Value.none, pyModule := Value.str (Str.ofString "law_ox0037_01") 443, code := Value.ref 179 } }
noncomputable def hob176 (_ : Params) : Obj := { cls := Value.type "tuple", data := Data.seq #[] }
noncomputable def hob177 (_ : Params) : Obj := { cls := Value.none, data := Data.fields #[] }
noncomputable def hob178 (_ : Params) : Obj := { cls := Value.type "tuple", data := Data.seq #[Value.str (Str.ofString "spot") 485, Value.str (Str.ofString "red") 486, Value.str (Str.ofString "green") 487, Value.str (Str.ofString "blue") 488, Value.str (Str.ofString "hue") 489, Value.str (Str.ofString "light") 490, Value.str (Str.ofString "share") 491] }
noncomputable def hob179 (_ : Params) : Obj := { cls := Value.type "tuple", data := Data.seq #[] }
noncomputable def hob180 (_ : Params) : Obj := { cls := Value.none, data := Data.func { name := Str.ofString "_law_negative", qualname := Str.ofString "_law_negative", params := fA (sta 13), body := FuncBody.stmts (fB (sta 13)), scope := fS (sta 13), globals := 0, closure := [], defaults := Value.none, kwdefaults := Value.none } }
noncomputable def hob181 (_ : Params) : Obj := { cls := Value.type "code", data := Data.fields #[Value.str (Str.ofString "_law_negative") 482, Value.str (Str.ofString "_law_negative") 483, Value.str (Str.ofString "/claim/cut.py") 484, Value.int 158 0, Value.int 1 0, Value.int 0 0, Value.int 0 0, Value.int 3 0, Value.ref 181, Value.bool Bool.true, Value.int 181 0, Value.ref 182, Value.none, Value.ref 183, Value.ref 184, Value.ref 185, Value.int 492 0, Value.int 158 0, Value.str (Str.ofString "/claim/cut.py") 493] }
noncomputable def hob182 (_ : Params) : Obj := { cls := Value.type "function", data := Data.func { name := Str.ofString "_law_negative", qualname := Str.ofString "_law_negative", params := fA (sta 13), body := FuncBody.stmts (fB (sta 13)), scope := fS (sta 13), globals := 3, closure := [], defaults := Value.none, kwdefaults := Value.none, pyModule := Value.str (Str.ofString "law_ox0037_01") 443, code := Value.ref 186 } }
noncomputable def hob183 (_ : Params) : Obj := { cls := Value.type "tuple", data := Data.seq #[] }
noncomputable def hob184 (_ : Params) : Obj := { cls := Value.none, data := Data.fields #[] }
noncomputable def hob185 (_ : Params) : Obj := { cls := Value.none, data := Data.func { name := Str.ofString "_law_shade", qualname := Str.ofString "_law_shade", params := fA (sta 14), body := FuncBody.stmts (fB (sta 14)), scope := fS (sta 14), globals := 0, closure := [], defaults := Value.none, kwdefaults := Value.none } }
noncomputable def hob186 (_ : Params) : Obj := { cls := Value.type "code", data := Data.fields #[Value.str (Str.ofString "_law_shade") 495, Value.str (Str.ofString "_law_shade") 496, Value.str (Str.ofString "/claim/cut.py") 497, Value.int 162 0, Value.int 1 0, Value.int 0 0, Value.int 0 0, Value.int 3 0, Value.ref 188, Value.bool Bool.true, Value.int 181 0, Value.ref 189, Value.none, Value.none, Value.none, Value.ref 190, Value.int 498 0, Value.int 162 0, Value.str (Str.ofString "/claim/cut.py") 499] }
noncomputable def hob187 (_ : Params) : Obj := { cls := Value.type "function", data := Data.func { name := Str.ofString "_law_shade", qualname := Str.ofString "_law_shade", params := fA (sta 14), body := FuncBody.stmts (fB (sta 14)), scope := fS (sta 14), globals := 3, closure := [], defaults := Value.none, kwdefaults := Value.none, pyModule := Value.str (Str.ofString "law_ox0037_01") 443, code := Value.ref 191 } }
noncomputable def hob188 (_ : Params) : Obj := { cls := Value.type "tuple", data := Data.seq #[] }
noncomputable def hob189 (_ : Params) : Obj := { cls := Value.none, data := Data.fields #[] }
noncomputable def hob190 (_ : Params) : Obj := { cls := Value.none, data := Data.func { name := Str.ofString "_law_due", qualname := Str.ofString "_law_due", params := fA (sta 15), body := FuncBody.stmts (fB (sta 15)), scope := fS (sta 15), globals := 0, closure := [], defaults := Value.none, kwdefaults := Value.none } }
noncomputable def hob191 (_ : Params) : Obj := { cls := Value.type "code", data := Data.fields #[Value.str (Str.ofString "_law_due") 501, Value.str (Str.ofString "_law_due") 502, Value.str (Str.ofString "/claim/cut.py") 503, Value.int 167 0, Value.int 2 0, Value.int 0 0, Value.int 0 0, Value.int 3 0, Value.ref 193, Value.bool Bool.true, Value.int 181 0, Value.ref 194, Value.none, Value.none, Value.none, Value.ref 195, Value.int 504 0, Value.int 167 0, Value.str (Str.ofString "/claim/cut.py") 505] }
noncomputable def hob192 (_ : Params) : Obj := { cls := Value.type "function", data := Data.func { name := Str.ofString "_law_due", qualname := Str.ofString "_law_due", params := fA (sta 15), body := FuncBody.stmts (fB (sta 15)), scope := fS (sta 15), globals := 3, closure := [], defaults := Value.none, kwdefaults := Value.none, pyModule := Value.str (Str.ofString "law_ox0037_01") 443, code := Value.ref 196 } }
noncomputable def hob193 (_ : Params) : Obj := { cls := Value.type "tuple", data := Data.seq #[] }
noncomputable def hob194 (_ : Params) : Obj := { cls := Value.none, data := Data.fields #[] }
noncomputable def hob195 (_ : Params) : Obj := { cls := Value.none, data := Data.func { name := Str.ofString "_law_rows_hold", qualname := Str.ofString "_law_rows_hold", params := fA (sta 16), body := FuncBody.stmts (fB (sta 16)), scope := fS (sta 16), globals := 0, closure := [], defaults := Value.none, kwdefaults := Value.none } }
noncomputable def hob196 (_ : Params) : Obj := { cls := Value.type "code", data := Data.fields #[Value.str (Str.ofString "_law_rows_hold") 507, Value.str (Str.ofString "_law_rows_hold") 508, Value.str (Str.ofString "/claim/cut.py") 509, Value.int 176 0, Value.int 4 0, Value.int 0 0, Value.int 0 0, Value.int 3 0, Value.ref 198, Value.bool Bool.true, Value.int 181 0, Value.ref 199, Value.none, Value.none, Value.none, Value.ref 200, Value.int 510 0, Value.int 176 0, Value.str (Str.ofString "/claim/cut.py") 511] }
noncomputable def hob197 (_ : Params) : Obj := { cls := Value.type "function", data := Data.func { name := Str.ofString "_law_rows_hold", qualname := Str.ofString "_law_rows_hold", params := fA (sta 16), body := FuncBody.stmts (fB (sta 16)), scope := fS (sta 16), globals := 3, closure := [], defaults := Value.none, kwdefaults := Value.none, pyModule := Value.str (Str.ofString "law_ox0037_01") 443, code := Value.ref 201 } }
noncomputable def hob198 (_ : Params) : Obj := { cls := Value.type "tuple", data := Data.seq #[] }
noncomputable def hob199 (_ : Params) : Obj := { cls := Value.none, data := Data.fields #[] }
noncomputable def hob200 (_ : Params) : Obj := { cls := Value.type "tuple", data := Data.seq #[Value.str (Str.ofString "spot") 516, Value.str (Str.ofString "least") 517, Value.str (Str.ofString "most") 518, Value.str (Str.ofString "hue") 519, Value.str (Str.ofString "share") 520, Value.str (Str.ofString "turned") 521, Value.str (Str.ofString "kept") 522] }
noncomputable def hob201 (_ : Params) : Obj := { cls := Value.type "tuple", data := Data.seq #[] }
noncomputable def hob202 (_ : Params) : Obj := { cls := Value.none, data := Data.func { name := Str.ofString "_law_spot_holds", qualname := Str.ofString "_law_spot_holds", params := fA (sta 17), body := FuncBody.stmts (fB (sta 17)), scope := fS (sta 17), globals := 0, closure := [], defaults := Value.none, kwdefaults := Value.none } }
noncomputable def hob203 (_ : Params) : Obj := { cls := Value.type "code", data := Data.fields #[Value.str (Str.ofString "_law_spot_holds") 513, Value.str (Str.ofString "_law_spot_holds") 514, Value.str (Str.ofString "/claim/cut.py") 515, Value.int 179 0, Value.int 1 0, Value.int 0 0, Value.int 0 0, Value.int 3 0, Value.ref 203, Value.bool Bool.true, Value.int 181 0, Value.ref 204, Value.none, Value.ref 205, Value.ref 206, Value.ref 207, Value.int 523 0, Value.int 179 0, Value.str (Str.ofString "/claim/cut.py") 524] }
noncomputable def hob204 (_ : Params) : Obj := { cls := Value.type "function", data := Data.func { name := Str.ofString "_law_spot_holds", qualname := Str.ofString "_law_spot_holds", params := fA (sta 17), body := FuncBody.stmts (fB (sta 17)), scope := fS (sta 17), globals := 3, closure := [], defaults := Value.none, kwdefaults := Value.none, pyModule := Value.str (Str.ofString "law_ox0037_01") 443, code := Value.ref 208 } }
noncomputable def hob205 (_ : Params) : Obj := { cls := Value.type "tuple", data := Data.seq #[] }
noncomputable def hob206 (_ : Params) : Obj := { cls := Value.none, data := Data.fields #[] }
noncomputable def hob207 (_ : Params) : Obj := { cls := Value.none, data := Data.func { name := Str.ofString "law", qualname := Str.ofString "law", params := fA (sta 18), body := FuncBody.stmts (fB (sta 18)), scope := fS (sta 18), globals := 0, closure := [], defaults := Value.none, kwdefaults := Value.none } }
noncomputable def hob208 (_ : Params) : Obj := { cls := Value.type "code", data := Data.fields #[Value.str (Str.ofString "law") 526, Value.str (Str.ofString "law") 527, Value.str (Str.ofString "/claim/cut.py") 528, Value.int 186 0, Value.int 1 0, Value.int 0 0, Value.int 0 0, Value.int 3 0, Value.ref 210, Value.bool Bool.true, Value.int 181 0, Value.ref 211, Value.none, Value.none, Value.none, Value.ref 212, Value.int 529 0, Value.int 186 0, Value.str (Str.ofString "/claim/cut.py") 530] }
noncomputable def hob209 (_ : Params) : Obj := { cls := Value.type "function", data := Data.func { name := Str.ofString "law", qualname := Str.ofString "law", params := fA (sta 18), body := FuncBody.stmts (fB (sta 18)), scope := fS (sta 18), globals := 3, closure := [], defaults := Value.none, kwdefaults := Value.none, pyModule := Value.str (Str.ofString "law_ox0037_01") 443, code := Value.ref 213 } }
noncomputable def hpA (P : Params) : Heap := { objs := Array.mk [boot_o_0 P, boot_o_1 P, boot_o_2 P, boot_o_3 P, boot_o_4 P, boot_o_5 P, boot_o_6 P, boot_o_7 P, boot_o_8 P, boot_o_9 P, boot_o_10 P, hob0 P, hob1 P, hob2 P, hob3 P] }
noncomputable def hpB (P : Params) : Heap := { objs := Array.mk [boot_o_0 P, boot_o_1 P, boot_o_2 P, hob4 P, boot_o_4 P, boot_o_5 P, boot_o_6 P, boot_o_7 P, boot_o_8 P, boot_o_9 P, boot_o_10 P, hob0 P, hob5 P, hob2 P, hob3 P, hob6 P, hob7 P, hob8 P, hob9 P, hob10 P, hob11 P, hob12 P, hob13 P, hob14 P, hob15 P, hob16 P, hob17 P, hob18 P, hob19 P, hob20 P, hob21 P, hob22 P, hob23 P, hob24 P, hob25 P, hob26 P, hob27 P, hob28 P, hob29 P, hob30 P, hob31 P, hob32 P, hob33 P, hob34 P, hob35 P, hob36 P, hob37 P, hob38 P, hob39 P, hob40 P, hob41 P, hob42 P, hob43 P, hob44 P, hob45 P, hob46 P, hob47 P, hob48 P, hob49 P, hob50 P, hob51 P, hob52 P, hob53 P, hob54 P, hob55 P] }
noncomputable def hpC (P : Params) : Heap := { objs := Array.mk [boot_o_0 P, boot_o_1 P, boot_o_2 P, hob56 P, boot_o_4 P, boot_o_5 P, boot_o_6 P, boot_o_7 P, boot_o_8 P, boot_o_9 P, boot_o_10 P, hob0 P, hob57 P, hob2 P, hob3 P, hob6 P, hob7 P, hob8 P, hob9 P, hob10 P, hob11 P, hob12 P, hob13 P, hob14 P, hob15 P, hob16 P, hob17 P, hob18 P, hob19 P, hob20 P, hob21 P, hob22 P, hob23 P, hob24 P, hob25 P, hob26 P, hob27 P, hob28 P, hob29 P, hob30 P, hob31 P, hob32 P, hob33 P, hob34 P, hob35 P, hob36 P, hob37 P, hob38 P, hob39 P, hob40 P, hob41 P, hob42 P, hob43 P, hob44 P, hob45 P, hob46 P, hob47 P, hob48 P, hob49 P, hob50 P, hob51 P, hob52 P, hob53 P, hob54 P, hob55 P, hob58 P, hob59 P, hob60 P, hob61 P, hob62 P, hob63 P, hob64 P, hob65 P, hob66 P, hob67 P, hob68 P, hob69 P, hob70 P, hob71 P, hob72 P, hob73 P, hob74 P, hob75 P, hob76 P, hob77 P, hob78 P, hob79 P, hob80 P, hob81 P, hob82 P, hob83 P, hob84 P, hob85 P, hob86 P, hob87 P, hob88 P, hob89 P, hob90 P, hob91 P, hob92 P, hob93 P, hob94 P, hob95 P, hob96 P, hob97 P, hob98 P, hob99 P, hob100 P, hob101 P, hob102 P, hob103 P, hob104 P, hob105 P, hob106 P, hob107 P, hob108 P, hob109 P, hob110 P, hob111 P, hob112 P, hob113 P, hob114 P, hob115 P, hob116 P, hob117 P, hob118 P, hob119 P, hob120 P, hob121 P, hob122 P, hob123 P, hob124 P, hob125 P, hob126 P, hob127 P, hob128 P, hob129 P, hob130 P, hob131 P] }
noncomputable def hpD (P : Params) : Heap := { objs := Array.mk [boot_o_0 P, boot_o_1 P, boot_o_2 P, hob132 P, boot_o_4 P, boot_o_5 P, boot_o_6 P, boot_o_7 P, boot_o_8 P, boot_o_9 P, boot_o_10 P, hob0 P, hob133 P, hob2 P, hob3 P, hob6 P, hob7 P, hob8 P, hob9 P, hob10 P, hob11 P, hob12 P, hob13 P, hob14 P, hob15 P, hob16 P, hob17 P, hob18 P, hob19 P, hob20 P, hob21 P, hob22 P, hob23 P, hob24 P, hob25 P, hob26 P, hob27 P, hob28 P, hob29 P, hob30 P, hob31 P, hob32 P, hob33 P, hob34 P, hob35 P, hob36 P, hob37 P, hob38 P, hob39 P, hob40 P, hob41 P, hob42 P, hob43 P, hob44 P, hob45 P, hob46 P, hob47 P, hob48 P, hob49 P, hob50 P, hob51 P, hob52 P, hob53 P, hob54 P, hob55 P, hob58 P, hob59 P, hob60 P, hob61 P, hob62 P, hob63 P, hob64 P, hob65 P, hob66 P, hob67 P, hob68 P, hob69 P, hob70 P, hob71 P, hob72 P, hob73 P, hob74 P, hob75 P, hob76 P, hob77 P, hob78 P, hob79 P, hob80 P, hob81 P, hob82 P, hob83 P, hob84 P, hob85 P, hob86 P, hob87 P, hob88 P, hob89 P, hob90 P, hob91 P, hob92 P, hob93 P, hob94 P, hob95 P, hob96 P, hob97 P, hob98 P, hob99 P, hob100 P, hob101 P, hob102 P, hob103 P, hob104 P, hob105 P, hob106 P, hob107 P, hob108 P, hob109 P, hob110 P, hob111 P, hob112 P, hob113 P, hob114 P, hob115 P, hob116 P, hob117 P, hob118 P, hob119 P, hob120 P, hob121 P, hob122 P, hob123 P, hob124 P, hob125 P, hob126 P, hob127 P, hob128 P, hob129 P, hob130 P, hob131 P, hob134 P, hob135 P, hob136 P, hob137 P, hob138 P, hob139 P, hob140 P, hob141 P, hob142 P, hob143 P, hob144 P, hob145 P, hob146 P, hob147 P, hob148 P, hob149 P, hob150 P, hob151 P, hob152 P, hob153 P, hob154 P, hob155 P, hob156 P, hob157 P, hob158 P, hob159 P, hob160 P, hob161 P, hob162 P, hob163 P, hob164 P, hob165 P, hob166 P, hob167 P, hob168 P, hob169 P, hob170 P, hob171 P, hob172 P, hob173 P, hob174 P, hob175 P, hob176 P, hob177 P, hob178 P, hob179 P, hob180 P, hob181 P, hob182 P, hob183 P, hob184 P, hob185 P, hob186 P, hob187 P, hob188 P, hob189 P, hob190 P, hob191 P, hob192 P, hob193 P, hob194 P, hob195 P, hob196 P, hob197 P, hob198 P, hob199 P, hob200 P, hob201 P, hob202 P, hob203 P, hob204 P, hob205 P, hob206 P, hob207 P, hob208 P, hob209 P] }
noncomputable abbrev posA : Pos := { line := 0, col := 0, endLine := 0, endCol := 0 }
noncomputable abbrev hstA (w : World) (os : OsState) : Shared := ⟨hpA w.params, #[], {}, 187, os⟩
noncomputable abbrev posB : Pos := { line := 5, col := 0, endLine := 22, endCol := 54 }
noncomputable abbrev hstB (w : World) (os : OsState) : Shared := ⟨hpB w.params, #[], {}, 253, os⟩
noncomputable abbrev posC : Pos := { line := 23, col := 0, endLine := 65, endCol := 55 }
noncomputable abbrev hstC (w : World) (os : OsState) : Shared := ⟨hpC w.params, #[], {}, 381, os⟩
noncomputable abbrev posD : Pos := { line := 186, col := 0, endLine := 192, endCol := 116 }
noncomputable abbrev hstD (w : World) (os : OsState) : Shared := ⟨hpD w.params, #[], {}, 532, os⟩
noncomputable def trA (P : Params) : BT := (.node (boot_o_0 P) (.node (boot_o_1 P) (.node (boot_o_3 P) (.node (boot_o_7 P) .nil .nil) (.node (hob0 P) .nil .nil)) (.node (boot_o_5 P) (.node (boot_o_9 P) .nil .nil) (.node (hob2 P) .nil .nil))) (.node (boot_o_2 P) (.node (boot_o_4 P) (.node (boot_o_8 P) .nil .nil) (.node (hob1 P) .nil .nil)) (.node (boot_o_6 P) (.node (boot_o_10 P) .nil .nil) (.node (hob3 P) .nil .nil))))
noncomputable abbrev sTA (w : World) (os : OsState) : SharedT := ⟨trA w.params, 15, {}, #[], {}, 187, os⟩
noncomputable def trB (P : Params) : BT := (.node (boot_o_0 P) (.node (boot_o_1 P) (.node (hob4 P) (.node (boot_o_7 P) (.node (hob6 P) (.node (hob22 P) (.node (hob54 P) .nil .nil) .nil) (.node (hob38 P) .nil .nil)) (.node (hob14 P) (.node (hob30 P) .nil .nil) (.node (hob46 P) .nil .nil))) (.node (hob0 P) (.node (hob10 P) (.node (hob26 P) .nil .nil) (.node (hob42 P) .nil .nil)) (.node (hob18 P) (.node (hob34 P) .nil .nil) (.node (hob50 P) .nil .nil)))) (.node (boot_o_5 P) (.node (boot_o_9 P) (.node (hob8 P) (.node (hob24 P) .nil .nil) (.node (hob40 P) .nil .nil)) (.node (hob16 P) (.node (hob32 P) .nil .nil) (.node (hob48 P) .nil .nil))) (.node (hob2 P) (.node (hob12 P) (.node (hob28 P) .nil .nil) (.node (hob44 P) .nil .nil)) (.node (hob20 P) (.node (hob36 P) .nil .nil) (.node (hob52 P) .nil .nil))))) (.node (boot_o_2 P) (.node (boot_o_4 P) (.node (boot_o_8 P) (.node (hob7 P) (.node (hob23 P) (.node (hob55 P) .nil .nil) .nil) (.node (hob39 P) .nil .nil)) (.node (hob15 P) (.node (hob31 P) .nil .nil) (.node (hob47 P) .nil .nil))) (.node (hob5 P) (.node (hob11 P) (.node (hob27 P) .nil .nil) (.node (hob43 P) .nil .nil)) (.node (hob19 P) (.node (hob35 P) .nil .nil) (.node (hob51 P) .nil .nil)))) (.node (boot_o_6 P) (.node (boot_o_10 P) (.node (hob9 P) (.node (hob25 P) .nil .nil) (.node (hob41 P) .nil .nil)) (.node (hob17 P) (.node (hob33 P) .nil .nil) (.node (hob49 P) .nil .nil))) (.node (hob3 P) (.node (hob13 P) (.node (hob29 P) .nil .nil) (.node (hob45 P) .nil .nil)) (.node (hob21 P) (.node (hob37 P) .nil .nil) (.node (hob53 P) .nil .nil))))))
noncomputable abbrev sTB (w : World) (os : OsState) : SharedT := ⟨trB w.params, 65, {}, #[], {}, 253, os⟩
noncomputable def trC (P : Params) : BT := (.node (boot_o_0 P) (.node (boot_o_1 P) (.node (hob56 P) (.node (boot_o_7 P) (.node (hob6 P) (.node (hob22 P) (.node (hob54 P) (.node (hob120 P) .nil .nil) .nil) (.node (hob88 P) .nil .nil)) (.node (hob38 P) (.node (hob72 P) .nil .nil) (.node (hob104 P) .nil .nil))) (.node (hob14 P) (.node (hob30 P) (.node (hob64 P) (.node (hob128 P) .nil .nil) .nil) (.node (hob96 P) .nil .nil)) (.node (hob46 P) (.node (hob80 P) .nil .nil) (.node (hob112 P) .nil .nil)))) (.node (hob0 P) (.node (hob10 P) (.node (hob26 P) (.node (hob60 P) (.node (hob124 P) .nil .nil) .nil) (.node (hob92 P) .nil .nil)) (.node (hob42 P) (.node (hob76 P) .nil .nil) (.node (hob108 P) .nil .nil))) (.node (hob18 P) (.node (hob34 P) (.node (hob68 P) .nil .nil) (.node (hob100 P) .nil .nil)) (.node (hob50 P) (.node (hob84 P) .nil .nil) (.node (hob116 P) .nil .nil))))) (.node (boot_o_5 P) (.node (boot_o_9 P) (.node (hob8 P) (.node (hob24 P) (.node (hob58 P) (.node (hob122 P) .nil .nil) .nil) (.node (hob90 P) .nil .nil)) (.node (hob40 P) (.node (hob74 P) .nil .nil) (.node (hob106 P) .nil .nil))) (.node (hob16 P) (.node (hob32 P) (.node (hob66 P) (.node (hob130 P) .nil .nil) .nil) (.node (hob98 P) .nil .nil)) (.node (hob48 P) (.node (hob82 P) .nil .nil) (.node (hob114 P) .nil .nil)))) (.node (hob2 P) (.node (hob12 P) (.node (hob28 P) (.node (hob62 P) (.node (hob126 P) .nil .nil) .nil) (.node (hob94 P) .nil .nil)) (.node (hob44 P) (.node (hob78 P) .nil .nil) (.node (hob110 P) .nil .nil))) (.node (hob20 P) (.node (hob36 P) (.node (hob70 P) .nil .nil) (.node (hob102 P) .nil .nil)) (.node (hob52 P) (.node (hob86 P) .nil .nil) (.node (hob118 P) .nil .nil)))))) (.node (boot_o_2 P) (.node (boot_o_4 P) (.node (boot_o_8 P) (.node (hob7 P) (.node (hob23 P) (.node (hob55 P) (.node (hob121 P) .nil .nil) .nil) (.node (hob89 P) .nil .nil)) (.node (hob39 P) (.node (hob73 P) .nil .nil) (.node (hob105 P) .nil .nil))) (.node (hob15 P) (.node (hob31 P) (.node (hob65 P) (.node (hob129 P) .nil .nil) .nil) (.node (hob97 P) .nil .nil)) (.node (hob47 P) (.node (hob81 P) .nil .nil) (.node (hob113 P) .nil .nil)))) (.node (hob57 P) (.node (hob11 P) (.node (hob27 P) (.node (hob61 P) (.node (hob125 P) .nil .nil) .nil) (.node (hob93 P) .nil .nil)) (.node (hob43 P) (.node (hob77 P) .nil .nil) (.node (hob109 P) .nil .nil))) (.node (hob19 P) (.node (hob35 P) (.node (hob69 P) .nil .nil) (.node (hob101 P) .nil .nil)) (.node (hob51 P) (.node (hob85 P) .nil .nil) (.node (hob117 P) .nil .nil))))) (.node (boot_o_6 P) (.node (boot_o_10 P) (.node (hob9 P) (.node (hob25 P) (.node (hob59 P) (.node (hob123 P) .nil .nil) .nil) (.node (hob91 P) .nil .nil)) (.node (hob41 P) (.node (hob75 P) .nil .nil) (.node (hob107 P) .nil .nil))) (.node (hob17 P) (.node (hob33 P) (.node (hob67 P) (.node (hob131 P) .nil .nil) .nil) (.node (hob99 P) .nil .nil)) (.node (hob49 P) (.node (hob83 P) .nil .nil) (.node (hob115 P) .nil .nil)))) (.node (hob3 P) (.node (hob13 P) (.node (hob29 P) (.node (hob63 P) (.node (hob127 P) .nil .nil) .nil) (.node (hob95 P) .nil .nil)) (.node (hob45 P) (.node (hob79 P) .nil .nil) (.node (hob111 P) .nil .nil))) (.node (hob21 P) (.node (hob37 P) (.node (hob71 P) .nil .nil) (.node (hob103 P) .nil .nil)) (.node (hob53 P) (.node (hob87 P) .nil .nil) (.node (hob119 P) .nil .nil)))))))
noncomputable abbrev sTC (w : World) (os : OsState) : SharedT := ⟨trC w.params, 139, {}, #[], {}, 381, os⟩
noncomputable def trD (P : Params) : BT := (.node (boot_o_0 P) (.node (boot_o_1 P) (.node (hob132 P) (.node (boot_o_7 P) (.node (hob6 P) (.node (hob22 P) (.node (hob54 P) (.node (hob120 P) .nil .nil) (.node (hob186 P) .nil .nil)) (.node (hob88 P) (.node (hob154 P) .nil .nil) .nil)) (.node (hob38 P) (.node (hob72 P) (.node (hob138 P) .nil .nil) (.node (hob202 P) .nil .nil)) (.node (hob104 P) (.node (hob170 P) .nil .nil) .nil))) (.node (hob14 P) (.node (hob30 P) (.node (hob64 P) (.node (hob128 P) .nil .nil) (.node (hob194 P) .nil .nil)) (.node (hob96 P) (.node (hob162 P) .nil .nil) .nil)) (.node (hob46 P) (.node (hob80 P) (.node (hob146 P) .nil .nil) .nil) (.node (hob112 P) (.node (hob178 P) .nil .nil) .nil)))) (.node (hob0 P) (.node (hob10 P) (.node (hob26 P) (.node (hob60 P) (.node (hob124 P) .nil .nil) (.node (hob190 P) .nil .nil)) (.node (hob92 P) (.node (hob158 P) .nil .nil) .nil)) (.node (hob42 P) (.node (hob76 P) (.node (hob142 P) .nil .nil) (.node (hob206 P) .nil .nil)) (.node (hob108 P) (.node (hob174 P) .nil .nil) .nil))) (.node (hob18 P) (.node (hob34 P) (.node (hob68 P) (.node (hob134 P) .nil .nil) (.node (hob198 P) .nil .nil)) (.node (hob100 P) (.node (hob166 P) .nil .nil) .nil)) (.node (hob50 P) (.node (hob84 P) (.node (hob150 P) .nil .nil) .nil) (.node (hob116 P) (.node (hob182 P) .nil .nil) .nil))))) (.node (boot_o_5 P) (.node (boot_o_9 P) (.node (hob8 P) (.node (hob24 P) (.node (hob58 P) (.node (hob122 P) .nil .nil) (.node (hob188 P) .nil .nil)) (.node (hob90 P) (.node (hob156 P) .nil .nil) .nil)) (.node (hob40 P) (.node (hob74 P) (.node (hob140 P) .nil .nil) (.node (hob204 P) .nil .nil)) (.node (hob106 P) (.node (hob172 P) .nil .nil) .nil))) (.node (hob16 P) (.node (hob32 P) (.node (hob66 P) (.node (hob130 P) .nil .nil) (.node (hob196 P) .nil .nil)) (.node (hob98 P) (.node (hob164 P) .nil .nil) .nil)) (.node (hob48 P) (.node (hob82 P) (.node (hob148 P) .nil .nil) .nil) (.node (hob114 P) (.node (hob180 P) .nil .nil) .nil)))) (.node (hob2 P) (.node (hob12 P) (.node (hob28 P) (.node (hob62 P) (.node (hob126 P) .nil .nil) (.node (hob192 P) .nil .nil)) (.node (hob94 P) (.node (hob160 P) .nil .nil) .nil)) (.node (hob44 P) (.node (hob78 P) (.node (hob144 P) .nil .nil) (.node (hob208 P) .nil .nil)) (.node (hob110 P) (.node (hob176 P) .nil .nil) .nil))) (.node (hob20 P) (.node (hob36 P) (.node (hob70 P) (.node (hob136 P) .nil .nil) (.node (hob200 P) .nil .nil)) (.node (hob102 P) (.node (hob168 P) .nil .nil) .nil)) (.node (hob52 P) (.node (hob86 P) (.node (hob152 P) .nil .nil) .nil) (.node (hob118 P) (.node (hob184 P) .nil .nil) .nil)))))) (.node (boot_o_2 P) (.node (boot_o_4 P) (.node (boot_o_8 P) (.node (hob7 P) (.node (hob23 P) (.node (hob55 P) (.node (hob121 P) .nil .nil) (.node (hob187 P) .nil .nil)) (.node (hob89 P) (.node (hob155 P) .nil .nil) .nil)) (.node (hob39 P) (.node (hob73 P) (.node (hob139 P) .nil .nil) (.node (hob203 P) .nil .nil)) (.node (hob105 P) (.node (hob171 P) .nil .nil) .nil))) (.node (hob15 P) (.node (hob31 P) (.node (hob65 P) (.node (hob129 P) .nil .nil) (.node (hob195 P) .nil .nil)) (.node (hob97 P) (.node (hob163 P) .nil .nil) .nil)) (.node (hob47 P) (.node (hob81 P) (.node (hob147 P) .nil .nil) .nil) (.node (hob113 P) (.node (hob179 P) .nil .nil) .nil)))) (.node (hob133 P) (.node (hob11 P) (.node (hob27 P) (.node (hob61 P) (.node (hob125 P) .nil .nil) (.node (hob191 P) .nil .nil)) (.node (hob93 P) (.node (hob159 P) .nil .nil) .nil)) (.node (hob43 P) (.node (hob77 P) (.node (hob143 P) .nil .nil) (.node (hob207 P) .nil .nil)) (.node (hob109 P) (.node (hob175 P) .nil .nil) .nil))) (.node (hob19 P) (.node (hob35 P) (.node (hob69 P) (.node (hob135 P) .nil .nil) (.node (hob199 P) .nil .nil)) (.node (hob101 P) (.node (hob167 P) .nil .nil) .nil)) (.node (hob51 P) (.node (hob85 P) (.node (hob151 P) .nil .nil) .nil) (.node (hob117 P) (.node (hob183 P) .nil .nil) .nil))))) (.node (boot_o_6 P) (.node (boot_o_10 P) (.node (hob9 P) (.node (hob25 P) (.node (hob59 P) (.node (hob123 P) .nil .nil) (.node (hob189 P) .nil .nil)) (.node (hob91 P) (.node (hob157 P) .nil .nil) .nil)) (.node (hob41 P) (.node (hob75 P) (.node (hob141 P) .nil .nil) (.node (hob205 P) .nil .nil)) (.node (hob107 P) (.node (hob173 P) .nil .nil) .nil))) (.node (hob17 P) (.node (hob33 P) (.node (hob67 P) (.node (hob131 P) .nil .nil) (.node (hob197 P) .nil .nil)) (.node (hob99 P) (.node (hob165 P) .nil .nil) .nil)) (.node (hob49 P) (.node (hob83 P) (.node (hob149 P) .nil .nil) .nil) (.node (hob115 P) (.node (hob181 P) .nil .nil) .nil)))) (.node (hob3 P) (.node (hob13 P) (.node (hob29 P) (.node (hob63 P) (.node (hob127 P) .nil .nil) (.node (hob193 P) .nil .nil)) (.node (hob95 P) (.node (hob161 P) .nil .nil) .nil)) (.node (hob45 P) (.node (hob79 P) (.node (hob145 P) .nil .nil) (.node (hob209 P) .nil .nil)) (.node (hob111 P) (.node (hob177 P) .nil .nil) .nil))) (.node (hob21 P) (.node (hob37 P) (.node (hob71 P) (.node (hob137 P) .nil .nil) (.node (hob201 P) .nil .nil)) (.node (hob103 P) (.node (hob169 P) .nil .nil) .nil)) (.node (hob53 P) (.node (hob87 P) (.node (hob153 P) .nil .nil) .nil) (.node (hob119 P) (.node (hob185 P) .nil .nil) .nil)))))))
noncomputable abbrev sTD (w : World) (os : OsState) : SharedT := ⟨trD w.params, 215, {}, #[], {}, 532, os⟩
noncomputable abbrev bodyT : List Stmt := behindTheImports rr.prog
noncomputable def envT : Env := { scope := rr.prog.main.scope, locals := mainNs, globals := mainNs, cells := [], code := Value.ref 13, frame := some 14 }
noncomputable def cT : Code := .body bodyT envT
noncomputable abbrev hstZ (w : World) (os : OsState) : Shared := ⟨boot_heap w.params, Array.mk [], boot_drawn, boot_toks, os⟩
theorem pc0 (w : World) (os : OsState) : topGo treeTable rr.prog w 11 (some (Value.ref 6)) 12 (hstZ w os) (topStub rr.prog) = some (hstA w os, Thread.mk (denote treeTable cT) cT posA [topFrame posA]) := by kernel_rfl
theorem pc1 (w : World) (os : OsState) : segRun treeTable rr.prog w 11 (some (Value.ref 6)) 1 1 (hstA w os) (blockOf bodyT envT cT posA [topFrame posA]) = some (.next, (sTA w os).abs, cT, posA) := by kernel_rfl
theorem pc2 (w : World) (os : OsState) : segRunT treeTable rr.prog w 11 (some (Value.ref 6)) 1 362 (sTA w os) (piecesOf (bodyT.take 3) envT cT posA [topFrame posA]) = some (.next, sTB w os, cT, posB) := by kernel_rfl
theorem pc3 (w : World) (os : OsState) : segRunT treeTable rr.prog w 11 (some (Value.ref 6)) 1 1047 (sTB w os) (piecesOf ((bodyT.drop 3).take 1) envT cT posB [topFrame posA]) = some (.next, sTC w os, cT, posC) := by kernel_rfl
theorem pc4 (w : World) (os : OsState) : segRunT treeTable rr.prog w 11 (some (Value.ref 6)) 1 431 (sTC w os) (piecesOf ((bodyT.drop 3).drop 1) envT cT posC [topFrame posA]) = some (.next, sTD w os, cT, posD) := by kernel_rfl
theorem pc5 (w : World) (os : OsState) : topRun treeTable rr.prog w 11 (some (Value.ref 6)) 2 (sTD w os).abs ⟨doneF .next, cT, posD, [topFrame posA]⟩ = some (hstD w os) := by kernel_rfl
section
variable {tb : String → Option Builtin} {p : Program} {w : World} {n₀ : Nat} {ann : Option Value} {env : Env} {q : Pos} {n N : Nat} {s s' r : Shared} {b : List Stmt} {c : Code} {pos p' : Pos}
theorem piece_cut (a : Nat) (h : segRun tb p w n₀ ann 1 n s (piecesOf (b.take a) env c pos [topFrame q]) = some (.next, s', c, p')) (k : topRun tb p w n₀ ann N s' (restOf (b.drop a) env c p' [topFrame q]) = some r) :
    topRun tb p w n₀ ann (n + N) s (restOf b env c pos [topFrame q]) = some r := by
  have := piece_app h k
  rwa [List.take_append_drop] at this
theorem piece_last (h : segRun tb p w n₀ ann 1 n s (piecesOf b env c pos [topFrame q]) = some (.next, s', c, p')) (k : topRun tb p w n₀ ann N s' ⟨doneF .next, c, p', [topFrame q]⟩ = some r) :
    topRun tb p w n₀ ann (n + N) s (restOf b env c pos [topFrame q]) = some r := by
  have := piece_app (rest := []) h (piece_nil k)
  rwa [List.append_nil] at this
end
theorem run_all (w : World) (os : OsState) : topRun treeTable rr.prog w 11 (some (Value.ref 6)) (12 + (1 + (362 + (1047 + (431 + 2))))) (hstZ w os) (topStub rr.prog) = some (hstD w os) :=
  go_top (pc0 w os) (piece_block (pc1 w os) (piece_cut 3 (segRun_of (pc2 w os)) (piece_cut 1 (segRun_of (pc3 w os)) (piece_last (segRun_of (pc4 w os)) (pc5 w os)))))
theorem sizeT (w : World) : ((boot_heap w.params).isNs mainGlobals && (Array.mk ([] : List GenState)).size == 0, (boot_heap w.params).objs.size, (boot_heap w.params).nsMap mainGlobals "__annotations__") = (true, 11, some (Value.ref 6)) := by kernel_rfl
theorem lk1 (w : World) (os : OsState) : (staticsOk (importedModules rr.prog.main.body) (boot_heap w.params) (hpD w.params) && namesBound rr.prog (hpD w.params) && gensDone (hstD w os) && laidKept (boot_heap w.params) (hpD w.params)) = true := by kernel_rfl
theorem lk2 (w : World) (os : OsState) : openSeen hd.view_39 los (importedModules rr.prog.main.body) (fun s => xlAt hd.view_39 [] s && recOk (RowW.records rr) s) true (hstD w os) = openGood hd.view_39 los := by kernel_rfl
theorem lk3 (w : World) (os : OsState) : Hook.obs (kHook hd.heap_39 addrs0 addrs) (hstD w os) = Hook.val (kHook hd.heap_39 addrs0 addrs) w := by kernel_rfl
theorem openT : opening rr.prog = plainProg rr.prog.main.scope.names := by kernel_rfl
theorem fenceT (s : Shared) : fenceModules? rr.prog s = some s := by kernel_rfl
theorem lft : LeftO rr.prog hd.view_39 los (fun s => xlAt hd.view_39 [] s && recOk (RowW.records rr) s) (Hook.obs (kHook hd.heap_39 addrs0 addrs)) (Hook.val (kHook hd.heap_39 addrs0 addrs)) 3800 :=
  LeftO.of_pieces (boot_open openT rfl fenceT) sizeT run_all rfl fun w => funext fun os => Prod.ext (lk1 w os) (Prod.ext (lk2 w os) (lk3 w os))
end Mine
end
section
open PySem PySem.W PySem.Calls PyProof.Rows
namespace Mine
set_option maxRecDepth 100000
set_option maxHeartbeats 8000000
theorem said : PySem.Challenge.rw_ox0037_01.wellSaid = true := by
  delta OpenLaw.wellSaid
  repeat' (first | (with_reducible refine look_both ?_ ?_) | delta OpenRow.wellSaid | delta OpenRow.partSaid | delta looksOpen)
  all_goals (as_aux_lemma => kernel_rfl)
theorem hd (hc : WalkO hd.view_39 los (XL hd.view_39 []) (kHook hd.heap_39 addrs0 addrs).says rr { name := Str.ofString "law", params := fA (sta 18), body := fB (sta 18), scope := fS (sta 18), pos := (sta 18).pos } [] (fun f vs => PySem.call f vs)) : PySem.Challenge.rw_ox0037_01.Holds := by
  refine holds_law said fun sd => ?_
  refine holds_open (q := hd.view_39) (loose := los) (Xt := fun s => xlAt hd.view_39 [] s && recOk (RowW.records rr) s) (XP := XL hd.view_39 []) (N := 3800) lft (Hook.of _) (Hook.keeps _) (fun s e => xl_of s (Bool.and_eq_true_iff.mp e).1) XL.keeps (by kernel_rfl) (by kernel_rfl) (by kernel_rfl) (fun s e => recFacts_of (Bool.and_eq_true_iff.mp e).2) rfl sd (by decide +kernel) ⟨rfl, rfl, rfl, rfl, rfl, by decide +kernel⟩ ?hw hc
  w_witness2
end Mine
end
section
open PySem PySem.W PySem.Calls PyProof.Rows
namespace Mine
set_option maxRecDepth 100000

noncomputable abbrev PR : Program := PySem.Challenge.rw_ox0037_01.row.prog
noncomputable abbrev LS : List Str := looseW Mine.hd.view_39 [Str.ofString "_tuplegetter", Str.ofString "Mismatch", Str.ofString "_Mismatch"]

structure Gd (w : World) (mean : ExcName → Option Value) (mg mb : Str → Option Value) (h : Heap) : Prop where
  X : (Mine.hd.heap_39 w.params).In h
  T : Top Mine.hd.view_39 LS mean mg mb h

noncomputable def Ext (h h' : Heap) : Prop := ∀ b o, h.get? b = some o → h'.get? b = some o

theorem Gd.keeps {w : World} {mean : ExcName → Option Value} {mg mb : Str → Option Value} {h h' : Heap} (G : Gd w mean mg mb h) (e : Ext h h') : Gd w mean mg mb h' :=
  ⟨G.X.keeps e, G.T.keeps e⟩

/-- a stop for the walk -/
noncomputable def Halt (P : Prop) : Prop := P
theorem Halt.mk {P : Prop} (h : P) : Halt P := h
theorem Halt.out {P : Prop} (h : Halt P) : P := h

theorem stopW {α : Type} {M : Model} {A : Around} {t : Sem α} {Q : α → Shared → Prop} {E : Value → Shared → Prop} {s : Shared} (h : Halt (wpAny M A t Q E s)) : wpAny M A t Q E s := h

theorem gen_tk {α : Type} {M : Model} {A : Around} {t : Sem α} {Q : α → Shared → Prop} {E : Value → Shared → Prop} {h : Heap} {g : Array GenState} {d : Drawn} {X : Nat} {o : OsState} (H : ∀ tk, tk = X → wpAny M A t Q E ⟨h, g, d, tk, o⟩) : wpAny M A t Q E ⟨h, g, d, X, o⟩ := H X rfl

noncomputable abbrev AA (dp un : Nat) (fr : Option (List Env)) (gd : Option (List Code)) : Around := ⟨none, dp, fr, gd, un⟩

theorem enter {prog : Program} {w : World} {A : Around} {E : Value → Shared → Prop} {s : Shared} {K : Frag} {p : Program} {loose : List Str} {mean : ExcName → Option Value} {mg mb : Str → Option Value}
    {Q : Value → Shared → Prop} {name qual : Str} {params : Arguments} {body : List Stmt} {scope : Scope} {dV kV doc pm cdv ct oc : Value} {an od : Option Addr} {osl : Array (Option Value)} {f : Addr} {args : List Value} {binds : List (Str × Value)}
    (X : K.In s.heap) (T : Top p loose mean mg mb s.heap)
    (ho : K.lookup f = some ⟨oc, od, .func (fnOf name qual params body scope dV kV doc pm an cdv ct), osl⟩) (hcd : codeIn K cdv qual = true) (hroom : A.depth < recursionLimit)
    (hbind : BindsTo s (fnOf name qual params body scope dV kV doc pm an cdv ct) ⟨args, []⟩ binds) (hloc : ∀ y ∈ binds, scope.names.lookup y.1 = some .local)
    (h : ∀ L h₁, Fr s.heap L h₁ (fun y => binds.reverse.lookup y) → News s.heap L h₁ [] →
      wpAny (model prog w) (A.deeper (envOf qual scope L f cdv)) (execs body (envOf qual scope L f cdv))
        (fun fl s' => Q (match fl with | .ret v => v | _ => .none) s') (fun _ _ => False)
        { s with heap := h₁, toks := s.toks + binds.length })
    (hco : scope.isCoroutine = false) (hgen : scope.isGenerator = false) (hk : scope.kind = .function)
    (hcell : ∀ x ∈ scope.names, x.2 ≠ .cell) : wpAny (model prog w) A (call (.ref f) args) Q E s := by
  refine wpAny_call ?_
  refine codeAny_call_def (fd := fnOf name qual params body scope dV kV doc pm an cdv ct) (body := body) (binds := binds) hroom (X _ _ ho) rfl T.nolimit (codeRec_of X hcd) rfl hbind hcell hloc (fun h₁ hns hk₁ => ?_) hco hgen hk
  exact wpAny_mono (h s.heap.objs.size h₁ ⟨hns, hk₁, Nat.le_refl _⟩ News.nil) (fun _ _ x => x) fun _ _ x => x.elim


theorem frExt {h₀ h h' : Heap} {L : Addr} {m : Str → Option Value} (F : Fr h₀ L h m) (e : Ext h h') : Fr h₀ L h' m :=
  ⟨F.ns.keeps e, fun b o x => e b o (F.keep b o x), F.above⟩
theorem newsExt {h₀ h h' : Heap} {L : Addr} {news : List (Addr × Obj)} (N : News h₀ L h news) (e : Ext h h') : News h₀ L h' news :=
  fun p hp => ⟨e _ _ (N p hp).1, (N p hp).2⟩

end Mine
end
section
open PySem PySem.W PySem.Calls PyProof.Rows
namespace Mine
set_option maxRecDepth 100000

noncomputable def fgt (a b : UInt64) : Bool := Float64.cmp a b == some Ordering.gt
noncomputable def flt (a b : UInt64) : Bool := Float64.cmp a b == some Ordering.lt
noncomputable def feq (a b : UInt64) : Bool := Float64.cmp a b == some Ordering.eq
noncomputable def mx3 (a b c : UInt64) : UInt64 := bif fgt b a then (bif fgt c b then c else b) else (bif fgt c a then c else a)
noncomputable def mn3 (a b c : UInt64) : UInt64 := bif flt b a then (bif flt c b then c else b) else (bif flt c a then c else a)

noncomputable def fltItems (xs : Array (UInt64 × Tok)) : Array Value := xs.map fun p => .float p.1 p.2
noncomputable def fltAt (xs : Array (UInt64 × Tok)) (i : Nat) : UInt64 := (xs[i]?.map (·.1)).getD 0
theorem fltItems_at {xs : Array (UInt64 × Tok)} {i : Nat} {v : Value} (h : (fltItems xs)[i]? = some v) : ∃ t, v = .float (fltAt xs i) t := by
  simp only [fltItems, Array.getElem?_map, Option.map_eq_some_iff] at h
  obtain ⟨p, hp, rfl⟩ := h
  exact ⟨p.2, by simp [fltAt, hp]⟩

section
variable {prog : Program} {w : World} {A : Around} {E : Value → Shared → Prop} {s : Shared}
theorem cmpOf_gt {P : Nat → Value → Prop} (val : Nat → UInt64) (hval : ∀ i v, P i v → ∃ t, v = .float (val i) t) :
    CmpOf prog w A .Gt P (fun i j => fgt (val i) (val j)) := fun i j vi vj s Q E hi hj h => by
  obtain ⟨t, rfl⟩ := hval i vi hi
  obtain ⟨u, rfl⟩ := hval j vj hj
  exact AutoFloatOps.gt_0 h
theorem cmpOf_lt {P : Nat → Value → Prop} (val : Nat → UInt64) (hval : ∀ i v, P i v → ∃ t, v = .float (val i) t) :
    CmpOf prog w A .Lt P (fun i j => flt (val i) (val j)) := fun i j vi vj s Q E hi hj h => by
  obtain ⟨t, rfl⟩ := hval i vi hi
  obtain ⟨u, rfl⟩ := hval j vj hj
  exact AutoFloatOps.lt_0 h

theorem max3_raw {a b c : UInt64} {t u x : Tok} {Q : Value → Shared → Prop} (hh : A.handled = none)
    (h : ∀ h' tk t', Ext s.heap h' → Q (.float (mx3 a b c) t') { s with heap := h', toks := tk }) :
    wpAny (model prog w) A (call (.builtin "max") [.float a t, .float b u, .float c x]) Q E s := by
  have hT : (s.heap.push { cls := .type "tuple", data := .seq #[.float a t, .float b u, .float c x] }).IsTuple s.heap.objs.size (fltItems #[(a, t), (b, u), (c, x)]) := ⟨_, Heap.get?_push_size _ rfl, rfl, 0, by simp [fltItems]⟩
  refine call_max_three (wpAny_pyIter_tuple hT ?_)
  have hsz : (s.heap.push { cls := .type "tuple", data := .seq #[.float a t, .float b u, .float c x] }).objs.size = s.heap.objs.size + 1 := Heap.size_push ..
  refine ⟨_, [_, s.heap.objs.size], [_], _, _, _, _, rfl, Walks.tuple (A := A.in1) hh _ s.heap.objs.size (by rw [hsz]; exact Nat.ne_of_lt (Nat.lt_succ_self _)) (fltItems #[(a, t), (b, u), (c, x)]),
    ⟨⟨_, Heap.get?_push_size _ rfl, rfl, rfl⟩, hT.push _⟩, fun d hd => ?_, by simp [fltItems], cmpOf_gt (fltAt #[(a, t), (b, u), (c, x)]) (fun _ _ => fltItems_at), fun v h' tk hP hk => ?_⟩
  · show d < ((s.heap.push _).push _).objs.size
    rw [Heap.size_push, hsz]
    rcases List.mem_cons.mp hd with rfl | hd
    · rw [hsz]; exact Nat.lt_succ_self _
    · rcases List.mem_cons.mp hd with rfl | hd
      · exact Nat.lt_succ_of_lt (Nat.lt_succ_self _)
      · cases hd
  · have hold : Ext s.heap h' := fun d o e => by
      refine hk d o (fun hm => ?_) (Heap.get?_push_of_some _ (Heap.get?_push_of_some _ e))
      rcases List.mem_cons.mp hm with e1 | hm
      · have := Heap.lt_size e; rw [e1, hsz] at this; exact Nat.lt_irrefl _ (Nat.lt_of_succ_lt this)
      · cases hm
    obtain ⟨t', hv⟩ := fltItems_at hP
    have hsz2 : (fltItems #[(a, t), (b, u), (c, x)]).size - 1 = 2 := by simp [fltItems]
    rw [hsz2] at hv
    have e : fltAt #[(a, t), (b, u), (c, x)] (argBest (fun i j => fgt (fltAt #[(a, t), (b, u), (c, x)] i) (fltAt #[(a, t), (b, u), (c, x)] j)) 2) = mx3 a b c := by
      unfold mx3
      cases h1 : fgt b a
      · cases h2 : fgt c a <;> simp [argBest, fltAt, h1, h2]
      · cases h2 : fgt c b <;> simp [argBest, fltAt, h1, h2]
    rw [e] at hv
    rw [hv]; exact h h' tk t' hold

theorem min3_raw {a b c : UInt64} {t u x : Tok} {Q : Value → Shared → Prop} (hh : A.handled = none)
    (h : ∀ h' tk t', Ext s.heap h' → Q (.float (mn3 a b c) t') { s with heap := h', toks := tk }) :
    wpAny (model prog w) A (call (.builtin "min") [.float a t, .float b u, .float c x]) Q E s := by
  have hT : (s.heap.push { cls := .type "tuple", data := .seq #[.float a t, .float b u, .float c x] }).IsTuple s.heap.objs.size (fltItems #[(a, t), (b, u), (c, x)]) := ⟨_, Heap.get?_push_size _ rfl, rfl, 0, by simp [fltItems]⟩
  refine call_min_three (wpAny_pyIter_tuple hT ?_)
  have hsz : (s.heap.push { cls := .type "tuple", data := .seq #[.float a t, .float b u, .float c x] }).objs.size = s.heap.objs.size + 1 := Heap.size_push ..
  refine ⟨_, [_, s.heap.objs.size], [_], _, _, _, _, rfl, Walks.tuple (A := A.in1) hh _ s.heap.objs.size (by rw [hsz]; exact Nat.ne_of_lt (Nat.lt_succ_self _)) (fltItems #[(a, t), (b, u), (c, x)]),
    ⟨⟨_, Heap.get?_push_size _ rfl, rfl, rfl⟩, hT.push _⟩, fun d hd => ?_, by simp [fltItems], cmpOf_lt (fltAt #[(a, t), (b, u), (c, x)]) (fun _ _ => fltItems_at), fun v h' tk hP hk => ?_⟩
  · show d < ((s.heap.push _).push _).objs.size
    rw [Heap.size_push, hsz]
    rcases List.mem_cons.mp hd with rfl | hd
    · rw [hsz]; exact Nat.lt_succ_self _
    · rcases List.mem_cons.mp hd with rfl | hd
      · exact Nat.lt_succ_of_lt (Nat.lt_succ_self _)
      · cases hd
  · have hold : Ext s.heap h' := fun d o e => by
      refine hk d o (fun hm => ?_) (Heap.get?_push_of_some _ (Heap.get?_push_of_some _ e))
      rcases List.mem_cons.mp hm with e1 | hm
      · have := Heap.lt_size e; rw [e1, hsz] at this; exact Nat.lt_irrefl _ (Nat.lt_of_succ_lt this)
      · cases hm
    obtain ⟨t', hv⟩ := fltItems_at hP
    have hsz2 : (fltItems #[(a, t), (b, u), (c, x)]).size - 1 = 2 := by simp [fltItems]
    rw [hsz2] at hv
    have e : fltAt #[(a, t), (b, u), (c, x)] (argBest (fun i j => flt (fltAt #[(a, t), (b, u), (c, x)] i) (fltAt #[(a, t), (b, u), (c, x)] j)) 2) = mn3 a b c := by
      unfold mn3
      cases h1 : flt b a
      · cases h2 : flt c a <;> simp [argBest, fltAt, h1, h2]
      · cases h2 : flt c b <;> simp [argBest, fltAt, h1, h2]
    rw [e] at hv
    rw [hv]; exact h h' tk t' hold

variable {h₀ : Heap} {L : Addr} {m : Str → Option Value} {news : List (Addr × Obj)}
theorem max3_N {a b c : UInt64} {t u x : Tok} {Q : Value → Shared → Prop} (hh : A.handled = none) (F : Fr h₀ L s.heap m) (N : News h₀ L s.heap news)
    (h : ∀ h' tk t', Fr h₀ L h' m → News h₀ L h' news → s.toks ≤ tk → Q (.float (mx3 a b c) t') { s with heap := h', toks := tk }) :
    wpAny (model prog w) A (call (.builtin "max") [.float a t, .float b u, .float c x]) Q E s := wpAny_with_toks (Nat.le_refl _) (max3_raw hh fun h' tk t' e hle => h h' tk t' (frExt F e) (newsExt N e) hle)
theorem min3_N {a b c : UInt64} {t u x : Tok} {Q : Value → Shared → Prop} (hh : A.handled = none) (F : Fr h₀ L s.heap m) (N : News h₀ L s.heap news)
    (h : ∀ h' tk t', Fr h₀ L h' m → News h₀ L h' news → s.toks ≤ tk → Q (.float (mn3 a b c) t') { s with heap := h', toks := tk }) :
    wpAny (model prog w) A (call (.builtin "min") [.float a t, .float b u, .float c x]) Q E s := wpAny_with_toks (Nat.le_refl _) (min3_raw hh fun h' tk t' e hle => h h' tk t' (frExt F e) (newsExt N e) hle)

theorem div_nz {a b : UInt64} {t u : Tok} {Q : Value → Shared → Prop} (hb : ¬ Float64.isZero b = true)
    (h : Q (.float (Float64.div a b) s.toks) { s with toks := s.toks + 1 }) : wpAny (model prog w) A (binaryOp .Div (.float a t) (.float b u)) Q E s :=
  AutoFloatOps.truediv_1 hb h
end

noncomputable def hueF (r g b M R : UInt64) : UInt64 :=
  let rc := Float64.div (Float64.sub M r) R
  let gc := Float64.div (Float64.sub M g) R
  let bc := Float64.div (Float64.sub M b) R
  (Float64.divmod (Float64.div (bif feq r M then Float64.sub bc gc else bif feq g M then Float64.sub (Float64.add 4611686018427387904 rc) bc else Float64.sub (Float64.add 4616189618054758400 gc) rc) 4618441417868443648) 4607182418800017408).2

theorem hue1 {r g b M R : UInt64} (h : (Float64.cmp r M == some Ordering.eq) = true) : hueF r g b M R = (Float64.divmod (Float64.div (Float64.sub (Float64.div (Float64.sub M b) R) (Float64.div (Float64.sub M g) R)) 4618441417868443648) 4607182418800017408).2 := by
  unfold hueF feq; rw [h]; rfl
theorem hue2 {r g b M R : UInt64} (h : ¬ (Float64.cmp r M == some Ordering.eq) = true) (h' : (Float64.cmp g M == some Ordering.eq) = true) : hueF r g b M R = (Float64.divmod (Float64.div (Float64.sub (Float64.add 4611686018427387904 (Float64.div (Float64.sub M r) R)) (Float64.div (Float64.sub M b) R)) 4618441417868443648) 4607182418800017408).2 := by
  unfold hueF feq; rw [eq_false_of_ne_true h, h']; rfl
theorem hue3 {r g b M R : UInt64} (h : ¬ (Float64.cmp r M == some Ordering.eq) = true) (h' : ¬ (Float64.cmp g M == some Ordering.eq) = true) : hueF r g b M R = (Float64.divmod (Float64.div (Float64.sub (Float64.add 4616189618054758400 (Float64.div (Float64.sub M g) R)) (Float64.div (Float64.sub M r) R)) 4618441417868443648) 4607182418800017408).2 := by
  unfold hueF feq; rw [eq_false_of_ne_true h, eq_false_of_ne_true h']; rfl

noncomputable def hsvF (r g b : UInt64) : UInt64 × UInt64 :=
  bif feq (mn3 r g b) (mx3 r g b) then (0, 0)
  else (hueF r g b (mx3 r g b) (Float64.sub (mx3 r g b) (mn3 r g b)), Float64.div (Float64.sub (mx3 r g b) (mn3 r g b)) (mx3 r g b))

end Mine
end
section
open PySem PySem.W PySem.Calls PyProof.Rows
namespace Mine
set_option maxRecDepth 100000
set_option maxHeartbeats 8000000

theorem hsv_call {w : World} {mean : ExcName → Option Value} {mg mb : Str → Option Value} {dp un : Nat} {fr : Option (List Env)} {gd : Option (List Code)} {E : Value → Shared → Prop} {s : Shared} {Q : Value → Shared → Prop} {r g b : UInt64} {t1 t2 t3 : Tok}
    (X : (Mine.hd.heap_39 w.params).In s.heap) (T : Top Mine.hd.view_39 LS mean mg mb s.heap) (R : dp + 1 < recursionLimit)
    (hz : feq (mn3 r g b) (mx3 r g b) = false → Float64.isZero (mx3 r g b) = false ∧ Float64.isZero (Float64.sub (mx3 r g b) (mn3 r g b)) = false)
    (hQ : ∀ a h' (tk' u1 u2 : Nat) z u3, Ext s.heap h' → IsTup h' a #[.float (hsvF r g b).1 u1, .float (hsvF r g b).2 u2, .float z u3] → s.toks < u1 → u1 < tk' → s.toks < u2 → u2 < tk' → Q (.ref a) { s with heap := h', toks := tk' }) :
    wpAny (model PySem.Challenge.rw_ox0037_01.row.prog w) (AA dp un fr gd) (call (.ref 159) [.float r t1, .float g t2, .float b t3]) Q E s := by
  w_on
  w_strict (
  revert X T R hQ
  k_fill
  intro X T R hQ
  have hR : (AA dp un fr gd).depth < recursionLimit := by dsimp only; omega
  have hQ1 : feq (mn3 r g b) (mx3 r g b) = true → ∀ a h' (tk' u1 u2 : Nat) z u3, Ext s.heap h' → IsTup h' a #[.float 0 u1, .float 0 u2, .float z u3] → s.toks < u1 → u1 < tk' → s.toks < u2 → u2 < tk' → Q (.ref a) { s with heap := h', toks := tk' } := by
    intro e; simpa only [hsvF, e, cond_true] using hQ
  have hQ2 : feq (mn3 r g b) (mx3 r g b) = false → ∀ a h' (tk' u1 u2 : Nat) z u3 x, Ext s.heap h' → IsTup h' a #[.float x u1, .float (Float64.div (Float64.sub (mx3 r g b) (mn3 r g b)) (mx3 r g b)) u2, .float z u3] → x = hueF r g b (mx3 r g b) (Float64.sub (mx3 r g b) (mn3 r g b)) → s.toks < u1 → u1 < tk' → s.toks < u2 → u2 < tk' → Q (.ref a) { s with heap := h', toks := tk' } := by
    intro e a h' tk' u1 u2 z u3 x x1 x2 x3; subst x3; exact hQ a h' tk' u1 u2 z u3 x1 (by simpa only [hsvF, e, cond_false] using x2)
  clear hQ
  by_cases he : (Float64.cmp (mn3 r g b) (mx3 r g b) == some Ordering.eq) = true
  · replace hQ1 := hQ1 he
    clear hQ2 hz
    refine' enter (binds := [("r", .float r t1), ("g", .float g t2), ("b", .float b t3)]) X T ?ho ?hcd ?hroom ?hb ?hl ?_ ?c2 ?c3 ?c4 ?c5
    case ho => k_is
    case hcd => k_is
    case hroom => exact hR
    case hb => exact BindsTo.of_eq rfl
    case hl => exact locs rfl
    case c2 => exact rfl
    case c3 => exact rfl
    case c4 => exact rfl
    case c5 => decide
    intro L' h' F' N'
    (try dsimp only)
    (try k_fold)
    repeat' (first
        | (k_unfold; (try dsimp only))
        | (k_end; kc_close)
        | ((with_reducible show wpAny _ _ (execs [] _) _ _ _); (fail_if_success (fail_if_success k_gentoks)); refine gen_tk ?_; intro zt zT; (try dsimp only [List.length_cons, List.length_nil] at zT))
        | ((with_reducible show wpAny _ _ (execs (_ :: _) _) _ _ _); (fail_if_success (fail_if_success k_gentoks)); refine gen_tk ?_; intro zt zT; (try dsimp only [List.length_cons, List.length_nil] at zT))
        | (first | with_reducible refine ite_pos (by with_reducible assumption) ?_ | with_reducible refine ite_neg (by with_reducible assumption) ?_)
        | ((with_reducible show wpAny _ _ (binaryOp _ (Value.float _ _) (Value.float _ _)) _ _ _); with_reducible refine div_nz (by with_reducible assumption) ?_; (try dsimp only))
        | ((with_reducible show wpAny _ _ (call (Value.builtin "min") [Value.float _ _, Value.float _ _, Value.float _ _]) _ _ _); (rename News _ _ _ _ => zN2); (rename Fr _ _ _ _ => zF2); refine min3_N rfl zF2 zN2 ?_; clear zN2 zF2; intro _ _ _ _ _ zT; (try dsimp only at zT); (try dsimp only))
        | ((with_reducible show wpAny _ _ (call (Value.builtin "max") [Value.float _ _, Value.float _ _, Value.float _ _]) _ _ _); (rename News _ _ _ _ => zN2); (rename Fr _ _ _ _ => zF2); refine max3_N rfl zF2 zN2 ?_; clear zN2 zF2; intro _ _ _ _ _ zT; (try dsimp only at zT); (try dsimp only))
        | walk1
        | (dsimp only; walk1)
        | (leave1; (try dsimp only))
        | fail "no step")
    all_goals (dsimp only; dsimp only [qk])
    all_goals exact hQ1 _ _ _ _ _ _ _ (Fr.keep (by assumption)) (News.isTup (by assumption) (by k_mem)) (by (try dsimp only); omega) (by (try dsimp only); omega) (by (try dsimp only); omega) (by (try dsimp only); omega)
  · replace hQ2 := hQ2 (by simpa [feq] using he)
    obtain ⟨hz1, hz2⟩ := hz (by simpa [feq] using he)
    replace hz1 : ¬ Float64.isZero (mx3 r g b) = true := by simp [hz1]
    replace hz2 : ¬ Float64.isZero (Float64.sub (mx3 r g b) (mn3 r g b)) = true := by simp [hz2]
    clear hQ1 hz
    refine' enter (binds := [("r", .float r t1), ("g", .float g t2), ("b", .float b t3)]) X T ?ho ?hcd ?hroom ?hb ?hl ?_ ?c2 ?c3 ?c4 ?c5
    case ho => k_is
    case hcd => k_is
    case hroom => exact hR
    case hb => exact BindsTo.of_eq rfl
    case hl => exact locs rfl
    case c2 => exact rfl
    case c3 => exact rfl
    case c4 => exact rfl
    case c5 => decide
    intro L' h' F' N'
    (try dsimp only)
    (try k_fold)
    repeat' (first
        | (k_unfold; (try dsimp only))
        | (k_end; kc_close)
        | ((with_reducible show wpAny _ _ (execs [] _) _ _ _); (fail_if_success (fail_if_success k_gentoks)); refine gen_tk ?_; intro zt zT; (try dsimp only [List.length_cons, List.length_nil] at zT))
        | ((with_reducible show wpAny _ _ (execs (_ :: _) _) _ _ _); (fail_if_success (fail_if_success k_gentoks)); refine gen_tk ?_; intro zt zT; (try dsimp only [List.length_cons, List.length_nil] at zT))
        | (first | with_reducible refine ite_pos (by with_reducible assumption) ?_ | with_reducible refine ite_neg (by with_reducible assumption) ?_)
        | ((with_reducible show wpAny _ _ (binaryOp _ (Value.float _ _) (Value.float _ _)) _ _ _); with_reducible refine div_nz (by with_reducible assumption) ?_; (try dsimp only))
        | ((with_reducible show wpAny _ _ (call (Value.builtin "min") [Value.float _ _, Value.float _ _, Value.float _ _]) _ _ _); (rename News _ _ _ _ => zN2); (rename Fr _ _ _ _ => zF2); refine min3_N rfl zF2 zN2 ?_; clear zN2 zF2; intro _ _ _ _ _ zT; (try dsimp only at zT); (try dsimp only))
        | ((with_reducible show wpAny _ _ (call (Value.builtin "max") [Value.float _ _, Value.float _ _, Value.float _ _]) _ _ _); (rename News _ _ _ _ => zN2); (rename Fr _ _ _ _ => zF2); refine max3_N rfl zF2 zN2 ?_; clear zN2 zF2; intro _ _ _ _ _ zT; (try dsimp only at zT); (try dsimp only))
        | walk1
        | (dsimp only; walk1)
        | (leave1; (try dsimp only))
        | fail "no step")
    all_goals (dsimp only; dsimp only [qk])
    all_goals exact hQ2 _ _ _ _ _ _ _ _ (Fr.keep (by assumption)) (News.isTup (by assumption) (by k_mem)) (by first | exact Eq.symm (hue1 (by assumption)) | exact Eq.symm (hue2 (r := r) (g := g) (M := mx3 r g b) (by first | assumption | exact ne_true_of_eq_false (by assumption)) (by assumption)) | exact Eq.symm (hue3 (r := r) (g := g) (M := mx3 r g b) (by first | assumption | exact ne_true_of_eq_false (by assumption)) (by first | assumption | exact ne_true_of_eq_false (by assumption)))) (by (try dsimp only); omega) (by (try dsimp only); omega) (by (try dsimp only); omega) (by (try dsimp only); omega)
  )
end Mine
end
section
open PySem PySem.W PySem.Calls PyProof.Rows
namespace Mine
set_option maxRecDepth 100000
set_option maxHeartbeats 8000000

noncomputable def fle (a b : UInt64) : Bool := Float64.cmp a b == some Ordering.lt || Float64.cmp a b == some Ordering.eq
noncomputable def hlsS (r g b : UInt64) : UInt64 := bif fle (Float64.div (Float64.add (mx3 r g b) (mn3 r g b)) 4611686018427387904) 4602678819172646912 then Float64.div (Float64.sub (mx3 r g b) (mn3 r g b)) (Float64.add (mx3 r g b) (mn3 r g b)) else Float64.div (Float64.sub (mx3 r g b) (mn3 r g b)) (Float64.sub (Float64.sub 4611686018427387904 (mx3 r g b)) (mn3 r g b))
noncomputable def hlsF (r g b : UInt64) : UInt64 × UInt64 := bif feq (mn3 r g b) (mx3 r g b) then (0, 0) else (hueF r g b (mx3 r g b) (Float64.sub (mx3 r g b) (mn3 r g b)), hlsS r g b)

theorem hls_call {w : World} {mean : ExcName → Option Value} {mg mb : Str → Option Value} {dp un : Nat} {fr : Option (List Env)} {gd : Option (List Code)} {E : Value → Shared → Prop} {s : Shared} {Q : Value → Shared → Prop} {r g b : UInt64} {t1 t2 t3 : Tok}
    (X : (Mine.hd.heap_39 w.params).In s.heap) (T : Top Mine.hd.view_39 LS mean mg mb s.heap) (R : dp + 1 < recursionLimit)
    (hz : feq (mn3 r g b) (mx3 r g b) = false → Float64.isZero (Float64.sub (mx3 r g b) (mn3 r g b)) = false ∧ (bif fle (Float64.div (Float64.add (mx3 r g b) (mn3 r g b)) 4611686018427387904) 4602678819172646912 then Float64.isZero (Float64.add (mx3 r g b) (mn3 r g b)) else Float64.isZero (Float64.sub (Float64.sub 4611686018427387904 (mx3 r g b)) (mn3 r g b))) = false)
    (hQ : ∀ a h' (tk' u1 u2 : Nat) z u3, Ext s.heap h' → IsTup h' a #[.float (hlsF r g b).1 u1, .float z u3, .float (hlsF r g b).2 u2] → s.toks < u1 → u1 < tk' → s.toks < u2 → u2 < tk' → Q (.ref a) { s with heap := h', toks := tk' }) :
    wpAny (model PySem.Challenge.rw_ox0037_01.row.prog w) (AA dp un fr gd) (call (.ref 152) [.float r t1, .float g t2, .float b t3]) Q E s := by
  w_on
  w_strict (
  revert X T R hQ
  k_fill
  intro X T R hQ
  have hR : (AA dp un fr gd).depth < recursionLimit := by dsimp only; omega
  have hQ1 : feq (mn3 r g b) (mx3 r g b) = true → ∀ a h' (tk' u1 u2 : Nat) z u3, Ext s.heap h' → IsTup h' a #[.float 0 u1, .float z u3, .float 0 u2] → s.toks < u1 → u1 < tk' → s.toks < u2 → u2 < tk' → Q (.ref a) { s with heap := h', toks := tk' } := by
    intro e; simpa only [hlsF, e, cond_true] using hQ
  have hQ2 : feq (mn3 r g b) (mx3 r g b) = false → ∀ a h' (tk' u1 u2 : Nat) z u3 x y, Ext s.heap h' → IsTup h' a #[.float x u1, .float z u3, .float y u2] → x = hueF r g b (mx3 r g b) (Float64.sub (mx3 r g b) (mn3 r g b)) → y = hlsS r g b → s.toks < u1 → u1 < tk' → s.toks < u2 → u2 < tk' → Q (.ref a) { s with heap := h', toks := tk' } := by
    intro e a h' tk' u1 u2 z u3 x y x1 x2 x3 x4; subst x3; subst x4; exact hQ a h' tk' u1 u2 z u3 x1 (by simpa only [hlsF, e, cond_false] using x2)
  clear hQ
  by_cases he : (Float64.cmp (mn3 r g b) (mx3 r g b) == some Ordering.eq) = true
  · replace hQ1 := hQ1 he
    clear hQ2 hz
    refine' enter (binds := [("r", .float r t1), ("g", .float g t2), ("b", .float b t3)]) X T ?ho ?hcd ?hroom ?hb ?hl ?_ ?c2 ?c3 ?c4 ?c5
    case ho => k_is
    case hcd => k_is
    case hroom => exact hR
    case hb => exact BindsTo.of_eq rfl
    case hl => exact locs rfl
    case c2 => exact rfl
    case c3 => exact rfl
    case c4 => exact rfl
    case c5 => decide
    intro L' h' F' N'
    (try dsimp only)
    (try k_fold)
    repeat' (first
        | (k_unfold; (try dsimp only))
        | (k_end; kc_close)
        | ((with_reducible show wpAny _ _ (execs [] _) _ _ _); (fail_if_success (fail_if_success k_gentoks)); refine gen_tk ?_; intro zt zT; (try dsimp only [List.length_cons, List.length_nil] at zT))
        | ((with_reducible show wpAny _ _ (execs (_ :: _) _) _ _ _); (fail_if_success (fail_if_success k_gentoks)); refine gen_tk ?_; intro zt zT; (try dsimp only [List.length_cons, List.length_nil] at zT))
        | (first | with_reducible refine ite_pos (by with_reducible assumption) ?_ | with_reducible refine ite_neg (by with_reducible assumption) ?_)
        | ((with_reducible show wpAny _ _ (binaryOp _ (Value.float _ _) (Value.float _ _)) _ _ _); with_reducible refine div_nz (by with_reducible assumption) ?_; (try dsimp only))
        | ((with_reducible show wpAny _ _ (call (Value.builtin "min") [Value.float _ _, Value.float _ _, Value.float _ _]) _ _ _); (rename News _ _ _ _ => zN2); (rename Fr _ _ _ _ => zF2); refine min3_N rfl zF2 zN2 ?_; clear zN2 zF2; intro _ _ _ _ _ zT; (try dsimp only at zT); (try dsimp only))
        | ((with_reducible show wpAny _ _ (call (Value.builtin "max") [Value.float _ _, Value.float _ _, Value.float _ _]) _ _ _); (rename News _ _ _ _ => zN2); (rename Fr _ _ _ _ => zF2); refine max3_N rfl zF2 zN2 ?_; clear zN2 zF2; intro _ _ _ _ _ zT; (try dsimp only at zT); (try dsimp only))
        | walk1
        | (dsimp only; walk1)
        | (leave1; (try dsimp only))
        | fail "no step")
    all_goals (dsimp only; dsimp only [qk])
    all_goals exact hQ1 _ _ _ _ _ _ _ (Fr.keep (by assumption)) (News.isTup (by assumption) (by k_mem)) (by (try dsimp only); omega) (by (try dsimp only); omega) (by (try dsimp only); omega) (by (try dsimp only); omega)
  · replace hQ2 := hQ2 (by simpa [feq] using he)
    obtain ⟨hz2, hz3⟩ := hz (by simpa [feq] using he)
    replace hz2 : ¬ Float64.isZero (Float64.sub (mx3 r g b) (mn3 r g b)) = true := by simp [hz2]
    clear hQ1 hz
    by_cases hl : (Float64.cmp (Float64.div (Float64.add (mx3 r g b) (mn3 r g b)) 4611686018427387904) 4602678819172646912 == some Ordering.lt || Float64.cmp (Float64.div (Float64.add (mx3 r g b) (mn3 r g b)) 4611686018427387904) 4602678819172646912 == some Ordering.eq) = true
    · have hf : fle (Float64.div (Float64.add (mx3 r g b) (mn3 r g b)) 4611686018427387904) 4602678819172646912 = true := hl
      replace hz3 : ¬ Float64.isZero (Float64.add (mx3 r g b) (mn3 r g b)) = true := by simpa [hf] using hz3
      have hs : Float64.div (Float64.sub (mx3 r g b) (mn3 r g b)) (Float64.add (mx3 r g b) (mn3 r g b)) = hlsS r g b := by simp only [hlsS, hf, cond_true]
      clear hf
      refine' enter (binds := [("r", .float r t1), ("g", .float g t2), ("b", .float b t3)]) X T ?ho ?hcd ?hroom ?hb ?hl ?_ ?c2 ?c3 ?c4 ?c5
      case ho => k_is
      case hcd => k_is
      case hroom => exact hR
      case hb => exact BindsTo.of_eq rfl
      case hl => exact locs rfl
      case c2 => exact rfl
      case c3 => exact rfl
      case c4 => exact rfl
      case c5 => decide
      intro L' h' F' N'
      (try dsimp only)
      (try k_fold)
      repeat' (first
          | (k_unfold; (try dsimp only))
          | (k_end; kc_close)
          | ((with_reducible show wpAny _ _ (execs [] _) _ _ _); (fail_if_success (fail_if_success k_gentoks)); refine gen_tk ?_; intro zt zT; (try dsimp only [List.length_cons, List.length_nil] at zT))
          | ((with_reducible show wpAny _ _ (execs (_ :: _) _) _ _ _); (fail_if_success (fail_if_success k_gentoks)); refine gen_tk ?_; intro zt zT; (try dsimp only [List.length_cons, List.length_nil] at zT))
          | (first | with_reducible refine ite_pos (by with_reducible assumption) ?_ | with_reducible refine ite_neg (by with_reducible assumption) ?_)
          | ((with_reducible show wpAny _ _ (binaryOp _ (Value.float _ _) (Value.float _ _)) _ _ _); with_reducible refine div_nz (by with_reducible assumption) ?_; (try dsimp only))
          | ((with_reducible show wpAny _ _ (call (Value.builtin "min") [Value.float _ _, Value.float _ _, Value.float _ _]) _ _ _); (rename News _ _ _ _ => zN2); (rename Fr _ _ _ _ => zF2); refine min3_N rfl zF2 zN2 ?_; clear zN2 zF2; intro _ _ _ _ _ zT; (try dsimp only at zT); (try dsimp only))
          | ((with_reducible show wpAny _ _ (call (Value.builtin "max") [Value.float _ _, Value.float _ _, Value.float _ _]) _ _ _); (rename News _ _ _ _ => zN2); (rename Fr _ _ _ _ => zF2); refine max3_N rfl zF2 zN2 ?_; clear zN2 zF2; intro _ _ _ _ _ zT; (try dsimp only at zT); (try dsimp only))
          | walk1
          | (dsimp only; walk1)
          | (leave1; (try dsimp only))
          | fail "no step")
      all_goals (dsimp only; dsimp only [qk])
      all_goals exact hQ2 _ _ _ _ _ _ _ _ _ (Fr.keep (by assumption)) (News.isTup (by assumption) (by k_mem)) (by first | exact Eq.symm (hue1 (by assumption)) | exact Eq.symm (hue2 (r := r) (g := g) (M := mx3 r g b) (by first | assumption | exact ne_true_of_eq_false (by assumption)) (by assumption)) | exact Eq.symm (hue3 (r := r) (g := g) (M := mx3 r g b) (by first | assumption | exact ne_true_of_eq_false (by assumption)) (by first | assumption | exact ne_true_of_eq_false (by assumption)))) (by assumption) (by (try dsimp only); omega) (by (try dsimp only); omega) (by (try dsimp only); omega) (by (try dsimp only); omega)
    · have hf : fle (Float64.div (Float64.add (mx3 r g b) (mn3 r g b)) 4611686018427387904) 4602678819172646912 = false := eq_false_of_ne_true hl
      replace hz3 : ¬ Float64.isZero (Float64.sub (Float64.sub 4611686018427387904 (mx3 r g b)) (mn3 r g b)) = true := by simpa [hf] using hz3
      have hs : Float64.div (Float64.sub (mx3 r g b) (mn3 r g b)) (Float64.sub (Float64.sub 4611686018427387904 (mx3 r g b)) (mn3 r g b)) = hlsS r g b := by simp only [hlsS, hf, cond_false]
      clear hf
      refine' enter (binds := [("r", .float r t1), ("g", .float g t2), ("b", .float b t3)]) X T ?ho ?hcd ?hroom ?hb ?hl ?_ ?c2 ?c3 ?c4 ?c5
      case ho => k_is
      case hcd => k_is
      case hroom => exact hR
      case hb => exact BindsTo.of_eq rfl
      case hl => exact locs rfl
      case c2 => exact rfl
      case c3 => exact rfl
      case c4 => exact rfl
      case c5 => decide
      intro L' h' F' N'
      (try dsimp only)
      (try k_fold)
      repeat' (first
          | (k_unfold; (try dsimp only))
          | (k_end; kc_close)
          | ((with_reducible show wpAny _ _ (execs [] _) _ _ _); (fail_if_success (fail_if_success k_gentoks)); refine gen_tk ?_; intro zt zT; (try dsimp only [List.length_cons, List.length_nil] at zT))
          | ((with_reducible show wpAny _ _ (execs (_ :: _) _) _ _ _); (fail_if_success (fail_if_success k_gentoks)); refine gen_tk ?_; intro zt zT; (try dsimp only [List.length_cons, List.length_nil] at zT))
          | (first | with_reducible refine ite_pos (by with_reducible assumption) ?_ | with_reducible refine ite_neg (by with_reducible assumption) ?_)
          | ((with_reducible show wpAny _ _ (binaryOp _ (Value.float _ _) (Value.float _ _)) _ _ _); with_reducible refine div_nz (by with_reducible assumption) ?_; (try dsimp only))
          | ((with_reducible show wpAny _ _ (call (Value.builtin "min") [Value.float _ _, Value.float _ _, Value.float _ _]) _ _ _); (rename News _ _ _ _ => zN2); (rename Fr _ _ _ _ => zF2); refine min3_N rfl zF2 zN2 ?_; clear zN2 zF2; intro _ _ _ _ _ zT; (try dsimp only at zT); (try dsimp only))
          | ((with_reducible show wpAny _ _ (call (Value.builtin "max") [Value.float _ _, Value.float _ _, Value.float _ _]) _ _ _); (rename News _ _ _ _ => zN2); (rename Fr _ _ _ _ => zF2); refine max3_N rfl zF2 zN2 ?_; clear zN2 zF2; intro _ _ _ _ _ zT; (try dsimp only at zT); (try dsimp only))
          | walk1
          | (dsimp only; walk1)
          | (leave1; (try dsimp only))
          | fail "no step")
      all_goals (dsimp only; dsimp only [qk])
      all_goals exact hQ2 _ _ _ _ _ _ _ _ _ (Fr.keep (by assumption)) (News.isTup (by assumption) (by k_mem)) (by first | exact Eq.symm (hue1 (by assumption)) | exact Eq.symm (hue2 (r := r) (g := g) (M := mx3 r g b) (by first | assumption | exact ne_true_of_eq_false (by assumption)) (by assumption)) | exact Eq.symm (hue3 (r := r) (g := g) (M := mx3 r g b) (by first | assumption | exact ne_true_of_eq_false (by assumption)) (by first | assumption | exact ne_true_of_eq_false (by assumption)))) (by assumption) (by (try dsimp only); omega) (by (try dsimp only); omega) (by (try dsimp only); omega) (by (try dsimp only); omega)
  )
end Mine
end
section
open PySem PySem.W PySem.Calls PyProof.Rows
namespace Mine
set_option maxRecDepth 100000
set_option maxHeartbeats 8000000

noncomputable def q64 (n : Int) : UInt64 := Float64.ofFrac (decide (n < 0) != decide ((64 : Int) < 0)) n.natAbs (64 : Int).natAbs
theorem div64 {prog : Program} {w : World} {A : Around} {E : Value → Shared → Prop} {s : Shared} {Q : Value → Shared → Prop} {n : Int} {t u : Tok} (hA : A.handled = none) (h0 : 0 ≤ n) (h1 : n ≤ 64)
    (h : Q (.float (q64 n) s.toks) { s with toks := s.toks + 1 }) : wpAny (model prog w) A (binaryOp .Div (.int n t) (.int 64 u)) Q E s :=
  Flt.div_ii_fits hA (by have : (64 : Nat) < 2 ^ 1023 := by decide +kernel
                         omega) (fun h => by cases h) (fun _ _ => h)

noncomputable def hsvZ (r g b : UInt64) : Prop := feq (mn3 r g b) (mx3 r g b) = false → Float64.isZero (mx3 r g b) = false ∧ Float64.isZero (Float64.sub (mx3 r g b) (mn3 r g b)) = false
noncomputable def hlsZ (r g b : UInt64) : Prop := feq (mn3 r g b) (mx3 r g b) = false → Float64.isZero (Float64.sub (mx3 r g b) (mn3 r g b)) = false ∧ (bif fle (Float64.div (Float64.add (mx3 r g b) (mn3 r g b)) 4611686018427387904) 4602678819172646912 then Float64.isZero (Float64.add (mx3 r g b) (mn3 r g b)) else Float64.isZero (Float64.sub (Float64.sub 4611686018427387904 (mx3 r g b)) (mn3 r g b))) = false
theorem lhsv_call {w : World} {mean : ExcName → Option Value} {mg mb : Str → Option Value} {dp un : Nat} {fr : Option (List Env)} {gd : Option (List Code)} {E : Value → Shared → Prop} {s : Shared} {Q : Value → Shared → Prop} {a : Addr} {r g b : Int} {t1 t2 t3 : Tok}
    (X : (Mine.hd.heap_39 w.params).In s.heap) (T : Top Mine.hd.view_39 LS mean mg mb s.heap) (R : dp + 2 < recursionLimit) (hA : IsTup s.heap a #[.int r t1, .int g t2, .int b t3]) (hr : 0 ≤ r ∧ r ≤ 64) (hg : 0 ≤ g ∧ g ≤ 64) (hb : 0 ≤ b ∧ b ≤ 64)
    (hz : hsvZ (q64 r) (q64 g) (q64 b))
    (hQ : ∀ a h' (tk' u1 u2 : Nat), Ext s.heap h' → IsTup h' a #[.float (hsvF (q64 r) (q64 g) (q64 b)).1 u1, .float (hsvF (q64 r) (q64 g) (q64 b)).2 u2] → s.toks < u1 → u1 < tk' → s.toks < u2 → u2 < tk' → s.heap.get? a = none → Q (.ref a) { s with heap := h', toks := tk' }) :
    wpAny (model PySem.Challenge.rw_ox0037_01.row.prog w) (AA dp un fr gd) (call (.ref 173) [.ref a]) Q E s := by
  w_on
  w_strict (
  revert X T R hQ
  k_fill
  intro X T R hQ
  obtain ⟨hr0, hr1⟩ := hr
  obtain ⟨hg0, hg1⟩ := hg
  obtain ⟨hb0, hb1⟩ := hb
  have hR : (AA dp un fr gd).depth < recursionLimit := by dsimp only; omega
  refine' enter (binds := [("spot", .ref a)]) X T ?ho ?hcd ?hroom ?hb ?hl ?_ ?c2 ?c3 ?c4 ?c5
  case ho => k_is
  case hcd => k_is
  case hroom => exact hR
  case hb => exact BindsTo.of_eq rfl
  case hl => exact locs rfl
  case c2 => exact rfl
  case c3 => exact rfl
  case c4 => exact rfl
  case c5 => decide
  intro L' h' F' N'
  (try dsimp only)
  (try k_fold)
  repeat' (first
      | (k_unfold; (try dsimp only))
      | (k_end; kc_close)
      | ((with_reducible show wpAny _ _ (call (Value.ref 152) _) _ _ _); (rename News _ _ _ _ => zN); (rename Fr _ _ _ _ => zF); k_dflt (refine' hls_call (Frag.In.keeps (by assumption) (Fr.keep zF)) (Top.keeps (by assumption) (Fr.keep zF)) ?r ?z ?_; (case r => (show _ + 1 + 1 < _; omega)); (case z => assumption)); intro za zh zt zu1 zu2 zz zu3 ze zT zU1 zU2 zU3 zU4; (try dsimp only at zU1); (try dsimp only at zU2); (try dsimp only at zU3); (try dsimp only at zU4); (have zF2 := frExt zF ze); (have zN2 := newsExt zN ze); clear zN zF; (try dsimp only))
      | ((with_reducible show wpAny _ _ (call (Value.ref 159) _) _ _ _); (rename News _ _ _ _ => zN); (rename Fr _ _ _ _ => zF); k_dflt (refine' hsv_call (Frag.In.keeps (by assumption) (Fr.keep zF)) (Top.keeps (by assumption) (Fr.keep zF)) ?r ?z ?_; (case r => (show _ + 1 + 1 < _; omega)); (case z => assumption)); intro za zh zt zu1 zu2 zz zu3 ze zT zU1 zU2 zU3 zU4; (try dsimp only at zU1); (try dsimp only at zU2); (try dsimp only at zU3); (try dsimp only at zU4); (have zF2 := frExt zF ze); (have zN2 := newsExt zN ze); clear zN zF; (try dsimp only))
      | ((with_reducible show wpAny _ _ (execs [] _) _ _ _); (fail_if_success (fail_if_success k_gentoks)); refine gen_tk ?_; intro zt zT; (try dsimp only [List.length_cons, List.length_nil] at zT))
      | ((with_reducible show wpAny _ _ (execs (_ :: _) _) _ _ _); (fail_if_success (fail_if_success k_gentoks)); refine gen_tk ?_; intro zt zT; (try dsimp only [List.length_cons, List.length_nil] at zT))
      | ((with_reducible show wpAny _ _ (assign (Expr.Tuple _ _ _) _ (Value.ref _)) _ _ _); k_dflt (refine' unpackN_ ?k1 ?k2 ?k3 ?k4 ?k5 ?k6 ?_; (case k1 => k_asm); (case k2 => k_asm); (case k3 => first | (with_reducible assumption) | exact IsTup.keeps (by assumption) (Fr.keep (by k_asm))); (case k4 => exact rfl); (case k5 => exact rfl); (case k6 => exact rfl); k_whole); intro zh zF2 zN2; (try k_sweep))
      | ((with_reducible show wpAny _ _ (binaryOp _ (Value.int _ _) (Value.int _ _)) _ _ _); with_reducible refine div64 rfl (by with_reducible assumption) (by with_reducible assumption) ?_; (try dsimp only))
      | walk1
      | (dsimp only; walk1)
      | (leave1; (try dsimp only))
      | fail "no step")
  all_goals (dsimp only; dsimp only [qk])
  all_goals exact hQ _ _ _ _ _ (Fr.keep (by assumption)) (News.isTup (by assumption) (by k_mem)) (by (try dsimp only); omega) (by (try dsimp only); omega) (by (try dsimp only); omega) (by (try dsimp only); omega) (News.fresh (by assumption) (by k_mem))
  )
theorem lhls_call {w : World} {mean : ExcName → Option Value} {mg mb : Str → Option Value} {dp un : Nat} {fr : Option (List Env)} {gd : Option (List Code)} {E : Value → Shared → Prop} {s : Shared} {Q : Value → Shared → Prop} {a : Addr} {r g b : Int} {t1 t2 t3 : Tok}
    (X : (Mine.hd.heap_39 w.params).In s.heap) (T : Top Mine.hd.view_39 LS mean mg mb s.heap) (R : dp + 2 < recursionLimit) (hA : IsTup s.heap a #[.int r t1, .int g t2, .int b t3]) (hr : 0 ≤ r ∧ r ≤ 64) (hg : 0 ≤ g ∧ g ≤ 64) (hb : 0 ≤ b ∧ b ≤ 64)
    (hz : hlsZ (q64 r) (q64 g) (q64 b))
    (hQ : ∀ a h' (tk' u1 u2 : Nat), Ext s.heap h' → IsTup h' a #[.float (hlsF (q64 r) (q64 g) (q64 b)).1 u1, .float (hlsF (q64 r) (q64 g) (q64 b)).2 u2] → s.toks < u1 → u1 < tk' → s.toks < u2 → u2 < tk' → s.heap.get? a = none → Q (.ref a) { s with heap := h', toks := tk' }) :
    wpAny (model PySem.Challenge.rw_ox0037_01.row.prog w) (AA dp un fr gd) (call (.ref 180) [.ref a]) Q E s := by
  w_on
  w_strict (
  revert X T R hQ
  k_fill
  intro X T R hQ
  obtain ⟨hr0, hr1⟩ := hr
  obtain ⟨hg0, hg1⟩ := hg
  obtain ⟨hb0, hb1⟩ := hb
  have hR : (AA dp un fr gd).depth < recursionLimit := by dsimp only; omega
  refine' enter (binds := [("spot", .ref a)]) X T ?ho ?hcd ?hroom ?hb ?hl ?_ ?c2 ?c3 ?c4 ?c5
  case ho => k_is
  case hcd => k_is
  case hroom => exact hR
  case hb => exact BindsTo.of_eq rfl
  case hl => exact locs rfl
  case c2 => exact rfl
  case c3 => exact rfl
  case c4 => exact rfl
  case c5 => decide
  intro L' h' F' N'
  (try dsimp only)
  (try k_fold)
  repeat' (first
      | (k_unfold; (try dsimp only))
      | (k_end; kc_close)
      | ((with_reducible show wpAny _ _ (call (Value.ref 152) _) _ _ _); (rename News _ _ _ _ => zN); (rename Fr _ _ _ _ => zF); k_dflt (refine' hls_call (Frag.In.keeps (by assumption) (Fr.keep zF)) (Top.keeps (by assumption) (Fr.keep zF)) ?r ?z ?_; (case r => (show _ + 1 + 1 < _; omega)); (case z => assumption)); intro za zh zt zu1 zu2 zz zu3 ze zT zU1 zU2 zU3 zU4; (try dsimp only at zU1); (try dsimp only at zU2); (try dsimp only at zU3); (try dsimp only at zU4); (have zF2 := frExt zF ze); (have zN2 := newsExt zN ze); clear zN zF; (try dsimp only))
      | ((with_reducible show wpAny _ _ (call (Value.ref 159) _) _ _ _); (rename News _ _ _ _ => zN); (rename Fr _ _ _ _ => zF); k_dflt (refine' hsv_call (Frag.In.keeps (by assumption) (Fr.keep zF)) (Top.keeps (by assumption) (Fr.keep zF)) ?r ?z ?_; (case r => (show _ + 1 + 1 < _; omega)); (case z => assumption)); intro za zh zt zu1 zu2 zz zu3 ze zT zU1 zU2 zU3 zU4; (try dsimp only at zU1); (try dsimp only at zU2); (try dsimp only at zU3); (try dsimp only at zU4); (have zF2 := frExt zF ze); (have zN2 := newsExt zN ze); clear zN zF; (try dsimp only))
      | ((with_reducible show wpAny _ _ (execs [] _) _ _ _); (fail_if_success (fail_if_success k_gentoks)); refine gen_tk ?_; intro zt zT; (try dsimp only [List.length_cons, List.length_nil] at zT))
      | ((with_reducible show wpAny _ _ (execs (_ :: _) _) _ _ _); (fail_if_success (fail_if_success k_gentoks)); refine gen_tk ?_; intro zt zT; (try dsimp only [List.length_cons, List.length_nil] at zT))
      | ((with_reducible show wpAny _ _ (assign (Expr.Tuple _ _ _) _ (Value.ref _)) _ _ _); k_dflt (refine' unpackN_ ?k1 ?k2 ?k3 ?k4 ?k5 ?k6 ?_; (case k1 => k_asm); (case k2 => k_asm); (case k3 => first | (with_reducible assumption) | exact IsTup.keeps (by assumption) (Fr.keep (by k_asm))); (case k4 => exact rfl); (case k5 => exact rfl); (case k6 => exact rfl); k_whole); intro zh zF2 zN2; (try k_sweep))
      | ((with_reducible show wpAny _ _ (binaryOp _ (Value.int _ _) (Value.int _ _)) _ _ _); with_reducible refine div64 rfl (by with_reducible assumption) (by with_reducible assumption) ?_; (try dsimp only))
      | walk1
      | (dsimp only; walk1)
      | (leave1; (try dsimp only))
      | fail "no step")
  all_goals (dsimp only; dsimp only [qk])
  all_goals exact hQ _ _ _ _ _ (Fr.keep (by assumption)) (News.isTup (by assumption) (by k_mem)) (by (try dsimp only); omega) (by (try dsimp only); omega) (by (try dsimp only); omega) (by (try dsimp only); omega) (News.fresh (by assumption) (by k_mem))
  )

noncomputable def n64 (n : Int) : UInt64 := Float64.sub (Float64.ofInt 1) (q64 n)
theorem lneg_call {w : World} {mean : ExcName → Option Value} {mg mb : Str → Option Value} {dp un : Nat} {fr : Option (List Env)} {gd : Option (List Code)} {E : Value → Shared → Prop} {s : Shared} {Q : Value → Shared → Prop} {a : Addr} {r g b : Int} {t1 t2 t3 : Tok}
    (X : (Mine.hd.heap_39 w.params).In s.heap) (T : Top Mine.hd.view_39 LS mean mg mb s.heap) (R : dp + 2 < recursionLimit) (hA : IsTup s.heap a #[.int r t1, .int g t2, .int b t3]) (hr : 0 ≤ r ∧ r ≤ 64) (hg : 0 ≤ g ∧ g ≤ 64) (hb : 0 ≤ b ∧ b ≤ 64)
    (hz : hlsZ (n64 r) (n64 g) (n64 b))
    (hQ : ∀ a h' (tk' u1 u2 : Nat), Ext s.heap h' → IsTup h' a #[.float (hlsF (n64 r) (n64 g) (n64 b)).1 u1, .float (hlsF (n64 r) (n64 g) (n64 b)).2 u2] → s.toks < u1 → u1 < tk' → s.toks < u2 → u2 < tk' → s.heap.get? a = none → Q (.ref a) { s with heap := h', toks := tk' }) :
    wpAny (model PySem.Challenge.rw_ox0037_01.row.prog w) (AA dp un fr gd) (call (.ref 187) [.ref a]) Q E s := by
  w_on
  w_strict (
  revert X T R hQ
  k_fill
  intro X T R hQ
  obtain ⟨hr0, hr1⟩ := hr
  obtain ⟨hg0, hg1⟩ := hg
  obtain ⟨hb0, hb1⟩ := hb
  have hR : (AA dp un fr gd).depth < recursionLimit := by dsimp only; omega
  refine' enter (binds := [("spot", .ref a)]) X T ?ho ?hcd ?hroom ?hb ?hl ?_ ?c2 ?c3 ?c4 ?c5
  case ho => k_is
  case hcd => k_is
  case hroom => exact hR
  case hb => exact BindsTo.of_eq rfl
  case hl => exact locs rfl
  case c2 => exact rfl
  case c3 => exact rfl
  case c4 => exact rfl
  case c5 => decide
  intro L' h' F' N'
  (try dsimp only)
  (try k_fold)
  repeat' (first
      | (k_unfold; (try dsimp only))
      | (k_end; kc_close)
      | ((with_reducible show wpAny _ _ (call (Value.ref 152) _) _ _ _); (rename News _ _ _ _ => zN); (rename Fr _ _ _ _ => zF); k_dflt (refine' hls_call (Frag.In.keeps (by assumption) (Fr.keep zF)) (Top.keeps (by assumption) (Fr.keep zF)) ?r ?z ?_; (case r => (show _ + 1 + 1 < _; omega)); (case z => assumption)); intro za zh zt zu1 zu2 zz zu3 ze zT zU1 zU2 zU3 zU4; (try dsimp only at zU1); (try dsimp only at zU2); (try dsimp only at zU3); (try dsimp only at zU4); (have zF2 := frExt zF ze); (have zN2 := newsExt zN ze); clear zN zF; (try dsimp only))
      | ((with_reducible show wpAny _ _ (call (Value.ref 159) _) _ _ _); (rename News _ _ _ _ => zN); (rename Fr _ _ _ _ => zF); k_dflt (refine' hsv_call (Frag.In.keeps (by assumption) (Fr.keep zF)) (Top.keeps (by assumption) (Fr.keep zF)) ?r ?z ?_; (case r => (show _ + 1 + 1 < _; omega)); (case z => assumption)); intro za zh zt zu1 zu2 zz zu3 ze zT zU1 zU2 zU3 zU4; (try dsimp only at zU1); (try dsimp only at zU2); (try dsimp only at zU3); (try dsimp only at zU4); (have zF2 := frExt zF ze); (have zN2 := newsExt zN ze); clear zN zF; (try dsimp only))
      | ((with_reducible show wpAny _ _ (execs [] _) _ _ _); (fail_if_success (fail_if_success k_gentoks)); refine gen_tk ?_; intro zt zT; (try dsimp only [List.length_cons, List.length_nil] at zT))
      | ((with_reducible show wpAny _ _ (execs (_ :: _) _) _ _ _); (fail_if_success (fail_if_success k_gentoks)); refine gen_tk ?_; intro zt zT; (try dsimp only [List.length_cons, List.length_nil] at zT))
      | ((with_reducible show wpAny _ _ (assign (Expr.Tuple _ _ _) _ (Value.ref _)) _ _ _); k_dflt (refine' unpackN_ ?k1 ?k2 ?k3 ?k4 ?k5 ?k6 ?_; (case k1 => k_asm); (case k2 => k_asm); (case k3 => first | (with_reducible assumption) | exact IsTup.keeps (by assumption) (Fr.keep (by k_asm))); (case k4 => exact rfl); (case k5 => exact rfl); (case k6 => exact rfl); k_whole); intro zh zF2 zN2; (try k_sweep))
      | ((with_reducible show wpAny _ _ (binaryOp _ (Value.int _ _) (Value.int _ _)) _ _ _); with_reducible refine div64 rfl (by with_reducible assumption) (by with_reducible assumption) ?_; (try dsimp only))
      | walk1
      | (dsimp only; walk1)
      | (leave1; (try dsimp only))
      | fail "no step")
  all_goals (dsimp only; dsimp only [qk])
  all_goals exact hQ _ _ _ _ _ (Fr.keep (by assumption)) (News.isTup (by assumption) (by k_mem)) (by (try dsimp only); omega) (by (try dsimp only); omega) (by (try dsimp only); omega) (by (try dsimp only); omega) (News.fresh (by assumption) (by k_mem))
  )

end Mine
end
section
open PySem PySem.W PySem.Calls PyProof.Rows
namespace Mine
set_option maxRecDepth 100000
set_option maxHeartbeats 4000000

theorem argBest_gt (val : Nat → Int) : ∀ k, argBest (fun i j => decide (val i > val j)) k ≤ k ∧ ∀ i, i ≤ k → val i ≤ val (argBest (fun i j => decide (val i > val j)) k)
  | 0 => ⟨Nat.le_refl _, fun i hi => by have : i = 0 := by omega
                                        subst this; exact Int.le_refl _⟩
  | k + 1 => by
    obtain ⟨h1, h2⟩ := argBest_gt val k
    simp only [argBest]
    split
    · rename_i h
      have h := of_decide_eq_true h
      refine ⟨Nat.le_refl _, fun i hi => ?_⟩
      by_cases e : i = k + 1
      · subst e; exact Int.le_refl _
      · have := h2 i (by omega); omega
    · rename_i h
      have h : ¬ val (k + 1) > val (argBest (fun i j => decide (val i > val j)) k) := fun x => h (decide_eq_true x)
      refine ⟨by omega, fun i hi => ?_⟩
      by_cases e : i = k + 1
      · subst e; omega
      · exact h2 i (by omega)
theorem argBest_lt (val : Nat → Int) : ∀ k, argBest (fun i j => decide (val i < val j)) k ≤ k ∧ ∀ i, i ≤ k → val (argBest (fun i j => decide (val i < val j)) k) ≤ val i
  | 0 => ⟨Nat.le_refl _, fun i hi => by have : i = 0 := by omega
                                        subst this; exact Int.le_refl _⟩
  | k + 1 => by
    obtain ⟨h1, h2⟩ := argBest_lt val k
    simp only [argBest]
    split
    · rename_i h
      have h := of_decide_eq_true h
      refine ⟨Nat.le_refl _, fun i hi => ?_⟩
      by_cases e : i = k + 1
      · subst e; exact Int.le_refl _
      · have := h2 i (by omega); omega
    · rename_i h
      have h : ¬ val (k + 1) < val (argBest (fun i j => decide (val i < val j)) k) := fun x => h (decide_eq_true x)
      refine ⟨by omega, fun i hi => ?_⟩
      by_cases e : i = k + 1
      · subst e; omega
      · exact h2 i (by omega)

section
variable {prog : Program} {w : World} {A : Around} {E : Value → Shared → Prop} {s : Shared} {Q : Value → Shared → Prop}

theorem max_tup3 {a : Addr} {r g b : Int} {t1 t2 t3 : Tok} (hh : A.handled = none) (hT : IsTup s.heap a #[.int r t1, .int g t2, .int b t3])
    (h : ∀ h' tk t', Ext s.heap h' → Q (.int (max (max r g) b) t') { s with heap := h', toks := tk }) :
    wpAny (model prog w) A (call (.builtin "max") [.ref a]) Q E s := by
  have hT' : s.heap.IsTuple a (intItems #[(r, t1), (g, t2), (b, t3)]) := by (have e : intItems #[(r, t1), (g, t2), (b, t3)] = #[.int r t1, .int g t2, .int b t3] := by simp [intItems]); rw [e]; exact hT
  obtain ⟨ot, hot, _⟩ := id hT
  have hlt := Heap.lt_size hot
  refine call_max_walk (wpAny_pyIter_tuple hT' ?_)
  refine ⟨_, [_, a], [_], _, _, _, _, rfl, Walks.tuple (A := A.in1) hh _ a (Nat.ne_of_lt hlt) (intItems #[(r, t1), (g, t2), (b, t3)]),
    ⟨⟨_, Heap.get?_push_size _ rfl, rfl, rfl⟩, hT'.push _⟩, fun d hd => ?_, by simp [intItems], CmpOf.ints_gt (numAt #[(r, t1), (g, t2), (b, t3)]) (fun _ _ => intItems_at), fun v h' tk hP hk => ?_⟩
  · show d < (s.heap.push _).objs.size
    rw [Heap.size_push]
    rcases List.mem_cons.mp hd with rfl | hd
    · exact Nat.lt_succ_self _
    · rcases List.mem_cons.mp hd with rfl | hd
      · exact Nat.lt_succ_of_lt hlt
      · cases hd
  · have hold : Ext s.heap h' := fun d o e => by
      refine hk d o (fun hm => ?_) (Heap.get?_push_of_some _ e)
      rcases List.mem_cons.mp hm with e1 | hm
      · have := Heap.lt_size e; rw [e1] at this; exact Nat.lt_irrefl _ this
      · cases hm
    obtain ⟨t', hv⟩ := intItems_at hP
    have hsz2 : (intItems #[(r, t1), (g, t2), (b, t3)]).size - 1 = 2 := by simp [intItems]
    rw [hsz2] at hv
    obtain ⟨k1, k2⟩ := argBest_gt (numAt #[(r, t1), (g, t2), (b, t3)]) 2
    generalize argBest (fun i j => decide (numAt #[(r, t1), (g, t2), (b, t3)] i > numAt #[(r, t1), (g, t2), (b, t3)] j)) 2 = k at hv k1 k2
    have e0 := k2 0 (by omega)
    have e1 := k2 1 (by omega)
    have e2 := k2 2 (by omega)
    have e : numAt #[(r, t1), (g, t2), (b, t3)] k = max (max r g) b := by
      have : k = 0 ∨ k = 1 ∨ k = 2 := by omega
      rcases this with rfl | rfl | rfl <;> simp [numAt] at e0 e1 e2 ⊢ <;> omega
    rw [e] at hv
    rw [hv]; exact h h' tk t' hold
theorem min_tup3 {a : Addr} {r g b : Int} {t1 t2 t3 : Tok} (hh : A.handled = none) (hT : IsTup s.heap a #[.int r t1, .int g t2, .int b t3])
    (h : ∀ h' tk t', Ext s.heap h' → Q (.int (min (min r g) b) t') { s with heap := h', toks := tk }) :
    wpAny (model prog w) A (call (.builtin "min") [.ref a]) Q E s := by
  have hT' : s.heap.IsTuple a (intItems #[(r, t1), (g, t2), (b, t3)]) := by (have e : intItems #[(r, t1), (g, t2), (b, t3)] = #[.int r t1, .int g t2, .int b t3] := by simp [intItems]); rw [e]; exact hT
  obtain ⟨ot, hot, _⟩ := id hT
  have hlt := Heap.lt_size hot
  refine call_min_walk (wpAny_pyIter_tuple hT' ?_)
  refine ⟨_, [_, a], [_], _, _, _, _, rfl, Walks.tuple (A := A.in1) hh _ a (Nat.ne_of_lt hlt) (intItems #[(r, t1), (g, t2), (b, t3)]),
    ⟨⟨_, Heap.get?_push_size _ rfl, rfl, rfl⟩, hT'.push _⟩, fun d hd => ?_, by simp [intItems], CmpOf.ints_lt (numAt #[(r, t1), (g, t2), (b, t3)]) (fun _ _ => intItems_at), fun v h' tk hP hk => ?_⟩
  · show d < (s.heap.push _).objs.size
    rw [Heap.size_push]
    rcases List.mem_cons.mp hd with rfl | hd
    · exact Nat.lt_succ_self _
    · rcases List.mem_cons.mp hd with rfl | hd
      · exact Nat.lt_succ_of_lt hlt
      · cases hd
  · have hold : Ext s.heap h' := fun d o e => by
      refine hk d o (fun hm => ?_) (Heap.get?_push_of_some _ e)
      rcases List.mem_cons.mp hm with e1 | hm
      · have := Heap.lt_size e; rw [e1] at this; exact Nat.lt_irrefl _ this
      · cases hm
    obtain ⟨t', hv⟩ := intItems_at hP
    have hsz2 : (intItems #[(r, t1), (g, t2), (b, t3)]).size - 1 = 2 := by simp [intItems]
    rw [hsz2] at hv
    obtain ⟨k1, k2⟩ := argBest_lt (numAt #[(r, t1), (g, t2), (b, t3)]) 2
    generalize argBest (fun i j => decide (numAt #[(r, t1), (g, t2), (b, t3)] i < numAt #[(r, t1), (g, t2), (b, t3)] j)) 2 = k at hv k1 k2
    have e0 := k2 0 (by omega)
    have e1 := k2 1 (by omega)
    have e2 := k2 2 (by omega)
    have e : numAt #[(r, t1), (g, t2), (b, t3)] k = min (min r g) b := by
      have : k = 0 ∨ k = 1 ∨ k = 2 := by omega
      rcases this with rfl | rfl | rfl <;> simp [numAt] at e0 e1 e2 ⊢ <;> omega
    rw [e] at hv
    rw [hv]; exact h h' tk t' hold

theorem round_fin {x : UInt64} {t : Tok} (hA : A.handled = none) (hf : Float64.isFinite x = true)
    (h : Q (.int (Flt.toInt Float64.nearestOf x) s.toks) { s with toks := s.toks + 1 }) : wpAny (model prog w) A (call (.builtin "round") [.float x t]) Q E s :=
  Flt.call_round_float hA (fun c => by rw [Flt.not_nan_of_finite hf] at c; cases c) (fun c => by rw [Flt.not_inf_of_finite hf] at c; cases c) (fun _ => h)

variable {h₀ : Heap} {L : Addr} {m : Str → Option Value} {news : List (Addr × Obj)}
theorem max_tup3N {a : Addr} {r g b : Int} {t1 t2 t3 : Tok} (hh : A.handled = none) (F : Fr h₀ L s.heap m) (N : News h₀ L s.heap news) (hT : IsTup s.heap a #[.int r t1, .int g t2, .int b t3])
    (h : ∀ h' tk t', Fr h₀ L h' m → News h₀ L h' news → Q (.int (max (max r g) b) t') { s with heap := h', toks := tk }) :
    wpAny (model prog w) A (call (.builtin "max") [.ref a]) Q E s := max_tup3 hh hT fun h' tk t' e => h h' tk t' (frExt F e) (newsExt N e)
theorem min_tup3N {a : Addr} {r g b : Int} {t1 t2 t3 : Tok} (hh : A.handled = none) (F : Fr h₀ L s.heap m) (N : News h₀ L s.heap news) (hT : IsTup s.heap a #[.int r t1, .int g t2, .int b t3])
    (h : ∀ h' tk t', Fr h₀ L h' m → News h₀ L h' news → Q (.int (min (min r g) b) t') { s with heap := h', toks := tk }) :
    wpAny (model prog w) A (call (.builtin "min") [.ref a]) Q E s := min_tup3 hh hT fun h' tk t' e => h h' tk t' (frExt F e) (newsExt N e)
end
end Mine
end
section
open PySem PySem.W PySem.Calls PyProof.Rows
namespace Mine
set_option maxRecDepth 100000
set_option maxHeartbeats 8000000

noncomputable abbrev sHs (r g b : Int) := hlsF (q64 r) (q64 g) (q64 b)
noncomputable abbrev sNg (r g b : Int) := hlsF (n64 r) (n64 g) (n64 b)
noncomputable abbrev sHv (r g b : Int) := hsvF (q64 r) (q64 g) (q64 b)
noncomputable abbrev x1 (r g b : Int) := Float64.mul (Float64.mul (Float64.sub (sNg r g b).1 (sHs r g b).1) (Float64.ofInt 2520)) (Float64.ofInt 1024)
noncomputable abbrev x2 (r g b : Int) := Float64.mul (Float64.mul (sHv r g b).2 (Float64.ofInt (max (max r g) b))) (Float64.ofInt 1024)
noncomputable abbrev x3 (r g b : Int) := Float64.mul (Float64.mul (sHs r g b).2 (Float64.ofInt (max (max r g) b + min (min r g) b))) (Float64.ofInt 1024)
theorem holds_call {w : World} {mean : ExcName → Option Value} {mg mb : Str → Option Value} {dp un : Nat} {fr : Option (List Env)} {gd : Option (List Code)} {E : Value → Shared → Prop} {s : Shared} {Q : Value → Shared → Prop} {a : Addr} {r g b : Int} {t1 t2 t3 : Tok}
    (X : (Mine.hd.heap_39 w.params).In s.heap) (T : Top Mine.hd.view_39 LS mean mg mb s.heap) (R : dp + 3 < recursionLimit) (hA : IsTup s.heap a #[.int r t1, .int g t2, .int b t3]) (hr : 0 ≤ r ∧ r ≤ 64) (hg : 0 ≤ g ∧ g ≤ 64) (hb : 0 ≤ b ∧ b ≤ 64)
    (hz1 : hsvZ (q64 r) (q64 g) (q64 b)) (hz2 : hlsZ (q64 r) (q64 g) (q64 b)) (hz3 : hlsZ (n64 r) (n64 g) (n64 b))
    (f1 : Float64.isFinite (x1 r g b) = true) (f2 : Float64.isFinite (x2 r g b) = true) (f3 : Float64.isFinite (x3 r g b) = true)
    (c1 : (Float64.cmp (sNg r g b).2 (sHs r g b).2 != some Ordering.eq) = false)
    (c2 : (Flt.toInt Float64.nearestOf (x1 r g b)).fmod 2580480 = if min (min r g) b < max (max r g) b then 1290240 else 0)
    (c3 : Flt.toInt Float64.nearestOf (x2 r g b) = (max (max r g) b - min (min r g) b) * 1024)
    (c4 : (Flt.toInt Float64.nearestOf (x3 r g b) == (max (max r g) b - min (min r g) b) * 1024) = true)
    (hQ : ∀ h' tk', Ext s.heap h' → Q (.bool true) { s with heap := h', toks := tk' }) :
    wpAny (model PySem.Challenge.rw_ox0037_01.row.prog w) (AA dp un fr gd) (call (.ref 209) [.ref a]) Q E s := by
  w_on
  w_strict (
  revert X T R hQ
  k_fill
  intro X T R hQ
  have hmx : 0 ≤ max (max r g) b ∧ max (max r g) b ≤ 64 := by omega
  have hmn : 0 ≤ min (min r g) b ∧ min (min r g) b ≤ 64 := by omega
  have hR : (AA dp un fr gd).depth < recursionLimit := by dsimp only; omega
  refine' enter (binds := [("spot", .ref a)]) X T ?ho ?hcd ?hroom ?hb ?hl ?_ ?c2 ?c3 ?c4 ?c5
  case ho => k_is
  case hcd => k_is
  case hroom => exact hR
  case hb => exact BindsTo.of_eq rfl
  case hl => exact locs rfl
  case c2 => exact rfl
  case c3 => exact rfl
  case c4 => exact rfl
  case c5 => decide
  intro L' h' F' N'
  (try dsimp only)
  (try k_fold)
  repeat' (first
      | (k_unfold; (try dsimp only))
      | (k_end; kc_close)
      | ((with_reducible show wpAny _ _ (call (Value.ref 187) _) _ _ _); (rename News _ _ _ _ => zN); (rename Fr _ _ _ _ => zF); k_dflt (refine' lneg_call (Frag.In.keeps (by assumption) (Fr.keep zF)) (Top.keeps (by assumption) (Fr.keep zF)) ?r ?t ?b1 ?b2 ?b3 ?z ?_; (case r => (show _ + 1 + 2 < _; omega)); (case t => exact IsTup.keeps (by assumption) (Fr.keep zF)); (case b1 => assumption); (case b2 => assumption); (case b3 => assumption); (case z => assumption)); intro za zh zt zu1 zu2 ze zT _ _ _ _ _; (have zF2 := frExt zF ze); (have zN2 := newsExt zN ze); clear zN zF; (try dsimp only))
      | ((with_reducible show wpAny _ _ (call (Value.ref 180) _) _ _ _); (rename News _ _ _ _ => zN); (rename Fr _ _ _ _ => zF); k_dflt (refine' lhls_call (Frag.In.keeps (by assumption) (Fr.keep zF)) (Top.keeps (by assumption) (Fr.keep zF)) ?r ?t ?b1 ?b2 ?b3 ?z ?_; (case r => (show _ + 1 + 2 < _; omega)); (case t => exact IsTup.keeps (by assumption) (Fr.keep zF)); (case b1 => assumption); (case b2 => assumption); (case b3 => assumption); (case z => assumption)); intro za zh zt zu1 zu2 ze zT _ _ _ _ _; (have zF2 := frExt zF ze); (have zN2 := newsExt zN ze); clear zN zF; (try dsimp only))
      | ((with_reducible show wpAny _ _ (call (Value.ref 173) _) _ _ _); (rename News _ _ _ _ => zN); (rename Fr _ _ _ _ => zF); k_dflt (refine' lhsv_call (Frag.In.keeps (by assumption) (Fr.keep zF)) (Top.keeps (by assumption) (Fr.keep zF)) ?r ?t ?b1 ?b2 ?b3 ?z ?_; (case r => (show _ + 1 + 2 < _; omega)); (case t => exact IsTup.keeps (by assumption) (Fr.keep zF)); (case b1 => assumption); (case b2 => assumption); (case b3 => assumption); (case z => assumption)); intro za zh zt zu1 zu2 ze zT _ _ _ _ _; (have zF2 := frExt zF ze); (have zN2 := newsExt zN ze); clear zN zF; (try dsimp only))
      | ((with_reducible show wpAny _ _ (subscriptTail _ _ (Value.ref _) (Value.int _ _)) _ _ _); k_dflt (refine' item_tupleT ?t ?a ?b ?c ?d ?_; (case t => with_reducible assumption); (case a => decide); (case b => decide); (case c => rfl); (case d => rfl); k_whole))
      | ((with_reducible show wpAny _ _ (call (Value.builtin "round") [Value.float _ _]) _ _ _); refine round_fin rfl (by assumption) ?_; (try dsimp only))
      | ((with_reducible show wpAny _ _ (call (Value.builtin "min") [Value.ref _]) _ _ _); (rename News _ _ _ _ => zN); (rename Fr _ _ _ _ => zF); refine min_tup3N rfl zF zN (IsTup.keeps (by assumption) (Fr.keep zF)) ?_; clear zN zF; intro _ _ _ _ _; (try dsimp only))
      | ((with_reducible show wpAny _ _ (call (Value.builtin "max") [Value.ref _]) _ _ _); (rename News _ _ _ _ => zN); (rename Fr _ _ _ _ => zF); refine max_tup3N rfl zF zN (IsTup.keeps (by assumption) (Fr.keep zF)) ?_; clear zN zF; intro _ _ _ _ _; (try dsimp only))
      | ((with_reducible show wpAny _ _ (assign (Expr.Tuple _ _ _) _ (Value.ref _)) _ _ _); k_dflt (refine' unpackN_ ?k1 ?k2 ?k3 ?k4 ?k5 ?k6 ?_; (case k1 => k_asm); (case k2 => k_asm); (case k3 => first | (with_reducible assumption) | exact IsTup.keeps (by assumption) (Fr.keep (by k_asm))); (case k4 => exact rfl); (case k5 => exact rfl); (case k6 => exact rfl); k_whole); intro zh zF2 zN2; (try k_sweep))
      | walk1
      | (dsimp only; walk1)
      | (leave1; (try dsimp only))
      | fail "no step")
  all_goals first
    | exact absurd c3 (by with_reducible assumption)
    | exact absurd (c2.trans (if_pos (by assumption))) (by with_reducible assumption)
    | exact absurd (c2.trans (if_neg (by assumption))) (by with_reducible assumption)
    | exact Bool.noConfusion (c1.symm.trans (by with_reducible assumption))
    | ((try dsimp only); (try dsimp only [qk]); (show Q (.bool (Flt.toInt Float64.nearestOf (x3 r g b) == (max (max r g) b - min (min r g) b) * 1024)) _); rw [c4]; exact hQ _ _ (Fr.keep (by assumption)))
  )
end Mine
end
section
open PySem PySem.W PySem.Calls PyProof.Rows
namespace Mine
set_option maxRecDepth 100000
set_option maxHeartbeats 4000000
theorem enterC {prog : Program} {w : World} {A : Around} {E : Value → Shared → Prop} {s : Shared} {K : Frag} {p : Program} {loose : List Str} {mean : ExcName → Option Value} {mg mb : Str → Option Value}
    {Q : Value → Shared → Prop} {name qual : Str} {params : Arguments} {body : List Stmt} {scope : Scope} {dV kV doc pm cdv ct oc : Value} {an od : Option Addr} {osl : Array (Option Value)} {f : Addr} {args : List Value} {binds : List (Str × Value)}
    (X : K.In s.heap) (T : Top p loose mean mg mb s.heap)
    (ho : K.lookup f = some ⟨oc, od, .func (fnOf name qual params body scope dV kV doc pm an cdv ct), osl⟩) (hcd : codeIn K cdv qual = true) (hroom : A.depth < recursionLimit)
    (hbind : BindsTo s (fnOf name qual params body scope dV kV doc pm an cdv ct) ⟨args, []⟩ binds)
    (hkind : (binds.all fun y => scope.names.lookup y.1 == some .local || scope.names.lookup y.1 == some .cell) = true)
    (hnd : ((cellsFrom 0 scope.names []).map (·.1)).Nodup)
    (h : ∀ L h₁ tk cells, Fr s.heap L h₁ (bindL (envOfC qual scope L f cdv).kindOf binds fun _ => none) → News s.heap L h₁ cells →
      CellsAre (bindC (envOfC qual scope L f cdv).kindOf binds fun _ => none) (cellsFrom (L + 1) scope.names []) cells →
      wpAny (model prog w) (A.deeper (envOfC qual scope L f cdv)) (execs body (envOfC qual scope L f cdv))
        (fun fl s' => Q (match fl with | .ret v => v | _ => .none) s') (fun _ _ => False)
        { s with heap := h₁, toks := tk })
    (hco : scope.isCoroutine = false) (hgen : scope.isGenerator = false) (hk : scope.kind = .function) : wpAny (model prog w) A (call (.ref f) args) Q E s := by
  refine wpAny_call ?_
  refine codeAny_call_function hroom (X _ _ ho) rfl hco hgen rfl (codeRec_of X hcd) (hbind _ _ _ _ ?_)
  refine wpAny_newFunctionEnv_cells hk (kindsX hkind _) fun env' he s' x => ?_
  subst he
  refine ⟨T.nolimit.keeps x.toInCall.keep, codeAny_func ?_⟩
  obtain ⟨h₁, tk, rfl, _⟩ := x.done
  have hk₁ := x.toInCall.keep
  obtain ⟨cells, NC, Y⟩ := Cl.news (h₀ := s.heap) (Nat.le_refl _) fun n c hm => ⟨x.cell n c (lookup_of_mem_nodup (cellsFrom_names scope.names 0 (s.heap.objs.size + 1) [] [] rfl ▸ hnd) hm), x.above n c hm⟩
  exact wpAny_mono (h s.heap.objs.size h₁ tk cells ⟨x.toInCall.ns, hk₁, Nat.le_refl _⟩ NC Y) (fun _ _ x => x) fun _ _ x => x.elim
end Mine
end
section
open PySem PySem.W PySem.Calls PyProof.Rows
namespace Mine
set_option maxRecDepth 100000
set_option maxHeartbeats 4000000

/-- an object that no step changes: a tuple or a Mismatch -/
noncomputable def Imm (o : Obj) : Prop := (∃ items n, o.data = .seq items n) ∧ (o.cls = .type "tuple" ∨ o.cls = .ref 135)
noncomputable def TExt (h h' : Heap) : Prop := ∀ b o, Imm o → h.get? b = some o → h'.get? b = some o
noncomputable def ExtB (ws : List Addr) (h h' : Heap) : Prop := ∀ b o, b ∉ ws → h.get? b = some o → h'.get? b = some o

theorem TExt.refl (h : Heap) : TExt h h := fun _ _ _ e => e
theorem TExt.trans {a b c : Heap} (x : TExt a b) (y : TExt b c) : TExt a c := fun d o i e => y d o i (x d o i e)
theorem Ext.text {h h' : Heap} (x : Ext h h') : TExt h h' := fun b o _ e => x b o e
theorem Ext.trans {a b c : Heap} (x : Ext a b) (y : Ext b c) : Ext a c := fun d o e => y d o (x d o e)
theorem Ext.refl (h : Heap) : Ext h h := fun _ _ e => e
theorem ExtB.text {ws : List Addr} {h h' : Heap} (x : ExtB ws h h') (hw : ∀ b ∈ ws, ∀ o, h.get? b = some o → ¬ Imm o) : TExt h h' := fun b o i e =>
  x b o (fun hb => hw b hb o e i) e
theorem ExtB.trans {ws : List Addr} {a b c : Heap} (x : ExtB ws a b) (y : ExtB ws b c) : ExtB ws a c := fun d o hd e => y d o hd (x d o hd e)
theorem ExtB.mono {ws ws' : List Addr} {a b : Heap} (x : ExtB ws a b) (hs : ∀ d ∈ ws, d ∈ ws') : ExtB ws' a b := fun d o hd e => x d o (fun h => hd (hs d h)) e
theorem Ext.extB {ws : List Addr} {h h' : Heap} (x : Ext h h') : ExtB ws h h' := fun b o _ e => x b o e
theorem sameBut_extB {a : Addr} {h h' : Heap} (x : Heap.SameBut a h h') : ExtB [a] h h' := fun b o hb e => x.extBut b o (fun q => hb (by simp [q])) e

theorem imm_ne_list {o : Obj} (h : o.cls = .type "list") : ¬ Imm o := fun i => by
  rcases i.2 with q | q <;> rw [h] at q <;> simp at q
theorem imm_ne_dict {o : Obj} {es n} (h : o.data = .dict es n) : ¬ Imm o := fun i => by
  obtain ⟨⟨_, _, q⟩, _⟩ := i; rw [h] at q; cases q
theorem imm_ne_fields {o : Obj} {vs} (h : o.data = .fields vs) : ¬ Imm o := fun i => by
  obtain ⟨⟨_, _, q⟩, _⟩ := i; rw [h] at q; cases q
theorem imm_ne_cell {o : Obj} {v} (h : o.data = .cell v) : ¬ Imm o := fun i => by
  obtain ⟨⟨_, _, q⟩, _⟩ := i; rw [h] at q; cases q

theorem paired_mono {α β : Type} {F G : α → β → Prop} (h : ∀ a b, F a b → G a b) : ∀ {l₁ : List α} {l₂ : List β}, Paired F l₁ l₂ → Paired G l₁ l₂
  | _, _, .nil => .nil
  | _, _, .cons x r => .cons (h _ _ x) (paired_mono h r)

section
variable {prog : Program} {w : World} {A : Around} {E : Value → Shared → Prop} {R : Result → Shared → Prop} {s : Shared}

theorem compLoop_any {elt target iter : Expr} {ifs : List Expr} {scope : Scope} {pos : Pos} {it acc : Value} {env : Env} (I : Nat → Shared → Prop)
    (turn : ∀ n s, I n s → wpAny (model prog w) A (pyNext it) (fun r s₁ => match r with
      | none => R (.ok .next) s₁
      | some v => wpAny (model prog w) A (letOwnedTupleGo target it v) (fun _ s₁' => wpAny (model prog w) A (assign target env v) (fun _ s₂ =>
          wpAny (model prog w) A (forIn ifs true fun c r => if r = true then do let ok ← isTrue c env (eval c env); pure (ForInStep.yield ok) else pure (ForInStep.yield r)) (fun ok s₃ =>
            if ok = true then wpAny (model prog w) A (eval elt env) (fun x s₄ =>
              wpAny (model prog w) A (call (.builtin "list.append") [acc, x]) (fun _ s₅ => ∃ m, m < n ∧ I m s₅) (notedBy (model prog w) A env fun e s' => R (.error e) s') s₄) (notedBy (model prog w) A env fun e s' => R (.error e) s') s₃
            else ∃ m, m < n ∧ I m s₃) (notedBy (model prog w) A env fun e s' => R (.error e) s') s₂) (notedBy (model prog w) A env fun e s' => R (.error e) s') s₁') (notedBy (model prog w) A env fun e s' => R (.error e) s') s₁) (notedBy (model prog w) A env fun e s' => R (.error e) s') s)
    (n : Nat) (h : I n s) :
    codeAny (model prog w) A (.compLoop (.ListComp elt [⟨target, iter, ifs, 0⟩] scope pos) 0 it acc env) R s := by
  refine codeAny_loop rfl I (fun n s hI => ?_) n h
  show wpAny _ A ((compTurn (.ListComp elt [⟨target, iter, ifs, 0⟩] scope pos) 0 it acc env).onRaise (fun x => do noteFrame x env; theTreesLotGoes x)) _ _ s
  refine wpAny_noted ?_
  rw [compTurn_list]
  refine wpAny_bind (wpAny_standAt (wpAny_bind (wpAny_mono (turn n s hI) (fun r s₁ h₁ => ?_) fun _ _ h' => h')))
  cases r with
  | none => exact wpAny_pure h₁
  | some v =>
    refine wpAny_bind (wpAny_mono h₁ (fun _ s₁' h₁' => ?_) fun _ _ h' => h')
    refine wpAny_bind (wpAny_mono h₁' (fun _ s₂ h₂ => wpAny_bind (wpAny_mono h₂ (fun ok s₃ h₃ => ?_) fun _ _ h' => h')) fun _ _ h' => h')
    cases ok with
    | false => exact wpAny_pure ⟨rfl, h₃⟩
    | true =>
      exact wpAny_bind (wpAny_bind (wpAny_mono h₃ (fun x s₄ h₄ => wpAny_bind (wpAny_mono h₄ (fun _ s₅ h₅ => wpAny_pure (wpAny_pure ⟨rfl, h₅⟩)) fun _ _ h' => h')) fun _ _ h' => h'))

theorem compLoop_gen {elt target iter : Expr} {ifs : List Expr} {scope : Scope} {pos : Pos} {cenv : Env} {I D : Addr} {fp wr : List Addr} {n : Nat} {P : Nat → Value → Prop} {St : Nat → Heap → Prop} {own : List Addr}
    (W : Walks prog w A I fp wr n P St) (K : Heap → Nat → List Value → List Value → Prop) (p : Value → Bool) (hK : ∀ h h' tk tk' vs ys, K h tk vs ys → TExt h h' → tk ≤ tk' → K h' tk' vs ys) (hK0 : K s.heap s.toks [] [])
    (Fr0 : Heap → Prop) (hfr : ∀ h h', Fr0 h → (∀ b ∈ own, ∀ o, h.get? b = some o → h'.get? b = some o) → Fr0 h')
    (hown : ∀ h, Fr0 h → ∀ b ∈ own, ∀ o, h.get? b = some o → ¬ Imm o) (hwr : ∀ i h, St i h → ∀ b ∈ wr, ∀ o, h.get? b = some o → ¬ Imm o)
    (hDf : D ∉ fp) (hDo : D ∉ own) (hof : ∀ b ∈ own, b ∉ fp)
    (hst : St 0 s.heap) (hacc : s.heap.PlainList D #[]) (hf0 : Fr0 s.heap)
    (ht : ∀ i v (s : Shared) (Q : Unit → Shared → Prop) (E : Value → Shared → Prop), St (i + 1) s.heap → P i v → Q () s → wpAny (model prog w) A (letOwnedTupleGo target (.ref I) v) Q E s)
    (turn : ∀ i v (s₂ : Shared) (E' : Value → Shared → Prop), P i v → Fr0 s₂.heap → ExtB (D :: (own ++ wr)) s.heap s₂.heap → s.toks ≤ s₂.toks →
      wpAny (model prog w) A (assign target cenv v) (fun _ s₃ =>
        wpAny (model prog w) A (forIn ifs true fun c r => if r = true then do let ok ← isTrue c cenv (eval c cenv); pure (ForInStep.yield ok) else pure (ForInStep.yield r)) (fun ok s₄ =>
          ok = p v ∧ (∃ h' tk, s₄ = { s₂ with heap := h', toks := tk } ∧ ExtB own s₂.heap h' ∧ Fr0 h') ∧
          (ok = true → wpAny (model prog w) A (eval elt cenv) (fun y s₅ => (∀ vs ys, K s₄.heap s₄.toks vs ys → K s₅.heap s₅.toks (vs ++ [v]) (ys ++ [y])) ∧ Keeps s₄ s₅) E' s₄)) E' s₃) E' s₂)
    (hR : ∀ h' tk ys (vs : List Value), h'.PlainList D ys → Fr0 h' → vs.length = n → (∀ j v, vs[j]? = some v → P j v) → K h' tk (vs.filter p) ys.toList → ExtB (D :: (own ++ wr)) s.heap h' → s.toks ≤ tk →
      R (.ok .next) { s with heap := h', toks := tk })
    (hsz : n ≤ sizeLine) :
    codeAny (model prog w) A (.compLoop (.ListComp elt [⟨target, iter, ifs, 0⟩] scope pos) 0 (.ref I) (.ref D) cenv) R s := by
  have hDw : D ∉ wr := fun h => hDf (W.sub _ h)
  have how : ∀ b ∈ own, b ∉ wr := fun b hb h => hof b hb (W.sub _ h)
  refine compLoop_any
    (fun k s' => ∃ h' tk ys, ∃ vs : List Value, s' = { s with heap := h', toks := tk } ∧ St vs.length h' ∧ h'.PlainList D ys ∧ Fr0 h' ∧ (∀ j v, vs[j]? = some v → P j v) ∧
      K h' tk (vs.filter p) ys.toList ∧ ys.size ≤ vs.length ∧ vs.length ≤ n ∧ k = n + 1 - vs.length ∧ ExtB (D :: (own ++ wr)) s.heap h' ∧ s.toks ≤ tk) ?_ (n + 1)
    ⟨s.heap, s.toks, #[], [], rfl, hst, hacc, hf0, by simp, by simpa using hK0, Nat.le_refl _, Nat.zero_le _, rfl, fun _ _ _ e => e, Nat.le_refl _⟩
  rintro k s' ⟨H, tk, ys, vs, rfl, hst', hacc', hf', hP, hFs, hys, hi, rfl, hk, htk⟩
  by_cases hlt : vs.length < n
  · refine wpAny_with_toks (n := tk) (Nat.le_refl _) (W.item vs.length _ _ _ hlt hst' fun v h₁ tk₁ hPv hst₁ hk₁ hle₁ => ?_)
    have hle₁ : tk ≤ tk₁ := hle₁
    have t1 : TExt H h₁ := ExtB.text (ws := wr) (fun b o hb e => hk₁ b o hb e) (hwr _ _ hst')
    have f1 : Fr0 h₁ := hfr _ _ hf' fun b hb o e => hk₁ b o (how b hb) e
    have e1 : ExtB (D :: (own ++ wr)) s.heap h₁ := hk.trans fun b o hb e => hk₁ b o (fun q => hb (by simp [q])) e
    have a1 : h₁.PlainList D ys := hacc'.at fun o e => hk₁ _ o hDw e
    have hP' : ∀ j u, (vs ++ [v])[j]? = some u → P j u := fun j u hj => by
      rcases Nat.lt_trichotomy j vs.length with h | h | h
      · exact hP j u (by rwa [List.getElem?_append_left h] at hj)
      · subst h; simp at hj; subst hj; exact hPv
      · have hnone : (vs ++ [v])[j]? = none := List.getElem?_eq_none (by rw [List.length_append, List.length_singleton]; omega)
        rw [hnone] at hj; cases hj
    refine ht vs.length v _ _ _ hst₁ hPv (wpAny_mono (wpAny_toks_of (n := tk₁) (Nat.le_refl _) (turn vs.length v _ _ hPv f1 e1 (Nat.le_trans htk hle₁))) (fun _ s₃ h₃ => wpAny_mono (wpAny_toks_of (n := tk₁) h₃.1 h₃.2) (fun ok s₄ h₄ => ?_) fun _ _ e => e.2) fun _ _ e => e.2)
    obtain ⟨hle₄, hok, ⟨h₄, tk₄, rfl, e4, f4⟩, hel⟩ := h₄
    have hle₄ : tk₁ ≤ tk₄ := hle₄
    have t4 : TExt h₁ h₄ := ExtB.text e4 (hown _ f1)
    have a4 : h₄.PlainList D ys := a1.at fun o e => e4 _ o hDo e
    have st4 : St (vs.length + 1) h₄ := W.frame _ _ _ hst₁ fun b hb o e => e4 b o (fun q => hof b q hb) e
    have k4 : ExtB (D :: (own ++ wr)) s.heap h₄ := e1.trans (e4.mono fun d hd => by simp [hd])
    cases ok with
    | false =>
      simp only [Bool.false_eq_true, if_false]
      refine ⟨n + 1 - (vs.length + 1), by omega, h₄, tk₄, ys, vs ++ [v], rfl, by simpa using st4, a4, f4, hP', ?_, (by rw [List.length_append]; omega), (by rw [List.length_append, List.length_singleton]; exact hlt), (by rw [List.length_append, List.length_singleton]), k4, by omega⟩
      rw [List.filter_append]
      simp only [List.filter_cons, ← hok, List.filter_nil, Bool.false_eq_true, if_false, List.append_nil]
      exact hK _ _ _ _ _ _ hFs (t1.trans t4) (by omega)
    | true =>
      simp only [if_true]
      refine wpAny_mono (wpAny_toks_of (n := tk₄) (Nat.le_refl _) (hel rfl)) (fun y s₅ h₅ => ?_) fun _ _ e => e.2
      obtain ⟨hle₅, hFy, h₅, tk₅, rfl, hk₅⟩ := h₅
      have hle₅ : tk₄ ≤ tk₅ := hle₅
      have t5 : TExt h₄ h₅ := Ext.text hk₅
      have hysz : ys.size ≤ sizeLine := by omega
      have a5 : h₅.PlainList D ys := a4.at fun o e => hk₅ _ o e
      refine wpAny_list_append_plain (hsz := hysz) a5 fun h₆ hl₆ hs₆ => ?_
      have t6 : TExt h₅ h₆ := ExtB.text (sameBut_extB hs₆) fun b hb o e => by
        obtain ⟨q, hq⟩ := a5
        rw [List.mem_singleton.mp hb] at e
        rw [hq] at e; cases e
        exact imm_ne_list rfl
      refine ⟨n + 1 - (vs.length + 1), by omega, h₆, tk₅, ys.push y, vs ++ [v], rfl, ?_, hl₆, ?_, hP', ?_, (by rw [List.length_append, List.length_singleton, Array.size_push]; omega), (by rw [List.length_append, List.length_singleton]; exact hlt), (by rw [List.length_append, List.length_singleton]), ?_, by omega⟩
      · have := W.frame _ _ h₆ st4 fun b hb o e => hs₆.extBut b o (fun h => hDf (h ▸ hb)) (hk₅ b o e)
        simpa using this
      · exact hfr _ _ f4 fun b hb o e => hs₆.extBut b o (fun q => hDo (q ▸ hb)) (hk₅ b o e)
      · rw [List.filter_append]
        simp only [List.filter_cons, ← hok, List.filter_nil, if_true]
        rw [Array.toList_push]
        exact hK _ _ _ _ _ _ (hFy _ _ (hK _ _ _ _ _ _ hFs (t1.trans t4) (by show tk ≤ tk₄; omega))) t6 (Nat.le_refl _)
      · exact (k4.trans (Ext.extB hk₅)).trans ((sameBut_extB hs₆).mono fun d hd => by simp [List.mem_singleton.mp hd])
  · have hin : vs.length = n := by omega
    refine wpAny_with_toks (n := tk) (Nat.le_refl _) (W.done _ _ _ (hin ▸ hst') fun h₁ tk₁ hk₁ hle₁ => ?_)
    have hle₁ : tk ≤ tk₁ := hle₁
    have t1 : TExt H h₁ := ExtB.text (ws := wr) (fun b o hb e => hk₁ b o hb e) (hwr _ _ hst')
    exact hR h₁ tk₁ ys vs (hacc'.at fun o e => hk₁ _ o hDw e) (hfr _ _ hf' fun b hb o e => hk₁ b o (how b hb) e) hin hP (hK _ _ _ _ _ _ hFs t1 hle₁)
      (hk.trans fun b o hb e => hk₁ b o (fun q => hb (by simp [q])) e) (by omega)

/-- the relation of a comprehension whose items are told one by one -/
noncomputable def Each (F : Heap → Value → Value → Prop) (h : Heap) (_ : Nat) (vs ys : List Value) : Prop := Paired (F h) vs ys
theorem Each.keep {F : Heap → Value → Value → Prop} (hF : ∀ h h' v y, F h v y → TExt h h' → F h' v y) : ∀ h h' tk tk' vs ys, Each F h tk vs ys → TExt h h' → tk ≤ tk' → Each F h' tk' vs ys :=
  fun _ _ _ _ _ _ x e _ => paired_mono (fun _ _ q => hF _ _ _ _ q e) x
end
end Mine
end
section
open PySem PySem.W PySem.Calls PyProof.Rows
namespace Mine
set_option maxRecDepth 100000
set_option maxHeartbeats 4000000

section
variable {prog : Program} {w : World} {A : Around} {E : Value → Shared → Prop} {env : Env}

/-- what a turn of a comprehension does, in a block without cells -/
noncomputable def Turns (prog : Program) (w : World) (A : Around) (env : Env) (scope : Scope) (cl : List (Str × Addr)) (target : Expr) (ifs : List Expr) (elt : Expr) (wr : List Addr) (P : Nat → Value → Prop) (p : Value → Bool)
    (K : Heap → Nat → List Value → List Value → Prop) (s₂ : Shared) : Prop :=
  ∀ C i v (s₃ : Shared) m₃ (E' : Value → Shared → Prop), s₂.heap.objs.size ≤ C → P i v → s₃.heap.Ns C m₃ → ExtB wr s₂.heap s₃.heap → s₂.toks ≤ s₃.toks →
    wpAny (model prog w) A (assign target (compEnvC scope cl C env) v) (fun _ s₄ =>
      wpAny (model prog w) A (forIn ifs true fun c r => if r = true then do let ok ← isTrue c (compEnvC scope cl C env) (eval c (compEnvC scope cl C env)); pure (ForInStep.yield ok) else pure (ForInStep.yield r)) (fun ok s₅ =>
        ok = p v ∧ (∃ h' tk m, s₅ = { s₃ with heap := h', toks := tk } ∧ ExtB [C] s₃.heap h' ∧ h'.Ns C m) ∧
        (ok = true → wpAny (model prog w) A (eval elt (compEnvC scope cl C env)) (fun y s₆ => (∀ vs ys, K s₅.heap s₅.toks vs ys → K s₆.heap s₆.toks (vs ++ [v]) (ys ++ [y])) ∧ Keeps s₅ s₆) E' s₅)) E' s₄) E' s₃

theorem comp_block {elt target iter : Expr} {ifs : List Expr} {scope : Scope} {cl : List (Str × Addr)} {pos : Pos} {s₂ : Shared} {I : Addr} {fp wr : List Addr} {n : Nat} {P : Nat → Value → Prop}
    {St : Nat → Heap → Prop} (W : Walks prog w A I fp wr n P St) (hsz : n ≤ sizeLine) (p : Value → Bool) (K : Heap → Nat → List Value → List Value → Prop) (hK : ∀ h h' tk tk' vs ys, K h tk vs ys → TExt h h' → tk ≤ tk' → K h' tk' vs ys) (hK0 : K s₂.heap s₂.toks [] []) {RR : Value → Addr → Result → Shared → Prop}
    (hcell : ∀ y ∈ scope.names, y.2 ≠ .cell) (hkind : scope.kind = .function) (hst : St 0 s₂.heap) (hfp : ∀ b ∈ fp, b < s₂.heap.objs.size)
    (hwr : ∀ i h, St i h → ∀ b ∈ wr, ∀ o, h.get? b = some o → ¬ Imm o)
    (ht : ∀ i v (s : Shared) (Q : Unit → Shared → Prop) (E : Value → Shared → Prop), St (i + 1) s.heap → P i v → Q () s → wpAny (model prog w) A (letOwnedTupleGo target (.ref I) v) Q E s)
    (hq : Turns prog w A env scope cl target ifs elt wr P p K s₂)
    (hRR : ∀ D C h' tk m' ys (vs : List Value), s₂.heap.get? D = none → s₂.heap.get? C = none → D ≠ C → h'.Ns C m' → h'.PlainList D ys → vs.length = n → (∀ j v, vs[j]? = some v → P j v) → K h' tk (vs.filter p) ys.toList →
      ExtB wr s₂.heap h' → RR (.ref D) C (.ok .next) { s₂ with heap := h', toks := tk }) :
    wpAny (model prog w) A (newList []) (fun acc s₃ => wpAny (model prog w) A (newFunctionEnv scope env.globals cl [] env.qual none .none (some env)) (fun cenv s₄ =>
      codeAny (model prog w) A (.compStart (.ListComp elt [⟨target, iter, ifs, 0⟩] scope pos) 0 (.ref I) acc { cenv with scope := relabel scope env }) (RR acc cenv.locals) s₄) E s₃) E s₂ := by
  refine wpAny_newObj_type (wpAny_newFunctionEnv hcell (by intro y hy; simp at hy) (fun h₁ hns₁ hsb₁ => ?_) hkind)
  dsimp only at hns₁ hsb₁ ⊢
  generalize hH2 : s₂.heap.push { cls := .type "list", dict := none, data := .seq ([] : List Value).toArray } = H2 at hns₁ hsb₁ ⊢
  have hC : H2.objs.size = s₂.heap.objs.size + 1 := by rw [← hH2, Heap.size_push]
  have hDC : s₂.heap.objs.size ≠ H2.objs.size := by rw [hC]; exact Nat.ne_of_lt (Nat.lt_succ_self _)
  have hCle : s₂.heap.objs.size ≤ H2.objs.size := by rw [hC]; exact Nat.le_succ _
  have below : ∀ b, b < s₂.heap.objs.size → b ≠ H2.objs.size ∧ b ≠ s₂.heap.objs.size := fun b hb => ⟨by rw [hC]; exact Nat.ne_of_lt (Nat.lt_succ_of_lt hb), Nat.ne_of_lt hb⟩
  have hDf : s₂.heap.objs.size ∉ fp := fun hm => Nat.lt_irrefl _ (hfp _ hm)
  have hCf : H2.objs.size ∉ fp := fun hm => by have := hfp _ hm; rw [hC] at this; exact Nat.lt_irrefl _ (Nat.lt_of_succ_lt this)
  have old : ∀ b o, s₂.heap.get? b = some o → h₁.get? b = some o := fun b o e => hsb₁.extBut b o (below b (Heap.lt_size e)).1 (Heap.get?_push_of_some _ (hH2 ▸ Heap.get?_push_of_some _ e))
  have hacc : h₁.PlainList s₂.heap.objs.size #[] := ⟨_, hsb₁.extBut _ _ hDC (Heap.get?_push_of_some _ (hH2 ▸ Heap.get?_push_size _ rfl))⟩
  have hst₁ : St 0 h₁ := W.frame _ _ _ hst fun b _ o e => old b o e
  have fresh : ∀ a, s₂.heap.objs.size ≤ a → s₂.heap.get? a = none := fun a ha => by
    cases e : s₂.heap.get? a with
    | none => rfl
    | some o' => exact absurd (Heap.lt_size e) (Nat.not_lt.mpr ha)
  have nC : ∀ b o, s₂.heap.get? b = some o → b ∉ wr → b ∉ s₂.heap.objs.size :: ([H2.objs.size] ++ wr) := fun b o e hb hm => by
    simp only [List.mem_cons, List.mem_append, List.not_mem_nil, or_false] at hm
    rcases hm with h | h | h
    · exact (below b (Heap.lt_size e)).2 h
    · exact (below b (Heap.lt_size e)).1 h
    · exact hb h
  have loop : ∀ s₃ : Shared, s₃ = { s₂ with heap := h₁, toks := s₂.toks + ([] : List (Str × Value)).length } →
      codeAny (model prog w) A (.compLoop (.ListComp elt [⟨target, iter, ifs, 0⟩] scope pos) 0 (.ref I) (.ref s₂.heap.objs.size) (compEnvC scope cl H2.objs.size env))
        (RR (.ref s₂.heap.objs.size) H2.objs.size) s₃ := by
    rintro s₃ rfl
    refine compLoop_gen (own := [H2.objs.size]) (cenv := compEnvC scope cl H2.objs.size env) W K p hK (hK _ _ _ _ _ _ hK0 (fun b o _ e => old b o e) (Nat.le_add_right _ _)) (fun h => ∃ m, h.Ns H2.objs.size m) ?_ ?_ hwr hDf (by simpa using hDC) (by simpa using hCf) hst₁ hacc ⟨_, hns₁⟩ ht ?_ ?_ hsz
    · rintro h h' ⟨m, hm⟩ hk
      exact ⟨m, hm.at' fun o e => hk _ (by simp) o e⟩
    · rintro h ⟨m, o', es, ep, ho, hd, _⟩ b hb o e
      rw [List.mem_singleton.mp hb, ho] at e; cases e
      exact imm_ne_dict hd
    · rintro i v s₃ E' hv ⟨m₃, hn⟩ hk htk
      refine wpAny_mono (hq _ i v s₃ m₃ E' hCle hv hn (fun b o hb e => hk b o (nC b o e hb) (old b o e)) (Nat.le_trans (Nat.le_add_right _ _) htk)) (fun _ s₄ h₄ => wpAny_mono h₄ (fun ok s₅ h₅ => ?_) fun _ _ e => e) fun _ _ e => e
      obtain ⟨h1, ⟨h', tk, m, e1, e2, e3⟩, h3⟩ := h₅
      exact ⟨h1, ⟨h', tk, e1, e2, m, e3⟩, h3⟩
    · rintro h' tk ys vs hpl ⟨m', hn⟩ hlen hP hFs hk _
      exact hRR _ _ h' tk m' ys vs (fresh _ (Nat.le_refl _)) (fresh _ hCle) hDC hn hpl hlen hP hFs fun b o hb e => hk b o (nC b o e hb) (old b o e)
  exact codeAny_compStart_list (loop _ rfl) (W.self 0 _ _ _ hst₁ (loop _ rfl))

theorem comp_eval {s : Shared} {elt target iter : Expr} {ifs : List Expr} {scope : Scope} {cl : List (Str × Addr)} {pos : Pos} {Q : Value → Shared → Prop} (p : Value → Bool) (K : Heap → Nat → List Value → List Value → Prop) (hK : ∀ h h' tk tk' vs ys, K h tk vs ys → TExt h h' → tk ≤ tk' → K h' tk' vs ys)
    (hclos : closureFor scope env = pure cl) (hcell : ∀ y ∈ scope.names, y.2 ≠ .cell) (hkind : scope.kind = .function)
    (hnames : ∀ y ∈ scope.names, y.2 = .local → scope.names.lookup y.1 = some .local)
    (h : wpAny (model prog w) A (eval iter env) (fun xv s₁ => wpAny (model prog w) A (pyIter xv) (fun it s₂ => ∃ I fp wr n P St, it = .ref I ∧ Walks prog w A I fp wr n P St ∧ n ≤ sizeLine ∧ St 0 s₂.heap ∧ (∀ b ∈ fp, b < s₂.heap.objs.size) ∧ K s₂.heap s₂.toks [] [] ∧
      (∀ i h, St i h → ∀ b ∈ wr, ∀ o, h.get? b = some o → ¬ Imm o) ∧
      (∀ i v (s : Shared) (Q : Unit → Shared → Prop) (E : Value → Shared → Prop), St (i + 1) s.heap → P i v → Q () s → wpAny (model prog w) A (letOwnedTupleGo target (.ref I) v) Q E s) ∧
      Turns prog w A env scope cl target ifs elt wr P p K s₂ ∧
      (∀ D h' tk ys (vs : List Value), s₂.heap.get? D = none → h'.PlainList D ys → vs.length = n → (∀ j v, vs[j]? = some v → P j v) → K h' tk (vs.filter p) ys.toList →
        ExtB wr s₂.heap h' → Q (.ref D) { s₂ with heap := h', toks := tk })) E s₁) E s)
    (hs : ∀ x, foldedSetIterable iter env x = pure x := by intro _; rfl) :
    wpAny (model prog w) A (eval (.ListComp elt [⟨target, iter, ifs, 0⟩] scope pos) env) Q E s := by
  rw [eval_ListComp]
  refine wpAny_comprehension_free (use := none) rfl hs hclos hkind hnames (wpAny_mono h (fun xv s₁ h₁ => wpAny_mono h₁ (fun it s₂ h₂ => ?_) fun _ _ e => e) fun _ _ e => e)
  obtain ⟨I, fp, wr, n, P, St, rfl, W, hsz, hst, hfp, hK0, hwr, ht, hq, hQ⟩ := h₂
  refine comp_block (RR := fun acc C => compPost (model prog w) A E none Q acc C) W hsz p K hK hK0 hcell hkind hst hfp hwr ht hq ?_
  intro D C h' tk m' ys vs hD hC hDC hn hpl hlen hP hFs hk
  refine ⟨m', hn, fun h'' hs'' => hQ D h'' tk ys vs hD (hpl.extBut hs''.extBut hDC) hlen hP (hK _ _ _ _ _ _ hFs (ExtB.text (sameBut_extB hs'') ?_) (Nat.le_refl _)) fun b o hbf e => hs''.extBut b o (by rintro rfl; rw [hC] at e; cases e) (hk b o hbf e)⟩
  intro b hb o e
  obtain ⟨o', es, ep, ho, hd, _⟩ := hn
  rw [List.mem_singleton.mp hb, ho] at e; cases e
  exact imm_ne_dict hd

/-- the same, as the value of an assignment to a local name -/
theorem comp_assign {s : Shared} {elt target iter : Expr} {ifs : List Expr} {y : Str} {py : Pos} {scope : Scope} {cl : List (Str × Addr)} {pos spos : Pos} {Q : Flow → Shared → Prop} (p : Value → Bool) (K : Heap → Nat → List Value → List Value → Prop) (hK : ∀ h h' tk tk' vs ys, K h tk vs ys → TExt h h' → tk ≤ tk' → K h' tk' vs ys)
    (hsw : swapsWith (.ListComp elt [⟨target, iter, ifs, 0⟩] scope pos) (some (.Name y py)) spos.line env = pure true)
    (hclos : closureFor scope env = pure cl) (hcell : ∀ y ∈ scope.names, y.2 ≠ .cell) (hkind : scope.kind = .function)
    (hnames : ∀ y ∈ scope.names, y.2 = .local → scope.names.lookup y.1 = some .local)
    (hy : env.kindOf y = some .local) (hp : (env.scope.kind == .class || (env.scope.kind == .module && env.locals != env.globals)) = false)
    (h : wpAny (model prog w) A (eval iter env) (fun xv s₁ => wpAny (model prog w) A (pyIter xv) (fun it s₂ => ∃ I fp wr n P St m, it = .ref I ∧ Walks prog w A I fp wr n P St ∧ n ≤ sizeLine ∧ St 0 s₂.heap ∧ (∀ b ∈ fp, b < s₂.heap.objs.size) ∧ K s₂.heap s₂.toks [] [] ∧
      env.locals ∉ wr ∧ s₂.heap.Ns env.locals m ∧
      (∀ i h, St i h → ∀ b ∈ wr, ∀ o, h.get? b = some o → ¬ Imm o) ∧
      (∀ i v (s : Shared) (Q : Unit → Shared → Prop) (E : Value → Shared → Prop), St (i + 1) s.heap → P i v → Q () s → wpAny (model prog w) A (letOwnedTupleGo target (.ref I) v) Q E s) ∧
      Turns prog w A env scope cl target ifs elt wr P p K s₂ ∧
      (∀ D h' tk ys (vs : List Value), s₂.heap.get? D = none → h'.PlainList D ys → vs.length = n → (∀ j v, vs[j]? = some v → P j v) → K h' tk (vs.filter p) ys.toList →
        h'.Ns env.locals (fun z => if z = y then some (.ref D) else m z) → ExtB (env.locals :: wr) s₂.heap h' → Q .next { s₂ with heap := h', toks := tk })) E s₁) E s)
    (hs : ∀ x, foldedSetIterable iter env x = pure x := by intro _; rfl) :
    wpAny (model prog w) A (exec (.Assign [.Name y py] (.ListComp elt [⟨target, iter, ifs, 0⟩] scope pos) spos) env) Q E s := by
  rw [exec_Assign_Name_used _ _ _ _ hsw]
  refine wpAny_bind (wpAny_standAt (wpAny_bind ?_))
  show wpAny _ A (do let _ ← comprehension (.ListComp elt [⟨target, iter, ifs, 0⟩] scope pos) scope env _ (newList []) false (eval iter env) (some (assign (.Name y py) env))) _ _ s
  refine wpAny_bind (wpAny_mono (wpAny_comprehension_free (use := some (assign (.Name y py) env)) (Q := fun _ s' => Q .next s') rfl hs hclos hkind hnames
    (wpAny_mono h (fun xv s₁ h₁ => wpAny_mono h₁ (fun it s₂ h₂ => ?_) fun _ _ e => e) fun _ _ e => e)) (fun _ s' hq => wpAny_pure (wpAny_pure hq)) fun _ _ e => e)
  obtain ⟨I, fp, wr, n, P, St, m, rfl, W, hsz, hst, hfp, hK0, hLf, hn, hwr, ht, hq, hQ⟩ := h₂
  refine comp_block (RR := fun acc C => compPost (model prog w) A E (some (assign (.Name y py) env)) (fun _ s' => Q .next s') acc C) W hsz p K hK hK0 hcell hkind hst hfp hwr ht hq ?_
  intro D C h' tk m' ys vs hD hC hDC hnC hplD hlen hP hFs hk
  have hLC : env.locals ≠ C := by rintro rfl; obtain ⟨o, _, _, ho, _⟩ := hn; rw [hC] at ho; cases ho
  have hLD : env.locals ≠ D := by rintro rfl; obtain ⟨o, _, _, ho, _⟩ := hn; rw [hD] at ho; cases ho
  have hnL : h'.Ns env.locals m := hn.at' fun o e => hk _ o hLf e
  show wpAny _ A (assign (.Name y py) env (.ref D)) _ _ _
  refine wpAny_assign_Name (wpAny_storeName_local hy hnL (fun h₂ hn₂ hs₂ => ?_) hp)
  refine ⟨m', hnC.sameBut hs₂ (Ne.symm hLC), fun h₃ hs₃ => ?_⟩
  have t2 : TExt h' h₂ := ExtB.text (sameBut_extB hs₂) fun b hb o e => by
    obtain ⟨o', es, ep, ho, hd, _⟩ := hnL
    rw [List.mem_singleton.mp hb, ho] at e; cases e
    exact imm_ne_dict hd
  have t3 : TExt h₂ h₃ := ExtB.text (sameBut_extB hs₃) fun b hb o e => by
    obtain ⟨o', es, ep, ho, hd, _⟩ := hnC.sameBut hs₂ (Ne.symm hLC)
    rw [List.mem_singleton.mp hb, ho] at e; cases e
    exact imm_ne_dict hd
  exact hQ D h₃ _ ys vs hD ((hplD.extBut hs₂.extBut (Ne.symm hLD)).extBut hs₃.extBut hDC) hlen hP (hK _ _ _ _ _ _ hFs (t2.trans t3) (Nat.le_succ _)) (hn₂.sameBut hs₃ hLC) fun b o hb e =>
    hs₃.extBut b o (by rintro rfl; rw [hC] at e; cases e) (hs₂.extBut b o (fun q => hb (by simp [q])) (hk b o (fun q => hb (by simp [q])) e))

/-- a turn whose target is a local name and that has no test -/
theorem turns_name {scope : Scope} {cl : List (Str × Addr)} {x : Str} {px : Pos} {elt : Expr} {wr : List Addr} {P : Nat → Value → Prop} {K : Heap → Nat → List Value → List Value → Prop} {s₂ : Shared}
    (hkind : scope.kind = .function) (hx : scope.names.lookup x = some .local)
    (h : ∀ C i v (s₅ : Shared) m₅ (E' : Value → Shared → Prop), s₂.heap.objs.size ≤ C → P i v → s₅.heap.Ns C m₅ → m₅ x = some v → ExtB wr s₂.heap s₅.heap → s₂.toks ≤ s₅.toks →
      wpAny (model prog w) A (eval elt (compEnvC scope cl C env)) (fun y s₆ => (∀ vs ys, K s₅.heap s₅.toks vs ys → K s₆.heap s₆.toks (vs ++ [v]) (ys ++ [y])) ∧ Keeps s₅ s₆) E' s₅) :
    Turns prog w A env scope cl (.Name x px) [] elt wr P (fun _ => true) K s₂ := by
  intro C i v s₃ m₃ E' hC hP hn hk htk
  refine wpAny_assign_Name (wpAny_storeName_local (lookup_relabel_local hx) hn (fun h₂ hn₂ hs₂ => ?_) (by simp [compEnvC, relabel, hkind]))
  refine wpAny_tests_nil ⟨rfl, ⟨h₂, _, _, rfl, sameBut_extB hs₂, hn₂⟩, fun _ => ?_⟩
  refine h C i v _ _ E' hC hP hn₂ (by simp) (fun b o hb e => ?_) (Nat.le_succ_of_le htk)
  exact hs₂.extBut b o (fun q => absurd (Heap.lt_size e) (by rw [q]; exact Nat.not_lt.mpr hC)) (hk b o hb e)
end
end Mine
end
section
open PySem PySem.W PySem.Calls PyProof.Rows
namespace Mine
set_option maxRecDepth 100000
set_option maxHeartbeats 4000000

theorem list_of_get {vs us : List Value} (hl : vs.length = us.length) (h : ∀ (j : Nat) v, vs[j]? = some v → us[j]? = some v) : vs = us := by
  apply List.ext_getElem hl
  intro i h1 h2
  have := h i vs[i] (List.getElem?_eq_getElem h1)
  rw [List.getElem?_eq_getElem h2] at this
  exact (Option.some.inj this).symm

/-- what is known of an iterator over a list or a tuple -/
structure Over (prog : Program) (w : World) (A : Around) (I : Addr) (items : Array Value) (fp : List Addr) (St : Nat → Heap → Prop) (s₁ : Heap) (s₂ : Heap) : Prop where
  W : Walks prog w A I fp [I] items.size (fun i v => items[i]? = some v) St
  st : St 0 s₂
  fp : ∀ b ∈ fp, b < s₂.objs.size
  wr : ∀ i h, St i h → ∀ b ∈ [I], ∀ o, h.get? b = some o → ¬ Imm o
  ext : Ext s₁ s₂
  new : s₁.get? I = none
  size : s₁.objs.size ≤ s₂.objs.size

theorem Over.back {prog : Program} {w : World} {A : Around} {I : Addr} {items : Array Value} {fp : List Addr} {St : Nat → Heap → Prop} {s₁ s₂ h : Heap} (O : Over prog w A I items fp St s₁ s₂) (e : ExtB [I] s₂ h) : Ext s₁ h :=
  fun b o q => e b o (fun m => by rw [List.mem_singleton.mp m] at q; rw [O.new] at q; cases q) (O.ext b o q)

theorem get_new (h : Heap) : h.get? h.objs.size = none := by
  cases e : h.get? h.objs.size with
  | none => rfl
  | some o => exact absurd (Heap.lt_size e) (Nat.lt_irrefl _)

section
variable {prog : Program} {w : World} {A : Around} {E : Value → Shared → Prop} {env : Env} {s : Shared}

theorem over_list {l : Addr} {items : Array Value} {Q : Value → Shared → Prop} (hh : A.handled = none) (hl : s.heap.IsList l items)
    (h : ∀ I h₂, h₂.IsListIter I l 0 → Over prog w A I items [I, l] (fun i h => h.IsListIter I l i ∧ h.IsList l items) s.heap h₂ → Q (.ref I) { s with heap := h₂ }) : wpAny (model prog w) A (pyIter (.ref l)) Q E s := by
  obtain ⟨ol, hol, _⟩ := id hl
  have hlt := Heap.lt_size hol
  refine wpAny_pyIter_list hl (h _ _ ⟨_, Heap.get?_push_size _ rfl, rfl, rfl⟩ ⟨Walks.list hh _ l (Nat.ne_of_lt hlt) items, ⟨⟨_, Heap.get?_push_size _ rfl, rfl, rfl⟩, hl.at fun o e => Heap.get?_push_of_some _ e⟩, ?_, ?_, fun b o e => Heap.get?_push_of_some _ e, get_new _, ?_⟩)
  · intro b hb
    show b < (s.heap.push _).objs.size
    rw [Heap.size_push]
    simp only [List.mem_cons, List.not_mem_nil, or_false] at hb
    rcases hb with rfl | rfl
    · exact Nat.lt_succ_self _
    · exact Nat.lt_succ_of_lt hlt
  · rintro i h ⟨⟨o', ho', _, hd⟩, _⟩ b hb o e
    rw [List.mem_singleton.mp hb, ho'] at e; cases e
    exact imm_ne_fields hd
  · rw [Heap.size_push]; exact Nat.le_succ _

theorem over_tuple {l : Addr} {items : Array Value} {Q : Value → Shared → Prop} (hh : A.handled = none) (hl : s.heap.IsTuple l items)
    (h : ∀ I h₂, Over prog w A I items [I, l] (fun i h => h.IsTupleIter I l i ∧ h.IsTuple l items) s.heap h₂ → Q (.ref I) { s with heap := h₂ }) : wpAny (model prog w) A (pyIter (.ref l)) Q E s := by
  obtain ⟨ol, hol, _⟩ := id hl
  have hlt := Heap.lt_size hol
  refine wpAny_pyIter_tuple hl (h _ _ ⟨Walks.tuple hh _ l (Nat.ne_of_lt hlt) items, ⟨⟨_, Heap.get?_push_size _ rfl, rfl, rfl⟩, hl.at fun o e => Heap.get?_push_of_some _ e⟩, ?_, ?_, fun b o e => Heap.get?_push_of_some _ e, get_new _, ?_⟩)
  · intro b hb
    show b < (s.heap.push _).objs.size
    rw [Heap.size_push]
    simp only [List.mem_cons, List.not_mem_nil, or_false] at hb
    rcases hb with rfl | rfl
    · exact Nat.lt_succ_self _
    · exact Nat.lt_succ_of_lt hlt
  · rintro i h ⟨⟨o', ho', _, hd⟩, _⟩ b hb o e
    rw [List.mem_singleton.mp hb, ho'] at e; cases e
    exact imm_ne_fields hd
  · rw [Heap.size_push]; exact Nat.le_succ _

/-- a comprehension over a list or tuple, a local name as its target, no test -/
theorem comp_seqK {elt iter : Expr} {x : Str} {px : Pos} {scope : Scope} {cl : List (Str × Addr)} {pos : Pos} {Q : Value → Shared → Prop} (K : Heap → Nat → List Value → List Value → Prop) (hK : ∀ h h' tk tk' vs ys, K h tk vs ys → TExt h h' → tk ≤ tk' → K h' tk' vs ys)
    (hh : A.handled = none) (hclos : closureFor scope env = pure cl) (hcell : ∀ y ∈ scope.names, y.2 ≠ .cell) (hkind : scope.kind = .function)
    (hnames : ∀ y ∈ scope.names, y.2 = .local → scope.names.lookup y.1 = some .local) (hx : scope.names.lookup x = some .local)
    (h : wpAny (model prog w) A (eval iter env) (fun xv s₁ => Halt (∃ l items, xv = .ref l ∧ (s₁.heap.IsList l items ∨ s₁.heap.IsTuple l items) ∧ items.size ≤ sizeLine ∧ K s₁.heap s₁.toks [] [] ∧
      (∀ C (i : Nat) v (s₅ : Shared) m₅ (E' : Value → Shared → Prop), s₁.heap.objs.size ≤ C → items[i]? = some v → s₅.heap.Ns C m₅ → m₅ x = some v → Ext s₁.heap s₅.heap → s₁.toks ≤ s₅.toks →
        wpAny (model prog w) A (eval elt (compEnvC scope cl C env)) (fun y s₆ => (∀ vs ys, K s₅.heap s₅.toks vs ys → K s₆.heap s₆.toks (vs ++ [v]) (ys ++ [y])) ∧ Keeps s₅ s₆) E' s₅) ∧
      (∀ D h' tk ys, s₁.heap.get? D = none → h'.PlainList D ys → K h' tk items.toList ys.toList → Ext s₁.heap h' → Q (.ref D) { s₁ with heap := h', toks := tk }))) E s)
    (hs : ∀ x, foldedSetIterable iter env x = pure x := by intro _; rfl) :
    wpAny (model prog w) A (eval (.ListComp elt [⟨.Name x px, iter, [], 0⟩] scope pos) env) Q E s := by
  refine comp_eval (fun _ => true) K hK hclos hcell hkind hnames (wpAny_mono h (fun xv s₁ h₁ => ?_) fun _ _ e => e) hs
  obtain ⟨l, items, rfl, hl, hsz, hK0, hel, hdone⟩ := h₁
  have go : ∀ I h₂ fp St, Over prog w A I items fp St s₁.heap h₂ → ∃ I' fp wr n P St, Value.ref I = .ref I' ∧ Walks prog w A I' fp wr n P St ∧ n ≤ sizeLine ∧ St 0 h₂ ∧ (∀ b ∈ fp, b < h₂.objs.size) ∧ K h₂ s₁.toks [] [] ∧
      (∀ i h, St i h → ∀ b ∈ wr, ∀ o, h.get? b = some o → ¬ Imm o) ∧
      (∀ i v (s : Shared) (Q : Unit → Shared → Prop) (E : Value → Shared → Prop), St (i + 1) s.heap → P i v → Q () s → wpAny (model prog w) A (letOwnedTupleGo (.Name x px) (.ref I') v) Q E s) ∧
      Turns prog w A env scope cl (.Name x px) [] elt wr P (fun _ => true) K { s₁ with heap := h₂ } ∧
      (∀ D h' tk ys (vs : List Value), h₂.get? D = none → h'.PlainList D ys → vs.length = n → (∀ j v, vs[j]? = some v → P j v) → K h' tk (vs.filter fun _ => true) ys.toList →
        ExtB wr h₂ h' → Q (.ref D) { s₁ with heap := h', toks := tk }) := by
    intro I h₂ fp St O
    refine ⟨I, fp, [I], items.size, _, St, rfl, O.W, hsz, O.st, O.fp, hK _ _ _ _ _ _ hK0 (Ext.text O.ext) (Nat.le_refl _), O.wr, fun _ _ _ _ _ _ _ hq => wpAny_pure hq, ?_, ?_⟩
    · refine turns_name hkind hx fun C i v s₅ m₅ E' hC hP hn hm he ht => hel C i v s₅ m₅ E' (Nat.le_trans O.size hC) hP hn hm (O.back he) ht
    · intro D h' tk ys vs hD hpl hlen hP hFs hk
      have hv : vs = items.toList := list_of_get (by simpa using hlen) (fun j v e => by simpa using hP j v e)
      rw [List.filter_eq_self.mpr (by simp), hv] at hFs
      refine hdone D h' tk ys ?_ hpl hFs (O.back hk)
      cases e : s₁.heap.get? D with
      | none => rfl
      | some o => rw [O.ext D o e] at hD; cases hD
  rcases hl with hl | hl
  · exact over_list hh hl fun I h₂ _ O => go I h₂ _ _ O
  · exact over_tuple hh hl fun I h₂ O => go I h₂ _ _ O

theorem comp_seq {elt iter : Expr} {x : Str} {px : Pos} {scope : Scope} {cl : List (Str × Addr)} {pos : Pos} {Q : Value → Shared → Prop} (F : Heap → Value → Value → Prop) (hF : ∀ h h' v y, F h v y → TExt h h' → F h' v y)
    (hh : A.handled = none) (hclos : closureFor scope env = pure cl) (hcell : ∀ y ∈ scope.names, y.2 ≠ .cell) (hkind : scope.kind = .function)
    (hnames : ∀ y ∈ scope.names, y.2 = .local → scope.names.lookup y.1 = some .local) (hx : scope.names.lookup x = some .local)
    (h : wpAny (model prog w) A (eval iter env) (fun xv s₁ => Halt (∃ l items, xv = .ref l ∧ (s₁.heap.IsList l items ∨ s₁.heap.IsTuple l items) ∧ items.size ≤ sizeLine ∧
      (∀ C (i : Nat) v (s₅ : Shared) m₅ (E' : Value → Shared → Prop), s₁.heap.objs.size ≤ C → items[i]? = some v → s₅.heap.Ns C m₅ → m₅ x = some v → Ext s₁.heap s₅.heap →
        wpAny (model prog w) A (eval elt (compEnvC scope cl C env)) (fun y s₆ => F s₆.heap v y ∧ Keeps s₅ s₆) E' s₅) ∧
      (∀ D h' tk ys, s₁.heap.get? D = none → h'.PlainList D ys → Paired (F h') items.toList ys.toList → Ext s₁.heap h' → Q (.ref D) { s₁ with heap := h', toks := tk }))) E s)
    (hs : ∀ x, foldedSetIterable iter env x = pure x := by intro _; rfl) :
    wpAny (model prog w) A (eval (.ListComp elt [⟨.Name x px, iter, [], 0⟩] scope pos) env) Q E s := by
  refine comp_seqK (Each F) (Each.keep hF) hh hclos hcell hkind hnames hx (wpAny_mono h (fun xv s₁ h₁ => ?_) fun _ _ e => e) hs
  obtain ⟨l, items, rfl, hl, hsz, hel, hdone⟩ := h₁
  refine ⟨l, items, rfl, hl, hsz, Paired.nil, fun C i v s₅ m₅ E' hC hi hn hm he _ => wpAny_mono (hel C i v s₅ m₅ E' hC hi hn hm he) (fun y s₆ h₆ => ⟨fun vs ys x => ?_, h₆.2⟩) fun _ _ e => e, hdone⟩
  obtain ⟨h', tk, rfl, hk⟩ := h₆.2
  exact Paired.snoc (paired_mono (fun _ _ q => hF _ _ _ _ q (Ext.text hk)) x) h₆.1

/-- the same as the value of an assignment -/
theorem comp_seqAK {elt iter : Expr} {x y : Str} {px py : Pos} {scope : Scope} {cl : List (Str × Addr)} {pos spos : Pos} {Q : Flow → Shared → Prop} (K : Heap → Nat → List Value → List Value → Prop) (hK : ∀ h h' tk tk' vs ys, K h tk vs ys → TExt h h' → tk ≤ tk' → K h' tk' vs ys)
    (hh : A.handled = none) (hsw : swapsWith (.ListComp elt [⟨.Name x px, iter, [], 0⟩] scope pos) (some (.Name y py)) spos.line env = pure true)
    (hclos : closureFor scope env = pure cl) (hcell : ∀ y ∈ scope.names, y.2 ≠ .cell) (hkind : scope.kind = .function)
    (hnames : ∀ y ∈ scope.names, y.2 = .local → scope.names.lookup y.1 = some .local) (hx : scope.names.lookup x = some .local)
    (hy : env.kindOf y = some .local) (hp : (env.scope.kind == .class || (env.scope.kind == .module && env.locals != env.globals)) = false)
    (h : wpAny (model prog w) A (eval iter env) (fun xv s₁ => Halt (∃ l items m, xv = .ref l ∧ (s₁.heap.IsList l items ∨ s₁.heap.IsTuple l items) ∧ items.size ≤ sizeLine ∧ K s₁.heap s₁.toks [] [] ∧ s₁.heap.Ns env.locals m ∧
      (∀ C (i : Nat) v (s₅ : Shared) m₅ (E' : Value → Shared → Prop), s₁.heap.objs.size ≤ C → items[i]? = some v → s₅.heap.Ns C m₅ → m₅ x = some v → Ext s₁.heap s₅.heap → s₁.toks ≤ s₅.toks →
        wpAny (model prog w) A (eval elt (compEnvC scope cl C env)) (fun y s₆ => (∀ vs ys, K s₅.heap s₅.toks vs ys → K s₆.heap s₆.toks (vs ++ [v]) (ys ++ [y])) ∧ Keeps s₅ s₆) E' s₅) ∧
      (∀ D h' tk ys, s₁.heap.get? D = none → h'.PlainList D ys → K h' tk items.toList ys.toList → h'.Ns env.locals (fun z => if z = y then some (.ref D) else m z) → ExtB [env.locals] s₁.heap h' → Q .next { s₁ with heap := h', toks := tk }))) E s)
    (hs : ∀ x, foldedSetIterable iter env x = pure x := by intro _; rfl) :
    wpAny (model prog w) A (exec (.Assign [.Name y py] (.ListComp elt [⟨.Name x px, iter, [], 0⟩] scope pos) spos) env) Q E s := by
  refine comp_assign (fun _ => true) K hK hsw hclos hcell hkind hnames hy hp (wpAny_mono h (fun xv s₁ h₁ => ?_) fun _ _ e => e) hs
  obtain ⟨l, items, m, rfl, hl, hsz, hK0, hn, hel, hdone⟩ := h₁
  have go : ∀ I h₂ fp St, Over prog w A I items fp St s₁.heap h₂ → ∃ I' fp wr n P St m, Value.ref I = .ref I' ∧ Walks prog w A I' fp wr n P St ∧ n ≤ sizeLine ∧ St 0 h₂ ∧ (∀ b ∈ fp, b < h₂.objs.size) ∧ K h₂ s₁.toks [] [] ∧
      env.locals ∉ wr ∧ h₂.Ns env.locals m ∧
      (∀ i h, St i h → ∀ b ∈ wr, ∀ o, h.get? b = some o → ¬ Imm o) ∧
      (∀ i v (s : Shared) (Q : Unit → Shared → Prop) (E : Value → Shared → Prop), St (i + 1) s.heap → P i v → Q () s → wpAny (model prog w) A (letOwnedTupleGo (.Name x px) (.ref I') v) Q E s) ∧
      Turns prog w A env scope cl (.Name x px) [] elt wr P (fun _ => true) K { s₁ with heap := h₂ } ∧
      (∀ D h' tk ys (vs : List Value), h₂.get? D = none → h'.PlainList D ys → vs.length = n → (∀ j v, vs[j]? = some v → P j v) → K h' tk (vs.filter fun _ => true) ys.toList →
        h'.Ns env.locals (fun z => if z = y then some (.ref D) else m z) → ExtB (env.locals :: wr) h₂ h' → Q .next { s₁ with heap := h', toks := tk }) := by
    intro I h₂ fp St O
    have hLI : env.locals ≠ I := fun q => by obtain ⟨o, _, _, ho, _⟩ := hn; rw [q, O.new] at ho; cases ho
    refine ⟨I, fp, [I], items.size, _, St, m, rfl, O.W, hsz, O.st, O.fp, hK _ _ _ _ _ _ hK0 (Ext.text O.ext) (Nat.le_refl _), by simpa using hLI, hn.keeps O.ext, O.wr, fun _ _ _ _ _ _ _ hq => wpAny_pure hq, ?_, ?_⟩
    · refine turns_name hkind hx fun C i v s₅ m₅ E' hC hP hn hm he ht => hel C i v s₅ m₅ E' (Nat.le_trans O.size hC) hP hn hm (O.back he) ht
    · intro D h' tk ys vs hD hpl hlen hP hFs hns hk
      have hv : vs = items.toList := list_of_get (by simpa using hlen) (fun j v e => by simpa using hP j v e)
      rw [List.filter_eq_self.mpr (by simp), hv] at hFs
      refine hdone D h' tk ys ?_ hpl hFs hns ?_
      · cases e : s₁.heap.get? D with
        | none => rfl
        | some o => rw [O.ext D o e] at hD; cases hD
      · intro b o hb q
        refine hk b o (fun mem => ?_) (O.ext b o q)
        simp only [List.mem_cons, List.not_mem_nil, or_false] at mem hb
        rcases mem with e1 | e1
        · exact hb e1
        · rw [e1, O.new] at q; cases q
  rcases hl with hl | hl
  · exact over_list hh hl fun I h₂ _ O => go I h₂ _ _ O
  · exact over_tuple hh hl fun I h₂ O => go I h₂ _ _ O
end
end Mine
end
section
open PySem PySem.W PySem.Calls PyProof.Rows
namespace Mine
set_option maxRecDepth 100000
set_option maxHeartbeats 4000000

theorem keeps_refl (s : Shared) : Keeps s s := ⟨s.heap, s.toks, rfl, fun _ _ e => e⟩
theorem keeps_toks (s : Shared) (t : Nat) : Keeps s { s with toks := t } := ⟨s.heap, t, rfl, fun _ _ e => e⟩
theorem keeps_of {s : Shared} {h' : Heap} {tk : Nat} (e : Ext s.heap h') : Keeps s { s with heap := h', toks := tk } := ⟨h', tk, rfl, e⟩

theorem isCell_ext {h h' : Heap} {c : Addr} {v : Option Value} (x : h.IsCell c v) (e : Ext h h') : h'.IsCell c v := let ⟨o, ho, hd⟩ := x; ⟨o, e _ _ ho, hd⟩
theorem isTup_ext {h h' : Heap} {a : Addr} {items : Array Value} (x : IsTup h a items) (e : Ext h h') : IsTup h' a items := let ⟨o, ho, hd⟩ := x; ⟨o, e _ _ ho, hd⟩
theorem isTup_text {h h' : Heap} {a : Addr} {items : Array Value} (x : IsTup h a items) (e : TExt h h') : IsTup h' a items := by
  obtain ⟨o, ho, hc, n, hd⟩ := x
  exact ⟨o, e _ _ ⟨⟨items, n, hd⟩, .inl hc⟩ ho, hc, n, hd⟩

section
variable {M : Model} {prog : Program} {w : World} {A : Around} {E : Value → Shared → Prop} {env : Env} {s : Shared} {Q : Value → Shared → Prop} {pos : Pos} {x : Str}

theorem nmL {m : Str → Option Value} {v : Value} (hn : s.heap.Ns env.locals m) (hv : m x = some v) (h : Q v s) (hk : env.scope.kind = .function) (hx : env.kindOf x = some .local) (hd : (x == ("__debug__" : Str)) = false) :
    wpAny M A (eval (.Name x pos) env) Q E s := wpAny_Name (wpAny_loadName_local hk hx hn hv h) hd
theorem nmC {c : Addr} {v : Value} (hv : s.heap.IsCell c (some v)) (hc : env.cells.lookup x = some c) (h : Q v s) (hk : env.scope.kind = .function) (hx : env.kindOf x = some .cell) (hd : (x == ("__debug__" : Str)) = false) :
    wpAny M A (eval (.Name x pos) env) Q E s := wpAny_Name (wpAny_loadName_cell hk hx hc hv h) hd

theorem kindOf_relabel {scope : Scope} {cl : List (Str × Addr)} {C : Addr} (hf : scope.names.lookup x = some .free) (hk : env.scope.kind = .function) (hx : env.kindOf x = some .cell) : (compEnvC scope cl C env).kindOf x = some .cell := by
  show (relabel scope env).names.lookup x = _
  unfold relabel
  dsimp only
  generalize scope.names = ns at hf
  induction ns with
  | nil => cases hf
  | cons p r ih =>
    obtain ⟨n, k⟩ := p
    rw [List.lookup_cons] at hf
    by_cases e : (x == n) = true
    · simp only [e] at hf
      cases hf
      have e' := eq_of_beq e
      subst e'
      have c : (NameKind.free == NameKind.free && env.scope.kind == .function && env.kindOf x == some .cell) = true := by rw [hk, hx]; decide
      simp only [List.map_cons, c, if_true, List.lookup_cons, e]
    · have e' : (x == n) = false := by simpa using e
      simp only [e'] at hf
      simp only [List.map_cons]
      split
      · rw [List.lookup_cons, e']; exact ih hf
      · rw [List.lookup_cons, e']; exact ih hf

noncomputable abbrev scI : Scope := { kind := .function, names := [(".0", .local), ("part", .local), ("number", .free)], isGenerator := false, isCoroutine := false }
noncomputable abbrev scO : Scope := { kind := .function, names := [(".0", .local), ("number", .cell), ("spot", .free)], isGenerator := false, isCoroutine := false }
noncomputable abbrev scT : Scope := { kind := .function, names := [(".0", .local), ("part", .local), ("times", .free)], isGenerator := false, isCoroutine := false }

theorem clos_one {a b y : Str} {c : Addr} {g1 g2 : Bool} {more : List (Str × Const)} (hc : env.cells.lookup y = some c) :
    closureFor { kind := .function, names := [(a, .local), (b, .local), (y, .free)], isGenerator := g1, isCoroutine := g2, more := more } env = pure [(y, c)] := by
  unfold closureFor
  simp only [List.forIn_cons, List.forIn_nil]
  unfold cellOf
  rw [hc]
  rfl

/-- ints of a comprehension's list -/
noncomputable def IntOf (f : Int → Int) (_ : Heap) (v y : Value) : Prop := ∀ n t, v = .int n t → ∃ t', y = .int (f n) t'

theorem paired3 {f : Int → Int} {h : Heap} {r g b : Int} {t1 t2 t3 : Tok} {ys : Array Value} (p : Paired (IntOf f h) (#[Value.int r t1, .int g t2, .int b t3] : Array Value).toList ys.toList) :
    ∃ u1 u2 u3, ys = #[.int (f r) u1, .int (f g) u2, .int (f b) u3] := by
  obtain ⟨ys⟩ := ys
  cases p with
  | cons h1 p => cases p with
    | cons h2 p => cases p with
      | cons h3 p =>
        cases p
        obtain ⟨u1, rfl⟩ := h1 _ _ rfl
        obtain ⟨u2, rfl⟩ := h2 _ _ rfl
        obtain ⟨u3, rfl⟩ := h3 _ _ rfl
        exact ⟨u1, u2, u3, rfl⟩

theorem inner_comp {p1 p2 p3 p4 p5 p6 : Pos} {cn cs a : Addr} {n r g b : Int} {tn t1 t2 t3 : Tok} (hh : A.handled = none) (hk : env.scope.kind = .function)
    (k1 : env.kindOf "number" = some .cell) (k2 : env.kindOf "spot" = some .cell) (l1 : env.cells.lookup ("number" : Str) = some cn) (l2 : env.cells.lookup ("spot" : Str) = some cs)
    (c1 : s.heap.IsCell cn (some (.int n tn))) (c2 : s.heap.IsCell cs (some (.ref a))) (hT : IsTup s.heap a #[.int r t1, .int g t2, .int b t3]) (hn : n ≠ 0)
    (h : ∀ D h' tk u1 u2 u3, s.heap.get? D = none → h'.PlainList D #[.int (r.fmod n) u1, .int (g.fmod n) u2, .int (b.fmod n) u3] → Ext s.heap h' → Q (.ref D) { s with heap := h', toks := tk }) :
    wpAny (model prog w) A (eval (.ListComp (.BinOp (.Name "part" p1) .Mod (.Name "number" p2) p3) [⟨.Name "part" p4, .Name "spot" p5, [], 0⟩] scI p6) env) Q E s := by
  refine comp_seq (IntOf (fun x => x.fmod n)) (fun _ _ _ _ x _ => x) hh (clos_one l1) (by decide) rfl (by decide) (by decide) (nmC c2 l2 ?_ hk k2 (by decide))
  refine Halt.mk ⟨a, _, rfl, .inr hT, by (show 3 ≤ sizeLine); rw [sizeLine_eq]; decide, ?_, ?_⟩
  · intro C i v s₅ m₅ E' hC hi hns hm he
    refine wpAny_BinOp (nmL (m := m₅) hns hm ?_ rfl (by rfl) (by decide))
    refine nmC (c := cn) (isCell_ext c1 he) (by rfl) ?_ rfl (kindOf_relabel (by decide) hk k1) (by decide)
    have hv : ∃ k u, v = .int k u := by
      have : i = 0 ∨ i = 1 ∨ i = 2 ∨ 3 ≤ i := by omega
      rcases this with rfl | rfl | rfl | h3
      · exact ⟨_, _, (Option.some.inj hi).symm⟩
      · exact ⟨_, _, (Option.some.inj hi).symm⟩
      · exact ⟨_, _, (Option.some.inj hi).symm⟩
      · rw [Array.getElem?_eq_none (by simpa using h3)] at hi; cases hi
    obtain ⟨k, u, rfl⟩ := hv
    exact mod_int' hn ⟨fun q t e => by cases e; exact ⟨_, rfl⟩, keeps_toks _ _⟩
  · intro D h' tk ys hD hpl hp he
    obtain ⟨u1, u2, u3, rfl⟩ := paired3 hp
    exact h D h' tk u1 u2 u3 hD hpl he
end
end Mine
end
section
open PySem PySem.W PySem.Calls PyProof.Rows
namespace Mine
set_option maxRecDepth 100000
set_option maxHeartbeats 4000000

/-- the block of a comprehension whose target is a cell -/
noncomputable abbrev envK (scope : Scope) (x : Str) (cl : List (Str × Addr)) (C cc : Addr) (env : Env) : Env :=
  { scope := relabel scope env, locals := C, globals := env.globals, cells := (x, cc) :: cl, qual := env.qual, func := none, code := env.code, frame := env.frame, builtins := env.builtins }

section
variable {prog : Program} {w : World} {A : Around} {E : Value → Shared → Prop} {env : Env} {s : Shared}

theorem newEnv_cell {a x y : Str} {g1 g2 : Bool} {more : List (Str × Const)} {cl : List (Str × Addr)} {g : Addr} {q : Str} :
    newFunctionEnv { kind := .function, names := [(a, .local), (x, .cell), (y, .free)], isGenerator := g1, isCoroutine := g2, more := more } g cl [] q none .none (some env) =
      (alloc { cls := .type "dict", data := .dict #[] } >>= fun L => alloc { cls := .type "cell", data := .cell none } >>= fun c =>
        pure { scope := { kind := .function, names := [(a, .local), (x, .cell), (y, .free)], isGenerator := g1, isCoroutine := g2, more := more }, locals := L, globals := g, cells := (x, c) :: cl, qual := q, func := none, code := env.code, frame := env.frame, builtins := env.builtins }) := by
  unfold newFunctionEnv
  rfl

theorem clos_cell {a b y : Str} {c : Addr} {g1 g2 : Bool} {more : List (Str × Const)} (hc : env.cells.lookup y = some c) :
    closureFor { kind := .function, names := [(a, .local), (b, .cell), (y, .free)], isGenerator := g1, isCoroutine := g2, more := more } env = pure [(y, c)] := by
  unfold closureFor
  simp only [List.forIn_cons, List.forIn_nil]
  unfold cellOf
  rw [hc]
  rfl

theorem comp_cell {elt iter test : Expr} {cl : List (Str × Addr)} {pos px : Pos} {Q : Value → Shared → Prop} (p : Value → Bool) (F : Heap → Value → Value → Prop) (hF : ∀ h h' v y, F h v y → TExt h h' → F h' v y)
    (hclos : closureFor scO env = pure cl)
    (h : wpAny (model prog w) A (eval iter env) (fun xv s₁ => wpAny (model prog w) A (pyIter xv) (fun it s₂ => ∃ I fp wr n P St, it = .ref I ∧ Walks prog w A I fp wr n P St ∧ n ≤ sizeLine ∧ St 0 s₂.heap ∧ (∀ b ∈ fp, b < s₂.heap.objs.size) ∧
      (∀ i h, St i h → ∀ b ∈ wr, ∀ o, h.get? b = some o → ¬ Imm o) ∧
      (∀ C cc i v (s₅ : Shared) (E' : Value → Shared → Prop), P i v → s₅.heap.IsCell cc (some v) → ExtB wr s₂.heap s₅.heap →
        wpAny (model prog w) A (isTrue test (envK scO "number" cl C cc env) (eval test (envK scO "number" cl C cc env))) (fun ok s₆ => ok = p v ∧ Keeps s₅ s₆ ∧
          (ok = true → wpAny (model prog w) A (eval elt (envK scO "number" cl C cc env)) (fun y s₇ => F s₇.heap v y ∧ Keeps s₆ s₇) E' s₆)) E' s₅) ∧
      (∀ D h' tk ys (vs : List Value), s₂.heap.get? D = none → h'.PlainList D ys → vs.length = n → (∀ j v, vs[j]? = some v → P j v) → Paired (F h') (vs.filter p) ys.toList →
        ExtB wr s₂.heap h' → Q (.ref D) { s₂ with heap := h', toks := tk })) E s₁) E s)
    (hs : ∀ x, foldedSetIterable iter env x = pure x := by intro _; rfl) :
    wpAny (model prog w) A (eval (.ListComp elt [⟨.Name "number" px, iter, [test], 0⟩] scO pos) env) Q E s := by
  rw [eval_ListComp]
  refine wpAny_comprehension_free (use := none) rfl hs hclos rfl (by decide) (wpAny_mono h (fun xv s₁ h₁ => wpAny_mono h₁ (fun it s₂ h₂ => ?_) fun _ _ e => e) fun _ _ e => e)
  obtain ⟨I, fp, wr, n, P, St, rfl, W, hsz, hst, hfp, hwr, hq, hQ⟩ := h₂
  refine wpAny_newObj_type ?_
  rw [newEnv_cell]
  refine wpAny_bind (wpAny_alloc (wpAny_bind (wpAny_alloc (wpAny_pure ?_))))
  dsimp only
  generalize hH1 : s₂.heap.push { cls := .type "list", dict := none, data := .seq ([] : List Value).toArray } = H1
  generalize hH2 : H1.push { cls := .type "dict", data := .dict #[] } = H2
  generalize hH3 : H2.push { cls := .type "cell", data := .cell none } = H3
  have z1 : H1.objs.size = s₂.heap.objs.size + 1 := by rw [← hH1, Heap.size_push]
  have z2 : H2.objs.size = s₂.heap.objs.size + 2 := by rw [← hH2, Heap.size_push, z1]
  have z3 : H3.objs.size = s₂.heap.objs.size + 3 := by rw [← hH3, Heap.size_push, z2]
  have old : ∀ b o, s₂.heap.get? b = some o → H3.get? b = some o := fun b o e => hH3 ▸ Heap.get?_push_of_some _ (hH2 ▸ Heap.get?_push_of_some _ (hH1 ▸ Heap.get?_push_of_some _ e))
  have hacc : H3.PlainList s₂.heap.objs.size #[] := ⟨_, hH3 ▸ Heap.get?_push_of_some _ (hH2 ▸ Heap.get?_push_of_some _ (hH1 ▸ Heap.get?_push_size _ rfl))⟩
  have hns : H3.Ns H1.objs.size (fun _ => none) := (hH2 ▸ Heap.Ns.new H1 (.type "dict") : H2.Ns H1.objs.size (fun _ => none)).keeps fun b o e => hH3 ▸ Heap.get?_push_of_some _ e
  have hcl : H3.IsCell H2.objs.size none := ⟨_, hH3 ▸ Heap.get?_push_size _ rfl, rfl⟩
  have hst₁ : St 0 H3 := W.frame _ _ _ hst fun b _ o e => old b o e
  have fresh : ∀ a, s₂.heap.objs.size ≤ a → s₂.heap.get? a = none := fun a ha => by
    cases e : s₂.heap.get? a with
    | none => rfl
    | some o' => exact absurd (Heap.lt_size e) (Nat.not_lt.mpr ha)
  have hDf : s₂.heap.objs.size ∉ fp := fun hm => Nat.lt_irrefl _ (hfp _ hm)
  have nC : ∀ b o, s₂.heap.get? b = some o → b ∉ wr → b ∉ s₂.heap.objs.size :: ([H1.objs.size, H2.objs.size] ++ wr) := fun b o e hb hm => by
    have hlt : @LT.lt Nat _ b _ := Heap.lt_size e
    simp only [List.mem_cons, List.mem_append, List.not_mem_nil, or_false] at hm
    rcases hm with h | (h | h) | h
    · have h : @Eq Nat b _ := h
      omega
    · have h : @Eq Nat b _ := h
      omega
    · have h : @Eq Nat b _ := h
      omega
    · exact hb h
  have loop : ∀ s₃ : Shared, s₃ = { s₂ with heap := H3 } →
      codeAny (model prog w) A (.compLoop (.ListComp elt [⟨.Name "number" px, iter, [test], 0⟩] scO pos) 0 (.ref I) (.ref s₂.heap.objs.size) (envK scO "number" cl H1.objs.size H2.objs.size env))
        (compPost (model prog w) A E none Q (.ref s₂.heap.objs.size) H1.objs.size) s₃ := by
    rintro s₃ rfl
    refine compLoop_gen (own := [H1.objs.size, H2.objs.size]) (cenv := envK scO "number" cl H1.objs.size H2.objs.size env) W (Each F) p (Each.keep hF) Paired.nil (fun h => (∃ m, h.Ns H1.objs.size m) ∧ ∃ v, h.IsCell H2.objs.size v) ?_ ?_ hwr hDf (by simp only [List.mem_cons, List.not_mem_nil, or_false, not_or]; exact ⟨neN (by omega), neN (by omega)⟩) ?_ hst₁ hacc ⟨⟨_, hns⟩, _, hcl⟩ (fun _ _ _ _ _ _ _ hq => wpAny_pure hq) ?_ ?_ hsz
    · rintro h h' ⟨⟨m, hm⟩, v, hv⟩ hk
      obtain ⟨o, ho, hd⟩ := hv
      exact ⟨⟨m, hm.at' fun o e => hk _ (by simp) o e⟩, v, o, hk _ (by simp) o ho, hd⟩
    · rintro h ⟨⟨m, o', es, ep, ho, hd, _⟩, v, o2, ho2, hd2⟩ b hb o e
      simp only [List.mem_cons, List.not_mem_nil, or_false] at hb
      rcases hb with rfl | rfl
      · rw [ho] at e; cases e; exact imm_ne_dict hd
      · rw [ho2] at e; cases e; exact imm_ne_cell hd2
    · intro b hb hm
      have : @LT.lt Nat _ b _ := hfp b hm
      simp only [List.mem_cons, List.not_mem_nil, or_false] at hb
      rcases hb with h | h <;> (have h : @Eq Nat b _ := h; omega)
    · rintro i v s₃ E' hv ⟨⟨m₃, hn⟩, v0, hc0⟩ hk _
      refine wpAny_assign_Name (wpAny_storeName_cell rfl (by rfl) (by rfl) hc0 fun h₂ hc2 hs₂ => ?_)
      have hn2 : h₂.Ns H1.objs.size m₃ := hn.sameBut hs₂ (neN (by omega))
      refine wpAny_tests_one (wpAny_mono (hq H1.objs.size H2.objs.size i v _ E' hv hc2 fun b o hb e => ?_) (fun ok s₅ h₅ => ?_) fun _ _ e => e)
      · exact hs₂.extBut b o (fun q => by have : @LT.lt Nat _ b _ := Heap.lt_size e; have q : @Eq Nat b _ := q; omega) (hk b o (nC b o e hb) (old b o e))
      · obtain ⟨h1, ⟨h', tk, e1, e2⟩, h3⟩ := h₅
        refine ⟨h1, ⟨h', tk, e1, ?_, ⟨m₃, hn2.keeps e2⟩, _, isCell_ext hc2 e2⟩, fun q => wpAny_mono (h3 q) (fun y s₆ h₆ => ⟨fun vs ys x => ?_, h₆.2⟩) fun _ _ e => e⟩
        case refine_2 =>
          obtain ⟨h'', tk'', rfl, hk''⟩ := h₆.2
          exact Paired.snoc (paired_mono (fun _ _ q => hF _ _ _ _ q (Ext.text hk'')) x) h₆.1
        intro b o hb e
        exact e2 b o (hs₂.extBut b o (fun q => hb (by simp [q])) e)
    · rintro h' tk ys vs hpl ⟨⟨m', hn⟩, _⟩ hlen hP hFs hk _
      refine ⟨m', hn, fun h'' hs'' => hQ _ h'' tk ys vs (fresh _ (Nat.le_refl _)) (hpl.extBut hs''.extBut (neN (by omega))) hlen hP (paired_mono (fun a b x => hF _ _ _ _ x (ExtB.text (sameBut_extB hs'') ?_)) hFs) fun b o hbf e => hs''.extBut b o (fun q => by have : @LT.lt Nat _ b _ := Heap.lt_size e; have q : @Eq Nat b _ := q; omega) (hk b o (nC b o e hbf) (old b o e))⟩
      intro b hb o e
      obtain ⟨o', es, ep, ho, hd, _⟩ := hn
      rw [List.mem_singleton.mp hb, ho] at e; cases e
      exact imm_ne_dict hd
  exact codeAny_compStart_list (loop _ rfl) (W.self 0 _ _ _ hst₁ (loop _ rfl))
end
end Mine
end
section
open PySem PySem.W PySem.Calls PyProof.Rows
namespace Mine
set_option maxRecDepth 100000
set_option maxHeartbeats 4000000

noncomputable def isDiv (r g b n : Int) : Bool := decide (r.fmod n = 0) && decide (g.fmod n = 0) && decide (b.fmod n = 0)
noncomputable def upTo28 : List Int := (List.range 28).map fun (i : Nat) => (1 : Int) + (i : Int)
noncomputable def divs (r g b : Int) : List Int := upTo28.filter (isDiv r g b)
noncomputable def isDivV (r g b : Int) : Value → Bool
  | .int n _ => isDiv r g b n
  | _ => false

theorem ints_filter (r g b : Int) : ∀ {vs ys : List Value} {ns : List Int}, IntsAre vs ns → Paired (fun v y => v = y) (vs.filter (isDivV r g b)) ys → IntsAre ys (ns.filter (isDiv r g b))
  | _, _, _, .nil, p => by cases p; exact .nil
  | _, _, _, .cons n t h, p => by
    rw [List.filter_cons] at p
    rw [List.filter_cons]
    by_cases e : isDiv r g b n = true
    · have e' : isDivV r g b (.int n t) = true := e
      rw [if_pos e'] at p
      rw [if_pos e]
      cases p with
      | cons h1 p => subst h1; exact .cons _ _ (ints_filter r g b h p)
    · have e' : ¬ isDivV r g b (.int n t) = true := e
      rw [if_neg e'] at p
      rw [if_neg e]
      exact ints_filter r g b h p

theorem ints_from : ∀ (vs : List Value) (k : Nat), (∀ (j : Nat) v, vs[j]? = some v → ∃ t, v = Value.int ((1 : Int) + ((k + j : Nat) : Int)) t) → IntsAre vs ((List.range' k vs.length).map fun (i : Nat) => (1 : Int) + (i : Int))
  | [], _, _ => .nil
  | v :: vs, k, h => by
    obtain ⟨t, hv⟩ := h 0 v rfl
    subst hv
    rw [List.length_cons, List.range'_succ, List.map_cons]
    exact .cons _ _ (ints_from vs (k + 1) fun j u hj => by
      obtain ⟨t, e⟩ := h (j + 1) u (by simpa using hj)
      exact ⟨t, by rw [e, show k + 1 + j = k + (j + 1) from by omega]⟩)
theorem ints_of_range {vs : List Value} {n : Nat} (hl : vs.length = n) (h : ∀ (j : Nat) v, vs[j]? = some v → ∃ t, v = Value.int ((1 : Int) + (j : Int) * 1) t) : IntsAre vs ((List.range n).map fun (i : Nat) => (1 : Int) + (i : Int)) := by
  subst hl
  rw [List.range_eq_range']
  refine ints_from vs 0 fun j v e => ?_
  obtain ⟨t, e⟩ := h j v e
  exact ⟨t, by rw [e, Int.mul_one, Nat.zero_add]⟩

section
variable {prog : Program} {w : World} {A : Around} {E : Value → Shared → Prop} {env : Env} {s : Shared} {Q : Value → Shared → Prop}

theorem outer_comp {iter : Expr} {p0 p1 p2 p3 p4 p5 p6 p7 p8 p9 p10 p11 px pos : Pos} {cs a : Addr} {r g b : Int} {t1 t2 t3 : Tok} (hh : A.handled = none) (hu : A.units + 64 < cLine) (hk : env.scope.kind = .function) (k2 : env.kindOf "spot" = some .cell) (l2 : env.cells.lookup ("spot" : Str) = some cs)
    (h : wpAny (model prog w) A (eval iter env) (fun xv s₁ => Halt (∃ rr t u v, xv = .ref rr ∧ IsRange s₁.heap rr 1 29 1 t u v ∧ s₁.heap.IsCell cs (some (.ref a)) ∧ IsTup s₁.heap a #[.int r t1, .int g t2, .int b t3] ∧
      (∀ D h' tk ys, s₁.heap.get? D = none → h'.PlainList D ys → IntsAre ys.toList (divs r g b) → Ext s₁.heap h' → Q (.ref D) { s₁ with heap := h', toks := tk }))) E s)
    (hs : ∀ x, foldedSetIterable iter env x = pure x := by intro _; rfl) :
    wpAny (model prog w) A (eval (.ListComp (.Name "number" p0) [⟨.Name "number" px, iter, [.Compare (.ListComp (.BinOp (.Name "part" p1) .Mod (.Name "number" p2) p3) [⟨.Name "part" p4, .Name "spot" p5, [], 0⟩] scI p6) [.Eq]
      [.List [.Constant (.int 0) 0 p7, .Constant (.int 0) 0 p8, .Constant (.int 0) 0 p9] p10] p11], 0⟩] scO pos) env) Q E s := by
  refine comp_cell (isDivV r g b) (fun _ v y => v = y) (fun _ _ _ _ x _ => x) (clos_cell l2) (wpAny_mono h (fun xv s₁ h₁ => ?_) fun _ _ e => e) hs
  obtain ⟨rr, t, u, v, rfl, hr, hc, hT, hdone⟩ := h₁
  refine wpAny_pyIter_range hr (by decide +kernel) ?_
  refine ⟨_, [_], [_], 28, _, _, rfl, Walks.range hh _ 1 1 28, by rw [sizeLine_eq]; decide, ?_, ?_, ?_, ?_, ?_⟩
  · show IsRangeIter _ _ (1 + ((0 : Nat) : Int) * 1) (((28 : Nat) : Int) - ((0 : Nat) : Int)) 1
    exact Heap.get?_push_size _ rfl
  · intro d hd
    rw [List.mem_singleton.mp hd]
    show _ < (s₁.heap.push _).objs.size
    rw [Heap.size_push]; exact Nat.lt_succ_self _
  · intro i h st d hd o e
    rw [List.mem_singleton.mp hd] at e
    have st' : h.get? s₁.heap.objs.size = some _ := st
    rw [st'] at e; cases e
    exact imm_ne_fields rfl
  · rintro C cc i v s₅ E' ⟨tk, rfl⟩ hcell he
    have e1 : Ext s₁.heap s₅.heap := fun d o e => he d o (fun q => by rw [List.mem_singleton.mp q, get_new] at e; cases e) (Heap.get?_push_of_some _ e)
    refine wpAny_isTrue_Compare1 (inner_comp (a := a) hh rfl (by rfl) (kindOf_relabel (scope := scO) (cl := [("spot", cs)]) (C := C) (by decide) hk k2) (by rfl) (by rfl) hcell (isCell_ext hc e1) (isTup_ext hT e1) (by omega) ?_)
    intro D h' tk' u1 u2 u3 hD hpl hx
    refine List_ (args_cons (wpAny_Constant_int (args_cons (wpAny_Constant_int (args_cons (wpAny_Constant_int (args_nil ?_)))))))
    refine wpAny_newObj_type ?_
    have hsmall : ∀ (k : Int) (z : Nat), IntsAre [Value.int k z] [k] := fun k z => .cons _ _ .nil
    refine eq_intsK (vs := [.int (r.fmod (1 + (i : Int) * 1)) u1, .int (g.fmod (1 + (i : Int) * 1)) u2, .int (b.fmod (1 + (i : Int) * 1)) u3]) (ns := [r.fmod (1 + (i : Int) * 1), g.fmod (1 + (i : Int) * 1), b.fmod (1 + (i : Int) * 1)]) (ms := [0, 0, 0])
      (hpl.at fun o e => Heap.get?_push_of_some _ e).isList (.cons _ _ (.cons _ _ (.cons _ _ .nil))) ⟨_, Heap.get?_push_size _ rfl, rfl, _, rfl⟩ (.cons _ _ (.cons _ _ (.cons _ _ .nil))) hu ?_
    refine wpAny_truthy_bool ⟨?_, ?_, fun _ => ?_⟩
    · show _ = isDiv r g b _
      unfold isDiv
      rw [Bool.eq_iff_iff]
      simp [and_assoc]
    · exact ⟨_, _, rfl, fun d o e => Heap.get?_push_of_some _ (hx d o e)⟩
    · exact nmC (c := cc) (isCell_ext (isCell_ext hcell hx) fun d o e => Heap.get?_push_of_some _ e) (by rfl) ⟨rfl, keeps_refl _⟩ rfl (by rfl) (by decide)
  · intro D h' tk ys vs hD hpl hlen hP hFs hk'
    have e1 : Ext s₁.heap h' := fun d o e => hk' d o (fun q => by rw [List.mem_singleton.mp q, get_new] at e; cases e) (Heap.get?_push_of_some _ e)
    refine hdone D h' tk ys ?_ hpl (ints_filter r g b (ints_of_range hlen hP) hFs) e1
    cases e : s₁.heap.get? D with
    | none => rfl
    | some o =>
      have hD' : (s₁.heap.push _).get? D = none := hD
      rw [Heap.get?_push_of_some _ e] at hD'; cases hD'
end
end Mine
end
section
open PySem PySem.W PySem.Calls PyProof.Rows
namespace Mine
set_option maxRecDepth 100000
set_option maxHeartbeats 4000000

theorem intsAre_get {vs : List Value} {ns : List Int} (h : IntsAre vs ns) : ∀ (i : Nat) v, vs[i]? = some v → ∃ t, v = .int (ns.getD i 0) t := by
  induction h with
  | nil => intro i v e; simp at e
  | cons n t _ ih =>
    intro i v e
    cases i with
    | zero => simp at e; subst e; exact ⟨t, rfl⟩
    | succ i => simpa using ih i v (by simpa using e)

section
variable {prog : Program} {w : World} {A : Around} {E : Value → Shared → Prop} {env : Env} {s : Shared} {Q : Value → Shared → Prop}

theorem max_list {l : Addr} {items : Array Value} {ns : List Int} (hh : A.handled = none) (hl : s.heap.IsList l items) (hi : IntsAre items.toList ns) (hne : 0 < ns.length)
    (h : ∀ h' tk t' M, M ∈ ns → (∀ x ∈ ns, x ≤ M) → Ext s.heap h' → Q (.int M t') { s with heap := h', toks := tk }) :
    wpAny (model prog w) A (call (.builtin "max") [.ref l]) Q E s := by
  have hlen : items.size = ns.length := by have := hi.length; simpa using this
  refine call_max_walk (over_list (A := A.in1) hh hl fun I h₂ _ O => ?_)
  refine ⟨I, _, _, items.size, _, _, (fun i j => decide (ns.getD i 0 > ns.getD j 0)), rfl, O.W, O.st, O.fp, by omega, CmpOf.ints_gt (fun i => ns.getD i 0) (fun i v hv => intsAre_get hi i v (by simpa using hv)), fun v h' tk hP hk => ?_⟩
  obtain ⟨t', hv⟩ := intsAre_get hi _ v (by rw [Array.getElem?_toList]; exact hP)
  obtain ⟨k1, k2⟩ := argBest_gt (fun i => ns.getD i 0) (items.size - 1)
  subst hv
  refine h h' tk t' _ ?_ ?_ (O.back hk)
  · have hlt : argBest (fun i j => decide (ns.getD i 0 > ns.getD j 0)) (items.size - 1) < ns.length := by omega
    rw [List.getD_eq_getElem?_getD, List.getElem?_eq_getElem hlt]
    exact List.getElem_mem hlt
  · intro x hx
    obtain ⟨i, hi', rfl⟩ := List.mem_iff_getElem.mp hx
    have := k2 i (by omega)
    rwa [List.getD_eq_getElem?_getD, List.getElem?_eq_getElem hi'] at this

theorem div_comp {iter : Expr} {p1 p2 p3 p4 p6 : Pos} {cn a : Addr} {n r g b : Int} {tn t1 t2 t3 : Tok} (hh : A.handled = none) (hk : env.scope.kind = .function)
    (k1 : env.kindOf "times" = some .cell) (l1 : env.cells.lookup ("times" : Str) = some cn)
    (h : wpAny (model prog w) A (eval iter env) (fun xv s₁ => Halt (xv = .ref a ∧ IsTup s₁.heap a #[.int r t1, .int g t2, .int b t3] ∧ s₁.heap.IsCell cn (some (.int n tn)) ∧ 1 ≤ n ∧ n ≤ 28 ∧ (0 ≤ r ∧ r ≤ 64) ∧ (0 ≤ g ∧ g ≤ 64) ∧ (0 ≤ b ∧ b ≤ 64) ∧
      ∀ D h' tk u1 u2 u3, s₁.heap.get? D = none → h'.PlainList D #[.int (r.fdiv n) u1, .int (g.fdiv n) u2, .int (b.fdiv n) u3] → Ext s₁.heap h' → Q (.ref D) { s₁ with heap := h', toks := tk })) E s)
    (hs : ∀ x, foldedSetIterable iter env x = pure x := by intro _; rfl) :
    wpAny (model prog w) A (eval (.ListComp (.BinOp (.Name "part" p1) .FloorDiv (.Name "times" p2) p3) [⟨.Name "part" p4, iter, [], 0⟩] scT p6) env) Q E s := by
  refine comp_seq (IntOf (fun x => x.fdiv n)) (fun _ _ _ _ x _ => x) hh (clos_one l1) (by decide) rfl (by decide) (by decide) (wpAny_mono h (fun xv s₁ h₁ => ?_) fun _ _ e => e) hs
  obtain ⟨rfl, hT, c1, hn1, hn2, hr, hg, hb, hq⟩ := h₁
  refine Halt.mk ⟨a, _, rfl, .inr hT, by (show 3 ≤ sizeLine); rw [sizeLine_eq]; decide, ?_, ?_⟩
  · intro C i v s₅ m₅ E' hC hi hns hm he
    refine wpAny_BinOp (nmL (m := m₅) hns hm ?_ rfl (by rfl) (by decide))
    refine nmC (c := cn) (isCell_ext c1 he) (by rfl) ?_ rfl (kindOf_relabel (by decide) hk k1) (by decide)
    have hv : ∃ k u, v = .int k u ∧ 0 ≤ k ∧ k ≤ 64 := by
      have : i = 0 ∨ i = 1 ∨ i = 2 ∨ 3 ≤ i := by omega
      rcases this with rfl | rfl | rfl | h3
      · exact ⟨_, _, (Option.some.inj hi).symm, hr⟩
      · exact ⟨_, _, (Option.some.inj hi).symm, hg⟩
      · exact ⟨_, _, (Option.some.inj hi).symm, hb⟩
      · rw [Array.getElem?_eq_none (by simpa using h3)] at hi; cases hi
    obtain ⟨k, u, rfl, hk0, hk1⟩ := hv
    refine AutoIntOps.floordiv_1 (by simp; omega) (by rw [PyProof.noPylong_small (by omega)]; decide) ⟨fun q t e => by cases e; exact ⟨_, rfl⟩, keeps_toks _ _⟩
  · intro D h' tk ys hD hpl hp he
    obtain ⟨u1, u2, u3, rfl⟩ := paired3 hp
    exact hq D h' tk u1 u2 u3 hD hpl he
end
end Mine
end
section
open PySem PySem.W PySem.Calls PyProof.Rows
namespace Mine
set_option maxRecDepth 100000
set_option maxHeartbeats 8000000

noncomputable def best (ns : List Int) : Int := ns.foldl max 0
theorem foldl_max_le (ns : List Int) : ∀ a, a ≤ ns.foldl max a ∧ ∀ x ∈ ns, x ≤ ns.foldl max a := by
  induction ns with
  | nil => intro a; exact ⟨Int.le_refl _, fun _ h => nomatch h⟩
  | cons n r ih =>
    intro a
    obtain ⟨h1, h2⟩ := ih (max a n)
    refine ⟨?_, ?_⟩
    · show a ≤ r.foldl max (max a n); omega
    · intro x hx
      show x ≤ r.foldl max (max a n)
      rcases List.mem_cons.mp hx with rfl | hx
      · omega
      · exact h2 x hx
theorem foldl_max_mem (ns : List Int) : ∀ a, ns.foldl max a = a ∨ ns.foldl max a ∈ ns := by
  induction ns with
  | nil => intro a; exact .inl rfl
  | cons n r ih =>
    intro a
    show r.foldl max (max a n) = a ∨ r.foldl max (max a n) ∈ n :: r
    rcases ih (max a n) with h | h
    · rw [h]
      rcases Int.le_total a n with q | q
      · exact .inr (by rw [Int.max_eq_right q]; exact .head _)
      · exact .inl (Int.max_eq_left q)
    · exact .inr (.tail _ h)
theorem best_eq {ns : List Int} {M : Int} (h0 : 0 ≤ M) (hm : M ∈ ns) (hb : ∀ x ∈ ns, x ≤ M) : M = best ns := by
  have h1 := (foldl_max_le ns 0).2 M hm
  rcases foldl_max_mem ns 0 with h | h
  · unfold best; omega
  · have := hb _ h; unfold best; omega
theorem divs_mem {r g b n : Int} (h : n ∈ divs r g b) : 1 ≤ n ∧ n ≤ 28 := by
  have h := (List.mem_filter.mp h).1
  obtain ⟨i, hi, rfl⟩ := List.mem_map.mp h
  have := List.mem_range.mp hi
  omega
theorem divs_pos (r g b : Int) : 0 < (divs r g b).length := by
  refine List.length_pos_of_mem (a := 1) (List.mem_filter.mpr ⟨?_, ?_⟩)
  · decide
  · unfold isDiv; simp

noncomputable def shadeF (r g b : Int) : Int × Int × Int := if min (min r g) b = max (max r g) b then (0, 0, 0) else (r.fdiv (best (divs r g b)), g.fdiv (best (divs r g b)), b.fdiv (best (divs r g b)))

theorem newsAdd {h₀ h h' : Heap} {L D : Addr} {m : Str → Option Value} {o : Obj} {news : List (Addr × Obj)} (F : Fr h₀ L h m) (N : News h₀ L h news) (hD : h.get? D = none) (ho : h'.get? D = some o) (e : Ext h h') : News h₀ L h' ((D, o) :: news) := by
  intro p hp
  rcases List.mem_cons.mp hp with rfl | hp
  · refine ⟨ho, ?_, ?_⟩
    · rintro rfl
      obtain ⟨oL, _, _, hL, _⟩ := F.ns
      rw [hD] at hL; cases hL
    · cases q : h₀.get? D with
      | none => rfl
      | some o' => rw [F.keep _ _ q] at hD; cases hD
  · exact newsExt N e p hp

theorem shade_call {w : World} {mean : ExcName → Option Value} {mg mb : Str → Option Value} {dp un : Nat} {fr : Option (List Env)} {gd : Option (List Code)} {E : Value → Shared → Prop} {s : Shared} {Q : Value → Shared → Prop} {a : Addr} {r g b : Int} {t1 t2 t3 : Tok}
    (X : (Mine.hd.heap_39 w.params).In s.heap) (T : Top Mine.hd.view_39 LS mean mg mb s.heap) (R : dp + 1 < recursionLimit) (U : un + 100 < cLine) (hA : IsTup s.heap a #[.int r t1, .int g t2, .int b t3]) (hr : 0 ≤ r ∧ r ≤ 64) (hg : 0 ≤ g ∧ g ≤ 64) (hb : 0 ≤ b ∧ b ≤ 64)
    (hQ : ∀ D h' tk' u1 u2 u3, Ext s.heap h' → IsTup h' D #[.int (shadeF r g b).1 u1, .int (shadeF r g b).2.1 u2, .int (shadeF r g b).2.2 u3] → s.heap.get? D = none → Q (.ref D) { s with heap := h', toks := tk' }) :
    wpAny (model PySem.Challenge.rw_ox0037_01.row.prog w) (AA dp un fr gd) (call (.ref 192) [.ref a]) Q E s := by
  w_on
  w_strict (
  revert X T R hQ
  k_fill
  intro X T R hQ
  have hR : (AA dp un fr gd).depth < recursionLimit := by dsimp only; omega
  refine' enterC (binds := [("spot", .ref a)]) X T ?ho ?hcd ?hroom ?hb ?hl ?hn ?_ ?c2 ?c3 ?c4
  case ho => k_is
  case hcd => k_is
  case hroom => exact hR
  case hb => exact BindsTo.of_eq rfl
  case hl => exact rfl
  case hn => decide +kernel
  case c2 => exact rfl
  case c3 => exact rfl
  case c4 => exact rfl
  intro L' h' tk' cells' F' N' Y'
  have hY := CellsAre.two Y'; obtain ⟨o1', o2', hE', d1', d2'⟩ := hY; subst hE'; clear Y'
  (try dsimp only)
  (try k_fold)
  repeat' (first
      | (k_unfold; (try dsimp only))
      | (k_end; kc_close)
      | ((with_reducible show wpAny _ _ (eval (Expr.ListComp _ _ _ _) _) _ _ _); refine stopW ?_)
      | ((with_reducible show wpAny _ _ (call (Value.builtin "min") [Value.ref _]) _ _ _); (rename News _ _ _ _ => zN); (rename Fr _ _ _ _ => zF); refine min_tup3N rfl zF zN (IsTup.keeps (by assumption) (Fr.keep zF)) ?_; clear zN zF; intro _ _ _ _ _; (try dsimp only))
      | ((with_reducible show wpAny _ _ (call (Value.builtin "max") [Value.ref _]) _ _ _); (rename News _ _ _ _ => zN); (rename Fr _ _ _ _ => zF); refine max_tup3N rfl zF zN (IsTup.keeps (by assumption) (Fr.keep zF)) ?_; clear zN zF; intro _ _ _ _ _; (try dsimp only))
      | walk1
      | (dsimp only; walk1)
      | (leave1; (try dsimp only))
      | fail "no step")
  · have hs : shadeF r g b = (0, 0, 0) := if_pos (by assumption)
    rw [hs] at hQ
    dsimp only
    show Q (.ref _) _
    exact hQ _ _ _ _ _ _ (Fr.keep (by assumption)) (News.isTup (by assumption) (by k_mem)) (News.fresh (by assumption) (by k_mem))
  · have hs : shadeF r g b = (r.fdiv (best (divs r g b)), g.fdiv (best (divs r g b)), b.fdiv (best (divs r g b))) := if_neg (by assumption)
    rw [hs] at hQ
    refine Halt.mk ?_
    refine outer_comp (cs := L' + 1) (a := a) (r := r) (g := g) (b := b) (t1 := t1) (t2 := t2) (t3 := t3) rfl (by show un + 3 + 64 < cLine; omega) rfl rfl rfl ?_
    repeat' (first
        | (k_unfold; (try dsimp only))
        | (k_end; kc_close)
        | ((with_reducible show wpAny _ _ (eval (Expr.ListComp _ _ _ _) _) _ _ _); refine stopW ?_)
        | ((with_reducible show wpAny _ _ (call (Value.builtin "min") [Value.ref _]) _ _ _); (rename News _ _ _ _ => zN); (rename Fr _ _ _ _ => zF); refine min_tup3N rfl zF zN (IsTup.keeps (by assumption) (Fr.keep zF)) ?_; clear zN zF; intro _ _ _ _ _; (try dsimp only))
        | ((with_reducible show wpAny _ _ (call (Value.builtin "max") [Value.ref _]) _ _ _); (rename News _ _ _ _ => zN); (rename Fr _ _ _ _ => zF); refine max_tup3N rfl zF zN (IsTup.keeps (by assumption) (Fr.keep zF)) ?_; clear zN zF; intro _ _ _ _ _; (try dsimp only))
        | walk1
        | (dsimp only; walk1)
        | (leave1; (try dsimp only))
        | fail "no step")
    (rename Fr _ _ _ _ => F9); (rename News _ _ _ _ => N9)
    refine Halt.mk ⟨_, _, _, _, rfl, by assumption, ⟨_, News.get N9 (List.Mem.tail _ (List.Mem.head _)), d2'⟩, IsTup.keeps hA F9.keep, ?_⟩
    intro D h9 tk9 ys9 hD hpl hi he
    obtain ⟨n9, hpl'⟩ := hpl
    have F10 := frExt F9 he
    have N10 := newsAdd F9 N9 hD hpl' he
    clear F9 N9
    (try dsimp only)
    repeat' (first
        | (k_unfold; (try dsimp only))
        | (k_end; kc_close)
        | ((with_reducible show wpAny _ _ (eval (Expr.ListComp _ _ _ _) _) _ _ _); refine stopW ?_)
        | ((with_reducible show wpAny _ _ (call (Value.builtin "min") [Value.ref _]) _ _ _); (rename News _ _ _ _ => zN); (rename Fr _ _ _ _ => zF); refine min_tup3N rfl zF zN (IsTup.keeps (by assumption) (Fr.keep zF)) ?_; clear zN zF; intro _ _ _ _ _; (try dsimp only))
        | ((with_reducible show wpAny _ _ (call (Value.builtin "max") [Value.ref _]) _ _ _); (rename News _ _ _ _ => zN); (rename Fr _ _ _ _ => zF); refine max_tup3N rfl zF zN (IsTup.keeps (by assumption) (Fr.keep zF)) ?_; clear zN zF; intro _ _ _ _ _; (try dsimp only))
        | walk1
        | (dsimp only; walk1)
        | (leave1; (try dsimp only))
        | fail "no step")
    (rename Fr _ _ _ _ => F9); (rename News _ _ _ _ => N9)
    refine max_list rfl ⟨_, News.get N9 (List.Mem.head _), rfl, _, rfl⟩ hi (divs_pos r g b) ?_
    intro h11 tk11 t11 M hm hb' e11
    have hM := divs_mem hm
    have hM' := best_eq (by omega) hm hb'
    rw [← hM'] at hQ
    have F11 := frExt F9 e11
    have N11 := newsExt N9 e11
    clear F9 N9 hm hb' hM'
    (try dsimp only)
    repeat' (first
        | (k_unfold; (try dsimp only))
        | (k_end; kc_close)
        | ((with_reducible show wpAny _ _ (eval (Expr.ListComp _ _ _ _) _) _ _ _); refine stopW ?_)
        | ((with_reducible show wpAny _ _ (call (Value.builtin "min") [Value.ref _]) _ _ _); (rename News _ _ _ _ => zN); (rename Fr _ _ _ _ => zF); refine min_tup3N rfl zF zN (IsTup.keeps (by assumption) (Fr.keep zF)) ?_; clear zN zF; intro _ _ _ _ _; (try dsimp only))
        | ((with_reducible show wpAny _ _ (call (Value.builtin "max") [Value.ref _]) _ _ _); (rename News _ _ _ _ => zN); (rename Fr _ _ _ _ => zF); refine max_tup3N rfl zF zN (IsTup.keeps (by assumption) (Fr.keep zF)) ?_; clear zN zF; intro _ _ _ _ _; (try dsimp only))
        | walk1
        | (dsimp only; walk1)
        | (leave1; (try dsimp only))
        | fail "no step")
    refine Halt.mk ?_
    refine div_comp (cn := L' + 1 + 1) (a := a) (n := M) (r := r) (g := g) (b := b) (tn := t11) (t1 := t1) (t2 := t2) (t3 := t3) rfl rfl rfl rfl ?_
    repeat' (first
        | (k_unfold; (try dsimp only))
        | (k_end; kc_close)
        | ((with_reducible show wpAny _ _ (eval (Expr.ListComp _ _ _ _) _) _ _ _); refine stopW ?_)
        | ((with_reducible show wpAny _ _ (call (Value.builtin "min") [Value.ref _]) _ _ _); (rename News _ _ _ _ => zN); (rename Fr _ _ _ _ => zF); refine min_tup3N rfl zF zN (IsTup.keeps (by assumption) (Fr.keep zF)) ?_; clear zN zF; intro _ _ _ _ _; (try dsimp only))
        | ((with_reducible show wpAny _ _ (call (Value.builtin "max") [Value.ref _]) _ _ _); (rename News _ _ _ _ => zN); (rename Fr _ _ _ _ => zF); refine max_tup3N rfl zF zN (IsTup.keeps (by assumption) (Fr.keep zF)) ?_; clear zN zF; intro _ _ _ _ _; (try dsimp only))
        | walk1
        | (dsimp only; walk1)
        | (leave1; (try dsimp only))
        | fail "no step")
    (rename Fr _ _ _ _ => F9); (rename News _ _ _ _ => N9)
    refine Halt.mk ⟨rfl, IsTup.keeps hA F9.keep, ⟨_, News.get N9 (List.Mem.tail _ (List.Mem.head _)), by assumption⟩, hM.1, hM.2, hr, hg, hb, ?_⟩
    intro D2 h12 tk12 u1 u2 u3 hD2 hpl2 he2
    obtain ⟨n12, hpl2'⟩ := hpl2
    have F13 := frExt F9 he2
    have N13 := newsAdd F9 N9 hD2 hpl2' he2
    clear F9 N9
    (try dsimp only)
    repeat' (first
        | (k_unfold; (try dsimp only))
        | (k_end; kc_close)
        | ((with_reducible show wpAny _ _ (eval (Expr.ListComp _ _ _ _) _) _ _ _); refine stopW ?_)
        | ((with_reducible show wpAny _ _ (call (Value.builtin "min") [Value.ref _]) _ _ _); (rename News _ _ _ _ => zN); (rename Fr _ _ _ _ => zF); refine min_tup3N rfl zF zN (IsTup.keeps (by assumption) (Fr.keep zF)) ?_; clear zN zF; intro _ _ _ _ _; (try dsimp only))
        | ((with_reducible show wpAny _ _ (call (Value.builtin "max") [Value.ref _]) _ _ _); (rename News _ _ _ _ => zN); (rename Fr _ _ _ _ => zF); refine max_tup3N rfl zF zN (IsTup.keeps (by assumption) (Fr.keep zF)) ?_; clear zN zF; intro _ _ _ _ _; (try dsimp only))
        | walk1
        | (dsimp only; walk1)
        | (leave1; (try dsimp only))
        | fail "no step")
    exact hQ _ _ _ _ _ _ (Fr.keep (by assumption)) (News.isTup (by assumption) (by k_mem)) (News.fresh (by assumption) (by k_mem))
  )
end Mine
end
section
open PySem PySem.W PySem.Calls PyProof.Rows
namespace Mine
set_option maxRecDepth 100000
set_option maxHeartbeats 4000000

noncomputable def LoopGo (J : Nat → Shared → Prop) (k : Nat) (Q : Flow → Shared → Prop) (f : Flow) (s : Shared) : Prop := match f with
  | .next | .cont => ∃ m, m < k ∧ J m s
  | .brk => Q .next s
  | .ret v => Q (.ret v) s

section
variable {prog : Program} {w : World} {A : Around} {E : Value → Shared → Prop} {env : Env} {s : Shared} {Q : Flow → Shared → Prop}

theorem for_raw {target iter : Expr} {body : List Stmt} {pos : Pos}
    (h : wpAny (model prog w) A (eval iter env) (fun xv s₁ => wpAny (model prog w) A (pyIter xv) (fun it s₂ => Halt (∃ (J : Nat → Shared → Prop) (k : Nat), J k s₂ ∧ ∀ k s, J k s →
      wpAny (model prog w) A (pyNext it) (fun r s₁ => match r with
        | none => Q .next s₁
        | some v => wpAny (model prog w) A (letOwnedTupleGo target it v) (fun _ s₁' => wpAny (model prog w) A (assign target env v) (fun _ s₂ =>
            wpAny (model prog w) A (execs body env) (fun f s₃ => LoopGo J k Q f s₃) (fun _ _ => False) s₂) (fun _ _ => False) s₁') (fun _ _ => False) s₁) (fun _ _ => False) s)) E s₁) E s)
    (hs : ∀ x, foldedSetIterable iter env x = pure x := by intro _; rfl) :
    wpAny (model prog w) A (exec (.For target iter body [] pos) env) Q E s := by
  refine wpAny_For (wpAny_mono h (fun xv s₁ h₁ => wpAny_mono h₁ (fun it s₂ h₂ => ?_) fun _ _ e => e) fun _ _ e => e) hs
  obtain ⟨J, k, hJ, step⟩ := h₂
  refine codeAny_forLoop_any J (fun n s hI => ?_) k hJ
  refine wpAny_mono (step n s hI) (fun r s₁ h₁ => ?_) fun _ _ x => x.elim
  cases r with
  | none => exact wpAny_execs_nil h₁
  | some v =>
    refine wpAny_mono h₁ (fun _ s₁' h₁' => ?_) fun _ _ x => x.elim
    refine wpAny_mono h₁' (fun _ s₂ h₂ => ?_) fun _ _ x => x.elim
    refine wpAny_mono h₂ (fun f s₃ h₃ => ?_) fun _ _ x => x.elim
    cases f with
    | next => exact h₃
    | cont => exact h₃
    | brk => exact h₃
    | ret v => exact h₃
end

theorem frEq {h₀ h : Heap} {L : Addr} {m m' : Str → Option Value} (F : Fr h₀ L h m) (e : ∀ y, m y = m' y) : Fr h₀ L h m' := by
  have : m = m' := funext e
  exact this ▸ F

theorem newsPerm3 {h₀ h : Heap} {L : Addr} {a b c : Addr × Obj} {t : List (Addr × Obj)} (N : News h₀ L h (a :: b :: c :: t)) : News h₀ L h (b :: c :: a :: t) := fun p hp => N p (by
  simp only [List.mem_cons] at hp ⊢
  rcases hp with h | h | h | h
  · exact .inr (.inl h)
  · exact .inr (.inr (.inl h))
  · exact .inl h
  · exact .inr (.inr (.inr h)))
theorem allLt_mem {d : Addr} : ∀ {l : List (Addr × Obj)}, AllLt d l → ∀ p ∈ l, p.1 < d
  | [], _, _, h => nomatch h
  | q :: r, h, p, hp => by
    rcases List.mem_cons.mp hp with rfl | hp
    · exact h.1
    · exact allLt_mem h.2 p hp
theorem frBut {h₀ h h' : Heap} {L d : Addr} {m : Str → Option Value} (F : Fr h₀ L h m) (hs : Heap.ExtBut d h h') (hL : d ≠ L) (hn : h₀.get? d = none) : Fr h₀ L h' m := by
  obtain ⟨oL, a1, a2, hoL, a3⟩ := F.ns
  refine ⟨⟨oL, a1, a2, hs _ _ hL.symm hoL, a3⟩, fun b x e => hs _ _ ?_ (F.keep b x e), F.above⟩
  rintro rfl
  rw [hn] at e; cases e

noncomputable abbrev tupO (items : Array Value) (n : Nat) : Obj := { cls := .type "tuple", data := .seq items n }

/-- a spot at a value -/
noncomputable def SpotV (h : Heap) (v : Value) (q : Int × Int × Int) : Prop := ∃ a t1 t2 t3, v = .ref a ∧ IsTup h a #[.int q.1 t1, .int q.2.1 t2, .int q.2.2 t3]
noncomputable def SpotIn (tl : List (Addr × Obj)) (v : Value) (q : Int × Int × Int) : Prop := ∃ a t1 t2 t3 n, v = .ref a ∧ (a, tupO #[.int q.1 t1, .int q.2.1 t2, .int q.2.2 t3] n) ∈ tl

theorem SpotV.text {h h' : Heap} {v : Value} {q : Int × Int × Int} (x : SpotV h v q) (e : TExt h h') : SpotV h' v q := by
  obtain ⟨a, t1, t2, t3, hv, hT⟩ := x
  exact ⟨a, t1, t2, t3, hv, isTup_text hT e⟩
theorem SpotIn.mono {tl tl' : List (Addr × Obj)} {v : Value} {q : Int × Int × Int} (x : SpotIn tl v q) (e : ∀ p ∈ tl, p ∈ tl') : SpotIn tl' v q := by
  obtain ⟨a, t1, t2, t3, n, hv, hT⟩ := x
  exact ⟨a, t1, t2, t3, n, hv, e _ hT⟩
theorem SpotIn.at {h₀ h : Heap} {L : Addr} {tl : List (Addr × Obj)} {v : Value} {q : Int × Int × Int} (x : SpotIn tl v q) (N : ∀ p ∈ tl, h.get? p.1 = some p.2) : SpotV h v q := by
  obtain ⟨a, t1, t2, t3, n, hv, hT⟩ := x
  exact ⟨a, t1, t2, t3, hv, _, N _ hT, rfl, n, rfl⟩

noncomputable def spotOf (n : Int) : Int × Int × Int := (n.fmod 8 * (1 + (n.fdiv 512).fmod 4), (n.fdiv 8).fmod 8 * (1 + (n.fdiv 512).fmod 4), (n.fdiv 64).fmod 8 * (1 + (n.fdiv 512).fmod 4))
noncomputable def spotsF (ns : List Int) (side : Int) : List (Int × Int × Int) := (ns.filter fun n => decide (n.fdiv 2048 = side)).map spotOf

theorem spotsF_snoc_pos {ns : List Int} {side n : Int} (h : n.fdiv 2048 = side) : spotsF (ns ++ [n]) side = spotsF ns side ++ [spotOf n] := by
  unfold spotsF; simp [List.filter_append, List.filter_cons, h]
theorem spotsF_snoc_neg {ns : List Int} {side n : Int} (h : ¬ n.fdiv 2048 = side) : spotsF (ns ++ [n]) side = spotsF ns side := by
  unfold spotsF; simp [List.filter_append, List.filter_cons, h]
end Mine
end
section
open PySem PySem.W PySem.Calls PyProof.Rows PySem.SeqAt
namespace Mine
set_option maxRecDepth 100000
set_option maxHeartbeats 4000000
/- small helpers, so that the walks stay small -/
/-- what is left of a loop when its iterator is made -/
noncomputable def LoopFor (prog : Program) (w : World) (A : Around) (env : Env) (target : Expr) (body : List Stmt) (it : Value) (Q : Flow → Shared → Prop) (s₂ : Shared) : Prop :=
  ∃ (J : Nat → Shared → Prop) (k : Nat), J k s₂ ∧ ∀ k s, J k s →
      wpAny (model prog w) A (pyNext it) (fun r s₁ => match r with
        | none => Q .next s₁
        | some v => wpAny (model prog w) A (letOwnedTupleGo target it v) (fun _ s₁' => wpAny (model prog w) A (assign target env v) (fun _ s₂ =>
            wpAny (model prog w) A (execs body env) (fun f s₃ => LoopGo J k Q f s₃) (fun _ _ => False) s₂) (fun _ _ => False) s₁') (fun _ _ => False) s₁) (fun _ _ => False) s

section
variable {prog : Program} {w : World} {A : Around} {E : Value → Shared → Prop} {env : Env} {s : Shared}
theorem for_rawD {target iter : Expr} {body : List Stmt} {pos : Pos} {Q : Flow → Shared → Prop}
    (h : wpAny (model prog w) A (eval iter env) (fun xv s₁ => Halt (wpAny (model prog w) A (pyIter xv) (fun it s₂ => LoopFor prog w A env target body it Q s₂) E s₁)) E s)
    (hs : ∀ x, foldedSetIterable iter env x = pure x := by intro _; rfl) :
    wpAny (model prog w) A (exec (.For target iter body [] pos) env) Q E s := by
  refine for_raw (wpAny_mono h (fun xv s₁ h₁ => wpAny_mono (Halt.out h₁) (fun it s₂ h₂ => Halt.mk h₂) fun _ _ e => e) fun _ _ e => e) hs

end
theorem LoopFor.gen {prog : Program} {w : World} {A : Around} {env : Env} {target : Expr} {body : List Stmt} {it : Value} {Q : Flow → Shared → Prop} {s₂ : Shared} (J : Nat → Shared → Prop) (k : Nat) (h0 : J k s₂)
    (H : ∀ (J' : Nat → Shared → Prop) (Q' : Flow → Shared → Prop), (∀ k s, J k s → J' k s) → (∀ f s, Q f s → Q' f s) → ∀ k s, J k s → wpAny (model prog w) A (pyNext it) (fun r s₁ => match r with
        | none => Q' .next s₁
        | some v => wpAny (model prog w) A (letOwnedTupleGo target it v) (fun _ s₁' => wpAny (model prog w) A (assign target env v) (fun _ s₂ =>
            wpAny (model prog w) A (execs body env) (fun f s₃ => LoopGo J' k Q' f s₃) (fun _ _ => False) s₂) (fun _ _ => False) s₁') (fun _ _ => False) s₁) (fun _ _ => False) s) :
    LoopFor prog w A env target body it Q s₂ := ⟨J, k, h0, H J Q (fun _ _ h => h) fun _ _ h => h⟩
theorem dec_turn {i n : Nat} (h : i < n) : n + 1 - (i + 1) < n + 1 - i := by omega

noncomputable def nth {α : Type} : List α → Nat → Option α
  | [], _ => none
  | a :: _, 0 => some a
  | _ :: l, i + 1 => nth l i
noncomputable def pick {α : Type} (l : List α) (d : Nat) : List Nat → List α
  | [] => l.drop d
  | i :: is => match nth l i with
    | some a => a :: pick l d is
    | none => pick l d is
theorem nth_mem {α : Type} {a : α} : ∀ {l : List α} {i : Nat}, nth l i = some a → a ∈ l
  | _ :: _, 0, h => by cases h; exact List.Mem.head _
  | _ :: l, i + 1, h => List.Mem.tail _ (nth_mem (l := l) (i := i) h)
theorem pick_mem {α : Type} {l : List α} {d : Nat} : ∀ {is : List Nat} {p : α}, p ∈ pick l d is → p ∈ l
  | [], _, h => List.mem_of_mem_drop h
  | i :: is, p, h => by
    unfold pick at h
    cases e : nth l i with
    | none => rw [e] at h; exact pick_mem h
    | some a =>
      rw [e] at h
      rcases List.mem_cons.mp h with rfl | h
      · exact nth_mem e
      · exact pick_mem h
theorem newsPick {h₀ h : Heap} {L : Addr} {news : List (Addr × Obj)} (N : News h₀ L h news) (is : List Nat) (d : Nat) : News h₀ L h (pick news d is) := fun p hp => N p (pick_mem hp)
theorem fa_cons {α : Type} {P : α → Prop} {a : α} {l : List α} (h : P a) (t : ∀ p ∈ l, P p) : ∀ p ∈ a :: l, P p := fun p hp => by
  rcases List.mem_cons.mp hp with rfl | hp
  · exact h
  · exact t p hp
theorem fa_nil {α : Type} {P : α → Prop} : ∀ p ∈ ([] : List α), P p := fun _ h => nomatch h
theorem two_ne {x i e : Nat} (h : x < i) (h' : i < e) : x ≠ e ∧ x ≠ i := ⟨Nat.ne_of_lt (Nat.lt_trans h h'), Nat.ne_of_lt h⟩

/-- a frame's map, as a list of names over a rest -/
noncomputable def upd (b : Str → Option Value) : List (Str × Option Value) → Str → Option Value
  | [] => b
  | (k, v) :: r => fun y => if y = k then v else upd b r y
theorem upd_off {b : Str → Option Value} {y : Str} : ∀ {l : List (Str × Option Value)}, y ∉ l.map (·.1) → upd b l y = b y
  | [], _ => rfl
  | (k, v) :: r, h => by
    have h1 : y ≠ k := fun e => h (e ▸ List.Mem.head _)
    have h2 : y ∉ r.map (·.1) := fun e => h (List.Mem.tail _ e)
    show (if y = k then v else upd b r y) = b y
    rw [if_neg h1, upd_off h2]
theorem frUpd {h₀ h : Heap} {L : Addr} {b : Str → Option Value} {l l' : List (Str × Option Value)} (F : Fr h₀ L h (upd b l))
    (hk : (l ++ l').map (fun p => upd b l p.1) = (l ++ l').map (fun p => upd b l' p.1)) : Fr h₀ L h (upd b l') := frEq F fun y => by
  by_cases hy : y ∈ (l ++ l').map (·.1)
  · obtain ⟨p, hp, rfl⟩ := List.mem_map.mp hy
    exact List.map_inj_left.mp hk p hp
  · rw [List.map_append] at hy
    rw [upd_off fun q => hy (List.mem_append_left _ q), upd_off fun q => hy (List.mem_append_right _ q)]

theorem arr_lt {a : Array Value} {i : Nat} {x : Value} (h : a[i]? = some x) : i < a.size := (Array.getElem?_eq_some_iff.mp h).1
theorem arr_ge {a : Array Value} {i : Nat} (h : a[i]? = none) : a.size ≤ i := Array.getElem?_eq_none_iff.mp h
theorem mask_hit {b : Bool} {x p q : Value} (h : some x = some (if b = true then p else q)) (hb : b = true) : x = p := by rw [if_pos hb] at h; exact Option.some.inj h
theorem mask_miss {b : Bool} {x p q : Value} (h : some x = some (if b = true then p else q)) (hb : ¬ b = true) : x = q := by rw [if_neg hb] at h; exact Option.some.inj h

end Mine
end
section
open PySem PySem.W PySem.Calls PyProof.Rows
namespace Mine
set_option maxRecDepth 100000
set_option maxHeartbeats 8000000

noncomputable def bindS (l : Addr) (side : Int) (t0 : Tok) : Str → Option Value := fun y => List.lookup y [(("numbers" : Str), Value.ref l), (("side" : Str), Value.int side t0)].reverse
noncomputable abbrev listS (aS : Addr) (u1 u2 : Option Value) : List (Str × Option Value) := [("number", u1), ("times", u2), ("spots", some (Value.ref aS))]
noncomputable abbrev mapS (aS l : Addr) (side : Int) (t0 : Tok) (u1 u2 : Option Value) : Str → Option Value := fun y => if y = ("number" : Str) then u1 else if y = ("times" : Str) then u2 else if y = ("spots" : Str) then some (Value.ref aS) else List.lookup y [(("numbers" : Str), Value.ref l), (("side" : Str), Value.int side t0)].reverse
inductive JS (s : Shared) (L aS I l : Addr) (side : Int) (t0 : Tok) (ns : List Int) : Nat → Shared → Prop
  | mk {h tk u1 u2 vs n i tl oI} (hi : i ≤ ns.length) (F : Fr s.heap L h (mapS aS l side t0 u1 u2)) (N : News s.heap L h ((aS, listOf vs n) :: (I, oI) :: tl)) (hc : oI.cls = .type "list_iterator") (hd : oI.data = .fields #[.ref l, .int (i : Nat) 0])
    (h1 : ∀ p ∈ tl, p.1 ≠ aS) (h2 : ∀ p ∈ tl, p.1 ≠ I) (P : Paired (SpotIn tl) vs.toList (spotsF (ns.take i) side)) : JS s L aS I l side t0 ns (ns.length + 1 - i) { s with heap := h, toks := tk }
theorem frS0 {h₀ h : Heap} {L aS l : Addr} {side : Int} {t0 : Tok} (F : Fr h₀ L h (upd (bindS l side t0) [("spots", some (.ref aS))])) : Fr h₀ L h (mapS aS l side t0 none none) := frUpd (l' := listS aS none none) F (by kernel_rfl)
theorem frST {h₀ h : Heap} {L aS l : Addr} {side : Int} {t0 : Tok} {u1 u2 v1 v2 : Option Value} (F : Fr h₀ L h (upd (bindS l side t0) (("times", v2) :: ("number", v1) :: listS aS u1 u2))) : Fr h₀ L h (mapS aS l side t0 v1 v2) := frUpd (l' := listS aS v1 v2) F (by kernel_rfl)
theorem spots_call {w : World} {mean : ExcName → Option Value} {mg mb : Str → Option Value} {dp un : Nat} {fr : Option (List Env)} {gd : Option (List Code)} {E : Value → Shared → Prop} {s : Shared} {Q : Value → Shared → Prop} {l : Addr} {items : Array Value} {ns : List Int} {side : Int} {t0 : Tok}
    (X : (Mine.hd.heap_39 w.params).In s.heap) (T : Top Mine.hd.view_39 LS mean mg mb s.heap) (R : dp + 1 < recursionLimit) (hl : s.heap.IsList l items) (hi : IntsAre items.toList ns) (hlen : ns.length ≤ 100)
    (hQ : ∀ D h' tk' ys, Ext s.heap h' → s.heap.get? D = none → h'.PlainList D ys → Paired (SpotV h') ys.toList (spotsF ns side) → Q (.ref D) { s with heap := h', toks := tk' }) :
    wpAny (model PySem.Challenge.rw_ox0037_01.row.prog w) (AA dp un fr gd) (call (.ref 166) [.ref l, .int side t0]) Q E s := by
  w_on
  w_strict (
  revert X T R hQ
  k_fill
  intro X T R hQ
  have hR : (AA dp un fr gd).depth < recursionLimit := by dsimp only; omega
  have hsz : items.size = ns.length := by have := hi.length; simpa using this
  refine' enter (binds := [("numbers", .ref l), ("side", .int side t0)]) X T ?ho ?hcd ?hroom ?hb ?hl ?_ ?c2 ?c3 ?c4 ?c5
  case ho => k_is
  case hcd => k_is
  case hroom => exact hR
  case hb => exact BindsTo.of_eq rfl
  case hl => exact locs rfl
  case c2 => exact rfl
  case c3 => exact rfl
  case c4 => exact rfl
  case c5 => decide
  intro L' h' F' N'
  (try dsimp only)
  (try k_fold)
  repeat' (first
      | (k_unfold; (try dsimp only))
      | (k_end; kc_close)
      | ((with_reducible show wpAny _ _ (exec (Stmt.For (Expr.Name _ _) (Expr.Name _ _) _ _ _) _) _ _ _); k_dflt (refine for_rawD ?_))
      | walk1
      | (dsimp only; walk1)
      | (leave1; (try dsimp only))
      | fail "no step")
  (rename Fr _ _ _ _ => F9); (rename News _ _ _ _ => N9)
  rename_i aS _ _ h9
  refine Halt.mk (wpAny_pyIter_list (hl.at fun o e => F9.keep _ o e) ?_)
  dsimp only
  have ha : aS < h9.objs.size := Heap.lt_size (N9 _ (List.Mem.head _)).1
  have hLI : L' < h9.objs.size := F9.ns.lt
  generalize hI : h9.objs.size = I at *
  generalize hH : h9.push { cls := Value.type "list_iterator", data := Data.fields #[Value.ref l, Value.int 0 0] } = h10
  have hpush : Ext h9 h10 := fun b o e => hH ▸ Heap.get?_push_of_some _ e
  have hI0 : s.heap.get? I = none := by
    cases q : s.heap.get? I with
    | none => rfl
    | some o => exact absurd (Heap.lt_size (F9.keep _ _ q)) (by rw [hI]; exact Nat.lt_irrefl _)
  have hIo : h10.get? I = some { cls := Value.type "list_iterator", data := Data.fields #[Value.ref l, Value.int 0 0] } := by rw [← hH, ← hI]; exact Heap.get?_push_size _ rfl
  have hIL : I ≠ L' := Nat.ne_of_gt hLI
  have haI : aS ≠ I := Nat.ne_of_lt ha
  have F10 : Fr s.heap L' h10 (mapS aS l side t0 none none) := frS0 (frExt F9 hpush)
  have N10 : News s.heap L' h10 ((aS, listOf #[] 0) :: (I, { cls := Value.type "list_iterator", data := Data.fields #[Value.ref l, Value.int 0 0] }) :: []) := by
    intro p hp
    rcases List.mem_cons.mp hp with rfl | hp
    · exact newsExt N9 hpush _ (List.Mem.head _)
    · rw [List.mem_singleton.mp hp]; exact ⟨hIo, hIL, hI0⟩
  clear F9 N9 hH hI hpush hIo
  refine LoopFor.gen (JS s L' aS I l side t0 ns) (ns.length + 1) (JS.mk (i := 0) (Nat.zero_le _) F10 N10 rfl rfl (fun _ h => nomatch h) (fun _ h => nomatch h) Paired.nil) ?_
  clear F10 N10
  rintro J' Q' hJ hQ' k s' @⟨h, tk, u1, u2, vs, n, i, tl, oI, hile, F, N, hc, hd, ht1, ht2, hS⟩
  have hIt : h.IsListIter I l i := ⟨oI, News.get N (List.Mem.tail _ (List.Mem.head _)), hc, hd⟩
  have hll : h.IsList l items := hl.at fun o e => F.keep _ o e
  by_cases hlt : i < ns.length
  · have hlt' : i < items.toList.length := by simpa [hsz] using hlt
    obtain ⟨t, hx⟩ := intsAre_get hi i _ (List.getElem?_eq_getElem hlt')
    have hx' : items[i]? = some (.int (ns.getD i 0) t) := by rw [← Array.getElem?_toList, List.getElem?_eq_getElem hlt', hx]
    refine wpAny_pyNext_list_item hIt hll hx' fun h1 hIt1 hs1 => ?_
    obtain ⟨oI1, ho1, hc1, hd1⟩ := hIt1
    have F1 := F.change hs1 hIL hI0
    have N1 : News s.heap L' h1 ((aS, listOf vs n) :: (I, oI1) :: tl) := news_set (pre := [(aS, listOf vs n)]) N (by intro p hp; rw [List.mem_singleton.mp hp]; exact haI) ht2 hs1 ho1
    clear F N hIt hll hs1
    refine wpAny_of_eq rfl ?_
    refine wpAny_assign_Name ?_
    have hns : ns.take (i + 1) = ns.take i ++ [ns.getD i 0] := by rw [List.take_add_one, List.getElem?_eq_getElem hlt, List.getD_eq_getElem?_getD, List.getElem?_eq_getElem hlt]; rfl
    generalize ns.getD i 0 = x at *
    have hai : @LT.lt Nat _ aS I := ha
    have hvs : vs.size ≤ sizeLine := by
      have e1 := hS.length
      have e2 : (spotsF (ns.take i) side).length ≤ (ns.take i).length := by unfold spotsF; rw [List.length_map]; exact List.length_filter_le _ _
      have e3 : (ns.take i).length ≤ ns.length := by rw [List.length_take]; omega
      rw [Array.length_toList] at e1
      rw [sizeLine_eq]; omega
    (try dsimp only)
    (try k_fold)
    repeat' (first
        | (k_unfold; (try dsimp only))
        | (k_end; kc_close)
        | ((with_reducible show wpAny _ _ (exec (Stmt.For (Expr.Name _ _) (Expr.Name _ _) _ _ _) _) _ _ _); k_dflt (refine for_rawD ?_))
        | walk1
        | (dsimp only; walk1)
        | (leave1; (try dsimp only))
        | fail "no step")
    · (rename Fr _ _ _ _ => F9); (rename News _ _ _ _ => N9)
      rename_i D9 _ hl9
      (try dsimp only at F9); (try dsimp only at N9); (try dsimp only)
      refine append_K (D := aS) (its := vs) (n := n) F9 N9 (Upd.tail (Nat.ne_of_gt hl9.1) (Upd.head ?_)) ?_ hvs
      · intro p hp
        rcases List.mem_cons.mp hp with rfl | hp
        · exact Ne.symm haI
        · exact ht1 p hp
      intro h11 F11 N11
      have hoff : ∀ p ∈ tl, p.1 < D9 := fun p hp => Heap.lt_size (N9 p (by simp [hp])).1 |> fun _ => allLt_mem hl9.2.2 p hp
      clear F9 N9
      (try dsimp only)
      repeat' (first
          | (k_unfold; (try dsimp only))
          | (k_end; kc_close)
          | ((with_reducible show wpAny _ _ (exec (Stmt.For (Expr.Name _ _) (Expr.Name _ _) _ _ _) _) _ _ _); k_dflt (refine for_rawD ?_))
          | walk1
          | (dsimp only; walk1)
          | (leave1; (try dsimp only))
          | fail "no step")
      (rename Fr _ _ _ _ => F9); (rename News _ _ _ _ => N9)
      (try dsimp only at F9); (try dsimp only at N9); (try dsimp only)
      refine ⟨_, dec_turn hlt, hJ _ _ (JS.mk hlt (frST F9) (newsPick N9 [1, 2, 0] 3) hc1 hd1 (fa_cons (Nat.ne_of_gt hl9.1) ht1) (fa_cons (Nat.ne_of_gt hl9.2.1) ht2) ?_)⟩
      · rw [hns, spotsF_snoc_pos (by assumption), Array.toList_push]
        exact Paired.snoc (paired_mono (fun _ _ x => x.mono fun p hp => List.mem_cons_of_mem _ hp) hS) ⟨_, _, _, _, _, rfl, List.mem_cons_self⟩
    · (rename Fr _ _ _ _ => F9); (rename News _ _ _ _ => N9)
      (try dsimp only at F9); (try dsimp only at N9); (try dsimp only)
      refine ⟨_, dec_turn hlt, hJ _ _ (JS.mk hlt (frST F9) N9 hc1 hd1 ht1 ht2 ?_)⟩
      rw [hns, spotsF_snoc_neg (by assumption)]
      exact hS
  · have hin : i = ns.length := by omega
    refine wpAny_pyNext_list_end rfl hIt hll (by rw [hin, ← hsz]; simp) fun h1 he1 => ?_
    have F1 : Fr s.heap L' h1 _ := frBut F he1 hIL hI0
    have N1 : News s.heap L' h1 ((aS, listOf vs n) :: tl) := by
      intro p hp
      rcases List.mem_cons.mp hp with rfl | hp
      · exact ⟨he1 _ _ haI (News.get N (List.Mem.head _)), (N _ (List.Mem.head _)).2⟩
      · exact ⟨he1 _ _ (ht2 p hp) (N p (by simp [hp])).1, (N p (by simp [hp])).2⟩
    rw [hin, List.take_length] at hS
    clear F N hIt hll hJ
    refine hQ' _ _ ?_
    clear hQ' J' Q'
    (try dsimp only)
    repeat' (first
        | (k_unfold; (try dsimp only))
        | (k_end; kc_close)
        | ((with_reducible show wpAny _ _ (exec (Stmt.For (Expr.Name _ _) (Expr.Name _ _) _ _ _) _) _ _ _); k_dflt (refine for_rawD ?_))
        | walk1
        | (dsimp only; walk1)
        | (leave1; (try dsimp only))
        | fail "no step")
    (rename Fr _ _ _ _ => F9); (rename News _ _ _ _ => N9)
    (try dsimp only)
    show Q (.ref aS) _
    exact hQ aS _ _ vs F9.keep (News.fresh N9 (List.Mem.head _)) ⟨n, News.get N9 (List.Mem.head _)⟩ (paired_mono (fun _ _ x => x.at (h₀ := s.heap) (L := L') fun p hp => (N9 p (List.mem_cons_of_mem _ hp)).1) hS)
  )
end Mine
end
section
open PySem PySem.W PySem.Calls PyProof.Rows
namespace Mine
set_option maxRecDepth 100000
set_option maxHeartbeats 4000000
theorem mro_object : mroOf (.type "object") = pure [.type "object"] := by rw [mroOf_type]; kernel_rfl
theorem lookup_object_new : typeLookup (.type "object") "__new__" = pure (some (.builtin "object.__new__")) := by rw [typeLookup_type, builtinLookup_eq_fast]; kernel_rfl
theorem lookup_object_init : typeLookup (.type "object") "__init__" = pure (some (.builtin "object.__init__")) := by rw [typeLookup_type, builtinLookup_eq_fast]; kernel_rfl
theorem made_object : Bind.madeBy (.type "object") = pure (some "object.__new__") := madeBy_type mro_object lookup_object_new (by decide +kernel)
theorem here_object : Bind.madeHere "object.__new__" (.type "object") = pure () := by kernel_rfl
theorem object_new_meets : Meets (Builtin.«object.__new__» ⟨[.type "object"], []⟩) (fun _ R s => R (.ok (.ret (.ref s.heap.objs.size))) { s with heap := s.heap.push { cls := .type "object", data := .plain } }) := by
  refine Meets.of_wp fun prog w A R s hs => ?_
  unfold Builtin.«object.__new__»
  have h1 := here_object
  repeat (any_goals (first | assumption | wp_step))
  exact ⟨_, rfl, hs⟩
theorem object_init0 (self : Value) : Meets (Builtin.«object.__init__» ⟨[self], []⟩) (fun _ R s => R (.ok (.ret .none)) s) :=
  Meets.of_wp fun _ _ _ _ _ hs => wpAny_pure ⟨_, rfl, hs⟩
theorem called_object : TypeCalled "object" "object.__new__" "object.__init__" :=
  ⟨by decide +kernel, by decide +kernel, ⟨_, _, mro_object⟩, made_object, by decide +kernel, by rw [isSubtype_type]; kernel_rfl, F.slot_object_init⟩
theorem object_entry : entryFor table "object.__new__" = some Builtin.«object.__new__» := F.objNew.entry
theorem object_args (obj : Value) : argsOk "object.__init__" ⟨[obj], []⟩ := by unfold argsOk; kernel_rfl

section
variable {prog : Program} {w : World} {A : Around} {E : Value → Shared → Prop} {s : Shared} {Q : Value → Shared → Prop}
noncomputable abbrev nullO : Obj := { cls := .type "object", data := .plain }
theorem call_object0 (h : Q (.ref s.heap.objs.size) { s with heap := s.heap.push nullO }) : wpAny (model prog w) A (call (.type "object") []) Q E s :=
  callType_meets called_object (by kernel_rfl) (by kernel_rfl) object_entry F.entry_object_init object_new_meets
    (Q₁ := fun obj s₁ => s₁.TypeIs obj "object" ∧ Q obj s₁) ⟨⟨_, Heap.get?_push_size _ rfl, rfl⟩, h⟩
    fun obj s₁ hq => ⟨hq.1, object_args obj, _, object_init0 obj, rfl, hq.2⟩
variable {h₀ : Heap} {L : Addr} {m : Str → Option Value} {news : List (Addr × Obj)}
theorem object_K (F : Fr h₀ L s.heap m) (N : News h₀ L s.heap news)
    (h : ∀ l h', Fr h₀ L h' m → News h₀ L h' ((l, nullO) :: news) → (∀ p ∈ news, p.1 < l) → Q (.ref l) { s with heap := h' }) : wpAny (model prog w) A (call (.type "object") []) Q E s :=
  call_object0 (h _ _ (F.push _) (N.push F _) fun p hp => Heap.lt_size (N p hp).1)
end
end Mine
end
section
open PySem PySem.W PySem.Calls PyProof.Rows PySem.SeqAt
namespace Mine
set_option maxRecDepth 100000
set_option maxHeartbeats 4000000

section
variable {M : Model} {A : Around} {E : Value → Shared → Prop} {s : Shared}
theorem rc_eq_decline_sub {a b : Value} {Ta Tb ida idb : String} {k : Bool} {Q : Value → Shared → Prop} (ha : s.TypeIs a Ta) (hb : s.TypeIs b Tb)
    (hne : (Value.type Ta != Value.type Tb) = true) (hsub : isSubtype (.type Tb) (.type Ta) = pure true) (h1 : Slot Ta (cmpInfo .Eq).2.1 ida) (h2 : Slot Tb (cmpInfo .Eq).2.2 idb)
    (hc1 : ∀ Q' : Value → Shared → Prop, Q' .notImplemented s → wpAny M A (call (.builtin ida) [a, b]) Q' E s)
    (hc2 : ∀ Q' : Value → Shared → Prop, Q' .notImplemented s → wpAny M A (call (.builtin idb) [b, a]) Q' E s)
    (hk : ∀ Q' : Bool → Shared → Prop, Q' k s → wpAny M A (isSame a b) Q' E s)
    (hr : [a, b].any Value.onHeap = false ∨ A.units < cLine) (h : Q (.bool k) s) : wpAny M A (richCompare .Eq a b) Q E s := by
  rcases hi : cmpInfo CmpOp.Eq with ⟨sym, f, r⟩
  rw [hi] at h1 h2
  simp only [richCompare, hi, ha.oneThing_none]
  try with_reducible refine wpAny_holding ?_
  refine wpAny_bind (wpAny_cRoomFor_or hr ?_)
  refine wpAny_bind (wpAny_typeOf ha (wpAny_bind (wpAny_typeOf hb ?_)))
  simp only [hne, if_true]
  refine wpAny_bind (wpAny_of_eq hsub ?_)
  simp only [if_true, Bool.not_true, Bool.false_eq_true, if_false]
  refine wpAny_bind (m := tryCompare b _ a) (wpAny_tryCompare_declines hb h2 (hc2 _ ⟨rfl, ?_⟩))
  refine wpAny_bind (m := tryCompare a _ b) (wpAny_tryCompare_declines ha h1 (hc1 _ ⟨rfl, ?_⟩))
  exact wpAny_bind (wpAny_rule (wpAny_bind (hk _ (wpAny_pure h))))
end

theorem tuple_eq_declines_obj (l b : Addr) (items : Array Value) (n : Nat) (dd : Option Addr) (sl : Array (Option Value)) :
    Meets (Builtin.«tuple.__eq__» ⟨[.ref l, .ref b], []⟩) (fun _ R s => s.heap.get? l = some { cls := .type "tuple", dict := dd, data := .seq items n, slots := sl } ∧ s.heap.get? b = some nullO ∧ R (.ok (.ret .notImplemented)) s) :=
  .of_wp fun prog w A R s h => by
    obtain ⟨hp, g, d, tk, os⟩ := s
    obtain ⟨hl, hb, h⟩ := h
    have f1 := F.sub_object_tuple
    wp_walk using AutoSeq1.wpAny_loadPart' hl, AutoSeq1.wpAny_loadPart' hb
    exact ⟨_, rfl, h⟩
theorem object_eq_declines (l b : Addr) (ob : Obj) (hne : l ≠ b) :
    Meets (Builtin.«object.__eq__» ⟨[.ref l, .ref b], []⟩) (fun _ R s => s.heap.get? l = some nullO ∧ s.heap.get? b = some ob ∧ R (.ok (.ret .notImplemented)) s) :=
  .of_wp fun prog w A R s h => by
    obtain ⟨hp, g, d, tk, os⟩ := s
    obtain ⟨hl, hb, h⟩ := h
    unfold Builtin.«object.__eq__»
    refine wpAny_bind (wpAny_of_eq (show slotArgs "__eq__" 1 ⟨[.ref l, .ref b], []⟩ = pure (.ref l, [.ref b]) from rfl) ?_)
    refine wpAny_bind (wpAny_isSame_ref_other hne hl hb (by decide) ?_)
    exact wpAny_pure ⟨_, rfl, h⟩

section
variable {A : Around} {s : Shared}
theorem rcNull {n l : Addr} {items : Array Value} (hn : s.heap.get? n = some nullO) (hl : IsTup s.heap l items) (hu : A.units < cLine) : RcAt A s (.ref n) (.ref l) false := fun prog w E Q h => by
  obtain ⟨⟨cls, dd, data, sl⟩, ho, hc, m, hd⟩ := id hl
  simp only at hc hd
  subst hc hd
  have hne : n ≠ l := fun e => by
    rw [e, ho] at hn
    have := congrArg Obj.cls (Option.some.inj hn)
    simp at this
  exact rc_eq_decline_sub (k := false) ⟨_, hn, rfl⟩ ⟨_, ho, rfl⟩ (by decide) F.sub_tuple_object F.slot_object_eq F.slot_tuple_eq_refl
    (fun _ hq => call_meets F.slot_object_eq ⟨_, hn, rfl⟩ F.entry_object_eq (F.args_object_eq_2 _ _) (object_eq_declines n l _ hne) ⟨hn, ho, hq⟩)
    (fun _ hq => call_meets F.slot_tuple_eq_refl ⟨_, ho, rfl⟩ F.entry_tuple_eq (F.args_tuple_eq_2 _ _) (tuple_eq_declines_obj l n items m dd sl) ⟨ho, hn, hq⟩)
    (fun _ hq => wpAny_isSame_ref_other hne hn ho (by decide) hq) (.inr hu) h

end

theorem booked {w : World} {h : Heap} (X : (Mine.hd.heap_39 w.params).In h) : NoneBooked h :=
  ⟨fun _ => none, ⟨_, #[], 0, X 2 { cls := .none, data := .dict #[] } (by kernel_rfl), rfl, (by intro e he; simp at he), fun _ => rfl⟩, rfl⟩

section
variable {M : Model} {A : Around} {E : Value → Shared → Prop} {s : Shared}
theorem isSame_float {a b : UInt64} {t u : Tok} {Q : Bool → Shared → Prop} (ht : t ≠ 0) (hu : u ≠ 0) (hb : NoneBooked s.heap) (hq : ∀ r, (r = true → t = u ∨ a = b) → Q r s) : wpAny M A (isSame (.float a t) (.float b u)) Q E s := by
  show wpAny M A (isSame.created (a == b && !Float64.isNaN a) t u) Q E s
  unfold isSame.created
  refine wpAny_ite ?_
  split
  · rename_i h; simp [ht, hu] at h
  refine wpAny_ite ?_
  split
  · rename_i h; exact wpAny_pure (hq _ fun _ => .inl (by simpa using h))
  refine wpAny_ite ?_
  split
  · exact wpAny_pure (hq _ fun h => by cases h)
  rename_i hc
  have hab : a = b := by
    have : (a == b && !Float64.isNaN a) = true := by simpa using hc
    have := (Bool.and_eq_true_iff.mp this).1
    simpa using this
  refine wpAny_bind (wpAny_sharingNotTold_none hb ?_)
  first | rw [if_neg Bool.false_ne_true] | simp only [Bool.false_eq_true, if_false]
  refine wpAny_bind (wpAny_sharingNotTold_none hb ?_)
  first | rw [if_neg Bool.false_ne_true] | simp only [Bool.false_eq_true, if_false]
  exact wpAny_bind (wpAny_rule (wpAny_bind (wpAny_askSetting (wpAny_pure (hq _ fun _ => .inr hab)))))
end

section
variable {A : Around} {s : Shared}
/-- two floats, as items of tuples -/
theorem eqFloat {a b : UInt64} {t u : Tok} (ht : t ≠ 0) (hu : u ≠ 0) (htu : t = u → a = b) (hab : a = b → feq a b = true) (hns : NoneBooked s.heap) : EqAt A s (.float a t) (.float b u) (feq a b) := fun prog w E Q h => by
  unfold eqBool
  refine wpAny_holding ?_
  refine wpAny_ite_split (fun e => ?_) (fun _ => ?_)
  · have e := eq_of_beq e
    injection e with e1 e2
    rw [hab e1] at h
    exact wpAny_bind (wpAny_rule (wpAny_pure h))
  · refine wpAny_bind (isSame_float ht hu hns fun r hr => ?_)
    cases r with
    | true =>
      have e : a = b := (hr rfl).elim htu id
      rw [hab e] at h
      exact wpAny_pure h
    | false =>
      exact wpAny_bind (AutoFloatOps.eq_0 (wpAny_truthy_bool h))
end
end Mine
end
section
open PySem PySem.W PySem.Calls PyProof.Rows PySem.SeqAt
namespace Mine
set_option maxRecDepth 100000
set_option maxHeartbeats 4000000

section
variable {prog : Program} {w : World} {h : Heap}
theorem lk_type (X : (Mine.hd.heap_39 w.params).In h) : Looks (model prog w) h (isType (.ref 135)) true := Looks.of_peek X (by kernel_rfl)
theorem lk_sub (X : (Mine.hd.heap_39 w.params).In h) : Looks (model prog w) h (isSubtype (.ref 135) (.type "tuple")) true := Looks.of_peek X (by kernel_rfl)
theorem lk_sub2 (X : (Mine.hd.heap_39 w.params).In h) : Looks (model prog w) h (isSubtype (.ref 135) (.ref 135)) true := Looks.of_peek X (by kernel_rfl)
theorem lk_here (X : (Mine.hd.heap_39 w.params).In h) : Looks (model prog w) h (Bind.madeHere "tuple.__new__" (.ref 135)) () := Looks.of_peek X (by kernel_rfl)
theorem lk_base (X : (Mine.hd.heap_39 w.params).In h) : Looks (model prog w) h (Bind.staticBase (.ref 135)) (.type "tuple") := Looks.of_peek X (by kernel_rfl)
theorem lk_made (X : (Mine.hd.heap_39 w.params).In h) : Looks (model prog w) h (Bind.madeBy (.ref 135)) none := Looks.of_peek X (by kernel_rfl)
theorem lk_init (X : (Mine.hd.heap_39 w.params).In h) : Looks (model prog w) h (typeLookup (.ref 135) "__init__") (some (.builtin "object.__init__")) := Looks.of_peek X (by kernel_rfl)
theorem lk_del (X : (Mine.hd.heap_39 w.params).In h) : Looks (model prog w) h (classHasDel 135) false := Looks.of_peek X (by kernel_rfl)
theorem lk_mro (X : (Mine.hd.heap_39 w.params).In h) : Looks (model prog w) h (mroOf (.ref 135)) [.ref 135, .type "tuple", .type "object"] := Looks.of_peek X (by kernel_rfl)
end

noncomputable abbrev rowO (d : Addr) (items : Array Value) : Obj := { cls := .ref 135, dict := some d, data := .seq items 0 }

theorem row_new_meets (w : World) (l : Addr) (o : Obj) (items : Array Value) (n : Nat) (hc : o.cls = .type "tuple") (hd : o.data = .seq items n) (hsz : items.size ≤ sizeLine) :
    ∀ (prog : Program) (A : Around) (R : Result → Shared → Prop) (s : Shared), (Mine.hd.heap_39 w.params).In s.heap → s.heap.get? l = some o →
      (∀ D d h', Ext s.heap h' → s.heap.get? D = none → h'.get? D = some (rowO d items) → R (.ok (.ret (.ref D))) { s with heap := h' }) →
      wpAny (model prog w) A.in1 (Builtin.«tuple.__new__» ⟨[.ref 135, .ref l], []⟩) (fun fin s' => ∃ v, fin = .done (.ret v) ∧ R (.ok (.ret v)) s') (fun e s' => R (.error e) s') s := by
  intro prog A R s X ho h
  obtain ⟨hp, g, d, tk, os⟩ := s
  have k1 := lk_type (prog := prog) X
  have k2 := lk_sub (prog := prog) X
  have k3 := lk_here (prog := prog) X
  have k4 := lk_init (prog := prog) X
  wp_walk using Looks.here k1, Looks.here k2, Looks.here k3, Looks.here k4, wpAny_collect_seq (hsz := hsz) l (.inr rfl) ho hc hd
  intro h' hk
  refine wpAny_bind (wpAny_pure ?_)
  have e : items.toList.toArray = items := by simp
  rw [e]
  show wpAny _ _ (alloc { cls := Value.type "dict", data := Data.dict #[] } >>= fun dd => newObj (Value.ref 135) (Data.seq items) (some dd) >>= fun v => ret v) _ _ _
  refine wpAny_bind (wpAny_alloc (wpAny_bind ?_))
  have hX : (Mine.hd.heap_39 w.params).In ((h'.push { cls := Value.type "dict", data := Data.dict #[] }).push (rowO h'.objs.size items)) := X.keeps fun b o e => Heap.get?_push_of_some _ (Heap.get?_push_of_some _ (hk b o e))
  have k5 := lk_del (prog := prog) hX
  unfold newObj newObjAsIs
  have hz : ¬ items.size > sizeLine := Nat.not_lt.mpr hsz
  dsimp only
  rw [if_neg hz]
  refine wpAny_bind (wpAny_alloc (wpAny_bind (k5.here ?_)))
  refine wpAny_pure (wpAny_pure ⟨_, rfl, ?_⟩)
  refine h _ h'.objs.size _ (fun b o e => Heap.get?_push_of_some _ (Heap.get?_push_of_some _ (hk b o e))) ?_ (Heap.get?_push_size _ rfl)
  cases q : hp.get? (h'.push { cls := Value.type "dict", data := Data.dict #[] }).objs.size with
  | none => rfl
  | some o' =>
    have := Heap.lt_size (hk _ _ q)
    rw [Heap.size_push] at this
    exact absurd this (Nat.not_lt.mpr (Nat.le_succ _))
end Mine
namespace Mine
section
variable {prog : Program} {w : World} {h : Heap}
theorem lk_check (X : (Mine.hd.heap_39 w.params).In h) (l : Addr) : Looks (model prog w) h (checkBuiltinCall "tuple.__new__" ⟨[.ref 135, .ref l], []⟩) () := Looks.of_peek X (by kernel_rfl)
end
section
variable {prog : Program} {w : World} {A : Around} {E : Value → Shared → Prop} {s : Shared} {Q : Value → Shared → Prop}
theorem row_new {l : Addr} {items : Array Value} (X : (Mine.hd.heap_39 w.params).In s.heap) (hl : IsTup s.heap l items) (hsz : items.size ≤ sizeLine)
    (h : ∀ D d h', Ext s.heap h' → s.heap.get? D = none → h'.get? D = some (rowO d items) → Q (.ref D) { s with heap := h' }) :
    wpAny (model prog w) A (call (.builtin "tuple.__new__") [.ref 135, .ref l]) Q E s := by
  obtain ⟨o, ho, hc, n, hd⟩ := hl
  refine wpAny_call (codeAny_call_builtin F.called_tuple.plain F.entry_tuple_new ((lk_check X l).here ?_))
  refine wpAny_mono (row_new_meets w l o items n hc hd hsz prog A (fun r s' => match r with | .ok (.ret v) => Q v s' | .ok _ => False | .error e => E e s') s X ho h) (fun fin s' hf => ?_) fun _ _ e => e
  obtain ⟨v, rfl, hv⟩ := hf
  exact hv
theorem meta_tuple : typeOf (.type "tuple") = pure (.type "type") := by kernel_rfl
end
end Mine
end
section
open PySem PySem.W PySem.Calls PyProof.Rows
namespace Mine
set_option maxRecDepth 100000
set_option maxHeartbeats 8000000

theorem new_call {w : World} {mean : ExcName → Option Value} {mg mb : Str → Option Value} {dp un : Nat} {fr : Option (List Env)} {gd : Option (List Code)} {E : Value → Shared → Prop} {s : Shared} {Q : Value → Shared → Prop} {a b : Int} {t1 t2 : Tok} {v : Value}
    (X : (Mine.hd.heap_39 w.params).In s.heap) (T : Top Mine.hd.view_39 LS mean mg mb s.heap) (R : dp + 1 < recursionLimit) (U : un + 100 < cLine)
    (hQ : ∀ D d h' tk', Ext s.heap h' → s.heap.get? D = none → h'.get? D = some (rowO d #[.int a t1, .int b t2, v]) → Q (.ref D) { s with heap := h', toks := tk' }) :
    wpAny (model PySem.Challenge.rw_ox0037_01.row.prog w) (AA dp un fr gd) (call (.ref 82) [.ref 135, .int a t1, .int b t2, v]) Q E s := by
  w_on
  w_strict (
  revert X T R hQ
  k_fill
  intro X T R hQ
  have hR : (AA dp un fr gd).depth < recursionLimit := by dsimp only; omega
  refine' enter (binds := [("_cls", .ref 135), ("actual", .int a t1), ("expected", .int b t2), ("value", v)]) X T ?ho ?hcd ?hroom ?hb ?hl ?_ ?c2 ?c3 ?c4 ?c5
  case ho => k_is
  case hcd => k_is
  case hroom => exact hR
  case hb => exact BindsTo.of_eq rfl
  case hl => exact locs rfl
  case c2 => exact rfl
  case c3 => exact rfl
  case c4 => exact rfl
  case c5 => decide
  intro L' h' F' N'
  (try dsimp only)
  (try k_fold)
  repeat' (first
      | (k_unfold; (try dsimp only))
      | (k_end; kc_close)
      | (with_reducible ((with_reducible show wpAny _ _ (call (Value.builtin "tuple.__new__") _) _ _ _); refine stopW ?_))
      | (with_reducible ((with_reducible show wpAny _ _ (getMethod (Value.type "tuple") _ _) _ _ _); k_here; refine' method_type ?F ?X ?m (by decide +kernel) ?e ?h ?_; (case F => k_asm); (case X => k_asm); (case m => exact meta_tuple); (case e => k_dflt k_is); (case h => k_handed)))
      | walk1
      | (dsimp only; walk1)
      | (leave1; (try dsimp only))
      | fail "no step")
  (rename Fr _ _ _ _ => F9); (rename News _ _ _ _ => N9)
  refine Halt.mk (row_new (X.keeps F9.keep) (News.isTup N9 (List.Mem.head _)) (by (show 3 ≤ sizeLine); rw [sizeLine_eq]; decide) ?_)
  intro D d h9 he hD ho
  (try dsimp only)
  show Q (.ref D) _
  refine hQ D d h9 _ (fun b o e => he b o (F9.keep b o e)) ?_ ho
  cases q : s.heap.get? D with
  | none => rfl
  | some o => rw [F9.keep _ _ q] at hD; cases hD
  )
end Mine
end
section
open PySem PySem.W PySem.Calls PyProof.Rows PySem.SeqAt
namespace Mine
set_option maxRecDepth 100000
set_option maxHeartbeats 4000000

section
variable {prog : Program} {w : World} {h : Heap}
theorem lk_call (X : (Mine.hd.heap_39 w.params).In h) : Looks (model prog w) h (specialOf (.ref 135) "__call__") (some (.builtin "type.__call__")) := Looks.of_peek X (by kernel_rfl)
theorem lk_typ (X : (Mine.hd.heap_39 w.params).In h) : Looks (model prog w) h (isInstance (.ref 135) (.type "type")) true := Looks.of_peek X (by kernel_rfl)
theorem lk_top (X : (Mine.hd.heap_39 w.params).In h) : Looks (model prog w) h (isSubtype (.ref 135) (.type "object")) true := Looks.of_peek X (by kernel_rfl)
theorem oi_args4 (a b c d : Value) : argsOk "object.__init__" ⟨[a, b, c, d], []⟩ := by unfold argsOk; kernel_rfl
noncomputable def isCls (o : Option Obj) : Bool := match o with | some ⟨_, _, .cls _, _⟩ => true | _ => false
theorem isCls_of {o : Option Obj} (h : isCls o = true) : ∃ oc od cd sl, o = some ⟨oc, od, .cls cd, sl⟩ := by
  unfold isCls at h
  split at h
  · exact ⟨_, _, _, _, rfl⟩
  · cases h
theorem cls135 (w : World) : ∃ oc od cd sl, (Mine.hd.heap_39 w.params).lookup 135 = some ⟨oc, od, .cls cd, sl⟩ := isCls_of (by kernel_rfl)
theorem sm1 (w : World) : typeIn (Mine.hd.heap_39 w.params) (.ref 135) = some (.type "type") := by kernel_rfl
theorem sm2 (w : World) : readsIn (Mine.hd.heap_39 w.params) 135 (.type "type") = true := by kernel_rfl
theorem sm3 (w : World) : findCls (Mine.hd.heap_39 w.params) (.ref 135) (.type "type") "__new__" = some (.get (.builtin "staticmethod.__get__") (.ref 136) .none (.ref 135)) := by kernel_rfl
theorem sm4 (w : World) : recIn (Mine.hd.heap_39 w.params) 136 "staticmethod" = some [.ref 82] := by kernel_rfl
end

section
variable {w : World} {mean : ExcName → Option Value} {mg mb : Str → Option Value} {dp un : Nat} {fr : Option (List Env)} {gd : Option (List Code)} {E : Value → Shared → Prop} {s : Shared} {Q : Value → Shared → Prop}
theorem mis_call {a b : Int} {t1 t2 : Tok} {v : Value} (X : (Mine.hd.heap_39 w.params).In s.heap) (T : Top Mine.hd.view_39 LS mean mg mb s.heap) (R : dp + 10 < recursionLimit) (U : un + 150 < cLine)
    (hQ : ∀ D d h' tk', Ext s.heap h' → s.heap.get? D = none → h'.get? D = some (rowO d #[.int a t1, .int b t2, v]) → Q (.ref D) { s with heap := h', toks := tk' }) :
    wpAny (model PySem.Challenge.rw_ox0037_01.row.prog w) (AA dp un fr gd) (call (.ref 135) [.int a t1, .int b t2, v]) Q E s := by
  obtain ⟨oc, od, cd, sl, hC⟩ := cls135 w
  have hC := X _ _ hC
  have call := lk_call (prog := PySem.Challenge.rw_ox0037_01.row.prog) X
  have typ := lk_typ (prog := PySem.Challenge.rw_ox0037_01.row.prog) X
  have hm := lk_mro (prog := PySem.Challenge.rw_ox0037_01.row.prog) X
  have made := lk_made (prog := PySem.Challenge.rw_ox0037_01.row.prog) X
  refine wpAny_call (codeAny_of_tree ?_)
  show wpAny _ _ (callAny (.ref 135) _) _ _ _
  refine nd_load hC ?_
  show wpAny _ _ (callAny.viaDunder (.ref 135) _) _ _ _
  unfold callAny.viaDunder
  refine wpAny_bind (call.here ?_)
  dsimp only
  rw [tc_bind]
  refine wpAny_bind (wpAny_pure (wpAny_bind (wpAny_pure ?_)))
  refine wpAny_pure (a := Fin.again (.call (.builtin "type.__call__") ⟨[.ref 135, .int a t1, .int b t2, v], []⟩)) (And.intro rfl ?_)
  refine codeAny_call_builtin_at (Code.quiet_builtin _ (by decide +kernel)) entry_typeCall (check_slot tc_kind tc_split typ (tc_args _ _ _) ?_)
  unfold Builtin.«type.__call__»
  have hget : ∀ (A' : Around) (E' : Value → Shared → Prop) (Q' : Value → Shared → Prop), Q' (.ref 82) { s with toks := s.toks + 1 } → wpAny (model PySem.Challenge.rw_ox0037_01.row.prog w) A' (getAttr (.ref 135) (Str.ofString "__new__")) Q' E' s :=
    fun A' E' Q' h => cls_bind X (sm2 w) (sm3 w) (wpAny_call (sm_get (s := { s with toks := s.toks + 1 }) X (sm4 w) (handed_on rfl h)))
  have hnew : ∀ (Q' E' : Value → Shared → Prop), (∀ D d h' tk', Ext s.heap h' → s.heap.get? D = none → h'.get? D = some (rowO d #[.int a t1, .int b t2, v]) → Q' (.ref D) { s with heap := h', toks := tk' }) →
      wpAny (model PySem.Challenge.rw_ox0037_01.row.prog w) ((AA dp un fr gd).under (.builtin "type.__call__" ⟨[.ref 135, .int a t1, .int b t2, v], []⟩)) (PySem.call (.ref 82) [.ref 135, .int a t1, .int b t2, v]) Q' E' { s with toks := s.toks + 1 } := by
    intro Q' E' hq
    have hcu : (Code.builtin "type.__call__" ⟨[.ref 135, .int a t1, .int b t2, v], []⟩).cUnits = 1 := rfl
    exact new_call (s := { s with toks := s.toks + 1 }) (dp := dp + 1) (un := un + (Code.builtin "type.__call__" ⟨[.ref 135, .int a t1, .int b t2, v], []⟩).cUnits) X T (by omega) (by omega) hq
  repeat (first | with_reducible refine hget _ _ _ ?_ | with_reducible refine hnew _ _ ?_ | lk)
  intro D d h' tk' he hD ho
  have X' := X.keeps he
  have t1 : Looks (model PySem.Challenge.rw_ox0037_01.row.prog w) h' (typeOf (.ref D)) (.ref 135) := (Looks.ld ho).andThen .now
  have s1 := lk_sub2 (prog := PySem.Challenge.rw_ox0037_01.row.prog) X'
  have i1 := lk_init (prog := PySem.Challenge.rw_ox0037_01.row.prog) X'
  have m1 := lk_made (prog := PySem.Challenge.rw_ox0037_01.row.prog) X'
  have b1 : Looks (model PySem.Challenge.rw_ox0037_01.row.prog w) h' (bindSpecial (.builtin "object.__init__") (.ref D)) (.builtin "object.__init__", [.ref D]) := Looks.of_pure (oi_bind _)
  have t2 : Looks (model PySem.Challenge.rw_ox0037_01.row.prog w) h' (isInstance (.ref D) (.type "object")) true := t1.andThen (lk_top X')
  unfold isInstance callSpecial? specialOf
  repeat (first | with_reducible refine wpAny_call ?_ | lk)
  refine codeAny_call_builtin oi_plain entry_oi (check_slot oi_kind oi_split t2 (oi_args4 _ _ _ _) ?_)
  unfold Builtin.«object.__init__»
  repeat lk
  exact hQ D d h' tk' he hD ho
end
end Mine
end
section
open PySem PySem.W PySem.Calls PyProof.Rows PySem.SeqAt
namespace Mine
set_option maxRecDepth 100000
set_option maxHeartbeats 4000000
section
variable {prog : Program} {w : World} {A : Around} {E : Value → Shared → Prop} {s : Shared}
theorem sub_nested {dep : Int} {tk : Tok} {Q : Fin → Shared → Prop} (X : (Mine.hd.heap_39 w.params).In s.heap) (hq : Q (.done (.ret (.bool true))) s) :
    wpAny (model prog w) A (Builtin.«issubclass.nested» ⟨[.ref 135, .type "tuple", .int dep tk], []⟩) Q E s := by
  have k1 := lk_type (prog := prog) X
  have k2 := lk_sub (prog := prog) X
  repeat (any_goals (first | assumption | with_reducible refine Looks.here k2 ?_ | with_reducible refine Looks.here k1 ?_ | wp_step))

theorem issub_row {Q : Value → Shared → Prop} (X : (Mine.hd.heap_39 w.params).In s.heap) (h : Q (.bool true) s) : wpAny (model prog w) A (call (.builtin "issubclass") [.ref 135, .type "tuple"]) Q E s := by
  refine call_function_tree F.kind_issubclass F.plain_issubclass F.entry_issubclass (F.args_issubclass_2 _ _) ?_
  exact issubclass_outer (R := fun r s' => match r with | .ok (.ret v) => Q v s' | .ok _ => False | .error e => E e s') (sub_nested X h)

end
end Mine
end
section
open PySem PySem.W PySem.Calls PyProof.Rows PySem.SeqAt
namespace Mine
set_option maxRecDepth 100000
set_option maxHeartbeats 4000000
section
variable {prog : Program} {w : World} {A : Around} {E : Value → Shared → Prop} {s : Shared}
theorem gi_kind : builtinKind "tuple.__getitem__" = some .slot := by decide +kernel
theorem gi_split : splitId "tuple.__getitem__" = some ("tuple", "__getitem__") := by decide +kernel
theorem gi_plain : plainId "tuple.__getitem__" = true := by decide +kernel
theorem gi_entry : entryFor table "tuple.__getitem__" = some Builtin.«tuple.__getitem__» := entryFor_of_tree (by kernel_rfl)
theorem gi_args (a b : Value) : argsOk "tuple.__getitem__" ⟨[a, b], []⟩ := by unfold argsOk; kernel_rfl
theorem row_item {D d : Addr} {x0 x1 x2 : Value} {k : Nat} {tk : Tok} {Q : Value → Shared → Prop} (X : (Mine.hd.heap_39 w.params).In s.heap) (ho : s.heap.get? D = some (rowO d #[x0, x1, x2])) (hk : k < 3)
    (h : Q (#[x0, x1, x2].getD k .none) s) : wpAny (model prog w) A (call (.builtin "tuple.__getitem__") [.ref D, .int (k : Int) tk]) Q E s := by
  have t1 : Looks (model prog w) s.heap (typeOf (.ref D)) (.ref 135) := (Looks.ld ho).andThen .now
  have t2 : Looks (model prog w) s.heap (isInstance (.ref D) (.type "tuple")) true := t1.andThen (lk_sub X)
  refine wpAny_call ?_
  refine codeAny_call_builtin (id := "tuple.__getitem__") (args := ⟨[.ref D, .int (k : Int) tk], []⟩) PySem.F.slot_tuple_getitem.plain PySem.F.entry_tuple_getitem ?_
  refine @check_slot (model prog w) _ _ s "tuple.__getitem__" "tuple" "__getitem__" (.ref D) [.int (k : Int) tk] [] _ gi_kind gi_split t2 (PySem.F.args_tuple_getitem_2 _ _) ?_
  have k2 := lk_sub (prog := prog) X
  have f1 := AutoSeq1.idx_int
  obtain ⟨hp, g, dd, tt, os⟩ := s
  have hs : seqIndex? (k : Int) (#[x0, x1, x2] : Array Value).size = some k := by
    have : k = 0 ∨ k = 1 ∨ k = 2 := by omega
    rcases this with rfl | rfl | rfl <;> rfl
  have hy : (#[x0, x1, x2] : Array Value)[k]? = some (#[x0, x1, x2].getD k .none) := by
    have : k = 0 ∨ k = 1 ∨ k = 2 := by omega
    rcases this with rfl | rfl | rfl <;> rfl
  wp_walk using AutoSeq1.wpAny_loadPart' ho, Looks.here t1, Looks.here k2
  simp only [hs, hy, Option.bind_some]
  refine wpAny_ite_false (by simp; omega) ?_
  refine wpAny_pure ?_
  exact h
end
end Mine
end
section
open PySem PySem.W PySem.Calls PyProof.Rows
namespace Mine
set_option maxRecDepth 100000
set_option maxHeartbeats 8000000

theorem type_row {prog : Program} {w : World} {A : Around} {E : Value → Shared → Prop} {s : Shared} {Q : Value → Shared → Prop} {h0 : Heap} {D d : Addr} {it : Array Value}
    (hk : ∀ b o, h0.get? b = some o → s.heap.get? b = some o) (ho : h0.get? D = some (rowO d it)) (h : Q (.ref 135) s) : wpAny (model prog w) A (call (.type "type") [.ref D]) Q E s := by
  obtain ⟨hh, g, dd, t, os⟩ := s
  exact call_type_obj (hk _ _ ho) rfl h

theorem t36a (w : World) : ((Mine.hd.heap_39 w.params).lookup 36).map (·.data) = some (.seq #[.none] 0) := by kernel_rfl
theorem t36 {w : World} {h : Heap} (X : (Mine.hd.heap_39 w.params).In h) : ∃ o, h.get? 36 = some o ∧ o.data = .seq #[.none] 0 := by
  have a := t36a w
  cases q : (Mine.hd.heap_39 w.params).lookup 36 with
  | none => rw [q] at a; cases a
  | some o => rw [q] at a; exact ⟨o, X _ _ q, Option.some.inj a⟩

theorem get_call0 {w : World} {mean : ExcName → Option Value} {mg mb : Str → Option Value} {dp un : Nat} {fr : Option (List Env)} {gd : Option (List Code)} {E : Value → Shared → Prop} {s : Shared} {Q : Value → Shared → Prop} {D d : Addr} {x0 x1 x2 : Value}
    (X : (Mine.hd.heap_39 w.params).In s.heap) (T : Top Mine.hd.view_39 LS mean mg mb s.heap) (R : dp + 1 < recursionLimit) (U : un + 100 < cLine) (ho : s.heap.get? D = some (rowO d #[x0, x1, x2]))
    (hQ : ∀ h' tk', Ext s.heap h' → Q x0 { s with heap := h', toks := tk' }) :
    wpAny (model PySem.Challenge.rw_ox0037_01.row.prog w) (AA dp un fr gd) (call (.ref 43) [.ref 124, .ref D, .ref 135]) Q E s := by
  obtain ⟨o36, hT36, hS36⟩ := t36 X
  w_on
  w_strict (
  revert X T R hQ
  k_fill
  intro X T R hQ
  have hR : (AA dp un fr gd).depth < recursionLimit := by dsimp only; omega
  refine' enter (binds := [("self", .ref 124), ("obj", .ref D), ("objtype", .ref 135)]) X T ?ho ?hcd ?hroom ?hb ?hl ?_ ?c2 ?c3 ?c4 ?c5
  case ho => k_is
  case hcd => k_is
  case hroom => exact hR
  case hb => exact BindsTo.of_defaults rfl hT36 hS36 rfl rfl
  case hl => exact locs rfl
  case c2 => exact rfl
  case c3 => exact rfl
  case c4 => exact rfl
  case c5 => decide
  intro L' h' F' N'
  (try dsimp only)
  (try k_fold)
  repeat' (first
      | (k_unfold; (try dsimp only))
      | (k_end; kc_close)
      | (with_reducible ((with_reducible show wpAny _ _ (call (Value.builtin "tuple.__getitem__") _) _ _ _); refine stopW ?_))
      | (with_reducible ((with_reducible show wpAny _ _ (call (Value.builtin "issubclass") _) _ _ _); k_here; refine' issub_row ?X ?_; (case X => k_in)))
      | (with_reducible ((with_reducible show wpAny _ _ (call (Value.type "type") _) _ _ _); k_here; refine' type_row (Fr.keep ?F) ?o ?_; (case F => k_asm); (case o => assumption)))
      | (with_reducible ((with_reducible show wpAny _ _ (getMethod (Value.type "tuple") _ _) _ _ _); k_here; refine' method_type ?F ?X ?m (by decide +kernel) ?e ?h ?_; (case F => k_asm); (case X => k_asm); (case m => exact meta_tuple); (case e => k_dflt k_is); (case h => k_handed)))
      | walk1
      | (dsimp only; walk1)
      | (leave1; (try dsimp only))
      | fail "no step")
  (rename Fr _ _ _ _ => F9)
  refine Halt.mk (row_item (k := 0) (X.keeps F9.keep) (F9.keep _ _ ho) (by omega) ?_)
  (try dsimp only)
  show Q x0 _
  exact hQ h' _ F9.keep
  )

theorem get_call1 {w : World} {mean : ExcName → Option Value} {mg mb : Str → Option Value} {dp un : Nat} {fr : Option (List Env)} {gd : Option (List Code)} {E : Value → Shared → Prop} {s : Shared} {Q : Value → Shared → Prop} {D d : Addr} {x0 x1 x2 : Value}
    (X : (Mine.hd.heap_39 w.params).In s.heap) (T : Top Mine.hd.view_39 LS mean mg mb s.heap) (R : dp + 1 < recursionLimit) (U : un + 100 < cLine) (ho : s.heap.get? D = some (rowO d #[x0, x1, x2]))
    (hQ : ∀ h' tk', Ext s.heap h' → Q x1 { s with heap := h', toks := tk' }) :
    wpAny (model PySem.Challenge.rw_ox0037_01.row.prog w) (AA dp un fr gd) (call (.ref 43) [.ref 127, .ref D, .ref 135]) Q E s := by
  obtain ⟨o36, hT36, hS36⟩ := t36 X
  w_on
  w_strict (
  revert X T R hQ
  k_fill
  intro X T R hQ
  have hR : (AA dp un fr gd).depth < recursionLimit := by dsimp only; omega
  refine' enter (binds := [("self", .ref 127), ("obj", .ref D), ("objtype", .ref 135)]) X T ?ho ?hcd ?hroom ?hb ?hl ?_ ?c2 ?c3 ?c4 ?c5
  case ho => k_is
  case hcd => k_is
  case hroom => exact hR
  case hb => exact BindsTo.of_defaults rfl hT36 hS36 rfl rfl
  case hl => exact locs rfl
  case c2 => exact rfl
  case c3 => exact rfl
  case c4 => exact rfl
  case c5 => decide
  intro L' h' F' N'
  (try dsimp only)
  (try k_fold)
  repeat' (first
      | (k_unfold; (try dsimp only))
      | (k_end; kc_close)
      | (with_reducible ((with_reducible show wpAny _ _ (call (Value.builtin "tuple.__getitem__") _) _ _ _); refine stopW ?_))
      | (with_reducible ((with_reducible show wpAny _ _ (call (Value.builtin "issubclass") _) _ _ _); k_here; refine' issub_row ?X ?_; (case X => k_in)))
      | (with_reducible ((with_reducible show wpAny _ _ (call (Value.type "type") _) _ _ _); k_here; refine' type_row (Fr.keep ?F) ?o ?_; (case F => k_asm); (case o => assumption)))
      | (with_reducible ((with_reducible show wpAny _ _ (getMethod (Value.type "tuple") _ _) _ _ _); k_here; refine' method_type ?F ?X ?m (by decide +kernel) ?e ?h ?_; (case F => k_asm); (case X => k_asm); (case m => exact meta_tuple); (case e => k_dflt k_is); (case h => k_handed)))
      | walk1
      | (dsimp only; walk1)
      | (leave1; (try dsimp only))
      | fail "no step")
  (rename Fr _ _ _ _ => F9)
  refine Halt.mk (row_item (k := 1) (X.keeps F9.keep) (F9.keep _ _ ho) (by omega) ?_)
  (try dsimp only)
  show Q x1 _
  exact hQ h' _ F9.keep
  )

theorem get_call2 {w : World} {mean : ExcName → Option Value} {mg mb : Str → Option Value} {dp un : Nat} {fr : Option (List Env)} {gd : Option (List Code)} {E : Value → Shared → Prop} {s : Shared} {Q : Value → Shared → Prop} {D d : Addr} {x0 x1 x2 : Value}
    (X : (Mine.hd.heap_39 w.params).In s.heap) (T : Top Mine.hd.view_39 LS mean mg mb s.heap) (R : dp + 1 < recursionLimit) (U : un + 100 < cLine) (ho : s.heap.get? D = some (rowO d #[x0, x1, x2]))
    (hQ : ∀ h' tk', Ext s.heap h' → Q x2 { s with heap := h', toks := tk' }) :
    wpAny (model PySem.Challenge.rw_ox0037_01.row.prog w) (AA dp un fr gd) (call (.ref 43) [.ref 130, .ref D, .ref 135]) Q E s := by
  obtain ⟨o36, hT36, hS36⟩ := t36 X
  w_on
  w_strict (
  revert X T R hQ
  k_fill
  intro X T R hQ
  have hR : (AA dp un fr gd).depth < recursionLimit := by dsimp only; omega
  refine' enter (binds := [("self", .ref 130), ("obj", .ref D), ("objtype", .ref 135)]) X T ?ho ?hcd ?hroom ?hb ?hl ?_ ?c2 ?c3 ?c4 ?c5
  case ho => k_is
  case hcd => k_is
  case hroom => exact hR
  case hb => exact BindsTo.of_defaults rfl hT36 hS36 rfl rfl
  case hl => exact locs rfl
  case c2 => exact rfl
  case c3 => exact rfl
  case c4 => exact rfl
  case c5 => decide
  intro L' h' F' N'
  (try dsimp only)
  (try k_fold)
  repeat' (first
      | (k_unfold; (try dsimp only))
      | (k_end; kc_close)
      | (with_reducible ((with_reducible show wpAny _ _ (call (Value.builtin "tuple.__getitem__") _) _ _ _); refine stopW ?_))
      | (with_reducible ((with_reducible show wpAny _ _ (call (Value.builtin "issubclass") _) _ _ _); k_here; refine' issub_row ?X ?_; (case X => k_in)))
      | (with_reducible ((with_reducible show wpAny _ _ (call (Value.type "type") _) _ _ _); k_here; refine' type_row (Fr.keep ?F) ?o ?_; (case F => k_asm); (case o => assumption)))
      | (with_reducible ((with_reducible show wpAny _ _ (getMethod (Value.type "tuple") _ _) _ _ _); k_here; refine' method_type ?F ?X ?m (by decide +kernel) ?e ?h ?_; (case F => k_asm); (case X => k_asm); (case m => exact meta_tuple); (case e => k_dflt k_is); (case h => k_handed)))
      | walk1
      | (dsimp only; walk1)
      | (leave1; (try dsimp only))
      | fail "no step")
  (rename Fr _ _ _ _ => F9)
  refine Halt.mk (row_item (k := 2) (X.keeps F9.keep) (F9.keep _ _ ho) (by omega) ?_)
  (try dsimp only)
  show Q x2 _
  exact hQ h' _ F9.keep
  )
end Mine
end
section
open PySem PySem.W PySem.Calls PyProof.Rows PySem.SeqAt Builtin Builtin.ObjectAttr
namespace Mine
set_option maxRecDepth 100000
set_option maxHeartbeats 4000000
theorem ga_a (w : World) : findIn (Mine.hd.heap_39 w.params) (.ref 135) "__getattribute__" = some (some (.builtin "tuple.__getattribute__")) := by kernel_rfl
theorem gk (w : World) : findIn (Mine.hd.heap_39 w.params) (.ref 135) "__getattr__" = some none := by kernel_rfl
theorem ga0 (w : World) : findIn (Mine.hd.heap_39 w.params) (.ref 135) "actual" = some (some (.ref 124)) := by kernel_rfl
theorem ga1 (w : World) : findIn (Mine.hd.heap_39 w.params) (.ref 135) "expected" = some (some (.ref 127)) := by kernel_rfl
theorem ga2 (w : World) : findIn (Mine.hd.heap_39 w.params) (.ref 135) "value" = some (some (.ref 130)) := by kernel_rfl
theorem gg0 (w : World) : specialIn (Mine.hd.heap_39 w.params) (.ref 124) "__get__" = some (some (.ref 43)) := by kernel_rfl
theorem gg1 (w : World) : specialIn (Mine.hd.heap_39 w.params) (.ref 127) "__get__" = some (some (.ref 43)) := by kernel_rfl
theorem gg2 (w : World) : specialIn (Mine.hd.heap_39 w.params) (.ref 130) "__get__" = some (some (.ref 43)) := by kernel_rfl
theorem gt0 (w : World) : takesIn (Mine.hd.heap_39 w.params) (.ref 124) = some true := by kernel_rfl
theorem gt1 (w : World) : takesIn (Mine.hd.heap_39 w.params) (.ref 127) = some true := by kernel_rfl
theorem gt2 (w : World) : takesIn (Mine.hd.heap_39 w.params) (.ref 130) = some true := by kernel_rfl

theorem tga_kind : builtinKind "tuple.__getattribute__" = some .slot := by decide +kernel
theorem tga_split : splitId "tuple.__getattribute__" = some ("tuple", "__getattribute__") := by decide +kernel
section
variable {w : World} {mean : ExcName → Option Value} {mg mb : Str → Option Value} {dp un : Nat} {fr : Option (List Env)} {gd : Option (List Code)} {E : Value → Shared → Prop} {s : Shared} {Q : Value → Shared → Prop}
theorem row_get {D d a : Addr} {it : Array Value} {name : Str} {expr : Bool} (X : (Mine.hd.heap_39 w.params).In s.heap) (ho : s.heap.get? D = some (rowO d it))
    (fa : findIn (Mine.hd.heap_39 w.params) (.ref 135) name = some (some (.ref a))) (fg : specialIn (Mine.hd.heap_39 w.params) (.ref a) "__get__" = some (some (.ref 43))) (ft : takesIn (Mine.hd.heap_39 w.params) (.ref a) = some true)
    (hc : ∀ E', wpAny (model PySem.Challenge.rw_ox0037_01.row.prog w) (AA dp (un + 1) fr gd) (call (.ref 43) [.ref a, .ref D, .ref 135]) (fun v s' => handedIn v = true ∧ Q v s') E' { s with toks := s.toks + 1 }) :
    wpAny (model PySem.Challenge.rw_ox0037_01.row.prog w) (AA dp un fr gd) (getAttr (.ref D) name expr) Q E s := by
  obtain ⟨hp, gn, dr, tt, os⟩ := s
  dsimp only at X ho hc
  have t1 : Looks (model PySem.Challenge.rw_ox0037_01.row.prog w) hp (typeOf (.ref D)) (.ref 135) := (Looks.ld ho).andThen .now
  have t2 : Looks (model PySem.Challenge.rw_ox0037_01.row.prog w) hp (isInstance (.ref D) (.type "tuple")) true := t1.andThen (lk_sub X)
  have k1 := looks_findIn (M := model PySem.Challenge.rw_ox0037_01.row.prog w) X (ga_a w)
  have k2 := looks_findIn (M := model PySem.Challenge.rw_ox0037_01.row.prog w) X (gk w)
  have k3 := looks_findIn (M := model PySem.Challenge.rw_ox0037_01.row.prog w) X fa
  have k4 := looks_specialIn (M := model PySem.Challenge.rw_ox0037_01.row.prog w) X fg
  have k5 := looks_takesIn (M := model PySem.Challenge.rw_ox0037_01.row.prog w) X ft
  have k6 : Looks (model PySem.Challenge.rw_ox0037_01.row.prog w) hp (find (.ref D) (.ref 135) name) (.bind (.ref 43) (.ref a)) := by
    have L2 : Looks (model PySem.Challenge.rw_ox0037_01.row.prog w) hp (getOf (some (.ref a))) (some (.ref 43)) := k4
    exact k3.andThen (L2.andThen ((show Looks (model PySem.Challenge.rw_ox0037_01.row.prog w) hp (dataDescriptor? (some (.ref a)) (some (.ref 43))) (some (.ref 43, .ref a)) from k5.andThen .now).andThen (Looks.tag .now)))
  unfold getAttr getAttrBy
  refine wpAny_bind (wpAny_mkText (wpAny_holding (wpAny_bind (t1.at (wpAny_bind (k1.at ?_))))))
  show wpAny _ _ (getAttrByItsOwn (.ref D) (.str name tt) (.ref 135) (.builtin "tuple.__getattribute__") true expr) _ _ _
  unfold getAttrByItsOwn
  refine wpAny_bind (m := hookBefore (.ref 135)) ((show Looks (model PySem.Challenge.rw_ox0037_01.row.prog w) hp (hookBefore (.ref 135)) none from k2).at ?_)
  refine wpAny_bind (wpAny_attempt (wpAny_holding ?_))
  have hb : callGetattribute (.ref D) (.str name tt) (.builtin "tuple.__getattribute__") expr = call (.builtin "tuple.__getattribute__") [.ref D, .str name tt] := by
    cases expr <;> (show boundAndCalled _ _ _ = _; unfold boundAndCalled; rw [PySem.F.slot_tuple_getattribute.bind]; rfl)
  rw [hb]
  refine wpAny_call ?_
  refine codeAny_call_builtin (id := "tuple.__getattribute__") (args := ⟨[.ref D, .str name tt], []⟩) PySem.F.slot_tuple_getattribute.plain am_entry_tuple_getattribute ?_
  refine @check_slot (model PySem.Challenge.rw_ox0037_01.row.prog w) _ _ ⟨hp, gn, dr, tt + 1, os⟩ "tuple.__getattribute__" "tuple" "__getattribute__" (.ref D) [.str name tt] [] _ tga_kind tga_split t2 (PySem.F.args_tuple_getattribute_2 _ _) ?_
  unfold Builtin.«object.__getattribute__»
  refine wpAny_bind (wpAny_pure ?_)
  refine wpAny_bind (m := attrName (.str name tt)) (wpAny_pure ?_)
  refine wpAny_bind (t1.at (wpAny_bind (k6.at ?_)))
  show wpAny _ _ (holding [.ref a] (call (.ref 43) [.ref a, .ref D, .ref 135]) >>= ret) _ _ _
  refine wpAny_bind (wpAny_holding (wpAny_mono (hc _) (fun v s' z => wpAny_pure ?_) fun _ _ z => z))
  show wpAny _ _ (handedOut v) _ _ _
  rw [handedOut_of z.1]
  exact wpAny_pure z.2

theorem row_get0 {D d : Addr} {x0 x1 x2 : Value} {expr : Bool} (X : (Mine.hd.heap_39 w.params).In s.heap) (T : Top Mine.hd.view_39 LS mean mg mb s.heap) (R : dp + 1 < recursionLimit) (U : un + 110 < cLine)
    (ho : s.heap.get? D = some (rowO d #[x0, x1, x2])) (hh : handedIn x0 = true) (hQ : ∀ h' tk', Ext s.heap h' → Q x0 { s with heap := h', toks := tk' }) :
    wpAny (model PySem.Challenge.rw_ox0037_01.row.prog w) (AA dp un fr gd) (getAttr (.ref D) (Str.ofString "actual") expr) Q E s :=
  row_get X ho (ga0 w) (gg0 w) (gt0 w) fun E' => get_call0 (s := { s with toks := s.toks + 1 }) X T R (by omega) ho fun h' tk' e => ⟨hh, hQ h' tk' e⟩
theorem row_get1 {D d : Addr} {x0 x1 x2 : Value} {expr : Bool} (X : (Mine.hd.heap_39 w.params).In s.heap) (T : Top Mine.hd.view_39 LS mean mg mb s.heap) (R : dp + 1 < recursionLimit) (U : un + 110 < cLine)
    (ho : s.heap.get? D = some (rowO d #[x0, x1, x2])) (hh : handedIn x1 = true) (hQ : ∀ h' tk', Ext s.heap h' → Q x1 { s with heap := h', toks := tk' }) :
    wpAny (model PySem.Challenge.rw_ox0037_01.row.prog w) (AA dp un fr gd) (getAttr (.ref D) (Str.ofString "expected") expr) Q E s :=
  row_get X ho (ga1 w) (gg1 w) (gt1 w) fun E' => get_call1 (s := { s with toks := s.toks + 1 }) X T R (by omega) ho fun h' tk' e => ⟨hh, hQ h' tk' e⟩
theorem row_get2 {D d : Addr} {x0 x1 x2 : Value} {expr : Bool} (X : (Mine.hd.heap_39 w.params).In s.heap) (T : Top Mine.hd.view_39 LS mean mg mb s.heap) (R : dp + 1 < recursionLimit) (U : un + 110 < cLine)
    (ho : s.heap.get? D = some (rowO d #[x0, x1, x2])) (hh : handedIn x2 = true) (hQ : ∀ h' tk', Ext s.heap h' → Q x2 { s with heap := h', toks := tk' }) :
    wpAny (model PySem.Challenge.rw_ox0037_01.row.prog w) (AA dp un fr gd) (getAttr (.ref D) (Str.ofString "value") expr) Q E s :=
  row_get X ho (ga2 w) (gg2 w) (gt2 w) fun E' => get_call2 (s := { s with toks := s.toks + 1 }) X T R (by omega) ho fun h' tk' e => ⟨hh, hQ h' tk' e⟩
end
end Mine
end
section
open PySem PySem.W PySem.Calls PyProof.Rows PySem.SeqAt
namespace Mine
set_option maxRecDepth 100000
set_option maxHeartbeats 4000000

noncomputable abbrev enumO (it : Addr) (i : Int) (old : Value) : Obj := { cls := .type "enumerate", dict := none, data := .fields #[.none, .bool false, .ref it, rawInt i, .none, old], slots := #[] }
noncomputable abbrev enumOut (it : Addr) (i : Int) (item : Value) (a : Addr) : Obj := { cls := .type "enumerate", dict := none, data := .fields #[rawInt a, .bool false, .ref it, rawInt i, .none, item], slots := #[] }
noncomputable abbrev rangeO (x left step : Int) : Obj := { cls := .type "range_iterator", dict := none, data := .fields #[rawInt x, rawInt left, rawInt step], slots := #[] }
noncomputable def IterO (o : Obj) (l : Addr) (i : Nat) : Prop := o.cls = .type "list_iterator" ∧ o.data = .fields #[.ref l, .int i 0]

section
variable {prog : Program} {w : World} {A : Around} {E : Value → Shared → Prop} {s : Shared} {h₀ h h' : Heap} {L : Addr} {m : Str → Option Value} {news : List (Addr × Obj)}

theorem free_lt {n : Addr} (k : ∀ b o, h₀.get? b = some o → h.get? b = some o) (e : h.objs.size ≤ n) : h₀.get? n = none := by
  cases q : h₀.get? n with
  | none => rfl
  | some o => exact absurd (Heap.lt_size (k _ _ q)) (Nat.not_lt.mpr e)

theorem enum_K {l : Addr} {items : Array Value} {Q : Value → Shared → Prop} (F : Fr h₀ L s.heap m) (N : News h₀ L s.heap news) (hl : s.heap.IsList l items)
    (h : ∀ (e it : Nat) oI h', IterO oI l 0 → Fr h₀ L h' m → News h₀ L h' ((e, enumO it 0 .none) :: (it, oI) :: news) → it < e → (∀ p ∈ news, @LT.lt Nat _ p.1 it) → Q (.ref e) { s with heap := h' }) :
    wpAny (model prog w) A (call (.type "enumerate") [.ref l]) Q E s := by
  refine call_enumerate_list hl fun h' he hit hz hk => ?_
  obtain ⟨oI, hoI, hc, hd⟩ := hit
  have hL := F.ns.lt
  have hn1 : h₀.get? s.heap.objs.size = none := free_lt F.keep (Nat.le_refl _)
  have hn2 : h₀.get? (s.heap.objs.size + 1) = none := free_lt F.keep (Nat.le_succ _)
  refine h _ s.heap.objs.size oI h' ⟨hc, hd⟩ (frExt F hk) ?_ (Nat.lt_succ_self _) fun p hp => Heap.lt_size (N p hp).1
  intro p hp
  rcases List.mem_cons.mp hp with rfl | hp
  · exact ⟨he, Nat.ne_of_gt (Nat.lt_succ_of_lt hL), hn2⟩
  rcases List.mem_cons.mp hp with rfl | hp
  · exact ⟨hoI, Nat.ne_of_gt hL, hn1⟩
  · exact newsExt N hk _ hp

/-- one turn of an enumerate over a list of the news -/
theorem enum_next {e it l : Nat} {oI : Obj} {old : Value} {i n : Nat} {items : Array Value} {elts : List Expr} {x1} {pos : Pos} {P : Shared → Prop} {Qs : Value → Shared → Prop} {E' : Value → Shared → Prop} (hh : A.handled = none)
    (F : Fr h₀ L s.heap m) (N : News h₀ L s.heap ((e, enumO it i old) :: (it, oI) :: news)) (hI : IterO oI l i) (hl : s.heap.IsList l items) (hne : it < e) (d2 : ∀ p ∈ news, p.1 ≠ e ∧ p.1 ≠ it)
    (hsome : ∀ x, items[i]? = some x → ∀ (a : Nat) oI' h', IterO oI' l (i + 1) → Fr h₀ L h' m → News h₀ L h' ((a, tupO #[.int i s.toks, x] 0) :: (e, enumO it ((i : Int) + 1) x) :: (it, oI') :: news) → e < a → (∀ p ∈ news, @LT.lt Nat _ p.1 a) →
      Qs (.ref a) { s with heap := h', toks := s.toks + 1 })
    (hnone : items[i]? = none → ∀ h', Fr h₀ L h' m → News h₀ L h' news → P { s with heap := h' }) :
    wpAny (model prog w) A (pyNext (.ref e)) (fun r s₁ => match r with
        | none => P s₁
        | some v => wpAny (model prog w) A (letOwnedTupleGo (.Tuple elts x1 pos) (.ref e) v) (fun _ s₂ => Qs v s₂) E' s₁) E s := by
  have he : IsEnum s.heap e it i old := (N _ (List.Mem.head _)).1
  have heL := (N _ (List.Mem.head _)).2.1
  have he0 := (N _ (List.Mem.head _)).2.2
  have hit : s.heap.IsListIter it l i := ⟨oI, (N _ (List.Mem.tail _ (List.Mem.head _))).1, hI.1, hI.2⟩
  have hiL := (N _ (List.Mem.tail _ (List.Mem.head _))).2.1
  have hi0 := (N _ (List.Mem.tail _ (List.Mem.head _))).2.2
  have hne' : e ≠ it := Nat.ne_of_gt hne
  have kept : ∀ h1 : Heap, (∀ b o, b ≠ e → b ≠ it → s.heap.get? b = some o → h1.get? b = some o) → Fr h₀ L h1 m := by
    intro h1 hk
    obtain ⟨oL, a1, a2, hoL, a3⟩ := F.ns
    refine ⟨⟨oL, a1, a2, hk _ _ (Ne.symm heL) (Ne.symm hiL) hoL, a3⟩, fun b x z => hk _ _ ?_ ?_ (F.keep b x z), F.above⟩
    · rintro rfl; rw [he0] at z; cases z
    · rintro rfl; rw [hi0] at z; cases z
  cases hx : items[i]? with
  | none =>
    refine wpAny_pyNext_enum_end hh he hit hl hx fun h' hb => ?_
    refine hnone hx h' (frBut F hb hiL hi0) ?_
    intro p hp
    have z := N p (List.mem_cons_of_mem _ (List.mem_cons_of_mem _ hp))
    exact ⟨hb _ _ (d2 p hp).2 z.1, z.2⟩
  | some x =>
    refine wpAny_pyNext_enum_item he hit hl hx hne' fun h1 ho1 hit1 ht hz hk => ?_
    refine wpAny_letOwnedTupleGo_enum ho1 fun h2 he2 hs2 => ?_
    have hn : h₀.get? s.heap.objs.size = none := free_lt F.keep (Nat.le_refl _)
    have hkk : ∀ b o, b ≠ e → b ≠ it → s.heap.get? b = some o → h2.get? b = some o := fun b o b1 b2 z => (hs2.2 b b1).trans (hk b o b1 b2 z)
    obtain ⟨oI', hoI', hc', hd'⟩ := hit1
    have hes : e < s.heap.objs.size := Heap.lt_size he
    refine hsome x hx s.heap.objs.size oI' h2 ⟨hc', hd'⟩ (kept h2 hkk) ?_ hes fun p hp => Heap.lt_size (N p (List.mem_cons_of_mem _ (List.mem_cons_of_mem _ hp))).1
    intro p hp
    rcases List.mem_cons.mp hp with rfl | hp
    · exact ⟨(hs2.2 _ (Nat.ne_of_gt hes)).trans ht, Nat.ne_of_gt F.ns.lt, hn⟩
    rcases List.mem_cons.mp hp with rfl | hp
    · exact ⟨he2, heL, he0⟩
    rcases List.mem_cons.mp hp with rfl | hp
    · exact ⟨(hs2.2 _ (Ne.symm hne')).trans hoI', hiL, hi0⟩
    · have z := N p (List.mem_cons_of_mem _ (List.mem_cons_of_mem _ hp))
      exact ⟨hkk _ _ (d2 p hp).1 (d2 p hp).2 z.1, z.2⟩

/-- one turn of a range iterator of the news -/
theorem range_next {it : Nat} {x left : Int} {target : Expr} {P : Shared → Prop} {Qs : Value → Shared → Prop} {E' : Value → Shared → Prop} (hh : A.handled = none)
    (F : Fr h₀ L s.heap m) (N : News h₀ L s.heap ((it, rangeO x left 1) :: news)) (d1 : ∀ p ∈ news, p.1 ≠ it) (ht : letOwnedTupleGo target (.ref it) (.int x s.toks) = pure ())
    (hsome : 0 < left → ∀ h', Fr h₀ L h' m → News h₀ L h' ((it, rangeO (x + 1) (left - 1) 1) :: news) → Qs (.int x s.toks) { s with heap := h', toks := s.toks + 1 })
    (hnone : left ≤ 0 → ∀ h', Fr h₀ L h' m → News h₀ L h' news → P { s with heap := h' }) :
    wpAny (model prog w) A (pyNext (.ref it)) (fun r s₁ => match r with
        | none => P s₁
        | some v => wpAny (model prog w) A (letOwnedTupleGo target (.ref it) v) (fun _ s₂ => Qs v s₂) E' s₁) E s := by
  have z := N _ (List.Mem.head _)
  by_cases hc : 0 < left
  · refine wpAny_pyNext_range_item z.1 hc fun h' hi hs => ?_
    refine wpAny_of_eq ht ?_
    exact hsome hc h' (F.change hs z.2.1 z.2.2) (news_set (pre := []) N (by intro p hp; cases hp) d1 hs hi)
  · refine wpAny_pyNext_range_end hh z.1 (by omega) fun h' hb => ?_
    refine hnone (by omega) h' (frBut F hb z.2.1 z.2.2) ?_
    intro p hp
    have y := N p (List.mem_cons_of_mem _ hp)
    exact ⟨hb _ _ (d1 p hp) y.1, y.2⟩
end
end Mine
end
section
open PySem PySem.W PySem.Calls PyProof.Rows PySem.SeqAt
namespace Mine
set_option maxRecDepth 100000
set_option maxHeartbeats 4000000
/- plain counting over positions -/
section
variable {κ : Type} [DecidableEq κ]
noncomputable def seen (k : Nat → κ) (i : Nat) (c : κ) : Bool := (List.range i).any fun q => decide (k q = c)
noncomputable def cnt (k : Nat → κ) (i : Nat) (c : κ) : Nat := (List.range i).countP fun q => decide (k q = c)
variable {k k1 k2 : Nat → κ} {i j : Nat} {c : κ}
theorem seen_zero : seen k 0 c = false := rfl
theorem cnt_zero : cnt k 0 c = 0 := rfl
theorem seen_succ : seen k (i + 1) c = (seen k i c || decide (k i = c)) := by simp [seen, List.range_succ]
theorem cnt_succ : cnt k (i + 1) c = cnt k i c + if k i = c then 1 else 0 := by
  simp only [cnt, List.range_succ, List.countP_append, List.countP_cons, List.countP_nil, decide_eq_true_eq]
  split <;> simp
theorem cnt_of_unseen (h : seen k i c = false) : cnt k i c = 0 := by
  induction i with
  | zero => rfl
  | succ i ih =>
    rw [seen_succ, Bool.or_eq_false_iff] at h
    rw [cnt_succ, ih h.1, if_neg (by simpa using h.2)]
theorem seen_iff : seen k i c = true ↔ ∃ q, q < i ∧ k q = c := by simp [seen]
theorem cnt_pos (h : seen k i c = true) : 0 < cnt k i c := by
  rw [cnt, List.countP_pos_iff]
  obtain ⟨q, a, b⟩ := seen_iff.mp h
  exact ⟨q, List.mem_range.mpr a, by simpa using b⟩
theorem cnt_le : cnt k i c ≤ i := by
  have := List.countP_le_length (p := fun q => decide (k q = c)) (l := List.range i)
  simpa [cnt] using this

noncomputable abbrev Spec := Nat × Nat × Value
noncomputable def rows1 (k1 k2 : Nat → κ) (m n : Nat) (xs : Array Value) (i : Nat) : List Spec :=
  (List.range i).filterMap fun p => if seen k1 p (k1 p) = false ∧ cnt k1 m (k1 p) ≠ cnt k2 n (k1 p) then some (cnt k1 m (k1 p), cnt k2 n (k1 p), xs.getD p .none) else none
noncomputable def rows2 (k1 k2 : Nat → κ) (m n : Nat) (ys : Array Value) (i : Nat) : List Spec :=
  (List.range i).filterMap fun p => if seen k1 m (k2 p) = false ∧ seen k2 p (k2 p) = false then some (0, cnt k2 n (k2 p), ys.getD p .none) else none
variable {m n : Nat} {xs ys : Array Value}
theorem rows1_succ : rows1 k1 k2 m n xs (i + 1) = rows1 k1 k2 m n xs i ++ (if seen k1 i (k1 i) = false ∧ cnt k1 m (k1 i) ≠ cnt k2 n (k1 i) then [(cnt k1 m (k1 i), cnt k2 n (k1 i), xs.getD i .none)] else []) := by
  simp only [rows1, List.range_succ, List.filterMap_append, List.filterMap_cons, List.filterMap_nil]
  congr 1
  split <;> simp_all
theorem rows2_succ : rows2 k1 k2 m n ys (i + 1) = rows2 k1 k2 m n ys i ++ (if seen k1 m (k2 i) = false ∧ seen k2 i (k2 i) = false then [(0, cnt k2 n (k2 i), ys.getD i .none)] else []) := by
  simp only [rows2, List.range_succ, List.filterMap_append, List.filterMap_cons, List.filterMap_nil]
  congr 1
  split <;> simp_all
theorem rows1_len : (rows1 k1 k2 m n xs i).length ≤ i := by
  have := List.length_filterMap_le (fun p => if seen k1 p (k1 p) = false ∧ cnt k1 m (k1 p) ≠ cnt k2 n (k1 p) then some (cnt k1 m (k1 p), cnt k2 n (k1 p), xs.getD p .none) else none) (List.range i)
  simpa [rows1] using this
theorem rows2_len : (rows2 k1 k2 m n ys i).length ≤ i := by
  have := List.length_filterMap_le (fun p => if seen k1 m (k2 p) = false ∧ seen k2 p (k2 p) = false then some ((0 : Nat), cnt k2 n (k2 p), ys.getD p .none) else none) (List.range i)
  simpa [rows2] using this
end

/- a list whose struck places hold NULL -/
noncomputable def Mask (n0 : Addr) (D : Nat → Bool) (xs vs : Array Value) : Prop := vs.size = xs.size ∧ ∀ p, p < xs.size → vs[p]? = some (if D p then .ref n0 else xs.getD p .none)
theorem Mask.init {n0 : Addr} {xs : Array Value} {D : Nat → Bool} (h : ∀ p, D p = false) : Mask n0 D xs xs := ⟨rfl, fun p hp => by
  rw [h p]; simp [Array.getD, hp]⟩
theorem Mask.congr {n0 : Addr} {xs vs : Array Value} {D D' : Nat → Bool} (M : Mask n0 D xs vs) (h : ∀ p, p < xs.size → D p = D' p) : Mask n0 D' xs vs := ⟨M.1, fun p hp => by rw [← h p hp]; exact M.2 p hp⟩
theorem Mask.strike {n0 : Addr} {xs vs : Array Value} {D : Nat → Bool} (M : Mask n0 D xs vs) (j : Nat) : Mask n0 (fun p => D p || decide (p = j)) xs (vs.setIfInBounds j (.ref n0)) := ⟨by simp [M.1], fun p hp => by
  rw [Array.getElem?_setIfInBounds]
  by_cases h : j = p
  · subst h; simp [M.1, hp]
  · have h' : ¬ p = j := fun e => h e.symm
    simp only [if_neg h, M.2 p hp, h', decide_false, Bool.or_false]⟩

noncomputable def RowIn (tl : List (Addr × Obj)) (v : Value) (q : Spec) : Prop := ∃ D d t1 t2, v = .ref D ∧ (D, rowO d #[.int (q.1 : Int) t1, .int (q.2.1 : Int) t2, q.2.2]) ∈ tl
theorem RowIn.mono {tl tl' : List (Addr × Obj)} {v : Value} {q : Spec} (x : RowIn tl v q) (e : ∀ p ∈ tl, p ∈ tl') : RowIn tl' v q := by
  obtain ⟨a, d, t1, t2, hv, hT⟩ := x
  exact ⟨a, d, t1, t2, hv, e _ hT⟩
noncomputable def RowV (h : Heap) (v : Value) (q : Spec) : Prop := ∃ D d t1 t2, v = .ref D ∧ h.get? D = some (rowO d #[.int (q.1 : Int) t1, .int (q.2.1 : Int) t2, q.2.2])
end Mine
end
section
open PySem PySem.W PySem.Calls PyProof.Rows PySem.SeqAt
namespace Mine
set_option maxRecDepth 100000
set_option maxHeartbeats 4000000

noncomputable def ListO (o : Obj) (vs : Array Value) : Prop := o.cls = .type "list" ∧ ∃ n, o.data = .seq vs n

theorem newsL {h₀ h h' : Heap} {L : Addr} {news : List (Addr × Obj)} (N : News h₀ L h news) (hs : Heap.SameBut L h h') : News h₀ L h' news :=
  fun p hp => ⟨hs.extBut _ _ (N p hp).2.1 (N p hp).1, (N p hp).2⟩
theorem newsSub {h₀ h : Heap} {L : Addr} {news news' : List (Addr × Obj)} (N : News h₀ L h news) (hs : ∀ p ∈ news', p ∈ news) : News h₀ L h news' := fun p hp => N p (hs p hp)

structure Loc (env : Env) (x : Str) : Prop where
  k : env.kindOf x = some .local
  d : (x == ("__debug__" : Str)) = false

section
variable {prog : Program} {w : World} {A : Around} {E : Value → Shared → Prop} {env : Env} {s : Shared} {h₀ : Heap} {m : Str → Option Value} {news : List (Addr × Obj)}

theorem rdN {x : Str} {p : Pos} {v : Value} {Q : Value → Shared → Prop} (hk : env.scope.kind = .function) (l : Loc env x) (F : Fr h₀ env.locals s.heap m) (hv : m x = some v) (h : Q v s) :
    wpAny (model prog w) A (eval (.Name x p) env) Q E s := wpAny_Name (wpAny_loadName_local hk l.k F.ns hv h) l.d
theorem ldN {x : Str} {v : Value} {Q : Value → Shared → Prop} (hk : env.scope.kind = .function) (l : Loc env x) (F : Fr h₀ env.locals s.heap m) (hv : m x = some v) (h : Q v s) :
    wpAny (model prog w) A (loadName env x) Q E s := wpAny_loadName_local hk l.k F.ns hv h
theorem wrN {x : Str} {v : Value} {Q : Unit → Shared → Prop} (hk : env.scope.kind = .function) (l : Loc env x) (F : Fr h₀ env.locals s.heap m) (N : News h₀ env.locals s.heap news)
    (h : ∀ h', Fr h₀ env.locals h' (fun y => if y = x then some v else m y) → News h₀ env.locals h' news → Q () { s with heap := h', toks := s.toks + 1 }) :
    wpAny (model prog w) A (storeName env x v) Q E s :=
  wpAny_storeName_local l.k F.ns (fun h' hn hs => h h' (F.set hn hs) (newsL N hs)) (by rw [hk]; rfl)

theorem listO_is {a : Nat} {oA : Obj} {vs : Array Value} {h : Heap} (ho : h.get? a = some oA) (hO : ListO oA vs) : h.IsList a vs := ⟨oA, ho, hO.1, hO.2⟩

theorem setN {a : Nat} {oA : Obj} {vs : Array Value} {j : Nat} {t : Tok} {v : Value} {Q : Unit → Shared → Prop} (F : Fr h₀ env.locals s.heap m) (N : News h₀ env.locals s.heap ((a, oA) :: news)) (hd : ∀ p ∈ news, p.1 ≠ a)
    (hO : ListO oA vs) (hj : j < vs.size) (hsz : vs.size ≤ 1000)
    (h : ∀ h' oA', Fr h₀ env.locals h' m → News h₀ env.locals h' ((a, oA') :: news) → ListO oA' (vs.setIfInBounds j v) → Q () { s with heap := h' }) :
    wpAny (model prog w) A (setItem (.ref a) (.int (j : Int) t) v) Q E s := by
  have z := N _ (List.Mem.head _)
  refine wpAny_setItem_list (listO_is z.1 hO) (by omega) (by omega) (by omega) fun h' hl hs => ?_
  obtain ⟨o', ho', hc', hd'⟩ := hl
  exact h h' o' (F.change hs z.2.1 z.2.2) (news_set (pre := []) N (by intro p hp; cases hp) hd hs ho') ⟨hc', hd'⟩

/-- the strike of a place that is found like -/
theorem strike_body {sn jn cn nn : Str} {p1 p2 p3 p4 p5 p6 p7 p8 : Pos} {z : Nat} {a aN : Nat} {oA : Obj} {vs : Array Value} {j c : Nat} {t0 tj : Tok} {Q : Flow → Shared → Prop}
    (hk : env.scope.kind = .function) (ls : Loc env sn) (lj : Loc env jn) (lc : Loc env cn) (ln : Loc env nn) (n1 : sn ≠ cn) (n2 : jn ≠ cn) (n3 : nn ≠ cn)
    (F : Fr h₀ env.locals s.heap m) (N : News h₀ env.locals s.heap ((a, oA) :: news)) (hd : ∀ p ∈ news, p.1 ≠ a) (hO : ListO oA vs) (hj : j < vs.size) (hsz : vs.size ≤ 1000)
    (ms : m sn = some (.ref a)) (mj : m jn = some (.int (j : Int) tj)) (mc : m cn = some (.int (c : Int) t0)) (mn : m nn = some (.ref aN))
    (h : ∀ h' tk oA' tc, Fr h₀ env.locals h' (fun y => if y = cn then some (.int ((c + 1 : Nat) : Int) tc) else m y) → News h₀ env.locals h' ((a, oA') :: news) → ListO oA' (vs.setIfInBounds j (.ref aN)) → Q .next { s with heap := h', toks := tk })
    (hsw : swapsWith (.Name nn p7) (some (.Subscript (.Name sn p4) (.Name jn p5) p6)) p8.line env = pure false := by rfl) :
    wpAny (model prog w) A (execs [.AugAssign (.Name cn p1) .Add (.Constant (.int 1) z p2) p3, .Assign [.Subscript (.Name sn p4) (.Name jn p5) p6] (.Name nn p7) p8] env) Q E s := by
  refine wpAny_execs_cons (wpAny_AugAssign_Name (ldN hk lc F mc (wpAny_Constant_int (iadd_int ?_))))
  refine wrN hk lc F N fun h1 F1 N1 => ?_
  refine wpAny_execs_cons (wpAny_Assign_Subscript (hs := hsw) (rdN hk ln F1 (by rw [if_neg n3]; exact mn) (rdN hk ls F1 (by rw [if_neg n1]; exact ms) (rdN hk lj F1 (by rw [if_neg n2]; exact mj) ?_))))
  refine setN F1 N1 hd hO hj hsz fun h2 oA' F2 N2 hO2 => ?_
  exact wpAny_execs_nil (h _ _ _ _ F2 N2 hO2)
end
end Mine
end
section
open PySem PySem.W PySem.Calls PyProof.Rows PySem.SeqAt
namespace Mine
set_option maxRecDepth 100000
set_option maxHeartbeats 4000000

section
variable {κ : Type} [DecidableEq κ]
/-- which places are struck while a key is sought -/
noncomputable def Dm (B : Nat → Bool) (k : Nat → κ) (c : κ) (j : Nat) (p : Nat) : Bool := B p || (decide (k p = c) && decide (p < j))

theorem Mask.get {n0 : Addr} {D : Nat → Bool} {xs vs : Array Value} (M : Mask n0 D xs vs) {p : Nat} (hp : p < xs.size) : vs[p]? = some (if D p then .ref n0 else xs.getD p .none) := M.2 p hp

theorem Mask.hit {n0 : Addr} {B : Nat → Bool} {k : Nat → κ} {c : κ} {xs vs : Array Value} {j : Nat} (M : Mask n0 (Dm B k c j) xs vs) (h : k j = c) : Mask n0 (Dm B k c (j + 1)) xs (vs.setIfInBounds j (.ref n0)) :=
  (M.strike j).congr fun p hp => by
    unfold Dm
    by_cases e : p = j
    · subst e; simp [h]
    · have : decide (p < j + 1) = decide (p < j) := by rw [decide_eq_decide]; omega
      simp [e, this]
theorem Mask.miss {n0 : Addr} {B : Nat → Bool} {k : Nat → κ} {c : κ} {xs vs : Array Value} {j : Nat} (M : Mask n0 (Dm B k c j) xs vs) (h : ¬ k j = c) : Mask n0 (Dm B k c (j + 1)) xs vs :=
  M.congr fun p hp => by
    unfold Dm
    by_cases e : p = j
    · subst e; simp [h]
    · have : decide (p < j + 1) = decide (p < j) := by rw [decide_eq_decide]; omega
      simp [this]

noncomputable abbrev mapC (m : Str → Option Value) (cn jn : Str) (cv : Value) (u : Option Value) : Str → Option Value := fun y => if y = cn then some cv else if y = jn then u else m y

section
variable {prog : Program} {w : World} {A : Around} {E : Value → Shared → Prop} {env : Env} {s : Shared} {h₀ : Heap} {m : Str → Option Value} {news : List (Addr × Obj)}

theorem swap2 {a b : Addr × Obj} {l : List (Addr × Obj)} : ∀ p ∈ a :: b :: l, p ∈ b :: a :: l := fun p hp => by
  rcases List.mem_cons.mp hp with rfl | hp
  · exact List.mem_cons_of_mem _ (List.Mem.head _)
  · rcases List.mem_cons.mp hp with rfl | hp
    · exact List.Mem.head _
    · exact List.mem_cons_of_mem _ (List.mem_cons_of_mem _ hp)

noncomputable abbrev strikeB (sn jn cn nn : Str) (p1 p2 p3 p4 p5 p6 p7 p8 : Pos) (z : Nat) : List Stmt :=
  [.AugAssign (.Name cn p1) .Add (.Constant (.int 1) z p2) p3, .Assign [.Subscript (.Name sn p4) (.Name jn p5) p6] (.Name nn p7) p8]

inductive JR (s : Shared) (h₀ : Heap) (L : Addr) (m : Str → Option Value) (cn jn : Str) (I a aN i : Nat) (news : List (Addr × Obj)) (xs : Array Value) (k : Nat → κ) (c : κ) (B : Nat → Bool) : Nat → Shared → Prop
  | mk {h tk u vs j oA' tc} (h1 : i ≤ j) (h2 : j ≤ xs.size) (F : Fr h₀ L h (mapC m cn jn (.int (cnt k j c : Int) tc) u))
    (N : News h₀ L h ((I, rangeO (j : Int) ((xs.size : Int) - (j : Int)) 1) :: (a, oA') :: news)) (hO : ListO oA' vs) (M : Mask aN (Dm B k c j) xs vs) : JR s h₀ L m cn jn I a aN i news xs k c B (xs.size + 1 - j) { s with heap := h, toks := tk }
theorem inner_range {sn jn cn nn en : Str} {p1 p2 p3 p4 p5 p6 p7 p8 q0 q1 q2 q3 q4 q5 q6 : Pos} {z : Nat} {rr a aN ae i : Nat} {oA : Obj} {xs vs items : Array Value} {t u v t0 : Tok} {k : Nat → κ} {c : κ} {B : Nat → Bool} {Q : Flow → Shared → Prop}
    (hh : A.handled = none) (hu : A.units < cLine) (hk : env.scope.kind = .function) (ls : Loc env sn) (lj : Loc env jn) (lc : Loc env cn) (ln : Loc env nn) (le : Loc env en)
    (n1 : sn ≠ cn) (n2 : jn ≠ cn) (n3 : nn ≠ cn) (n4 : sn ≠ jn) (n5 : nn ≠ jn) (n6 : en ≠ cn) (n7 : en ≠ jn)
    (hr : IsRange s.heap rr (i : Int) (xs.size : Int) 1 t u v) (F : Fr h₀ env.locals s.heap m) (N : News h₀ env.locals s.heap ((a, oA) :: news)) (hd : ∀ p ∈ news, p.1 ≠ a) (hN : (aN, nullO) ∈ news)
    (hO : ListO oA vs) (M : Mask aN B xs vs) (hi : i ≤ xs.size) (hsz : xs.size ≤ 1000)
    (ms : m sn = some (.ref a)) (me : m en = some (.ref ae)) (mn : m nn = some (.ref aN)) (mc : m cn = some (.int 0 t0)) (hE : IsTup h₀ ae items)
    (hrc : ∀ s' : Shared, (∀ b o, h₀.get? b = some o → s'.heap.get? b = some o) → ∀ p, p < xs.size → RcAt A s' (xs.getD p .none) (.ref ae) (decide (k p = c)))
    (hB : ∀ p, p < xs.size → B p = true → ¬ k p = c) (hlow : seen k i c = false)
    (h : ∀ h' tk u oA' vs' tc, Fr h₀ env.locals h' (mapC m cn jn (.int (cnt k xs.size c : Int) tc) u) → News h₀ env.locals h' ((a, oA') :: news) → ListO oA' vs' → Mask aN (Dm B k c xs.size) xs vs' → Q .next { s with heap := h', toks := tk })
    (hsw : swapsWith (.Name nn p7) (some (.Subscript (.Name sn p4) (.Name jn p5) p6)) p8.line env = pure false := by rfl) :
    wpAny (model prog w) A (pyIter (.ref rr)) (fun it s₂ => LoopFor prog w A env (.Name jn q0)
      [.If (.Compare (.Subscript (.Name sn q1) (.Name jn q2) q3) [.Eq] [.Name en q4] q5) (strikeB sn jn cn nn p1 p2 p3 p4 p5 p6 p7 p8 z) [] q6] it Q s₂) E s := by
  refine wpAny_pyIter_range hr (small_one (by omega) (by omega) (by omega) (by omega)) ?_
  have hrs : Builtin.Range.rangeSize (i : Int) (xs.size : Int) 1 = (xs.size : Int) - (i : Int) := by
    unfold Builtin.Range.rangeSize
    rw [if_pos (by decide), Int.ediv_one]
    split <;> omega
  rw [hrs]
  have hL : env.locals < s.heap.objs.size := F.ns.lt
  have hI0 : h₀.get? s.heap.objs.size = none := free_lt F.keep (Nat.le_refl _)
  generalize hI : s.heap.objs.size = I at *
  generalize hH : s.heap.push { cls := Value.type "range_iterator", data := Data.fields #[rawInt (i : Int), rawInt ((xs.size : Int) - (i : Int)), rawInt 1] } = h10
  have hpush : Ext s.heap h10 := fun b o e => hH ▸ Heap.get?_push_of_some _ e
  have hIo : h10.get? I = some (rangeO (i : Int) ((xs.size : Int) - (i : Int)) 1) := by rw [← hH, ← hI]; exact Heap.get?_push_size _ rfl
  have hIL : I ≠ env.locals := Nat.ne_of_gt hL
  have hIn : ∀ p ∈ (a, oA) :: news, p.1 ≠ I := fun p hp => by
    have : @LT.lt Nat _ p.1 s.heap.objs.size := Heap.lt_size (N p hp).1
    rw [hI] at this
    exact neN (by omega)
  have hIa : a ≠ I := hIn _ (List.Mem.head _)
  have hIn' : ∀ p ∈ news, p.1 ≠ I := fun p hp => hIn p (List.mem_cons_of_mem _ hp)
  have F10 : Fr h₀ env.locals h10 (mapC m cn jn (.int (cnt k i c : Int) t0) (m jn)) := frEq (frExt F hpush) (by
    intro y
    rw [cnt_of_unseen hlow]
    by_cases e1 : y = cn
    · subst e1; simpa [mapC] using mc
    by_cases e2 : y = jn
    · subst e2; simp [mapC, n2]
    simp [mapC, e1, e2])
  have N10 : News h₀ env.locals h10 ((I, rangeO (i : Int) ((xs.size : Int) - (i : Int)) 1) :: (a, oA) :: news) := by
    intro p hp
    rcases List.mem_cons.mp hp with rfl | hp
    · exact ⟨hIo, hIL, hI0⟩
    · exact newsExt N hpush _ hp
  have M10 : Mask aN (Dm B k c i) xs vs := M.congr fun p hp => by
    unfold Dm
    by_cases e : p < i
    · have : ¬ k p = c := fun q => by
        have := seen_iff.mpr ⟨p, e, q⟩
        rw [hlow] at this; cases this
      simp [this]
    · simp [e]
  clear F N hH hI hpush hIo M mc hI0
  refine LoopFor.gen (JR s h₀ env.locals m cn jn I a aN i news xs k c B) (xs.size + 1 - i) (JR.mk (Nat.le_refl _) hi F10 N10 hO M10) ?_
  clear F10 N10 M10 hO
  rintro J' Q' hJ hQ' kk s' @⟨hp, tk, u, vs, j, oA, tc, hij, hjn, F, N, hO, M⟩
  refine range_next hh F N (fun p hp => by rcases List.mem_cons.mp hp with rfl | hp; exact hIa; exact hIn' p hp) rfl (fun hlt h1 F1 N1 => ?_) (fun hge h1 F1 N1 => ?_)
  · have hlt' : j < xs.size := by omega
    refine wpAny_assign_Name (wrN hk lj F1 N1 fun h2 F2 N2 => ?_)
    have N2a : News h₀ env.locals h2 ((a, oA) :: news) := newsSub N2 (by intro p hp; exact List.mem_cons_of_mem _ hp)
    have z := N2a _ (List.Mem.head _)
    have hvj := M.get hlt'
    have hx : ∃ x, vs[j]? = some x ∧ ∀ tk', RcAt A { s with heap := h2, toks := tk' } x (.ref ae) (decide (k j = c)) := by
      by_cases hb : B j = true
      · have hne := hB j hlt' hb
        refine ⟨.ref aN, by rw [hvj]; simp [Dm, hb], fun tk' => ?_⟩
        rw [decide_eq_false hne]
        exact rcNull (News.get N2a (List.mem_cons_of_mem _ hN)) (IsTup.keeps hE F2.keep) hu
      · refine ⟨xs.getD j .none, by rw [hvj]; simp [Dm, hb], fun tk' => hrc _ F2.keep j hlt'⟩
    obtain ⟨x, hx, hrx⟩ := hx
    have hvs : vs.size = xs.size := M.1
    generalize hM2 : (fun y => if y = jn then some (Value.int (j : Int) tk) else mapC m cn jn (Value.int (cnt k j c : Int) tc) u y) = m2 at F2
    have v1 : m2 sn = some (.ref a) := by rw [← hM2]; simp [mapC, n4, n1, ms]
    have v2 : m2 jn = some (.int (j : Int) tk) := by rw [← hM2]; simp
    have v3 : m2 en = some (.ref ae) := by rw [← hM2]; simp [mapC, n6, n7, me]
    have v4 : m2 cn = some (.int (cnt k j c : Int) tc) := by rw [← hM2]; simp [mapC, Ne.symm n2]
    have v5 : m2 nn = some (.ref aN) := by rw [← hM2]; simp [mapC, n5, n3, mn]
    refine wpAny_execs_cons (wpAny_If (wpAny_isTrue_Compare1 (Subscript_ (rdN hk ls F2 v1 (rdN hk lj F2 v2 ?_)))))
    refine subscriptTail_builtin (listO_is z.1 hO).typeIs slot_list_getitem.lookup (wpAny_getItem_list (listO_is z.1 hO) (by omega) (by omega) (by simpa using hx) ?_)
    refine rdN hk le F2 v3 ?_
    refine hrx _ _ _ _ _ (wpAny_truthy_bool ?_)
    by_cases hkj : k j = c
    · simp only [hkj, decide_true, if_true]
      refine strike_body (h₀ := h₀) (c := cnt k j c) (j := j) (aN := aN) hk ls lj lc ln n1 n2 n3 F2 (news := (I, rangeO ((j : Int) + 1) ((xs.size : Int) - (j : Int) - 1) 1) :: news) (newsSub N2 swap2) (fun p hp => by rcases List.mem_cons.mp hp with rfl | hp; exact Ne.symm hIa; exact hd p hp) hO (by omega) (by omega) v1 v2 v4 v5 (fun h3 tk3 oA3 tc3 F3 N3 hO3 => ?_) hsw
      refine wpAny_execs_nil ?_
      have hc : cnt k (j + 1) c = cnt k j c + 1 := by rw [cnt_succ, if_pos hkj]
      refine ⟨_, dec_turn hlt', hJ _ _ (JR.mk (j := j + 1) (u := some (.int (j : Int) tk)) (tc := tc3) (Nat.le_succ_of_le hij) hlt' ?_ ?_ hO3 (M.hit hkj))⟩
      · rw [hc]
        refine frEq F3 fun y => ?_
        rw [← hM2]
        by_cases e1 : y = jn
        · subst e1; simp [mapC, n2]
        · by_cases e2 : y = cn
          · subst e2; simp [mapC]
          · simp [mapC, e1, e2]
      · have e : (xs.size : Int) - (j : Int) - 1 = (xs.size : Int) - ((j + 1 : Nat) : Int) := by omega
        rw [e] at N3
        exact newsSub N3 swap2
    · simp only [hkj, decide_false, Bool.false_eq_true, if_false]
      refine wpAny_execs_nil (wpAny_execs_nil ?_)
      have hc : cnt k (j + 1) c = cnt k j c := by rw [cnt_succ, if_neg hkj]; rfl
      refine ⟨_, dec_turn hlt', hJ _ _ (JR.mk (j := j + 1) (u := some (.int (j : Int) tk)) (tc := tc) (Nat.le_succ_of_le hij) hlt' ?_ ?_ hO (M.miss hkj))⟩
      · rw [hc]
        refine frEq F2 fun y => ?_
        rw [← hM2]
        by_cases e1 : y = jn
        · subst e1; simp [mapC, n2]
        · by_cases e2 : y = cn
          · subst e2; simp [mapC, e1]
          · simp [mapC, e1, e2]
      · have e : (xs.size : Int) - (j : Int) - 1 = (xs.size : Int) - ((j + 1 : Nat) : Int) := by omega
        rw [e] at N2
        exact N2
  · have hjn' : j = xs.size := by omega
    subst hjn'
    exact hQ' _ _ (h _ _ _ _ _ _ F1 N1 hO M)
end
end
end Mine
end
section
open PySem PySem.W PySem.Calls PyProof.Rows PySem.SeqAt
namespace Mine
set_option maxRecDepth 100000
set_option maxHeartbeats 4000000
section
variable {κ : Type} [DecidableEq κ]
variable {prog : Program} {w : World} {A : Around} {E : Value → Shared → Prop} {env : Env} {s : Shared} {h₀ : Heap} {m : Str → Option Value} {news : List (Addr × Obj)}

noncomputable abbrev mapE (m : Str → Option Value) (cn jn on : Str) (cv : Value) (u u2 : Option Value) : Str → Option Value := fun y => if y = cn then some cv else if y = jn then u else if y = on then u2 else m y

inductive JE (s : Shared) (h₀ : Heap) (L : Addr) (m : Str → Option Value) (cn jn on : Str) (e it a aN : Nat) (news : List (Addr × Obj)) (xs : Array Value) (k : Nat → κ) (c : κ) (B : Nat → Bool) : Nat → Shared → Prop
  | mk {h tk u u2 vs j oA' oI' old tc} (h2 : j ≤ xs.size) (F : Fr h₀ L h (mapE m cn jn on (.int (cnt k j c : Int) tc) u u2))
    (N : News h₀ L h ((e, enumO it (j : Int) old) :: (it, oI') :: (a, oA') :: news)) (hI : IterO oI' a j) (hO : ListO oA' vs) (M : Mask aN (Dm B k c j) xs vs) : JE s h₀ L m cn jn on e it a aN news xs k c B (xs.size + 1 - j) { s with heap := h, toks := tk }
theorem inner_enum {sn jn cn nn en on : Str} {p1 p2 p3 p4 p5 p6 p7 p8 q0 q1 q2 q3 q4 q5 q6 : Pos} {z zz : Nat} {e it a aN ae : Nat} {oA oI : Obj} {xs vs items : Array Value} {t0 : Tok} {k : Nat → κ} {c : κ} {B : Nat → Bool} {Q : Flow → Shared → Prop}
    (hh : A.handled = none) (hu : A.units < cLine) (hk : env.scope.kind = .function) (ls : Loc env sn) (lj : Loc env jn) (lc : Loc env cn) (ln : Loc env nn) (le : Loc env en) (lo : Loc env on)
    (n1 : sn ≠ cn) (n2 : jn ≠ cn) (n3 : nn ≠ cn) (n4 : sn ≠ jn) (n5 : nn ≠ jn) (n6 : en ≠ cn) (n7 : en ≠ jn) (o1 : on ≠ cn) (o2 : on ≠ jn) (o3 : sn ≠ on) (o4 : nn ≠ on) (o5 : en ≠ on)
    (F : Fr h₀ env.locals s.heap m) (N : News h₀ env.locals s.heap ((e, enumO it 0 .none) :: (it, oI) :: (a, oA) :: news)) (hI : IterO oI a 0) (hie : it < e) (hlt : ∀ p ∈ (a, oA) :: news, @LT.lt Nat _ p.1 it)
    (hd : ∀ p ∈ news, p.1 ≠ a) (hN : (aN, nullO) ∈ news)
    (hO : ListO oA vs) (M : Mask aN B xs vs) (hsz : xs.size ≤ 1000)
    (ms : m sn = some (.ref a)) (me : m en = some (.ref ae)) (mn : m nn = some (.ref aN)) (mc : m cn = some (.int 0 t0)) (hE : IsTup h₀ ae items)
    (hrc : ∀ s' : Shared, (∀ b o, h₀.get? b = some o → s'.heap.get? b = some o) → ∀ p, p < xs.size → RcAt A s' (xs.getD p .none) (.ref ae) (decide (k p = c)))
    (hB : ∀ p, p < xs.size → B p = true → ¬ k p = c)
    (h : ∀ h' tk u u2 oA' vs' tc, Fr h₀ env.locals h' (mapE m cn jn on (.int (cnt k xs.size c : Int) tc) u u2) → News h₀ env.locals h' ((a, oA') :: news) → ListO oA' vs' → Mask aN (Dm B k c xs.size) xs vs' → Q .next { s with heap := h', toks := tk })
    (hsw : swapsWith (.Name nn p7) (some (.Subscript (.Name sn p4) (.Name jn p5) p6)) p8.line env = pure false := by rfl) :
    wpAny (model prog w) A (pyIter (.ref e)) (fun it s₂ => LoopFor prog w A env (.Tuple [.Name jn q0, .Name on q1] zz q2)
      [.If (.Compare (.Name on q3) [.Eq] [.Name en q4] q5) (strikeB sn jn cn nn p1 p2 p3 p4 p5 p6 p7 p8 z) [] q6] it Q s₂) E s := by
  refine wpAny_pyIter_enum (N _ (List.Mem.head _)).1 ?_
  have hae : a ≠ e := neN (by have := hlt _ (List.Mem.head _); dsimp only at this; omega)
  have hai : a ≠ it := neN (by have := hlt _ (List.Mem.head _); dsimp only at this; omega)
  have ha0 : @LT.lt Nat _ a it := hlt (a, oA) (List.Mem.head _)
  have hn0 : ∀ p ∈ news, @LT.lt Nat _ p.1 it := fun p hp => hlt p (List.mem_cons_of_mem _ hp)
  have F10 : Fr h₀ env.locals s.heap (mapE m cn jn on (.int (cnt k 0 c : Int) t0) (m jn) (m on)) := frEq F (by
    intro y
    by_cases e1 : y = cn
    · subst e1; simpa [mapE, cnt_zero] using mc
    by_cases e2 : y = jn
    · subst e2; simp [mapE, e1]
    by_cases e3 : y = on
    · subst e3; simp [mapE, e1, e2]
    simp [mapE, e1, e2, e3])
  have M10 : Mask aN (Dm B k c 0) xs vs := M.congr fun p hp => by simp [Dm]
  refine LoopFor.gen (JE s h₀ env.locals m cn jn on e it a aN news xs k c B) (xs.size + 1) (JE.mk (j := 0) (Nat.zero_le _) F10 N hI hO M10) ?_
  clear F10 N M10 hO hI F M mc
  rintro J' Q' hJ hQ' kk s' @⟨hp, tk, u, u2, vs, j, oA, oI, old, tc, hjn, F, N, hI, hO, M⟩
  have hvs : vs.size = xs.size := M.1
  have hlt2 : ∀ p ∈ (a, oA) :: news, @LT.lt Nat _ p.1 it := fun p hp => by
    rcases List.mem_cons.mp hp with rfl | hp
    · exact ha0
    · exact hn0 p hp
  refine enum_next (n := 0) hh F N hI (listO_is (News.get N (List.mem_cons_of_mem _ (List.mem_cons_of_mem _ (List.Mem.head _)))) hO) hie (fun p hp => ⟨neN (by have := hlt2 p hp; omega), neN (by have := hlt2 p hp; omega)⟩) (fun x hx b oI' h1 hI1 F1 N1 heb hb => ?_) (fun hge h1 F1 N1 => ?_)
  · have hlt' : j < xs.size := by
      rcases Nat.lt_or_ge j vs.size with q | q
      · omega
      · rw [Array.getElem?_eq_none q] at hx; cases hx
    have hvj := M.get hlt'
    refine wpAny_assign_Tuple hh (News.isTup N1 (List.Mem.head _)) rfl rfl fun h2 he2 => ?_
    have F2 := F1.extBut he2 (Nat.le_refl _)
    have N2 := N1.extBut he2 (Nat.le_refl _)
    refine wpAny_assignInOrder_more (wpAny_assign_Name (wrN hk lj F2 N2 fun h3 F3 N3 => ?_))
    refine wpAny_assignInOrder_more (wpAny_assign_Name (wrN hk lo F3 N3 fun h4 F4 N4 => ?_))
    refine wpAny_assignInOrder_none ?_
    generalize hM2 : (fun y => if y = on then some x else if y = jn then some (Value.int (j : Int) tk) else mapE m cn jn on (Value.int (cnt k j c : Int) tc) u u2 y) = m2 at F4
    have v1 : m2 sn = some (.ref a) := by rw [← hM2]; simp [mapE, n4, n1, o3, ms]
    have v2 : m2 jn = some (.int (j : Int) tk) := by rw [← hM2]; simp [Ne.symm o2]
    have v3 : m2 en = some (.ref ae) := by rw [← hM2]; simp [mapE, n6, n7, o5, me]
    have v4 : m2 cn = some (.int (cnt k j c : Int) tc) := by rw [← hM2]; simp [mapE, Ne.symm n2, Ne.symm o1]
    have v5 : m2 nn = some (.ref aN) := by rw [← hM2]; simp [mapE, n5, n3, o4, mn]
    have v6 : m2 on = some x := by rw [← hM2]; simp
    have N4a : News h₀ env.locals h4 ((a, oA) :: (e, enumO it ((j : Int) + 1) x) :: (it, oI') :: news) := newsPick N4 [3, 1, 2] 4
    have hrx : ∀ tk', RcAt A { s with heap := h4, toks := tk' } x (.ref ae) (decide (k j = c)) := by
      intro tk'
      rw [hvj] at hx
      by_cases hb : B j = true
      · have hne := hB j hlt' hb
        have : Value.ref aN = x := by simpa [Dm, hb] using hx
        subst this
        rw [decide_eq_false hne]
        exact rcNull (News.get N4a (by simp [hN])) (IsTup.keeps hE F4.keep) hu
      · have : xs.getD j .none = x := by simpa [Dm, hb] using hx
        subst this
        exact hrc _ F4.keep j hlt'
    refine wpAny_execs_cons (wpAny_If (wpAny_isTrue_Compare1 (rdN hk lo F4 v6 (rdN hk le F4 v3 ?_))))
    refine hrx _ _ _ _ _ (wpAny_truthy_bool ?_)
    have hne : ∀ p ∈ (e, enumO it ((j : Int) + 1) x) :: (it, oI') :: news, p.1 ≠ a := fun p hp => by
      rcases List.mem_cons.mp hp with rfl | hp
      · exact Ne.symm hae
      · rcases List.mem_cons.mp hp with rfl | hp
        · exact Ne.symm hai
        · exact hd p hp
    by_cases hkj : k j = c
    · simp only [hkj, decide_true, if_true]
      refine strike_body (h₀ := h₀) (c := cnt k j c) (j := j) (aN := aN) hk ls lj lc ln n1 n2 n3 F4 N4a hne hO (by omega) (by omega) v1 v2 v4 v5 (fun h5 tk5 oA5 tc5 F5 N5 hO5 => ?_) hsw
      refine wpAny_execs_nil ?_
      have hc : cnt k (j + 1) c = cnt k j c + 1 := by rw [cnt_succ, if_pos hkj]
      refine ⟨_, dec_turn hlt', hJ _ _ (JE.mk (j := j + 1) (u := some (.int (j : Int) tk)) (u2 := some x) (tc := tc5) hlt' ?_ (newsPick N5 [1, 2, 0] 3) hI1 hO5 (M.hit hkj))⟩
      rw [hc]
      refine frEq F5 fun y => ?_
      rw [← hM2]
      by_cases e1 : y = on
      · subst e1; simp [mapE, o1, o2]
      by_cases e2 : y = jn
      · subst e2; simp [mapE, n2, e1]
      by_cases e3 : y = cn
      · subst e3; simp [mapE]
      · simp [mapE, e1, e2, e3]
    · simp only [hkj, decide_false, Bool.false_eq_true, if_false]
      refine wpAny_execs_nil (wpAny_execs_nil ?_)
      have hc : cnt k (j + 1) c = cnt k j c := by rw [cnt_succ, if_neg hkj]; rfl
      refine ⟨_, dec_turn hlt', hJ _ _ (JE.mk (j := j + 1) (u := some (.int (j : Int) tk)) (u2 := some x) (tc := tc) hlt' ?_ (newsPick N4 [] 1) hI1 hO (M.miss hkj))⟩
      rw [hc]
      refine frEq F4 fun y => ?_
      rw [← hM2]
      by_cases e1 : y = on
      · subst e1; simp [mapE, o1, o2]
      by_cases e2 : y = jn
      · subst e2; simp [mapE, n2, e1]
      by_cases e3 : y = cn
      · subst e3; simp [mapE, e1, e2]
      · simp [mapE, e1, e2, e3]
  · have hjn' : j = xs.size := by
      rcases Nat.lt_or_ge j vs.size with q | q
      · rw [Array.getElem?_eq_getElem q] at hge; cases hge
      · omega
    subst hjn'
    exact hQ' _ _ (h _ _ _ _ _ _ _ F1 N1 hO M)
end
end Mine
end
section
open PySem PySem.W PySem.Calls PyProof.Rows PySem.SeqAt
namespace Mine
set_option maxRecDepth 100000
set_option maxHeartbeats 4000000
noncomputable abbrev mapO (aS aT aN aR la lb : Addr) (m n : Int) (t1 t2 : Tok) (ui ue us ut uj uo ud : Option Value) : Str → Option Value := fun y =>
  if y = ("i" : Str) then ui else if y = ("elem" : Str) then ue else if y = ("cnt_s" : Str) then us else if y = ("cnt_t" : Str) then ut else if y = ("j" : Str) then uj else if y = ("other_elem" : Str) then uo else if y = ("diff" : Str) then ud else
  if y = ("result" : Str) then some (Value.ref aR) else if y = ("NULL" : Str) then some (Value.ref aN) else if y = ("m" : Str) then some (Value.int m t1) else if y = ("n" : Str) then some (Value.int n t2) else if y = ("s" : Str) then some (Value.ref aS) else if y = ("t" : Str) then some (Value.ref aT) else
  List.lookup y [(("actual" : Str), Value.ref la), (("expected" : Str), Value.ref lb)].reverse

/-- the items of a list are tuples, told apart by keys -/
structure Keyed {κ : Type} [DecidableEq κ] (h : Heap) (un : Nat) (xs ys : Array Value) (k1 k2 : Nat → κ) : Prop where
  tx : ∀ p, p < xs.size → ∃ a items, xs.getD p .none = .ref a ∧ IsTup h a items
  ty : ∀ p, p < ys.size → ∃ a items, ys.getD p .none = .ref a ∧ IsTup h a items
  xx : ∀ (A : Around) (s : Shared), A.units ≤ un → (∀ b o, h.get? b = some o → s.heap.get? b = some o) → ∀ p q, p < xs.size → q < xs.size → RcAt A s (xs.getD p .none) (xs.getD q .none) (decide (k1 p = k1 q))
  yx : ∀ (A : Around) (s : Shared), A.units ≤ un → (∀ b o, h.get? b = some o → s.heap.get? b = some o) → ∀ p q, p < ys.size → q < xs.size → RcAt A s (ys.getD p .none) (xs.getD q .none) (decide (k2 p = k1 q))
  yy : ∀ (A : Around) (s : Shared), A.units ≤ un → (∀ b o, h.get? b = some o → s.heap.get? b = some o) → ∀ p q, p < ys.size → q < ys.size → RcAt A s (ys.getD p .none) (ys.getD q .none) (decide (k2 p = k2 q))

theorem RowIn.at {tl : List (Addr × Obj)} {h : Heap} {v : Value} {q : Spec} (x : RowIn tl v q) (N : ∀ p ∈ tl, h.get? p.1 = some p.2) : RowV h v q := by
  obtain ⟨a, d, t1, t2, hv, hT⟩ := x
  exact ⟨a, d, t1, t2, hv, N _ hT⟩

noncomputable def Off (l : List Addr) (tl : List (Addr × Obj)) : Prop := ∀ p ∈ tl, ∀ a ∈ l, p.1 ≠ a
theorem Off.nil {l : List Addr} : Off l [] := fun _ h => nomatch h
theorem Off.cons {l : List Addr} {tl : List (Addr × Obj)} {D : Addr} {o : Obj} {h : Heap} (x : Off l tl) (hD : h.get? D = none) (hl : ∀ a ∈ l, ∃ o, h.get? a = some o) : Off l ((D, o) :: tl) := fun p hp a ha => by
  rcases List.mem_cons.mp hp with rfl | hp
  · rintro rfl
    obtain ⟨o', ho⟩ := hl _ ha
    dsimp only at ho; rw [hD] at ho; cases ho
  · exact x p hp a ha
section
variable {κ : Type} [DecidableEq κ] {k k' : Nat → κ} {i n : Nat}
theorem Dm_full {p : Nat} (hp : p < n) : Dm (fun p => seen k i (k' p)) k' (k i) n p = seen k (i + 1) (k' p) := by
  unfold Dm
  rw [seen_succ]
  by_cases e : k i = k' p
  · simp [e, hp]
  · have : ¬ k' p = k i := fun q => e q.symm
    simp [e, this]
theorem seen_same {c : κ} (h : seen k i (k i) = true) : seen k (i + 1) c = seen k i c := by
  rw [seen_succ]
  by_cases q : k i = c
  · subst q; simp [h]
  · simp [q]
theorem Dm_full2 {k2 : Nat → κ} {m : Nat} {p : Nat} (hp : p < n) : Dm (fun p => seen k m (k2 p) || seen k2 i (k2 p)) k2 (k2 i) n p = (seen k m (k2 p) || seen k2 (i + 1) (k2 p)) := by
  unfold Dm
  rw [seen_succ]
  by_cases e : k2 i = k2 p
  · simp [e, hp]
  · have : ¬ k2 p = k2 i := fun q => e q.symm
    simp [e, this]
end

theorem is_tup_null {prog : Program} {w : World} {A : Around} {E : Value → Shared → Prop} {s : Shared} {Q : Value → Shared → Prop} {a n : Addr} {items : Array Value} (hne : a ≠ n) (ha : IsTup s.heap a items) (hn : s.heap.get? n = some nullO) (h : Q (.bool false) s) :
    wpAny (model prog w) A (compareOp .Is (.ref a) (.ref n)) Q E s := by
  show wpAny _ A (do return .bool (← isSame (.ref a) (.ref n))) Q E s
  refine wpAny_bind ?_
  obtain ⟨o, ho, hc, k, hd⟩ := ha
  show wpAny _ A (if (a == n) = true then pure true else _) _ E s
  rw [if_neg (by simpa using hne)]
  refine wpAny_bind (wpAny_load ho (wpAny_bind (wpAny_load hn ?_)))
  split
  · rename_i h1 _ _; simp at h1
  · exact wpAny_pure (wpAny_pure h)
end Mine
end
section
open PySem PySem.W PySem.Calls PyProof.Rows PySem.SeqAt
namespace Mine
set_option maxRecDepth 100000
set_option maxHeartbeats 4000000
/- what holds at each turn of the two loops of _count_diff_all_purpose -/
noncomputable def bindO (la lb : Addr) : Str → Option Value := fun y => List.lookup y [(("actual" : Str), Value.ref la), (("expected" : Str), Value.ref lb)].reverse
noncomputable abbrev listO (aS aT aN aR : Addr) (m n : Int) (t1 t2 : Tok) (ui ue us ut uj uo ud : Option Value) : List (Str × Option Value) :=
  [("i", ui), ("elem", ue), ("cnt_s", us), ("cnt_t", ut), ("j", uj), ("other_elem", uo), ("diff", ud), ("result", some (Value.ref aR)), ("NULL", some (Value.ref aN)), ("m", some (Value.int m t1)), ("n", some (Value.int n t2)), ("s", some (Value.ref aS)), ("t", some (Value.ref aT))]
section
variable {κ : Type} [DecidableEq κ]
inductive J1 (s : Shared) (L e it aR aN aT aS la lb : Addr) (tm tn : Tok) (xs ys : Array Value) (k1 k2 : Nat → κ) : Nat → Shared → Prop
  | mk {h tk ui ue us ut uj uo ud vs vt rs n i tl oT oS oI old} (hi : i ≤ xs.size) (F : Fr s.heap L h (mapO aS aT aN aR la lb (xs.size : Int) (ys.size : Int) tm tn ui ue us ut uj uo ud))
    (N : News s.heap L h ((e, enumO it ((i : Nat) : Int) old) :: (it, oI) :: (aR, listOf rs n) :: (aN, nullO) :: (aT, oT) :: (aS, oS) :: tl)) (hI : IterO oI aS i) (hS : ListO oS vs) (hT : ListO oT vt) (MS : Mask aN (fun p => seen k1 i (k1 p)) xs vs) (MT : Mask aN (fun p => seen k1 i (k2 p)) ys vt)
    (P : Paired (RowIn tl) rs.toList (rows1 k1 k2 xs.size ys.size xs i)) (O : Off [e, it, aR, aN, aT, aS] tl) : J1 s L e it aR aN aT aS la lb tm tn xs ys k1 k2 (xs.size + 1 - i) { s with heap := h, toks := tk }
inductive J2 (s : Shared) (L e it aR aN aT aS la lb : Addr) (tm tn : Tok) (xs ys : Array Value) (k1 k2 : Nat → κ) : Nat → Shared → Prop
  | mk {h tk ui ue us ut uj uo ud vt rs n i tl oT oI old} (hi : i ≤ ys.size) (F : Fr s.heap L h (mapO aS aT aN aR la lb (xs.size : Int) (ys.size : Int) tm tn ui ue us ut uj uo ud))
    (N : News s.heap L h ((e, enumO it ((i : Nat) : Int) old) :: (it, oI) :: (aR, listOf rs n) :: (aN, nullO) :: (aT, oT) :: tl)) (hI : IterO oI aT i) (hT : ListO oT vt) (MT : Mask aN (fun p => seen k1 xs.size (k2 p) || seen k2 i (k2 p)) ys vt)
    (P : Paired (RowIn tl) rs.toList (rows1 k1 k2 xs.size ys.size xs xs.size ++ rows2 k1 k2 xs.size ys.size ys i)) (O : Off [e, it, aR, aN, aT] tl) : J2 s L e it aR aN aT aS la lb tm tn xs ys k1 k2 (ys.size + 1 - i) { s with heap := h, toks := tk }
variable {s : Shared} {L e it aR aN aT aS la lb : Addr} {tm tn : Tok} {xs ys : Array Value} {k1 k2 : Nat → κ}
theorem frO {h₀ h : Heap} {m n : Int} {t1 t2 : Tok} {ui ue us ut uj uo ud : Option Value} {l : List (Str × Option Value)} (F : Fr h₀ L h (upd (bindO la lb) l))
    (hk : (l ++ listO aS aT aN aR m n t1 t2 ui ue us ut uj uo ud).map (fun p => upd (bindO la lb) l p.1) = (l ++ listO aS aT aN aR m n t1 t2 ui ue us ut uj uo ud).map (fun p => upd (bindO la lb) (listO aS aT aN aR m n t1 t2 ui ue us ut uj uo ud) p.1)) :
    Fr h₀ L h (mapO aS aT aN aR la lb m n t1 t2 ui ue us ut uj uo ud) := frUpd F hk
section
variable {h₀ h : Heap} {m n : Int} {t1 t2 : Tok} {ui ue us ut uj uo ud uj' uo' v1 v2 v3 v4 v5 v6 v7 : Option Value}
theorem frS (F : Fr h₀ L h (upd (bindO la lb) [("result", some (.ref aR)), ("NULL", some (.ref aN)), ("m", some (.int m t1)), ("n", some (.int n t2)), ("s", some (.ref aS)), ("t", some (.ref aT))])) : Fr h₀ L h (mapO aS aT aN aR la lb m n t1 t2 none none none none none none none) := frO F (by kernel_rfl)
theorem frA (F : Fr h₀ L h (upd (bindO la lb) (("elem", v2) :: ("i", v1) :: listO aS aT aN aR m n t1 t2 ui ue us ut uj uo ud))) : Fr h₀ L h (mapO aS aT aN aR la lb m n t1 t2 v1 v2 us ut uj uo ud) := frO F (by kernel_rfl)
theorem frB (F : Fr h₀ L h (upd (bindO la lb) (("diff", v7) :: ("cnt_t", v4) :: ("j", v5) :: ("other_elem", v6) :: ("cnt_s", v3) :: ("j", uj') :: ("cnt_t", uo') :: ("cnt_s", uo') :: ("elem", v2) :: ("i", v1) :: listO aS aT aN aR m n t1 t2 ui ue us ut uj uo ud))) : Fr h₀ L h (mapO aS aT aN aR la lb m n t1 t2 v1 v2 v3 v4 v5 v6 v7) := frO F (by kernel_rfl)
theorem frC (F : Fr h₀ L h (upd (bindO la lb) (("cnt_t", v4) :: ("j", v5) :: ("other_elem", v6) :: ("cnt_s", v3) :: ("j", uj') :: ("cnt_t", uo') :: ("cnt_s", uo') :: ("elem", v2) :: ("i", v1) :: listO aS aT aN aR m n t1 t2 ui ue us ut uj uo ud))) : Fr h₀ L h (mapO aS aT aN aR la lb m n t1 t2 v1 v2 v3 v4 v5 v6 ud) := frO F (by kernel_rfl)
theorem frD (F : Fr h₀ L h (upd (bindO la lb) (("diff", v7) :: ("cnt_t", v4) :: ("j", v5) :: ("cnt_t", uo') :: ("elem", v2) :: ("i", v1) :: listO aS aT aN aR m n t1 t2 ui ue us ut uj uo ud))) : Fr h₀ L h (mapO aS aT aN aR la lb m n t1 t2 v1 v2 us v4 v5 uo v7) := frO F (by kernel_rfl)
end
theorem skip1 {i : Nat} (h : seen k1 i (k1 i) = true) {xs' vs : Array Value} {k' : Nat → κ} (M : Mask aN (fun p => seen k1 i (k' p)) xs' vs) : Mask aN (fun p => seen k1 (i + 1) (k' p)) xs' vs :=
  M.congr fun _ _ => (seen_same h).symm
theorem skip2 {i : Nat} {c : κ → Bool} (h : (c (k2 i) || seen k2 i (k2 i)) = true) {vs : Array Value} (M : Mask aN (fun p => c (k2 p) || seen k2 i (k2 p)) ys vs) : Mask aN (fun p => c (k2 p) || seen k2 (i + 1) (k2 p)) ys vs :=
  M.congr fun p _ => by
    rw [seen_succ]
    by_cases q : k2 i = k2 p
    · rw [← q]; rw [h]; simp only [decide_true, Bool.or_true]
    · rw [decide_eq_false q, Bool.or_false]
theorem rows1_skip {i : Nat} (h : ¬ (seen k1 i (k1 i) = false ∧ cnt k1 xs.size (k1 i) ≠ cnt k2 ys.size (k1 i))) {tl : List (Addr × Obj)} {l : List Value} (P : Paired (RowIn tl) l (rows1 k1 k2 xs.size ys.size xs i)) : Paired (RowIn tl) l (rows1 k1 k2 xs.size ys.size xs (i + 1)) := by
  rw [rows1_succ, if_neg h, List.append_nil]; exact P
theorem rows2_skip {i : Nat} (h : ¬ (seen k1 xs.size (k2 i) = false ∧ seen k2 i (k2 i) = false)) {tl : List (Addr × Obj)} {l : List Value} {r : List Spec} (P : Paired (RowIn tl) l (r ++ rows2 k1 k2 xs.size ys.size ys i)) : Paired (RowIn tl) l (r ++ rows2 k1 k2 xs.size ys.size ys (i + 1)) := by
  rw [rows2_succ, if_neg h, List.append_nil]; exact P
theorem RowIn.more {tl : List (Addr × Obj)} {p : Addr × Obj} {l : List Value} {r : List Spec} (P : Paired (RowIn tl) l r) : Paired (RowIn (p :: tl)) l r := paired_mono (fun _ _ z => z.mono fun _ hp => List.mem_cons_of_mem _ hp) P
theorem rows1_add {i : Nat} {D d : Addr} {t1 t2 : Tok} {rs : Array Value} {tl : List (Addr × Obj)} (h : seen k1 i (k1 i) = false) (h2 : cnt k1 xs.size (k1 i) ≠ cnt k2 ys.size (k1 i)) {ae : Addr} (hae : xs.getD i .none = .ref ae)
    (P : Paired (RowIn tl) rs.toList (rows1 k1 k2 xs.size ys.size xs i)) : Paired (RowIn ((D, rowO d #[.int (cnt k1 xs.size (k1 i) : Int) t1, .int (cnt k2 ys.size (k1 i) : Int) t2, .ref ae]) :: tl)) (rs.push (.ref D)).toList (rows1 k1 k2 xs.size ys.size xs (i + 1)) := by
  rw [rows1_succ, if_pos ⟨h, h2⟩, Array.toList_push]
  exact Paired.snoc (RowIn.more P) ⟨D, d, t1, t2, rfl, by rw [hae]; exact List.mem_cons_self⟩
theorem rows2_add {i : Nat} {D d : Addr} {t1 t2 : Tok} {rs : Array Value} {tl : List (Addr × Obj)} {r : List Spec} (h : seen k1 xs.size (k2 i) = false) (h2 : seen k2 i (k2 i) = false) {ae : Addr} (hae : ys.getD i .none = .ref ae)
    (P : Paired (RowIn tl) rs.toList (r ++ rows2 k1 k2 xs.size ys.size ys i)) : Paired (RowIn ((D, rowO d #[.int 0 t1, .int (cnt k2 ys.size (k2 i) : Int) t2, .ref ae]) :: tl)) (rs.push (.ref D)).toList (r ++ rows2 k1 k2 xs.size ys.size ys (i + 1)) := by
  rw [rows2_succ, if_pos ⟨h, h2⟩, Array.toList_push, ← List.append_assoc]
  exact Paired.snoc (RowIn.more P) ⟨D, d, t1, t2, rfl, by rw [hae]; exact List.mem_cons_self⟩
theorem rows1_room {i : Nat} {tl : List (Addr × Obj)} {rs : Array Value} (hi : i ≤ 1000) (P : Paired (RowIn tl) rs.toList (rows1 k1 k2 xs.size ys.size xs i)) : rs.size ≤ sizeLine := by
  have e1 := P.length
  have e2 := rows1_len (k1 := k1) (k2 := k2) (m := xs.size) (n := ys.size) (xs := xs) (i := i)
  rw [Array.length_toList] at e1
  rw [sizeLine_eq, e1]
  exact Nat.le_trans (Nat.le_trans e2 hi) (by decide)
theorem rows2_room {i j : Nat} {tl : List (Addr × Obj)} {rs : Array Value} (hi : i ≤ 1000) (hj : j ≤ 1000) (P : Paired (RowIn tl) rs.toList (rows1 k1 k2 xs.size ys.size xs j ++ rows2 k1 k2 xs.size ys.size ys i)) : rs.size ≤ sizeLine := by
  have e1 := P.length
  have e2 := rows1_len (k1 := k1) (k2 := k2) (m := xs.size) (n := ys.size) (xs := xs) (i := j)
  have e3 := rows2_len (k1 := k1) (k2 := k2) (m := xs.size) (n := ys.size) (ys := ys) (i := i)
  rw [Array.length_toList, List.length_append] at e1
  rw [sizeLine_eq, e1]
  exact Nat.le_trans (Nat.add_le_add (Nat.le_trans e2 hj) (Nat.le_trans e3 hi)) (by decide)
end
theorem tup_ne {h₀ h : Heap} {L ae aN : Addr} {items : Array Value} {o : Obj} {news : List (Addr × Obj)} (ht : IsTup h₀ ae items) (N : News h₀ L h news) (hm : (aN, o) ∈ news) : ae ≠ aN := fun q => by
  obtain ⟨o', ho, _⟩ := ht
  have z := (N _ hm).2.2
  rw [← q] at z; dsimp only at z; rw [ho] at z; cases z
end Mine
end
section
open PySem PySem.W PySem.Calls PyProof.Rows
namespace Mine
set_option maxRecDepth 100000
set_option maxHeartbeats 8000000

theorem diff_call {κ : Type} [DecidableEq κ] {w : World} {mean : ExcName → Option Value} {mg mb : Str → Option Value} {dp un : Nat} {fr : Option (List Env)} {gd : Option (List Code)} {E : Value → Shared → Prop} {s : Shared} {Q : Value → Shared → Prop} {la lb : Addr} {xs ys : Array Value} {k1 k2 : Nat → κ}
    (X : (Mine.hd.heap_39 w.params).In s.heap) (T : Top Mine.hd.view_39 LS mean mg mb s.heap) (R : dp + 20 < recursionLimit) (U : un + 200 < cLine) (hl : s.heap.IsList la xs) (hl2 : s.heap.IsList lb ys) (hlen : xs.size ≤ 100) (hlen2 : ys.size ≤ 100) (K : Keyed s.heap (un + 50) xs ys k1 k2)
    (hQ : ∀ D h' tk' rs, Ext s.heap h' → s.heap.get? D = none → h'.PlainList D rs → Paired (RowV h') rs.toList (rows1 k1 k2 xs.size ys.size xs xs.size ++ rows2 k1 k2 xs.size ys.size ys ys.size) → Q (.ref D) { s with heap := h', toks := tk' }) :
    wpAny (model PySem.Challenge.rw_ox0037_01.row.prog w) (AA dp un fr gd) (call (.ref 145) [.ref la, .ref lb]) Q E s := by
  w_on
  w_strict (
  revert X T R hQ
  k_fill
  intro X T R hQ
  have hR : (AA dp un fr gd).depth < recursionLimit := by dsimp only; omega
  refine' enter (binds := [("actual", .ref la), ("expected", .ref lb)]) X T ?ho ?hcd ?hroom ?hb ?hl ?_ ?c2 ?c3 ?c4 ?c5
  case ho => k_is
  case hcd => k_is
  case hroom => exact hR
  case hb => exact BindsTo.of_eq rfl
  case hl => exact locs rfl
  case c2 => exact rfl
  case c3 => exact rfl
  case c4 => exact rfl
  case c5 => decide
  intro L' h' F' N'
  (try dsimp only)
  (try k_fold)
  repeat' (first
      | (k_unfold; (try dsimp only))
      | (k_end; kc_close)
      | ((with_reducible show wpAny _ _ (call (Value.ref 135) _) _ _ _); (rename News _ _ _ _ => zN); (rename Fr _ _ _ _ => zF); k_dflt (refine' mis_call (Frag.In.keeps (by assumption) (Fr.keep zF)) (Top.keeps (by assumption) (Fr.keep zF)) ?r ?u ?_; (case r => (show dp + 1 + 10 < recursionLimit; omega)); (case u => (show _ + 3 + 150 < _; omega))); intro za zd zh zt ze zD zo; (have zF2 := frExt zF ze); (have zN2 := newsAdd zF zN zD zo ze); clear zN zF; (try dsimp only))
      | ((with_reducible show wpAny _ _ (compareOp .Is (Value.ref _) (Value.ref _)) _ _ _); k_here; (rename Fr _ _ _ _ => zF); (rename News _ _ _ _ => zN); refine is_tup_null (by assumption) (IsTup.keeps (by assumption) (Fr.keep zF)) (News.get zN (by k_mem)) ?_)
      | (with_reducible ((with_reducible show wpAny _ _ (call (Value.type "object") _) _ _ _); k_here; refine' object_K ?F ?N ?_; (case F => k_asm); (case N => k_asm); (rename News _ _ _ _ => zN); (rename Fr _ _ _ _ => zF); clear zN zF; intro _ _ _ _ _))
      | ((with_reducible show wpAny _ _ (call (Value.type "enumerate") _) _ _ _); k_here; refine' enum_K ?F ?N ?l ?_; (case F => k_asm); (case N => k_asm); (case l => first | exact listO_is (News.get (by assumption) (by k_mem)) (by assumption) | exact News.isList (by assumption) (by k_mem)); (rename News _ _ _ _ => zN); (rename Fr _ _ _ _ => zF); clear zN zF; intro _ _ _ _ _ _ _ _ _)
      | (with_reducible ((with_reducible show wpAny _ _ (exec (Stmt.For (Expr.Name _ _) (Expr.Call _ _ _ _) _ _ _) _) _ _ _); k_dflt (refine for_rawD ?_)))
      | (with_reducible ((with_reducible show wpAny _ _ (exec (Stmt.For (Expr.Tuple _ _ _) _ _ _ _) _) _ _ _); k_dflt (refine for_rawD ?_)))
      | walk1
      | (dsimp only; walk1)
      | (leave1; (try dsimp only))
      | fail "no step")
  rename_i aS cS _ _ aT cT _ lST p2 _ _ _ _ _ p1 _ _ _ _ _ aN _ hNall _ aR _ lR _ e it oI hC hI F9 N9 hie hall
  have b1 : @LT.lt Nat _ aS aT := lST
  have b2 : @LT.lt Nat _ aT aN := hNall (aT, _) (List.Mem.tail _ (List.Mem.tail _ (List.Mem.head _)))
  have b3 : @LT.lt Nat _ aN aR := lR.1
  have c4 : @LT.lt Nat _ aR it := hall (aR, _) (List.Mem.head _)
  have b5 : @LT.lt Nat _ it e := hie
  have c3 := Nat.lt_trans b3 c4
  have c2 := Nat.lt_trans b2 c3
  have c1 := Nat.lt_trans b1 c2
  have N0 : News s.heap L' hC ((e, enumO it ((0 : Nat) : Int) .none) :: (it, oI) :: (aR, listOf #[] 0) :: (aN, nullO) :: (aT, listOf ys cT) :: (aS, listOf xs cS) :: []) := newsPick N9 [0, 1, 2, 3, 6, 7] 8
  clear N9 hNall hall lR lST hie
  (try dsimp only at F9)
  (try dsimp only)
  generalize tk + 1 + 1 + 1 + 1 = tm at F9 ⊢
  have F0 : Fr s.heap L' hC (mapO aS aT aN aR la lb (xs.size : Int) (ys.size : Int) tm (tm + 1 + 1) none none none none none none none) := frS F9
  clear F9
  generalize tm + 1 + 1 = tn at F0
  refine Halt.mk (wpAny_pyIter_enum (N0 _ (List.Mem.head _)).1 (LoopFor.gen (J1 s L' e it aR aN aT aS la lb tm tn xs ys k1 k2) (xs.size + 1) (J1.mk (i := 0) (Nat.zero_le _) F0 N0 hI ⟨rfl, _, rfl⟩ ⟨rfl, _, rfl⟩ (Mask.init fun _ => rfl) (Mask.init fun _ => rfl) Paired.nil Off.nil) ?_))
  clear F0 N0 hI
  rintro J' Q' hJ hQ' kk s' @⟨h, tk, ui, ue, us, ut, uj, uo, ud, vs, vt, rs, n, i, tl, oT, oS, oI, old, hile, F, N, hI, hoS, hoT, MS, MT, hR2, htl⟩
  have hvs : vs.size = xs.size := MS.1
  refine enum_next (n := 0) rfl F N hI (listO_is (News.get N (by k_mem)) hoS) b5 (fa_cons (two_ne c4 b5) (fa_cons (two_ne c3 b5) (fa_cons (two_ne c2 b5) (fa_cons (two_ne c1 b5) (fun p hp => ⟨htl p hp e (by k_mem), htl p hp it (by k_mem)⟩))))) (fun x hx b oI' h1 hI1 F1 N1 heb hb => ?_) (fun hge h1 F1 N1 => ?_)
  · have hlt' : i < xs.size := hvs ▸ arr_lt hx
    have hvi := MS.get hlt'
    rw [hx] at hvi
    clear F N hx hb heb hQ'
    by_cases hB : seen k1 i (k1 i) = true
    · have hx' := mask_hit hvi hB
      subst hx'
      clear hvi hQ R U K
      repeat' (first
          | (k_unfold; (try dsimp only))
          | (k_end; kc_close)
          | ((with_reducible show wpAny _ _ (call (Value.ref 135) _) _ _ _); (rename News _ _ _ _ => zN); (rename Fr _ _ _ _ => zF); k_dflt (refine' mis_call (Frag.In.keeps (by assumption) (Fr.keep zF)) (Top.keeps (by assumption) (Fr.keep zF)) ?r ?u ?_; (case r => (show dp + 1 + 10 < recursionLimit; omega)); (case u => (show _ + 3 + 150 < _; omega))); intro za zd zh zt ze zD zo; (have zF2 := frExt zF ze); (have zN2 := newsAdd zF zN zD zo ze); clear zN zF; (try dsimp only))
          | ((with_reducible show wpAny _ _ (compareOp .Is (Value.ref _) (Value.ref _)) _ _ _); k_here; (rename Fr _ _ _ _ => zF); (rename News _ _ _ _ => zN); refine is_tup_null (by assumption) (IsTup.keeps (by assumption) (Fr.keep zF)) (News.get zN (by k_mem)) ?_)
          | (with_reducible ((with_reducible show wpAny _ _ (call (Value.type "object") _) _ _ _); k_here; refine' object_K ?F ?N ?_; (case F => k_asm); (case N => k_asm); (rename News _ _ _ _ => zN); (rename Fr _ _ _ _ => zF); clear zN zF; intro _ _ _ _ _))
          | ((with_reducible show wpAny _ _ (call (Value.type "enumerate") _) _ _ _); k_here; refine' enum_K ?F ?N ?l ?_; (case F => k_asm); (case N => k_asm); (case l => first | exact listO_is (News.get (by assumption) (by k_mem)) (by assumption) | exact News.isList (by assumption) (by k_mem)); (rename News _ _ _ _ => zN); (rename Fr _ _ _ _ => zF); clear zN zF; intro _ _ _ _ _ _ _ _ _)
          | (with_reducible ((with_reducible show wpAny _ _ (exec (Stmt.For (Expr.Name _ _) (Expr.Call _ _ _ _) _ _ _) _) _ _ _); k_dflt (refine for_rawD ?_)))
          | (with_reducible ((with_reducible show wpAny _ _ (exec (Stmt.For (Expr.Tuple _ _ _) _ _ _ _) _) _ _ _); k_dflt (refine for_rawD ?_)))
          | walk1
          | (dsimp only; walk1)
          | (leave1; (try dsimp only))
          | fail "no step")
      (rename Fr _ _ _ _ => F9); (rename News _ _ _ _ => N9)
      (try dsimp only)
      exact ⟨_, dec_turn hlt', hJ _ _ (J1.mk hlt' (frA F9) (newsPick N9 [] 1) hI1 hoS hoT (skip1 hB MS) (skip1 hB MT) (rows1_skip (fun z => absurd z.1 (by rw [hB]; exact Bool.noConfusion)) hR2) htl)⟩
    · obtain ⟨ae, items, hae, htp⟩ := K.tx i hlt'
      have hx' : x = .ref ae := hae ▸ mask_miss hvi hB
      subst hx'
      have hB' : seen k1 i (k1 i) = false := eq_false_of_ne_true hB
      have hneN : ae ≠ aN := tup_ne htp N1 (by k_mem)
      clear hvi
      repeat' (first
          | (k_unfold; (try dsimp only))
          | (k_end; kc_close)
          | ((with_reducible show wpAny _ _ (call (Value.ref 135) _) _ _ _); (rename News _ _ _ _ => zN); (rename Fr _ _ _ _ => zF); k_dflt (refine' mis_call (Frag.In.keeps (by assumption) (Fr.keep zF)) (Top.keeps (by assumption) (Fr.keep zF)) ?r ?u ?_; (case r => (show dp + 1 + 10 < recursionLimit; omega)); (case u => (show _ + 3 + 150 < _; omega))); intro za zd zh zt ze zD zo; (have zF2 := frExt zF ze); (have zN2 := newsAdd zF zN zD zo ze); clear zN zF; (try dsimp only))
          | ((with_reducible show wpAny _ _ (compareOp .Is (Value.ref _) (Value.ref _)) _ _ _); k_here; (rename Fr _ _ _ _ => zF); (rename News _ _ _ _ => zN); refine is_tup_null (by assumption) (IsTup.keeps (by assumption) (Fr.keep zF)) (News.get zN (by k_mem)) ?_)
          | (with_reducible ((with_reducible show wpAny _ _ (call (Value.type "object") _) _ _ _); k_here; refine' object_K ?F ?N ?_; (case F => k_asm); (case N => k_asm); (rename News _ _ _ _ => zN); (rename Fr _ _ _ _ => zF); clear zN zF; intro _ _ _ _ _))
          | ((with_reducible show wpAny _ _ (call (Value.type "enumerate") _) _ _ _); k_here; refine' enum_K ?F ?N ?l ?_; (case F => k_asm); (case N => k_asm); (case l => first | exact listO_is (News.get (by assumption) (by k_mem)) (by assumption) | exact News.isList (by assumption) (by k_mem)); (rename News _ _ _ _ => zN); (rename Fr _ _ _ _ => zF); clear zN zF; intro _ _ _ _ _ _ _ _ _)
          | (with_reducible ((with_reducible show wpAny _ _ (exec (Stmt.For (Expr.Name _ _) (Expr.Call _ _ _ _) _ _ _) _) _ _ _); k_dflt (refine for_rawD ?_)))
          | (with_reducible ((with_reducible show wpAny _ _ (exec (Stmt.For (Expr.Tuple _ _ _) _ _ _ _) _) _ _ _); k_dflt (refine for_rawD ?_)))
          | walk1
          | (dsimp only; walk1)
          | (leave1; (try dsimp only))
          | fail "no step")
      rename_i h9 tk9 t1 u1 v1 hrg F9 N9 hk9
      clear hk9
      refine Halt.mk (inner_range (k := k1) (c := k1 i) (i := i) (aN := aN) (ae := ae) (xs := xs) (vs := vs) (oA := oS) (a := aS) (B := fun p => seen k1 i (k1 p)) (items := items)
        (news := (e, enumO it ((i : Int) + 1) (.ref ae)) :: (it, oI') :: (aR, listOf rs n) :: (aN, nullO) :: (aT, oT) :: tl) rfl (show un + 3 < cLine from Nat.lt_of_le_of_lt (Nat.add_le_add_left (by decide : 3 ≤ 200) un) U) rfl ⟨rfl, by decide⟩ ⟨rfl, by decide⟩ ⟨rfl, by decide⟩ ⟨rfl, by decide⟩ ⟨rfl, by decide⟩ (by decide) (by decide) (by decide) (by decide) (by decide) (by decide) (by decide)
        hrg F9 (newsPick N9 [6, 1, 2, 3, 4, 5] 7) (fa_cons (Nat.ne_of_gt (Nat.lt_trans c1 b5)) (fa_cons (Nat.ne_of_gt c1) (fa_cons (Nat.ne_of_gt (Nat.lt_trans (Nat.lt_trans b1 b2) b3)) (fa_cons (Nat.ne_of_gt (Nat.lt_trans b1 b2)) (fa_cons (Nat.ne_of_gt b1) fun p hp => htl p hp _ (by k_mem)))))) (by k_mem) hoS MS (Nat.le_of_lt hlt') (Nat.le_trans hlen (by decide)) rfl rfl rfl rfl htp (fun s' hk p hp => by rw [← hae]; exact K.xx _ s' (show un + 3 ≤ un + 50 from Nat.add_le_add_left (by decide) un) hk p i hp hlt') (fun p hp q z => by (try dsimp only at q); rw [z, hB'] at q; cases q) hB' ?_)
      clear F9 N9 hrg hoS MS
      intro h3 tk3 u3 oS3 vs3 tc3 F3 N3 hoS3 MS3
      (try dsimp only)
      repeat' (first
          | (k_unfold; (try dsimp only))
          | (k_end; kc_close)
          | ((with_reducible show wpAny _ _ (call (Value.ref 135) _) _ _ _); (rename News _ _ _ _ => zN); (rename Fr _ _ _ _ => zF); k_dflt (refine' mis_call (Frag.In.keeps (by assumption) (Fr.keep zF)) (Top.keeps (by assumption) (Fr.keep zF)) ?r ?u ?_; (case r => (show dp + 1 + 10 < recursionLimit; omega)); (case u => (show _ + 3 + 150 < _; omega))); intro za zd zh zt ze zD zo; (have zF2 := frExt zF ze); (have zN2 := newsAdd zF zN zD zo ze); clear zN zF; (try dsimp only))
          | ((with_reducible show wpAny _ _ (compareOp .Is (Value.ref _) (Value.ref _)) _ _ _); k_here; (rename Fr _ _ _ _ => zF); (rename News _ _ _ _ => zN); refine is_tup_null (by assumption) (IsTup.keeps (by assumption) (Fr.keep zF)) (News.get zN (by k_mem)) ?_)
          | (with_reducible ((with_reducible show wpAny _ _ (call (Value.type "object") _) _ _ _); k_here; refine' object_K ?F ?N ?_; (case F => k_asm); (case N => k_asm); (rename News _ _ _ _ => zN); (rename Fr _ _ _ _ => zF); clear zN zF; intro _ _ _ _ _))
          | ((with_reducible show wpAny _ _ (call (Value.type "enumerate") _) _ _ _); k_here; refine' enum_K ?F ?N ?l ?_; (case F => k_asm); (case N => k_asm); (case l => first | exact listO_is (News.get (by assumption) (by k_mem)) (by assumption) | exact News.isList (by assumption) (by k_mem)); (rename News _ _ _ _ => zN); (rename Fr _ _ _ _ => zF); clear zN zF; intro _ _ _ _ _ _ _ _ _)
          | (with_reducible ((with_reducible show wpAny _ _ (exec (Stmt.For (Expr.Name _ _) (Expr.Call _ _ _ _) _ _ _) _) _ _ _); k_dflt (refine for_rawD ?_)))
          | (with_reducible ((with_reducible show wpAny _ _ (exec (Stmt.For (Expr.Tuple _ _ _) _ _ _ _) _) _ _ _); k_dflt (refine for_rawD ?_)))
          | walk1
          | (dsimp only; walk1)
          | (leave1; (try dsimp only))
          | fail "no step")
      rename_i e2 it2 oI2 h5 hI2 F5 N5 hie2 hall2
      refine Halt.mk (inner_enum (k := k2) (c := k1 i) (aN := aN) (ae := ae) (xs := ys) (vs := vt) (oA := oT) (oI := oI2) (a := aT) (e := e2) (it := it2) (B := fun p => seen k1 i (k2 p)) (items := items)
        (news := (e, enumO it ((i : Int) + 1) (.ref ae)) :: (it, oI') :: (aR, listOf rs n) :: (aN, nullO) :: (aS, oS3) :: tl) rfl (show un + 3 < cLine from Nat.lt_of_le_of_lt (Nat.add_le_add_left (by decide : 3 ≤ 200) un) U) rfl ⟨rfl, by decide⟩ ⟨rfl, by decide⟩ ⟨rfl, by decide⟩ ⟨rfl, by decide⟩ ⟨rfl, by decide⟩ ⟨rfl, by decide⟩ (by decide) (by decide) (by decide) (by decide) (by decide) (by decide) (by decide) (by decide) (by decide) (by decide) (by decide) (by decide)
        F5 (newsPick N5 [0, 1, 7, 3, 4, 5, 6, 2] 8) hI2 hie2 (fun p hp => hall2 p (pick_mem (d := 6) (is := [5, 1, 2, 3, 4, 0]) hp)) (fa_cons (Nat.ne_of_gt (Nat.lt_trans c2 b5)) (fa_cons (Nat.ne_of_gt c2) (fa_cons (Nat.ne_of_gt (Nat.lt_trans b2 b3)) (fa_cons (Nat.ne_of_gt b2) (fa_cons (Nat.ne_of_lt b1) fun p hp => htl p hp _ (by k_mem)))))) (by k_mem) hoT MT (Nat.le_trans hlen2 (by decide)) rfl rfl rfl rfl htp (fun s' hk p hp => by rw [← hae]; exact K.yx _ s' (show un + 3 ≤ un + 50 from Nat.add_le_add_left (by decide) un) hk p i hp hlt') (fun p hp q z => by (try dsimp only at q); rw [z, hB'] at q; cases q) ?_)
      clear F5 N5 hall2 hoT MT hie2 hI2
      intro h6 tk6 u6 u6' oT6 vt6 tc6 F6 N6 hoT6 MT6
      (try dsimp only)
      replace F6 : Fr s.heap L' h6 _ := F6
      replace N6 : News s.heap L' h6 _ := N6
      repeat' (first
          | (k_unfold; (try dsimp only))
          | (k_end; kc_close)
          | ((with_reducible show wpAny _ _ (call (Value.ref 135) _) _ _ _); (rename News _ _ _ _ => zN); (rename Fr _ _ _ _ => zF); k_dflt (refine' mis_call (Frag.In.keeps (by assumption) (Fr.keep zF)) (Top.keeps (by assumption) (Fr.keep zF)) ?r ?u ?_; (case r => (show dp + 1 + 10 < recursionLimit; omega)); (case u => (show _ + 3 + 150 < _; omega))); intro za zd zh zt ze zD zo; (have zF2 := frExt zF ze); (have zN2 := newsAdd zF zN zD zo ze); clear zN zF; (try dsimp only))
          | ((with_reducible show wpAny _ _ (compareOp .Is (Value.ref _) (Value.ref _)) _ _ _); k_here; (rename Fr _ _ _ _ => zF); (rename News _ _ _ _ => zN); refine is_tup_null (by assumption) (IsTup.keeps (by assumption) (Fr.keep zF)) (News.get zN (by k_mem)) ?_)
          | (with_reducible ((with_reducible show wpAny _ _ (call (Value.type "object") _) _ _ _); k_here; refine' object_K ?F ?N ?_; (case F => k_asm); (case N => k_asm); (rename News _ _ _ _ => zN); (rename Fr _ _ _ _ => zF); clear zN zF; intro _ _ _ _ _))
          | ((with_reducible show wpAny _ _ (call (Value.type "enumerate") _) _ _ _); k_here; refine' enum_K ?F ?N ?l ?_; (case F => k_asm); (case N => k_asm); (case l => first | exact listO_is (News.get (by assumption) (by k_mem)) (by assumption) | exact News.isList (by assumption) (by k_mem)); (rename News _ _ _ _ => zN); (rename Fr _ _ _ _ => zF); clear zN zF; intro _ _ _ _ _ _ _ _ _)
          | (with_reducible ((with_reducible show wpAny _ _ (exec (Stmt.For (Expr.Name _ _) (Expr.Call _ _ _ _) _ _ _) _) _ _ _); k_dflt (refine for_rawD ?_)))
          | (with_reducible ((with_reducible show wpAny _ _ (exec (Stmt.For (Expr.Tuple _ _ _) _ _ _ _) _) _ _ _); k_dflt (refine for_rawD ?_)))
          | walk1
          | (dsimp only; walk1)
          | (leave1; (try dsimp only))
          | fail "no step")
      · refine' mis_call (Frag.In.keeps X (Fr.keep F6)) (Top.keeps T (Fr.keep F6)) ?r ?u ?_
        case r => exact Nat.lt_of_le_of_lt (Nat.add_le_add_left (by decide : 1 + 10 ≤ 20) dp) R
        case u => exact Nat.lt_of_le_of_lt (Nat.add_le_add_left (by decide : 3 + 150 ≤ 200) un) U
        intro D d h7 tk7 he7 hD7 ho7
        have F7 := frExt F6 he7
        have N7 := newsAdd F6 N6 hD7 ho7 he7
        have hoff : Off [e, it, aR, aN, aT, aS] ((D, _) :: tl) := htl.cons (o := rowO d #[.int (cnt k1 xs.size (k1 i) : Int) tc3, .int (cnt k2 ys.size (k1 i) : Int) tc6, .ref ae]) hD7
          (fa_cons ⟨_, News.get N6 (by k_mem)⟩ (fa_cons ⟨_, News.get N6 (by k_mem)⟩ (fa_cons ⟨_, News.get N6 (by k_mem)⟩ (fa_cons ⟨_, News.get N6 (by k_mem)⟩ (fa_cons ⟨_, News.get N6 (by k_mem)⟩ (fa_cons ⟨_, News.get N6 (by k_mem)⟩ fa_nil))))))
        clear F6 N6 hD7 ho7
        (try dsimp only)
        repeat' (first
            | (k_unfold; (try dsimp only))
            | (k_end; kc_close)
            | ((with_reducible show wpAny _ _ (call (Value.ref 135) _) _ _ _); (rename News _ _ _ _ => zN); (rename Fr _ _ _ _ => zF); k_dflt (refine' mis_call (Frag.In.keeps (by assumption) (Fr.keep zF)) (Top.keeps (by assumption) (Fr.keep zF)) ?r ?u ?_; (case r => (show dp + 1 + 10 < recursionLimit; omega)); (case u => (show _ + 3 + 150 < _; omega))); intro za zd zh zt ze zD zo; (have zF2 := frExt zF ze); (have zN2 := newsAdd zF zN zD zo ze); clear zN zF; (try dsimp only))
            | ((with_reducible show wpAny _ _ (compareOp .Is (Value.ref _) (Value.ref _)) _ _ _); k_here; (rename Fr _ _ _ _ => zF); (rename News _ _ _ _ => zN); refine is_tup_null (by assumption) (IsTup.keeps (by assumption) (Fr.keep zF)) (News.get zN (by k_mem)) ?_)
            | (with_reducible ((with_reducible show wpAny _ _ (call (Value.type "object") _) _ _ _); k_here; refine' object_K ?F ?N ?_; (case F => k_asm); (case N => k_asm); (rename News _ _ _ _ => zN); (rename Fr _ _ _ _ => zF); clear zN zF; intro _ _ _ _ _))
            | ((with_reducible show wpAny _ _ (call (Value.type "enumerate") _) _ _ _); k_here; refine' enum_K ?F ?N ?l ?_; (case F => k_asm); (case N => k_asm); (case l => first | exact listO_is (News.get (by assumption) (by k_mem)) (by assumption) | exact News.isList (by assumption) (by k_mem)); (rename News _ _ _ _ => zN); (rename Fr _ _ _ _ => zF); clear zN zF; intro _ _ _ _ _ _ _ _ _)
            | (with_reducible ((with_reducible show wpAny _ _ (exec (Stmt.For (Expr.Name _ _) (Expr.Call _ _ _ _) _ _ _) _) _ _ _); k_dflt (refine for_rawD ?_)))
            | (with_reducible ((with_reducible show wpAny _ _ (exec (Stmt.For (Expr.Tuple _ _ _) _ _ _ _) _) _ _ _); k_dflt (refine for_rawD ?_)))
            | walk1
            | (dsimp only; walk1)
            | (leave1; (try dsimp only))
            | fail "no step")
        (rename Fr _ _ _ _ => F8); (rename News _ _ _ _ => N8)
        refine append_K (D := aR) (its := rs) (n := n) F8 (newsPick N8 [4, 0, 2, 3, 5, 1, 6] 7) (Upd.head (fa_cons (hoff _ List.mem_cons_self _ (by k_mem)) (fa_cons (Nat.ne_of_gt (Nat.lt_trans c4 b5)) (fa_cons (Nat.ne_of_gt c4) (fa_cons (Nat.ne_of_lt b3) (fa_cons (Nat.ne_of_lt (Nat.lt_trans b2 b3)) (fa_cons (Nat.ne_of_lt (Nat.lt_trans b1 (Nat.lt_trans b2 b3))) fun p hp => htl p hp _ (by k_mem)))))))) ?_ (rows1_room (Nat.le_trans hile (Nat.le_trans hlen (by decide))) hR2)
        intro h11 F11 N11
        clear F8 N8
        (try dsimp only)
        repeat' (first
            | (k_unfold; (try dsimp only))
            | (k_end; kc_close)
            | ((with_reducible show wpAny _ _ (call (Value.ref 135) _) _ _ _); (rename News _ _ _ _ => zN); (rename Fr _ _ _ _ => zF); k_dflt (refine' mis_call (Frag.In.keeps (by assumption) (Fr.keep zF)) (Top.keeps (by assumption) (Fr.keep zF)) ?r ?u ?_; (case r => (show dp + 1 + 10 < recursionLimit; omega)); (case u => (show _ + 3 + 150 < _; omega))); intro za zd zh zt ze zD zo; (have zF2 := frExt zF ze); (have zN2 := newsAdd zF zN zD zo ze); clear zN zF; (try dsimp only))
            | ((with_reducible show wpAny _ _ (compareOp .Is (Value.ref _) (Value.ref _)) _ _ _); k_here; (rename Fr _ _ _ _ => zF); (rename News _ _ _ _ => zN); refine is_tup_null (by assumption) (IsTup.keeps (by assumption) (Fr.keep zF)) (News.get zN (by k_mem)) ?_)
            | (with_reducible ((with_reducible show wpAny _ _ (call (Value.type "object") _) _ _ _); k_here; refine' object_K ?F ?N ?_; (case F => k_asm); (case N => k_asm); (rename News _ _ _ _ => zN); (rename Fr _ _ _ _ => zF); clear zN zF; intro _ _ _ _ _))
            | ((with_reducible show wpAny _ _ (call (Value.type "enumerate") _) _ _ _); k_here; refine' enum_K ?F ?N ?l ?_; (case F => k_asm); (case N => k_asm); (case l => first | exact listO_is (News.get (by assumption) (by k_mem)) (by assumption) | exact News.isList (by assumption) (by k_mem)); (rename News _ _ _ _ => zN); (rename Fr _ _ _ _ => zF); clear zN zF; intro _ _ _ _ _ _ _ _ _)
            | (with_reducible ((with_reducible show wpAny _ _ (exec (Stmt.For (Expr.Name _ _) (Expr.Call _ _ _ _) _ _ _) _) _ _ _); k_dflt (refine for_rawD ?_)))
            | (with_reducible ((with_reducible show wpAny _ _ (exec (Stmt.For (Expr.Tuple _ _ _) _ _ _ _) _) _ _ _); k_dflt (refine for_rawD ?_)))
            | walk1
            | (dsimp only; walk1)
            | (leave1; (try dsimp only))
            | fail "no step")
        (rename Fr _ _ _ _ => F9); (rename News _ _ _ _ => N9)
        (try dsimp only)
        exact ⟨_, dec_turn hlt', hJ _ _ (J1.mk hlt' (frB F9) (newsPick N9 [2, 3, 0, 4, 5, 6, 1] 7) hI1 hoS3 hoT6 (MS3.congr fun p hp => Dm_full hp) (MT6.congr fun p hp => Dm_full hp) (rows1_add hB' (fun q => absurd (congrArg Int.ofNat q) (by assumption)) hae hR2) hoff)⟩
      · (rename Fr _ _ _ _ => F9); (rename News _ _ _ _ => N9)
        (try dsimp only)
        exact ⟨_, dec_turn hlt', hJ _ _ (J1.mk hlt' (frC F9) (newsPick N9 [1, 2, 3, 4, 0, 5] 6) hI1 hoS3 hoT6 (MS3.congr fun p hp => Dm_full hp) (MT6.congr fun p hp => Dm_full hp) (rows1_skip (fun z => by have := z.2; omega) hR2) htl)⟩
  · have hin : i = xs.size := Nat.le_antisymm hile (hvs ▸ arr_ge hge)
    rw [hin] at MT hR2
    clear F N hin hge hile hvs hJ
    refine hQ' _ _ ?_
    clear hQ' J' Q'
    (try dsimp only)
    repeat' (first
        | (k_unfold; (try dsimp only))
        | (k_end; kc_close)
        | ((with_reducible show wpAny _ _ (call (Value.ref 135) _) _ _ _); (rename News _ _ _ _ => zN); (rename Fr _ _ _ _ => zF); k_dflt (refine' mis_call (Frag.In.keeps (by assumption) (Fr.keep zF)) (Top.keeps (by assumption) (Fr.keep zF)) ?r ?u ?_; (case r => (show dp + 1 + 10 < recursionLimit; omega)); (case u => (show _ + 3 + 150 < _; omega))); intro za zd zh zt ze zD zo; (have zF2 := frExt zF ze); (have zN2 := newsAdd zF zN zD zo ze); clear zN zF; (try dsimp only))
        | ((with_reducible show wpAny _ _ (compareOp .Is (Value.ref _) (Value.ref _)) _ _ _); k_here; (rename Fr _ _ _ _ => zF); (rename News _ _ _ _ => zN); refine is_tup_null (by assumption) (IsTup.keeps (by assumption) (Fr.keep zF)) (News.get zN (by k_mem)) ?_)
        | (with_reducible ((with_reducible show wpAny _ _ (call (Value.type "object") _) _ _ _); k_here; refine' object_K ?F ?N ?_; (case F => k_asm); (case N => k_asm); (rename News _ _ _ _ => zN); (rename Fr _ _ _ _ => zF); clear zN zF; intro _ _ _ _ _))
        | ((with_reducible show wpAny _ _ (call (Value.type "enumerate") _) _ _ _); k_here; refine' enum_K ?F ?N ?l ?_; (case F => k_asm); (case N => k_asm); (case l => first | exact listO_is (News.get (by assumption) (by k_mem)) (by assumption) | exact News.isList (by assumption) (by k_mem)); (rename News _ _ _ _ => zN); (rename Fr _ _ _ _ => zF); clear zN zF; intro _ _ _ _ _ _ _ _ _)
        | (with_reducible ((with_reducible show wpAny _ _ (exec (Stmt.For (Expr.Name _ _) (Expr.Call _ _ _ _) _ _ _) _) _ _ _); k_dflt (refine for_rawD ?_)))
        | (with_reducible ((with_reducible show wpAny _ _ (exec (Stmt.For (Expr.Tuple _ _ _) _ _ _ _) _) _ _ _); k_dflt (refine for_rawD ?_)))
        | walk1
        | (dsimp only; walk1)
        | (leave1; (try dsimp only))
        | fail "no step")
    rename_i eB itB oIB hC2 hIB F9 N9 hieB hallB
    have g4 : @LT.lt Nat _ aR itB := hallB (aR, _) List.mem_cons_self
    have g5 : @LT.lt Nat _ itB eB := hieB
    have g3 := Nat.lt_trans b3 g4
    have g2 := Nat.lt_trans b2 g3
    have htB : Off [eB, itB, aR, aN, aT] tl := fun p hp =>
      have z : @LT.lt Nat _ p.1 itB := hallB p (by repeat' (first | exact hp | refine List.Mem.tail _ ?_))
      fa_cons (Nat.ne_of_lt (Nat.lt_trans z g5)) (fa_cons (Nat.ne_of_lt z) (fa_cons (htl p hp _ (by k_mem)) (fa_cons (htl p hp _ (by k_mem)) (fa_cons (htl p hp _ (by k_mem)) fa_nil))))
    have N0 : News s.heap L' hC2 ((eB, enumO itB ((0 : Nat) : Int) .none) :: (itB, oIB) :: (aR, listOf rs n) :: (aN, nullO) :: (aT, oT) :: tl) := newsPick N9 [0, 1, 2, 3, 4] 6
    clear N9 hallB htl
    have M0 : Mask aN (fun p => seen k1 xs.size (k2 p) || seen k2 0 (k2 p)) ys vt := MT.congr fun p hp => (Bool.or_false _).symm
    clear MT MS hoS
    refine Halt.mk (wpAny_pyIter_enum (N0 _ (List.Mem.head _)).1 (LoopFor.gen (J2 s L' eB itB aR aN aT aS la lb tm tn xs ys k1 k2) (ys.size + 1) (J2.mk (i := 0) (Nat.zero_le _) F9 N0 hIB hoT M0 (by rw [show rows2 k1 k2 xs.size ys.size ys 0 = [] from rfl, List.append_nil]; exact hR2) htB) ?_))
    clear F9 N0 hIB M0 hR2 htB hoT vs vt rs n tl oT oS oI old hI ui ue us ut uj uo ud
    rintro J' Q' hJ hQ' kk s' @⟨h, tk, ui, ue, us, ut, uj, uo, ud, vt, rs, n, i, tl, oT, oI, old, hile, F, N, hI, hoT, MT, hR2, htl⟩
    have hvt : vt.size = ys.size := MT.1
    refine enum_next (n := 0) rfl F N hI (listO_is (News.get N (by k_mem)) hoT) g5 (fa_cons (two_ne g4 g5) (fa_cons (two_ne g3 g5) (fa_cons (two_ne g2 g5) (fun p hp => ⟨htl p hp _ (by k_mem), htl p hp _ (by k_mem)⟩)))) (fun x hx b oI' h1 hI1 F1 N1 heb hb => ?_) (fun hge h1 F1 N1 => ?_)
    · have hlt' : i < ys.size := hvt ▸ arr_lt hx
      have hvi := MT.get hlt'
      rw [hx] at hvi
      clear F N hx hb heb hQ'
      by_cases hB : (seen k1 xs.size (k2 i) || seen k2 i (k2 i)) = true
      · have hx' := mask_hit hvi hB
        subst hx'
        clear hvi hQ R U K
        repeat' (first
            | (k_unfold; (try dsimp only))
            | (k_end; kc_close)
            | ((with_reducible show wpAny _ _ (call (Value.ref 135) _) _ _ _); (rename News _ _ _ _ => zN); (rename Fr _ _ _ _ => zF); k_dflt (refine' mis_call (Frag.In.keeps (by assumption) (Fr.keep zF)) (Top.keeps (by assumption) (Fr.keep zF)) ?r ?u ?_; (case r => (show dp + 1 + 10 < recursionLimit; omega)); (case u => (show _ + 3 + 150 < _; omega))); intro za zd zh zt ze zD zo; (have zF2 := frExt zF ze); (have zN2 := newsAdd zF zN zD zo ze); clear zN zF; (try dsimp only))
            | ((with_reducible show wpAny _ _ (compareOp .Is (Value.ref _) (Value.ref _)) _ _ _); k_here; (rename Fr _ _ _ _ => zF); (rename News _ _ _ _ => zN); refine is_tup_null (by assumption) (IsTup.keeps (by assumption) (Fr.keep zF)) (News.get zN (by k_mem)) ?_)
            | (with_reducible ((with_reducible show wpAny _ _ (call (Value.type "object") _) _ _ _); k_here; refine' object_K ?F ?N ?_; (case F => k_asm); (case N => k_asm); (rename News _ _ _ _ => zN); (rename Fr _ _ _ _ => zF); clear zN zF; intro _ _ _ _ _))
            | ((with_reducible show wpAny _ _ (call (Value.type "enumerate") _) _ _ _); k_here; refine' enum_K ?F ?N ?l ?_; (case F => k_asm); (case N => k_asm); (case l => first | exact listO_is (News.get (by assumption) (by k_mem)) (by assumption) | exact News.isList (by assumption) (by k_mem)); (rename News _ _ _ _ => zN); (rename Fr _ _ _ _ => zF); clear zN zF; intro _ _ _ _ _ _ _ _ _)
            | (with_reducible ((with_reducible show wpAny _ _ (exec (Stmt.For (Expr.Name _ _) (Expr.Call _ _ _ _) _ _ _) _) _ _ _); k_dflt (refine for_rawD ?_)))
            | (with_reducible ((with_reducible show wpAny _ _ (exec (Stmt.For (Expr.Tuple _ _ _) _ _ _ _) _) _ _ _); k_dflt (refine for_rawD ?_)))
            | walk1
            | (dsimp only; walk1)
            | (leave1; (try dsimp only))
            | fail "no step")
        (rename Fr _ _ _ _ => F9); (rename News _ _ _ _ => N9)
        (try dsimp only)
        exact ⟨_, dec_turn hlt', hJ _ _ (J2.mk hlt' (frA F9) (newsPick N9 [] 1) hI1 hoT (skip2 (c := seen k1 xs.size) hB MT) (rows2_skip (fun z => by rw [z.1, z.2] at hB; cases hB) hR2) htl)⟩
      · obtain ⟨ae, items, hae, htp⟩ := K.ty i hlt'
        have hx' : x = .ref ae := hae ▸ mask_miss hvi hB
        subst hx'
        obtain ⟨hB1, hB2⟩ := Bool.or_eq_false_iff.mp (eq_false_of_ne_true hB)
        have hneN : ae ≠ aN := tup_ne htp N1 (by k_mem)
        clear hvi
        repeat' (first
            | (k_unfold; (try dsimp only))
            | (k_end; kc_close)
            | ((with_reducible show wpAny _ _ (call (Value.ref 135) _) _ _ _); (rename News _ _ _ _ => zN); (rename Fr _ _ _ _ => zF); k_dflt (refine' mis_call (Frag.In.keeps (by assumption) (Fr.keep zF)) (Top.keeps (by assumption) (Fr.keep zF)) ?r ?u ?_; (case r => (show dp + 1 + 10 < recursionLimit; omega)); (case u => (show _ + 3 + 150 < _; omega))); intro za zd zh zt ze zD zo; (have zF2 := frExt zF ze); (have zN2 := newsAdd zF zN zD zo ze); clear zN zF; (try dsimp only))
            | ((with_reducible show wpAny _ _ (compareOp .Is (Value.ref _) (Value.ref _)) _ _ _); k_here; (rename Fr _ _ _ _ => zF); (rename News _ _ _ _ => zN); refine is_tup_null (by assumption) (IsTup.keeps (by assumption) (Fr.keep zF)) (News.get zN (by k_mem)) ?_)
            | (with_reducible ((with_reducible show wpAny _ _ (call (Value.type "object") _) _ _ _); k_here; refine' object_K ?F ?N ?_; (case F => k_asm); (case N => k_asm); (rename News _ _ _ _ => zN); (rename Fr _ _ _ _ => zF); clear zN zF; intro _ _ _ _ _))
            | ((with_reducible show wpAny _ _ (call (Value.type "enumerate") _) _ _ _); k_here; refine' enum_K ?F ?N ?l ?_; (case F => k_asm); (case N => k_asm); (case l => first | exact listO_is (News.get (by assumption) (by k_mem)) (by assumption) | exact News.isList (by assumption) (by k_mem)); (rename News _ _ _ _ => zN); (rename Fr _ _ _ _ => zF); clear zN zF; intro _ _ _ _ _ _ _ _ _)
            | (with_reducible ((with_reducible show wpAny _ _ (exec (Stmt.For (Expr.Name _ _) (Expr.Call _ _ _ _) _ _ _) _) _ _ _); k_dflt (refine for_rawD ?_)))
            | (with_reducible ((with_reducible show wpAny _ _ (exec (Stmt.For (Expr.Tuple _ _ _) _ _ _ _) _) _ _ _); k_dflt (refine for_rawD ?_)))
            | walk1
            | (dsimp only; walk1)
            | (leave1; (try dsimp only))
            | fail "no step")
        rename_i h9 tk9 t1 u1 v1 hrg F9 N9 hk9
        clear hk9
        refine Halt.mk (inner_range (k := k2) (c := k2 i) (i := i) (aN := aN) (ae := ae) (xs := ys) (vs := vt) (oA := oT) (a := aT) (B := fun p => seen k1 xs.size (k2 p) || seen k2 i (k2 p)) (items := items)
          (news := (eB, enumO itB ((i : Int) + 1) (.ref ae)) :: (itB, oI') :: (aR, listOf rs n) :: (aN, nullO) :: tl) rfl (show un + 3 < cLine from Nat.lt_of_le_of_lt (Nat.add_le_add_left (by decide : 3 ≤ 200) un) U) rfl ⟨rfl, by decide⟩ ⟨rfl, by decide⟩ ⟨rfl, by decide⟩ ⟨rfl, by decide⟩ ⟨rfl, by decide⟩ (by decide) (by decide) (by decide) (by decide) (by decide) (by decide) (by decide)
          hrg F9 (newsPick N9 [5, 1, 2, 3, 4] 6) (fa_cons (Nat.ne_of_gt (Nat.lt_trans g2 g5)) (fa_cons (Nat.ne_of_gt g2) (fa_cons (Nat.ne_of_gt (Nat.lt_trans b2 b3)) (fa_cons (Nat.ne_of_gt b2) fun p hp => htl p hp _ (by k_mem))))) (by k_mem) hoT MT (Nat.le_of_lt hlt') (Nat.le_trans hlen2 (by decide)) rfl rfl rfl rfl htp (fun s' hk p hp => by rw [← hae]; exact K.yy _ s' (show un + 3 ≤ un + 50 from Nat.add_le_add_left (by decide) un) hk p i hp hlt') (fun p hp q z => by (try dsimp only at q); rw [z, hB1, hB2] at q; cases q) hB2 ?_)
        clear F9 N9 hrg hoT MT
        intro h6 tk6 u6 oT6 vt6 tc6 F6 N6 hoT6 MT6
        (try dsimp only)
        replace F6 : Fr s.heap L' h6 _ := F6
        replace N6 : News s.heap L' h6 _ := N6
        repeat' (first
            | (k_unfold; (try dsimp only))
            | (k_end; kc_close)
            | ((with_reducible show wpAny _ _ (call (Value.ref 135) _) _ _ _); (rename News _ _ _ _ => zN); (rename Fr _ _ _ _ => zF); k_dflt (refine' mis_call (Frag.In.keeps (by assumption) (Fr.keep zF)) (Top.keeps (by assumption) (Fr.keep zF)) ?r ?u ?_; (case r => (show dp + 1 + 10 < recursionLimit; omega)); (case u => (show _ + 3 + 150 < _; omega))); intro za zd zh zt ze zD zo; (have zF2 := frExt zF ze); (have zN2 := newsAdd zF zN zD zo ze); clear zN zF; (try dsimp only))
            | ((with_reducible show wpAny _ _ (compareOp .Is (Value.ref _) (Value.ref _)) _ _ _); k_here; (rename Fr _ _ _ _ => zF); (rename News _ _ _ _ => zN); refine is_tup_null (by assumption) (IsTup.keeps (by assumption) (Fr.keep zF)) (News.get zN (by k_mem)) ?_)
            | (with_reducible ((with_reducible show wpAny _ _ (call (Value.type "object") _) _ _ _); k_here; refine' object_K ?F ?N ?_; (case F => k_asm); (case N => k_asm); (rename News _ _ _ _ => zN); (rename Fr _ _ _ _ => zF); clear zN zF; intro _ _ _ _ _))
            | ((with_reducible show wpAny _ _ (call (Value.type "enumerate") _) _ _ _); k_here; refine' enum_K ?F ?N ?l ?_; (case F => k_asm); (case N => k_asm); (case l => first | exact listO_is (News.get (by assumption) (by k_mem)) (by assumption) | exact News.isList (by assumption) (by k_mem)); (rename News _ _ _ _ => zN); (rename Fr _ _ _ _ => zF); clear zN zF; intro _ _ _ _ _ _ _ _ _)
            | (with_reducible ((with_reducible show wpAny _ _ (exec (Stmt.For (Expr.Name _ _) (Expr.Call _ _ _ _) _ _ _) _) _ _ _); k_dflt (refine for_rawD ?_)))
            | (with_reducible ((with_reducible show wpAny _ _ (exec (Stmt.For (Expr.Tuple _ _ _) _ _ _ _) _) _ _ _); k_dflt (refine for_rawD ?_)))
            | walk1
            | (dsimp only; walk1)
            | (leave1; (try dsimp only))
            | fail "no step")
        refine' mis_call (Frag.In.keeps X (Fr.keep (by assumption))) (Top.keeps T (Fr.keep (by assumption))) ?r ?u ?_
        case r => exact Nat.lt_of_le_of_lt (Nat.add_le_add_left (by decide : 1 + 10 ≤ 20) dp) R
        case u => exact Nat.lt_of_le_of_lt (Nat.add_le_add_left (by decide : 3 + 150 ≤ 200) un) U
        intro D d h7 tk7 he7 hD7 ho7
        have F7 := frExt F6 he7
        have N7 := newsAdd F6 N6 hD7 ho7 he7
        have hoff : Off [eB, itB, aR, aN, aT] ((D, rowO d #[.int 0 tk6, .int (cnt k2 ys.size (k2 i) : Int) tc6, .ref ae]) :: tl) := htl.cons hD7
          (fa_cons ⟨_, News.get N6 (by k_mem)⟩ (fa_cons ⟨_, News.get N6 (by k_mem)⟩ (fa_cons ⟨_, News.get N6 (by k_mem)⟩ (fa_cons ⟨_, News.get N6 (by k_mem)⟩ (fa_cons ⟨_, News.get N6 (by k_mem)⟩ fa_nil)))))
        clear F6 N6 hD7 ho7
        (try dsimp only)
        repeat' (first
            | (k_unfold; (try dsimp only))
            | (k_end; kc_close)
            | ((with_reducible show wpAny _ _ (call (Value.ref 135) _) _ _ _); (rename News _ _ _ _ => zN); (rename Fr _ _ _ _ => zF); k_dflt (refine' mis_call (Frag.In.keeps (by assumption) (Fr.keep zF)) (Top.keeps (by assumption) (Fr.keep zF)) ?r ?u ?_; (case r => (show dp + 1 + 10 < recursionLimit; omega)); (case u => (show _ + 3 + 150 < _; omega))); intro za zd zh zt ze zD zo; (have zF2 := frExt zF ze); (have zN2 := newsAdd zF zN zD zo ze); clear zN zF; (try dsimp only))
            | ((with_reducible show wpAny _ _ (compareOp .Is (Value.ref _) (Value.ref _)) _ _ _); k_here; (rename Fr _ _ _ _ => zF); (rename News _ _ _ _ => zN); refine is_tup_null (by assumption) (IsTup.keeps (by assumption) (Fr.keep zF)) (News.get zN (by k_mem)) ?_)
            | (with_reducible ((with_reducible show wpAny _ _ (call (Value.type "object") _) _ _ _); k_here; refine' object_K ?F ?N ?_; (case F => k_asm); (case N => k_asm); (rename News _ _ _ _ => zN); (rename Fr _ _ _ _ => zF); clear zN zF; intro _ _ _ _ _))
            | ((with_reducible show wpAny _ _ (call (Value.type "enumerate") _) _ _ _); k_here; refine' enum_K ?F ?N ?l ?_; (case F => k_asm); (case N => k_asm); (case l => first | exact listO_is (News.get (by assumption) (by k_mem)) (by assumption) | exact News.isList (by assumption) (by k_mem)); (rename News _ _ _ _ => zN); (rename Fr _ _ _ _ => zF); clear zN zF; intro _ _ _ _ _ _ _ _ _)
            | (with_reducible ((with_reducible show wpAny _ _ (exec (Stmt.For (Expr.Name _ _) (Expr.Call _ _ _ _) _ _ _) _) _ _ _); k_dflt (refine for_rawD ?_)))
            | (with_reducible ((with_reducible show wpAny _ _ (exec (Stmt.For (Expr.Tuple _ _ _) _ _ _ _) _) _ _ _); k_dflt (refine for_rawD ?_)))
            | walk1
            | (dsimp only; walk1)
            | (leave1; (try dsimp only))
            | fail "no step")
        (rename Fr _ _ _ _ => F8); (rename News _ _ _ _ => N8)
        refine append_K (D := aR) (its := rs) (n := n) F8 (newsPick N8 [4, 0, 2, 3, 5, 1] 6) (Upd.head (fa_cons (hoff _ List.mem_cons_self _ (by k_mem)) (fa_cons (Nat.ne_of_gt (Nat.lt_trans g4 g5)) (fa_cons (Nat.ne_of_gt g4) (fa_cons (Nat.ne_of_lt b3) (fa_cons (Nat.ne_of_lt (Nat.lt_trans b2 b3)) fun p hp => htl p hp _ (by k_mem))))))) ?_ (rows2_room (Nat.le_trans hile (Nat.le_trans hlen2 (by decide))) (Nat.le_trans hlen (by decide)) hR2)
        intro h11 F11 N11
        clear F8 N8
        (try dsimp only)
        repeat' (first
            | (k_unfold; (try dsimp only))
            | (k_end; kc_close)
            | ((with_reducible show wpAny _ _ (call (Value.ref 135) _) _ _ _); (rename News _ _ _ _ => zN); (rename Fr _ _ _ _ => zF); k_dflt (refine' mis_call (Frag.In.keeps (by assumption) (Fr.keep zF)) (Top.keeps (by assumption) (Fr.keep zF)) ?r ?u ?_; (case r => (show dp + 1 + 10 < recursionLimit; omega)); (case u => (show _ + 3 + 150 < _; omega))); intro za zd zh zt ze zD zo; (have zF2 := frExt zF ze); (have zN2 := newsAdd zF zN zD zo ze); clear zN zF; (try dsimp only))
            | ((with_reducible show wpAny _ _ (compareOp .Is (Value.ref _) (Value.ref _)) _ _ _); k_here; (rename Fr _ _ _ _ => zF); (rename News _ _ _ _ => zN); refine is_tup_null (by assumption) (IsTup.keeps (by assumption) (Fr.keep zF)) (News.get zN (by k_mem)) ?_)
            | (with_reducible ((with_reducible show wpAny _ _ (call (Value.type "object") _) _ _ _); k_here; refine' object_K ?F ?N ?_; (case F => k_asm); (case N => k_asm); (rename News _ _ _ _ => zN); (rename Fr _ _ _ _ => zF); clear zN zF; intro _ _ _ _ _))
            | ((with_reducible show wpAny _ _ (call (Value.type "enumerate") _) _ _ _); k_here; refine' enum_K ?F ?N ?l ?_; (case F => k_asm); (case N => k_asm); (case l => first | exact listO_is (News.get (by assumption) (by k_mem)) (by assumption) | exact News.isList (by assumption) (by k_mem)); (rename News _ _ _ _ => zN); (rename Fr _ _ _ _ => zF); clear zN zF; intro _ _ _ _ _ _ _ _ _)
            | (with_reducible ((with_reducible show wpAny _ _ (exec (Stmt.For (Expr.Name _ _) (Expr.Call _ _ _ _) _ _ _) _) _ _ _); k_dflt (refine for_rawD ?_)))
            | (with_reducible ((with_reducible show wpAny _ _ (exec (Stmt.For (Expr.Tuple _ _ _) _ _ _ _) _) _ _ _); k_dflt (refine for_rawD ?_)))
            | walk1
            | (dsimp only; walk1)
            | (leave1; (try dsimp only))
            | fail "no step")
        (rename Fr _ _ _ _ => F9); (rename News _ _ _ _ => N9)
        (try dsimp only)
        exact ⟨_, dec_turn hlt', hJ _ _ (J2.mk hlt' (frD F9) (newsPick N9 [2, 3, 0, 4, 5, 1] 6) hI1 hoT6 (MT6.congr fun p hp => Dm_full2 hp) (rows2_add hB1 hB2 hae hR2) hoff)⟩
    · have hin : i = ys.size := Nat.le_antisymm hile (hvt ▸ arr_ge hge)
      rw [hin] at hR2
      clear F N hin hge hile hJ
      refine hQ' _ _ ?_
      clear hQ' J' Q'
      (try dsimp only)
      repeat' (first
          | (k_unfold; (try dsimp only))
          | (k_end; kc_close)
          | ((with_reducible show wpAny _ _ (call (Value.ref 135) _) _ _ _); (rename News _ _ _ _ => zN); (rename Fr _ _ _ _ => zF); k_dflt (refine' mis_call (Frag.In.keeps (by assumption) (Fr.keep zF)) (Top.keeps (by assumption) (Fr.keep zF)) ?r ?u ?_; (case r => (show dp + 1 + 10 < recursionLimit; omega)); (case u => (show _ + 3 + 150 < _; omega))); intro za zd zh zt ze zD zo; (have zF2 := frExt zF ze); (have zN2 := newsAdd zF zN zD zo ze); clear zN zF; (try dsimp only))
          | ((with_reducible show wpAny _ _ (compareOp .Is (Value.ref _) (Value.ref _)) _ _ _); k_here; (rename Fr _ _ _ _ => zF); (rename News _ _ _ _ => zN); refine is_tup_null (by assumption) (IsTup.keeps (by assumption) (Fr.keep zF)) (News.get zN (by k_mem)) ?_)
          | (with_reducible ((with_reducible show wpAny _ _ (call (Value.type "object") _) _ _ _); k_here; refine' object_K ?F ?N ?_; (case F => k_asm); (case N => k_asm); (rename News _ _ _ _ => zN); (rename Fr _ _ _ _ => zF); clear zN zF; intro _ _ _ _ _))
          | ((with_reducible show wpAny _ _ (call (Value.type "enumerate") _) _ _ _); k_here; refine' enum_K ?F ?N ?l ?_; (case F => k_asm); (case N => k_asm); (case l => first | exact listO_is (News.get (by assumption) (by k_mem)) (by assumption) | exact News.isList (by assumption) (by k_mem)); (rename News _ _ _ _ => zN); (rename Fr _ _ _ _ => zF); clear zN zF; intro _ _ _ _ _ _ _ _ _)
          | (with_reducible ((with_reducible show wpAny _ _ (exec (Stmt.For (Expr.Name _ _) (Expr.Call _ _ _ _) _ _ _) _) _ _ _); k_dflt (refine for_rawD ?_)))
          | (with_reducible ((with_reducible show wpAny _ _ (exec (Stmt.For (Expr.Tuple _ _ _) _ _ _ _) _) _ _ _); k_dflt (refine for_rawD ?_)))
          | walk1
          | (dsimp only; walk1)
          | (leave1; (try dsimp only))
          | fail "no step")
      (rename Fr _ _ _ _ => F9); (rename News _ _ _ _ => N9)
      (try dsimp only)
      show Q (.ref aR) _
      exact hQ aR _ _ rs F9.keep (News.fresh N9 (List.Mem.head _)) ⟨n, News.get N9 (List.Mem.head _)⟩ (paired_mono (fun _ _ z => z.at fun p hp => (N9 p (by repeat' (first | exact hp | refine List.Mem.tail _ ?_))).1) hR2)
  )
end Mine
end
section
open PySem PySem.W PySem.Calls PyProof.Rows PySem.SeqAt
namespace Mine
set_option maxRecDepth 100000
set_option maxHeartbeats 4000000

noncomputable def sh3 (q : Int × Int × Int) : Int × Int × Int := shadeF q.1 q.2.1 q.2.2
noncomputable def Bnd (q : Int × Int × Int) : Prop := (0 ≤ q.1 ∧ q.1 ≤ 64) ∧ (0 ≤ q.2.1 ∧ q.2.1 ≤ 64) ∧ (0 ≤ q.2.2 ∧ q.2.2 ≤ 64)
noncomputable def ShF (h₀ : Heap) (L : Addr) (h : Heap) (v y : Value) : Prop := ∃ q a, SpotV h v q ∧ SpotV h y (sh3 q) ∧ y = .ref a ∧ h₀.get? a = none ∧ a ≠ L
theorem ShF.keep {h₀ : Heap} {L : Addr} : ∀ h h' v y, ShF h₀ L h v y → TExt h h' → ShF h₀ L h' v y := fun _ _ _ _ ⟨q, a, b, c, d⟩ e => ⟨q, a, b.text e, c.text e, d⟩

theorem SpotV.uniq {h : Heap} {v : Value} {q q' : Int × Int × Int} (x : SpotV h v q) (y : SpotV h v q') : q = q' := by
  obtain ⟨a, t1, t2, t3, rfl, o, ho, hc, n, hd⟩ := x
  obtain ⟨b, u1, u2, u3, hv, o', ho', hc', n', hd'⟩ := y
  injection hv with hv
  subst hv
  rw [ho] at ho'; cases ho'
  rw [hd] at hd'
  injection hd' with e1 e2
  have e1 := congrArg Array.toList e1
  simp at e1
  obtain ⟨⟨e, _⟩, ⟨f, _⟩, g, _⟩ := e1
  exact Prod.ext e (Prod.ext f g)

theorem paired_get {α β : Type} {F : α → β → Prop} : ∀ {l₁ : List α} {l₂ : List β}, Paired F l₁ l₂ → ∀ (i : Nat) (a : α) (b : β), l₁[i]? = some a → l₂[i]? = some b → F a b
  | _, _, .nil, i, a, b, h, _ => by simp at h
  | _, _, .cons x r, 0, a, b, h, h' => by simp at h h'; subst h; subst h'; exact x
  | _, _, .cons x r, i + 1, a, b, h, h' => paired_get r i a b (by simpa using h) (by simpa using h')
theorem paired_app {α β : Type} {F : α → β → Prop} : ∀ {l₁ l₃ : List α} {l₂ l₄ : List β}, Paired F l₁ l₂ → Paired F l₃ l₄ → Paired F (l₁ ++ l₃) (l₂ ++ l₄)
  | _, _, _, _, .nil, y => y
  | _, _, _, _, .cons x r, y => .cons x (paired_app r y)
theorem paired_some {α β : Type} {F : α → β → Prop} {l₁ : List α} {l₂ : List β} (p : Paired F l₁ l₂) {i : Nat} {a : α} (h : l₁[i]? = some a) : ∃ b, l₂[i]? = some b ∧ F a b := by
  have hlt : i < l₁.length := by
    rcases Nat.lt_or_ge i l₁.length with q | q
    · exact q
    · rw [List.getElem?_eq_none q] at h; cases h
  have hlt' : i < l₂.length := by rw [← p.length]; exact hlt
  exact ⟨l₂[i], List.getElem?_eq_getElem hlt', paired_get p i a _ h (List.getElem?_eq_getElem hlt')⟩

section
variable {A : Around} {s : Shared}
theorem eqSpot {v v' : Value} {q q' : Int × Int × Int} (x : SpotV s.heap v q) (y : SpotV s.heap v' q') (hu : A.units < cLine) : EqAt A s v v' (decide (q = q')) := by
  by_cases e : v = v'
  · subst e
    rw [x.uniq y]
    simpa using EqAt.same v
  · obtain ⟨a, t1, t2, t3, rfl, hx⟩ := x
    obtain ⟨b, u1, u2, u3, rfl, hy⟩ := y
    have hne : a ≠ b := fun z => e (by rw [z])
    have := RcAt.tuples (A := A) (s := s) (e := fun j => match j with | 0 => q.1 == q'.1 | 1 => q.2.1 == q'.2.1 | _ => q.2.2 == q'.2.2) hx hy hu (fun j h1 h2 => by
      have h1' : j < 3 := h1
      match j, h1' with
      | 0, _ => exact EqAt.int_int _ _ _ _
      | 1, _ => exact EqAt.int_int _ _ _ _
      | 2, _ => exact EqAt.int_int _ _ _ _)
    have hb : ((List.range (min (#[Value.int q.1 t1, .int q.2.1 t2, .int q.2.2 t3] : Array Value).size (#[Value.int q'.1 u1, .int q'.2.1 u2, .int q'.2.2 u3] : Array Value).size)).all (fun j => match j with | 0 => q.1 == q'.1 | 1 => q.2.1 == q'.2.1 | _ => q.2.2 == q'.2.2) && (#[Value.int q.1 t1, .int q.2.1 t2, .int q.2.2 t3] : Array Value).size == (#[Value.int q'.1 u1, .int q'.2.1 u2, .int q'.2.2 u3] : Array Value).size) = decide (q = q') := by
      obtain ⟨a1, a2, a3⟩ := q
      obtain ⟨b1, b2, b3⟩ := q'
      rw [Bool.eq_iff_iff]
      simp [List.range_succ, Prod.ext_iff]
      try rw [and_assoc]
    rw [hb] at this
    exact EqAt.of_refs hne this
end

section
variable {prog : Program} {w : World} {A : Around} {E : Value → Shared → Prop} {s : Shared} {h₀ : Heap} {L : Addr} {m : Str → Option Value} {news : List (Addr × Obj)}
theorem add_K {l b : Addr} {its its2 : Array Value} {Q : Value → Shared → Prop} (F : Fr h₀ L s.heap m) (N : News h₀ L s.heap news) (hl : s.heap.IsList l its) (hb : s.heap.IsList b its2) (z1 : its.size ≤ 1000) (z2 : its2.size ≤ 1000)
    (h : ∀ (D : Addr) h', Fr h₀ L h' m → News h₀ L h' ((D, { cls := .type "list", data := .seq (its.toList ++ its2.toList).toArray }) :: news) → (∀ p ∈ news, p.1 < D) → Q (.ref D) { s with heap := h' }) :
    wpAny (model prog w) A (binaryOp .Add (.ref l) (.ref b)) Q E s :=
  add_arrays F N hl hb (fun h' F' N' => h _ h' F' N' fun p hp => Heap.lt_size (N p hp).1) (by rw [sizeLine_eq]; omega)
end
end Mine
end
section
open PySem PySem.W PySem.Calls PyProof.Rows PySem.SeqAt
namespace Mine
set_option maxRecDepth 100000
set_option maxHeartbeats 4000000
noncomputable abbrev Sp := Int × Int × Int
noncomputable def isSp (h : Heap) (c : Sp) (v : Value) : Bool := @decide (SpotV h v c) (Classical.propDecidable _)
theorem isSp_eq {h : Heap} {c q : Sp} {v : Value} (x : SpotV h v q) : isSp h c v = decide (q = c) := by
  unfold isSp
  by_cases e : q = c
  · subst e
    rw [@decide_eq_true _ (Classical.propDecidable _) x, decide_eq_true rfl]
  · rw [@decide_eq_false _ (Classical.propDecidable _) (fun y => e (x.uniq y)), decide_eq_false e]
theorem countP_sp {h : Heap} {c : Sp} : ∀ {vs : List Value} {qs : List Sp}, Paired (SpotV h) vs qs → vs.countP (isSp h c) = qs.countP fun q => decide (q = c)
  | _, _, .nil => rfl
  | _, _, .cons x r => by rw [List.countP_cons, List.countP_cons, countP_sp r, isSp_eq x]
/-- a spot whose tuple stands in the news -/
noncomputable def SpotIn2 (tl : List (Addr × Obj)) (v : Value) (q : Sp) : Prop := ∃ a o t1 t2 t3 n, v = .ref a ∧ (a, o) ∈ tl ∧ o.cls = .type "tuple" ∧ o.data = .seq #[.int q.1 t1, .int q.2.1 t2, .int q.2.2 t3] n
theorem SpotIn2.mono {tl tl' : List (Addr × Obj)} {v : Value} {q : Sp} (x : SpotIn2 tl v q) (e : ∀ p ∈ tl, p ∈ tl') : SpotIn2 tl' v q := by
  obtain ⟨a, o, t1, t2, t3, n, hv, hm, hc, hd⟩ := x
  exact ⟨a, o, t1, t2, t3, n, hv, e _ hm, hc, hd⟩
theorem SpotIn2.at {tl : List (Addr × Obj)} {h : Heap} {v : Value} {q : Sp} (x : SpotIn2 tl v q) (N : ∀ p ∈ tl, h.get? p.1 = some p.2) : SpotV h v q := by
  obtain ⟨a, o, t1, t2, t3, n, hv, hm, hc, hd⟩ := x
  exact ⟨a, t1, t2, t3, hv, o, N _ hm, hc, n, hd⟩
theorem shades_paired {h h₀ : Heap} {L : Addr} : ∀ {vs ys : List Value} {qs : List Sp}, Paired (ShF h₀ L h) vs ys → Paired (SpotV h) vs qs →
    ∃ tl, News h₀ L h tl ∧ (∀ p ∈ tl, p.2.cls = .type "tuple") ∧ Paired (SpotIn2 tl) ys (qs.map sh3)
  | _, _, _, .nil, .nil => ⟨[], News.nil, (fun _ h => nomatch h), .nil⟩
  | _, _, _, .cons ⟨q, a, x1, ⟨a', t1, t2, t3, hv, o, ho, hc, n, hd⟩, hy, hf, hf2⟩ r, .cons x r' => by
    obtain ⟨tl, N, hcls, P⟩ := shades_paired r r'
    subst hv
    injection hy with hy
    subst hy
    refine ⟨(a', o) :: tl, ?_, ?_, .cons ?_ (paired_mono (fun _ _ z => z.mono fun p hp => List.mem_cons_of_mem _ hp) P)⟩
    · intro p hp
      rcases List.mem_cons.mp hp with rfl | hp
      · exact ⟨ho, hf2, hf⟩
      · exact N p hp
    · intro p hp
      rcases List.mem_cons.mp hp with rfl | hp
      · exact hc
      · exact hcls p hp
    · rw [x.uniq x1]
      exact ⟨a', o, t1, t2, t3, n, rfl, List.mem_cons_self, hc, hd⟩
theorem paired_take {α β : Type} {F : α → β → Prop} : ∀ {l₁ : List α} {l₂ : List β}, Paired F l₁ l₂ → ∀ n, Paired F (l₁.take n) (l₂.take n)
  | _, _, _, 0 => by simpa using Paired.nil
  | _, _, .nil, _ + 1 => by simpa using Paired.nil
  | _, _, .cons x r, n + 1 => .cons x (paired_take r n)
theorem paired_drop {α β : Type} {F : α → β → Prop} : ∀ {l₁ : List α} {l₂ : List β}, Paired F l₁ l₂ → ∀ n, Paired F (l₁.drop n) (l₂.drop n)
  | _, _, p, 0 => p
  | _, _, .nil, _ + 1 => by simpa using Paired.nil
  | _, _, .cons x r, n + 1 => paired_drop r n
theorem paired_mem {α β : Type} {F : α → β → Prop} : ∀ {l₁ : List α} {l₂ : List β}, Paired F l₁ l₂ → ∀ a ∈ l₁, ∃ b ∈ l₂, F a b
  | _, _, .cons x r, a, h => by
    rcases List.mem_cons.mp h with rfl | h
    · exact ⟨_, List.mem_cons_self, x⟩
    · obtain ⟨b, hb, hx⟩ := paired_mem r a h
      exact ⟨b, List.mem_cons_of_mem _ hb, hx⟩

section
variable {prog : Program} {w : World} {A : Around} {E : Value → Shared → Prop} {s : Shared} {Q : Value → Shared → Prop}
theorem count_K {l : Addr} {items : Array Value} {v : Value} {qs : List Sp} {c : Sp} (hl : s.heap.IsList l items) (P : Paired (SpotV s.heap) items.toList qs) (hv : SpotV s.heap v c) (hu : A.in1.units < cLine)
    (h : Q (.int ((qs.countP fun q => decide (q = c) : Nat) : Int) s.toks) { s with toks := s.toks + 1 }) : wpAny (model prog w) A (call (.builtin "list.count") [.ref l, v]) Q E s := by
  obtain ⟨⟨cls, dd, data, sl⟩, ho, hc, n, hd⟩ := id hl
  simp only at hc hd
  subst hc hd
  refine call_meets PySem.F.slot_list_count ⟨_, ho, rfl⟩ PySem.F.entry_list_count (PySem.F.args_list_count_2 _ _) (list_countAt l items n dd sl v (isSp s.heap c)) ⟨ho, fun y hy => ?_, ?_⟩
  · obtain ⟨q, _, hq⟩ := paired_mem P y (by simpa using hy)
    rw [isSp_eq hq]
    exact eqSpot hq hv hu
  · rw [countP_sp P]
    exact h
theorem index_K {l : Addr} {items : Array Value} {v : Value} {qs : List Sp} {c : Sp} {j : Nat} (hl : s.heap.IsList l items) (P : Paired (SpotV s.heap) items.toList qs) (hv : SpotV s.heap v c) (hu : A.in1.units < cLine)
    (hj : qs[j]? = some c) (hno : ∀ i, i < j → qs[i]? ≠ some c) (hsz : qs.length ≤ 1000)
    (h : Q (.int (j : Int) s.toks) { s with toks := s.toks + 1 }) : wpAny (model prog w) A (call (.builtin "list.index") [.ref l, v]) Q E s := by
  obtain ⟨⟨cls, dd, data, sl⟩, ho, hc, n, hd⟩ := id hl
  simp only at hc hd
  subst hc hd
  have hlen : items.size = qs.length := by have := P.length; simpa using this
  have hjl : j < qs.length := by
    rcases Nat.lt_or_ge j qs.length with q | q
    · exact q
    · rw [List.getElem?_eq_none q] at hj; cases hj
  have at' : ∀ (i : Nat) (hi : i < items.size), isSp s.heap c items[i] = decide (qs[i]? = some c) := fun i hi => by
    have z := paired_get P i items[i] (qs[i]'(by omega)) (by simp) (List.getElem?_eq_getElem _)
    rw [isSp_eq z, List.getElem?_eq_getElem (by omega)]
    simp
  refine call_meets PySem.F.slot_list_index ⟨_, ho, rfl⟩ PySem.F.entry_list_index (PySem.F.args_list_index_2 _ _) (list_indexAt l items n dd sl v (isSp s.heap c) j (by omega) (by omega) ?_ ?_) ⟨ho, fun y hy => ?_, h⟩
  · rw [at' j (by omega)]; simpa using hj
  · intro i hi hlt
    rw [at' i hi]; simpa using hno i hlt
  · obtain ⟨q, _, hq⟩ := paired_mem P y (by simpa using hy)
    rw [isSp_eq hq]
    exact eqSpot hq hv hu
end

section
variable {prog : Program} {w : World} {A : Around} {E : Value → Shared → Prop} {s : Shared} {h₀ : Heap} {L : Addr} {m : Str → Option Value} {news : List (Addr × Obj)}
theorem slice_up {value slice : Expr} {l : Addr} {items : Array Value} {k : Nat} {t : Tok} {Q : Value → Shared → Prop}
    (F : Fr h₀ L s.heap m) (N : News h₀ L s.heap news) (hl : s.heap.IsList l items) (hz : items.size ≤ 1000)
    (h : ∀ (D : Addr) h', Fr h₀ L h' m → News h₀ L h' ((D, listOf (items.toList.take k).toArray 0) :: news) → (∀ p ∈ news, p.1 < D) → Q (.ref D) { s with heap := h' })
    (hs : subscripted slice false (.ref l) (.ref s.heap.objs.size) = operate [.ref s.heap.objs.size, .ref l] (getItem (.ref l) (.ref s.heap.objs.size)) := by with_unfolding_all rfl)
    (ht : ∀ r, letTemporaryGo value (.ref l) r = pure () := by intro _; with_unfolding_all rfl) :
    wpAny (model prog w) A (subscriptTail value slice (.ref l) (.ref s.heap.objs.size)) Q E { s with heap := s.heap.push { cls := .type "slice", data := .fields #[.none, .int (k : Int) t, .none] } } :=
  slice_list F N hl .none (.int _ _) (fun h' F' N' => h _ h' F' (by rw [slicePick_upto'] at N'; exact N') fun p hp => by
    have := Heap.lt_size (N p hp).1
    exact Nat.lt_succ_of_lt this) hs ht (by rw [sizeLine_eq]; omega)
theorem slice_fro {value slice : Expr} {l : Addr} {items : Array Value} {k : Nat} {t : Tok} {Q : Value → Shared → Prop}
    (F : Fr h₀ L s.heap m) (N : News h₀ L s.heap news) (hl : s.heap.IsList l items) (hz : items.size ≤ 1000)
    (h : ∀ (D : Addr) h', Fr h₀ L h' m → News h₀ L h' ((D, listOf (items.toList.drop k).toArray 0) :: news) → (∀ p ∈ news, p.1 < D) → Q (.ref D) { s with heap := h' })
    (hs : subscripted slice false (.ref l) (.ref s.heap.objs.size) = operate [.ref s.heap.objs.size, .ref l] (getItem (.ref l) (.ref s.heap.objs.size)) := by with_unfolding_all rfl)
    (ht : ∀ r, letTemporaryGo value (.ref l) r = pure () := by intro _; with_unfolding_all rfl) :
    wpAny (model prog w) A (subscriptTail value slice (.ref l) (.ref s.heap.objs.size)) Q E { s with heap := s.heap.push { cls := .type "slice", data := .fields #[.int (k : Int) t, .none, .none] } } :=
  slice_list F N hl (.int _ _) .none (fun h' F' N' => h _ h' F' (by rw [slicePick_from'] at N'; exact N') fun p hp => by
    have := Heap.lt_size (N p hp).1
    exact Nat.lt_succ_of_lt this) hs ht (by rw [sizeLine_eq]; omega)
end
theorem idx_at {l : List Sp} {c : Sp} (h : c ∈ l) : l[l.idxOf c]? = some c := by
  have hlt := List.idxOf_lt_length_iff.mpr h
  rw [List.getElem?_eq_getElem hlt]
  simp
theorem idx_no {c : Sp} : ∀ {l : List Sp} (i : Nat) (_ : i < l.idxOf c), l[i]? ≠ some c
  | [], i, h => by simp at h
  | a :: r, 0, h => by
    intro e
    simp at e; subst e; simp at h
  | a :: r, i + 1, h => by
    rw [List.getElem?_cons_succ]
    refine idx_no i ?_
    rw [List.idxOf_cons] at h
    by_cases q : (a == c) = true
    · simp [q] at h
    · simp [q] at h; omega
theorem perm5 {t e i r d : Addr × Obj} {tl : List (Addr × Obj)} : ∀ p ∈ e :: i :: r :: d :: t :: tl, p ∈ t :: e :: i :: r :: d :: tl := fun p hp => by
  simp only [List.mem_cons] at hp ⊢
  rcases hp with h | h | h | h | h | h
  · exact .inr (.inl h)
  · exact .inr (.inr (.inl h))
  · exact .inr (.inr (.inr (.inl h)))
  · exact .inr (.inr (.inr (.inr (.inl h))))
  · exact .inl h
  · exact .inr (.inr (.inr (.inr (.inr h))))
noncomputable abbrev mapD (aR aH la lb : Addr) (up us uh ut : Option Value) : Str → Option Value := fun y =>
  if y = ("place" : Str) then up else if y = ("shade" : Str) then us else if y = ("here" : Str) then uh else if y = ("there" : Str) then ut else
  if y = ("rows" : Str) then some (Value.ref aR) else if y = ("shades" : Str) then some (Value.ref aH) else List.lookup y [(("first" : Str), Value.ref la), (("second" : Str), Value.ref lb)].reverse
/-- a row that is due, in the news -/
noncomputable def DueIn (h₀ : Heap) (tl : List (Addr × Obj)) (v : Value) (r : Nat × Nat × Sp) : Prop := ∃ D t1 t2 n sv, v = .ref D ∧ (D, tupO #[.int (r.1 : Int) t1, .int (r.2.1 : Int) t2, sv] n) ∈ tl ∧ SpotV h₀ sv r.2.2
noncomputable def DueV (h₀ h : Heap) (v : Value) (r : Nat × Nat × Sp) : Prop := ∃ D t1 t2 sv, v = .ref D ∧ IsTup h D #[.int (r.1 : Int) t1, .int (r.2.1 : Int) t2, sv] ∧ SpotV h₀ sv r.2.2
theorem DueIn.mono {h₀ : Heap} {tl tl' : List (Addr × Obj)} {v : Value} {q : Nat × Nat × Sp} (x : DueIn h₀ tl v q) (e : ∀ p ∈ tl, p ∈ tl') : DueIn h₀ tl' v q := by
  obtain ⟨a, t1, t2, n, sv, hv, hT, hs⟩ := x
  exact ⟨a, t1, t2, n, sv, hv, e _ hT, hs⟩
theorem DueIn.at {h₀ h : Heap} {tl : List (Addr × Obj)} {v : Value} {q : Nat × Nat × Sp} (x : DueIn h₀ tl v q) (N : ∀ p ∈ tl, h.get? p.1 = some p.2) : DueV h₀ h v q := by
  obtain ⟨a, t1, t2, n, sv, hv, hT, hs⟩ := x
  exact ⟨a, t1, t2, sv, hv, ⟨_, N _ hT, rfl, n, rfl⟩, hs⟩

/-- what is due, by whole numbers -/
noncomputable def dueR (qs : List Sp) (m i : Nat) : List (Nat × Nat × Sp) := (List.range i).filterMap fun p =>
  let c := sh3 (qs.getD p (0, 0, 0))
  let here := ((qs.map sh3).take m).countP fun q => decide (q = c)
  let there := ((qs.map sh3).drop m).countP fun q => decide (q = c)
  if (qs.map sh3).idxOf c = p ∧ here ≠ there then some (here, there, qs.getD p (0, 0, 0)) else none
theorem dueR_succ {qs : List Sp} {m i : Nat} : dueR qs m (i + 1) = dueR qs m i ++ (if (qs.map sh3).idxOf (sh3 (qs.getD i (0, 0, 0))) = i ∧ ((qs.map sh3).take m).countP (fun q => decide (q = sh3 (qs.getD i (0, 0, 0)))) ≠ ((qs.map sh3).drop m).countP (fun q => decide (q = sh3 (qs.getD i (0, 0, 0)))) then
    [(((qs.map sh3).take m).countP (fun q => decide (q = sh3 (qs.getD i (0, 0, 0)))), ((qs.map sh3).drop m).countP (fun q => decide (q = sh3 (qs.getD i (0, 0, 0)))), qs.getD i (0, 0, 0))] else []) := by
  simp only [dueR, List.range_succ, List.filterMap_append, List.filterMap_cons, List.filterMap_nil]
  congr 1
  split <;> rename_i z
  · split at z
    · cases z
    · rename_i y; rw [if_neg y]
  · split at z
    · rename_i y; rw [if_pos y]; cases z; rfl
    · cases z
theorem dueR_len {qs : List Sp} {m i : Nat} : (dueR qs m i).length ≤ i := by
  unfold dueR
  exact Nat.le_trans (List.length_filterMap_le _ _) (by simp)
end Mine
end
section
open PySem PySem.W PySem.Calls PyProof.Rows PySem.SeqAt
namespace Mine
set_option maxRecDepth 100000
set_option maxHeartbeats 4000000
/- what holds at each turn of the loop of _law_due -/
noncomputable def bindD (la lb : Addr) : Str → Option Value := fun y => List.lookup y [(("first" : Str), Value.ref la), (("second" : Str), Value.ref lb)].reverse
noncomputable abbrev listD (aR aH : Addr) (up us uh ut : Option Value) : List (Str × Option Value) := [("place", up), ("shade", us), ("here", uh), ("there", ut), ("rows", some (Value.ref aR)), ("shades", some (Value.ref aH))]
inductive JD (s : Shared) (L e it aR aH la lb : Addr) (ysH : Array Value) (nH : Nat) (qs : List Sp) (m : Nat) : Nat → Shared → Prop
  | mk {h tk u1 u2 u3 u4 rs n i tl oI old} (hi : i ≤ ysH.size) (F : Fr s.heap L h (mapD aR aH la lb u1 u2 u3 u4)) (N : News s.heap L h ((e, enumO it ((i : Nat) : Int) old) :: (it, oI) :: (aR, listOf rs n) :: (aH, listOf ysH nH) :: tl)) (hI : IterO oI aH i)
    (PS : Paired (SpotIn2 tl) ysH.toList (qs.map sh3)) (PR : Paired (DueIn s.heap tl) rs.toList (dueR qs m i)) (O : Off [e, it, aR, aH] tl) : JD s L e it aR aH la lb ysH nH qs m (ysH.size + 1 - i) { s with heap := h, toks := tk }
section
variable {h₀ h : Heap} {L aR aH la lb : Addr} {u1 u2 u3 u4 v1 v2 v3 v4 : Option Value}
theorem frD0 (F : Fr h₀ L h (upd (bindD la lb) [("rows", some (.ref aR)), ("shades", some (.ref aH))])) : Fr h₀ L h (mapD aR aH la lb none none none none) := frUpd (l' := listD aR aH none none none none) F (by kernel_rfl)
theorem frDT (F : Fr h₀ L h (upd (bindD la lb) (("there", v4) :: ("here", v3) :: ("shade", v2) :: ("place", v1) :: listD aR aH u1 u2 u3 u4))) : Fr h₀ L h (mapD aR aH la lb v1 v2 v3 v4) := frUpd (l' := listD aR aH v1 v2 v3 v4) F (by kernel_rfl)
end
theorem SpotIn2.all {tl : List (Addr × Obj)} {h : Heap} {l : List Value} {r : List Sp} (P : Paired (SpotIn2 tl) l r) (N : ∀ p ∈ tl, h.get? p.1 = some p.2) : Paired (SpotV h) l r := paired_mono (fun _ _ z => z.at N) P
theorem due_skip {qs : List Sp} {m i : Nat} {h₀ : Heap} {tl : List (Addr × Obj)} {l : List Value} {c q : Sp} {σ : List Sp} (hq : qs.getD i (0, 0, 0) = q) (hs : qs.map sh3 = σ) (hc : sh3 q = c)
    (h : ¬ (σ.idxOf c = i ∧ (σ.take m).countP (fun q => decide (q = c)) ≠ (σ.drop m).countP (fun q => decide (q = c)))) (P : Paired (DueIn h₀ tl) l (dueR qs m i)) : Paired (DueIn h₀ tl) l (dueR qs m (i + 1)) := by
  subst hq hs hc
  rw [dueR_succ, if_neg h, List.append_nil]; exact P
theorem due_add {qs : List Sp} {m i : Nat} {h₀ : Heap} {tl : List (Addr × Obj)} {rs : Array Value} {c q : Sp} {σ : List Sp} {T : Addr} {t1 t2 : Tok} {n : Nat} {sv : Value} (hq : qs.getD i (0, 0, 0) = q) (hs : qs.map sh3 = σ) (hc : sh3 q = c)
    (h : σ.idxOf c = i ∧ (σ.take m).countP (fun q => decide (q = c)) ≠ (σ.drop m).countP (fun q => decide (q = c))) (hv : SpotV h₀ sv q) (P : Paired (DueIn h₀ tl) rs.toList (dueR qs m i)) :
    Paired (DueIn h₀ ((T, tupO #[.int ((σ.take m).countP (fun q => decide (q = c)) : Int) t1, .int ((σ.drop m).countP (fun q => decide (q = c)) : Int) t2, sv] n) :: tl)) (rs.push (.ref T)).toList (dueR qs m (i + 1)) := by
  subst hq hs hc
  rw [dueR_succ, if_pos h, Array.toList_push]
  exact Paired.snoc (paired_mono (fun _ _ z => z.mono fun _ hp => List.mem_cons_of_mem _ hp) P) ⟨T, _, _, _, sv, rfl, List.mem_cons_self, hv⟩
theorem due_room {qs : List Sp} {m i : Nat} {h₀ : Heap} {tl : List (Addr × Obj)} {rs : Array Value} (hi : i ≤ 1000) (P : Paired (DueIn h₀ tl) rs.toList (dueR qs m i)) : rs.size ≤ sizeLine := by
  have e1 := P.length
  rw [Array.length_toList] at e1
  rw [sizeLine_eq, e1]
  exact Nat.le_trans (Nat.le_trans dueR_len hi) (by decide)
theorem spotIn2_mono {tl : List (Addr × Obj)} {p : Addr × Obj} {l : List Value} {r : List Sp} (P : Paired (SpotIn2 tl) l r) : Paired (SpotIn2 (p :: tl)) l r := paired_mono (fun _ _ z => z.mono fun _ hp => List.mem_cons_of_mem _ hp) P
theorem off_cons {l : List Addr} {tl : List (Addr × Obj)} {p : Addr × Obj} (h : ∀ a ∈ l, p.1 ≠ a) (x : Off l tl) : Off l (p :: tl) := fun q hq => by
  rcases List.mem_cons.mp hq with rfl | hq
  · exact h
  · exact x q hq
/-- the i-th spot, and its shade -/
theorem at_qs {qs : List Sp} {i : Nat} (h : i < qs.length) : qs[i]? = some (qs.getD i (0, 0, 0)) ∧ (qs.map sh3)[i]? = some (sh3 (qs.getD i (0, 0, 0))) := by
  have e : qs[i]? = some (qs.getD i (0, 0, 0)) := by rw [List.getD_eq_getElem?_getD, List.getElem?_eq_getElem h]; rfl
  exact ⟨e, by rw [List.getElem?_map, e]; rfl⟩
theorem paired_at {α β : Type} {F : α → β → Prop} {l : List α} {r : List β} (P : Paired F l r) {i : Nat} {b : β} (h : r[i]? = some b) : ∃ a, l.toArray[i]? = some a ∧ F a b := by
  have hr : i < r.length := (List.getElem?_eq_some_iff.mp h).1
  have hl : i < l.length := by rw [P.length]; exact hr
  exact ⟨l[i], by rw [List.getElem?_toArray, List.getElem?_eq_getElem hl], paired_get P i _ _ (List.getElem?_eq_getElem hl) h⟩
theorem small63 {i n : Nat} (h : i < n) (h2 : n ≤ 1000) : (i : Int) < 2 ^ 63 := by omega
end Mine
end
section
open PySem PySem.W PySem.Calls PyProof.Rows
namespace Mine
set_option maxRecDepth 100000
set_option maxHeartbeats 8000000

theorem due_call {w : World} {mean : ExcName → Option Value} {mg mb : Str → Option Value} {dp un : Nat} {fr : Option (List Env)} {gd : Option (List Code)} {E : Value → Shared → Prop} {s : Shared} {Q : Value → Shared → Prop} {la lb : Addr} {xs ys : Array Value} {q1 q2 : List (Int × Int × Int)}
    (X : (Mine.hd.heap_39 w.params).In s.heap) (T : Top Mine.hd.view_39 LS mean mg mb s.heap) (R : dp + 20 < recursionLimit) (U : un + 200 < cLine) (hl : s.heap.IsList la xs) (hl2 : s.heap.IsList lb ys) (hlen : xs.size ≤ 100) (hlen2 : ys.size ≤ 100)
    (P1 : Paired (SpotV s.heap) xs.toList q1) (P2 : Paired (SpotV s.heap) ys.toList q2) (HB : ∀ q ∈ q1 ++ q2, Bnd q)
    (hQ : ∀ D h' tk' rs, Ext s.heap h' → s.heap.get? D = none → h'.PlainList D rs → Paired (DueV s.heap h') rs.toList (dueR (q1 ++ q2) xs.size (xs.size + ys.size)) → Q (.ref D) { s with heap := h', toks := tk' }) :
    wpAny (model PySem.Challenge.rw_ox0037_01.row.prog w) (AA dp un fr gd) (call (.ref 197) [.ref la, .ref lb]) Q E s := by
  w_on
  w_strict (
  revert X T R hQ
  k_fill
  intro X T R hQ
  have hR : (AA dp un fr gd).depth < recursionLimit := by dsimp only; omega
  refine' enter (binds := [("first", .ref la), ("second", .ref lb)]) X T ?ho ?hcd ?hroom ?hb ?hl ?_ ?c2 ?c3 ?c4 ?c5
  case ho => k_is
  case hcd => k_is
  case hroom => exact hR
  case hb => exact BindsTo.of_eq rfl
  case hl => exact locs rfl
  case c2 => exact rfl
  case c3 => exact rfl
  case c4 => exact rfl
  case c5 => decide
  intro L' h' F' N'
  (try dsimp only)
  (try k_fold)
  repeat' (first
      | (k_unfold; (try dsimp only))
      | (k_end; kc_close)
      | (with_reducible ((with_reducible show wpAny _ _ (call (Value.builtin "list.index") _) _ _ _); refine stopW ?_))
      | (with_reducible ((with_reducible show wpAny _ _ (call (Value.builtin "list.count") _) _ _ _); refine stopW ?_))
      | ((with_reducible show wpAny _ _ (subscriptTail (Expr.Name _ _) (Expr.Slice _ _ _ _) (Value.ref _) (Value.ref _)) _ _ _); k_here; (rename Fr _ _ _ _ => zF); (rename News _ _ _ _ => zN); (first | refine slice_up zF zN (News.isList zN (by k_mem)) (by omega) ?_ | refine slice_fro zF zN (News.isList zN (by k_mem)) (by omega) ?_); clear zF zN; intro _ _ _ _ _)
      | (with_reducible ((with_reducible show wpAny _ _ (binaryOp _ (Value.ref _) (Value.ref _)) _ _ _); k_here; (rename Fr _ _ _ _ => zF); (rename News _ _ _ _ => zN); refine' add_K zF zN ?l ?b ?y ?z ?_; (case l => exact Heap.IsList.at (by assumption) (fun o e => Fr.keep zF _ o e)); (case b => exact Heap.IsList.at (by assumption) (fun o e => Fr.keep zF _ o e)); (case y => omega); (case z => omega); clear zF zN; intro _ _ _ _ _))
      | ((with_reducible show wpAny _ _ (call (Value.type "enumerate") _) _ _ _); k_here; refine' enum_K ?F ?N ?l ?_; (case F => k_asm); (case N => k_asm); (case l => first | exact listO_is (News.get (by assumption) (by k_mem)) (by assumption) | exact News.isList (by assumption) (by k_mem)); (rename News _ _ _ _ => zN); (rename Fr _ _ _ _ => zF); clear zN zF; intro _ _ _ _ _ _ _ _ _)
      | (with_reducible ((with_reducible show wpAny _ _ (exec (Stmt.Assign _ (Expr.ListComp _ _ _ _) _) _) _ _ _); refine stopW ?_))
      | (with_reducible ((with_reducible show wpAny _ _ (exec (Stmt.Assign _ (Expr.ListComp _ _ _ _) _) _) _ _ _); refine stopW ?_))
      | (with_reducible ((with_reducible show wpAny _ _ (exec (Stmt.For (Expr.Tuple _ _ _) _ _ _ _) _) _ _ _); k_dflt (refine for_rawD ?_)))
      | (with_reducible ((with_reducible show wpAny _ _ (exec (Stmt.For (Expr.Tuple _ _ _) _ _ _ _) _) _ _ _); k_dflt (refine for_rawD ?_)))
      | walk1
      | (dsimp only; walk1)
      | (leave1; (try dsimp only))
      | fail "no step")
  refine Halt.mk ?_
  refine comp_seqAK (cl := []) (Each (ShF s.heap L'))  (Each.keep ShF.keep) rfl rfl rfl (by decide) rfl (by decide) (by decide) rfl rfl ?_
  repeat' (first
      | (k_unfold; (try dsimp only))
      | (k_end; kc_close)
      | (with_reducible ((with_reducible show wpAny _ _ (call (Value.builtin "list.index") _) _ _ _); refine stopW ?_))
      | (with_reducible ((with_reducible show wpAny _ _ (call (Value.builtin "list.count") _) _ _ _); refine stopW ?_))
      | ((with_reducible show wpAny _ _ (subscriptTail (Expr.Name _ _) (Expr.Slice _ _ _ _) (Value.ref _) (Value.ref _)) _ _ _); k_here; (rename Fr _ _ _ _ => zF); (rename News _ _ _ _ => zN); (first | refine slice_up zF zN (News.isList zN (by k_mem)) (by omega) ?_ | refine slice_fro zF zN (News.isList zN (by k_mem)) (by omega) ?_); clear zF zN; intro _ _ _ _ _)
      | (with_reducible ((with_reducible show wpAny _ _ (binaryOp _ (Value.ref _) (Value.ref _)) _ _ _); k_here; (rename Fr _ _ _ _ => zF); (rename News _ _ _ _ => zN); refine' add_K zF zN ?l ?b ?y ?z ?_; (case l => exact Heap.IsList.at (by assumption) (fun o e => Fr.keep zF _ o e)); (case b => exact Heap.IsList.at (by assumption) (fun o e => Fr.keep zF _ o e)); (case y => omega); (case z => omega); clear zF zN; intro _ _ _ _ _))
      | ((with_reducible show wpAny _ _ (call (Value.type "enumerate") _) _ _ _); k_here; refine' enum_K ?F ?N ?l ?_; (case F => k_asm); (case N => k_asm); (case l => first | exact listO_is (News.get (by assumption) (by k_mem)) (by assumption) | exact News.isList (by assumption) (by k_mem)); (rename News _ _ _ _ => zN); (rename Fr _ _ _ _ => zF); clear zN zF; intro _ _ _ _ _ _ _ _ _)
      | (with_reducible ((with_reducible show wpAny _ _ (exec (Stmt.Assign _ (Expr.ListComp _ _ _ _) _) _) _ _ _); refine stopW ?_))
      | (with_reducible ((with_reducible show wpAny _ _ (exec (Stmt.Assign _ (Expr.ListComp _ _ _ _) _) _) _ _ _); refine stopW ?_))
      | (with_reducible ((with_reducible show wpAny _ _ (exec (Stmt.For (Expr.Tuple _ _ _) _ _ _ _) _) _ _ _); k_dflt (refine for_rawD ?_)))
      | (with_reducible ((with_reducible show wpAny _ _ (exec (Stmt.For (Expr.Tuple _ _ _) _ _ _ _) _) _ _ _); k_dflt (refine for_rawD ?_)))
      | walk1
      | (dsimp only; walk1)
      | (leave1; (try dsimp only))
      | fail "no step")
  rename_i aC hC F9 N9 hall9
  (try dsimp only)
  have P : Paired (SpotV s.heap) (xs.toList ++ ys.toList) (q1 ++ q2) := paired_app P1 P2
  refine Halt.mk ⟨aC, (xs.toList ++ ys.toList).toArray, _, rfl, .inl (News.isList N9 List.mem_cons_self), by rw [sizeLine_eq]; simp; omega, Paired.nil, F9.ns, ?_, ?_⟩
  · rintro C i v ⟨hp, g, dr, tk5, os⟩ m₅ E' hC5 hi hns hm he ht
    obtain ⟨q, hq, hv⟩ := paired_some P (i := i) (by simpa using hi)
    have hB := HB q (List.mem_of_getElem? hq)
    obtain ⟨b1, b2, b3⟩ := hB
    dsimp only at hns he ht hC5
    have hv9 : SpotV hC v q := hv.text (Ext.text F9.keep)
    obtain ⟨a, t1, t2, t3, rfl, htp⟩ := hv9
    have F5 : Fr hC C hp (fun y => if y = ("spot" : Str) then some (.ref a) else m₅ y) := frEq ⟨hns, he, hC5⟩ (by
      intro y
      by_cases e : y = ("spot" : Str)
      · subst e; simpa using hm
      · simp [e])
    have N5 : News hC C hp [] := News.nil
    have X5 : (Mine.hd.heap_39 w.params).In hC := X.keeps F9.keep
    have T5 : Top Mine.hd.view_39 LS mean mg mb hC := T.keeps F9.keep
    have kB : ∀ b o, s.heap.get? b = some o → hC.get? b = some o := F9.keep
    have kL : ∃ o, hC.get? L' = some o := by
      obtain ⟨o, _, _, ho, _⟩ := F9.ns
      exact ⟨o, ho⟩
    clear F9 N9 hall9
    repeat' (first
        | (k_unfold; (try dsimp only))
        | (k_end; kc_close)
        | (with_reducible ((with_reducible show wpAny _ _ (call (Value.builtin "list.index") _) _ _ _); refine stopW ?_))
        | (with_reducible ((with_reducible show wpAny _ _ (call (Value.builtin "list.count") _) _ _ _); refine stopW ?_))
        | ((with_reducible show wpAny _ _ (subscriptTail (Expr.Name _ _) (Expr.Slice _ _ _ _) (Value.ref _) (Value.ref _)) _ _ _); k_here; (rename Fr _ _ _ _ => zF); (rename News _ _ _ _ => zN); (first | refine slice_up zF zN (News.isList zN (by k_mem)) (by omega) ?_ | refine slice_fro zF zN (News.isList zN (by k_mem)) (by omega) ?_); clear zF zN; intro _ _ _ _ _)
        | (with_reducible ((with_reducible show wpAny _ _ (binaryOp _ (Value.ref _) (Value.ref _)) _ _ _); k_here; (rename Fr _ _ _ _ => zF); (rename News _ _ _ _ => zN); refine' add_K zF zN ?l ?b ?y ?z ?_; (case l => exact Heap.IsList.at (by assumption) (fun o e => Fr.keep zF _ o e)); (case b => exact Heap.IsList.at (by assumption) (fun o e => Fr.keep zF _ o e)); (case y => omega); (case z => omega); clear zF zN; intro _ _ _ _ _))
        | ((with_reducible show wpAny _ _ (call (Value.type "enumerate") _) _ _ _); k_here; refine' enum_K ?F ?N ?l ?_; (case F => k_asm); (case N => k_asm); (case l => first | exact listO_is (News.get (by assumption) (by k_mem)) (by assumption) | exact News.isList (by assumption) (by k_mem)); (rename News _ _ _ _ => zN); (rename Fr _ _ _ _ => zF); clear zN zF; intro _ _ _ _ _ _ _ _ _)
        | (with_reducible ((with_reducible show wpAny _ _ (exec (Stmt.Assign _ (Expr.ListComp _ _ _ _) _) _) _ _ _); refine stopW ?_))
        | (with_reducible ((with_reducible show wpAny _ _ (exec (Stmt.Assign _ (Expr.ListComp _ _ _ _) _) _) _ _ _); refine stopW ?_))
        | (with_reducible ((with_reducible show wpAny _ _ (exec (Stmt.For (Expr.Tuple _ _ _) _ _ _ _) _) _ _ _); k_dflt (refine for_rawD ?_)))
        | (with_reducible ((with_reducible show wpAny _ _ (exec (Stmt.For (Expr.Tuple _ _ _) _ _ _ _) _) _ _ _); k_dflt (refine for_rawD ?_)))
        | walk1
        | (dsimp only; walk1)
        | (leave1; (try dsimp only))
        | fail "no step")
    all_goals first | exact (default : Str) | exact Value.none | exact ([] : List (Str × Addr)) | exact (0 : Nat) | skip
    refine' shade_call (Frag.In.keeps X5 (Fr.keep F5)) (Top.keeps T5 (Fr.keep F5)) ?r ?u (IsTup.keeps htp (Fr.keep F5)) b1 b2 b3 ?_
    case r => (show dp + 1 + 1 < recursionLimit; omega)
    case u => (show un + 3 + 100 < cLine; omega)
    intro D2 h2 tk2 u1 u2 u3 he2 ht2 hD2
    (try dsimp only)
    have hf2 : s.heap.get? D2 = none := by
      cases z : s.heap.get? D2 with
      | none => rfl
      | some o => rw [F5.keep _ _ (kB _ _ z)] at hD2; cases hD2
    have hf3 : D2 ≠ L' := by
      rintro rfl
      obtain ⟨o, ho⟩ := kL
      rw [F5.keep _ _ ho] at hD2; cases hD2
    refine ⟨fun vs ys z => ?_, h2, tk2, rfl, he2⟩
    exact Paired.snoc (paired_mono (fun _ _ z => ShF.keep _ _ _ _ z (Ext.text he2)) z) ⟨q, D2, ⟨a, t1, t2, t3, rfl, isTup_ext (IsTup.keeps htp (Fr.keep F5)) he2⟩, ⟨D2, u1, u2, u3, rfl, ht2⟩, rfl, hf2, hf3⟩
  · intro aH hH tkH ysH hD0 hplH hKH hnsH heH
    (try dsimp only)
    have keepH : ∀ b o, s.heap.get? b = some o → hH.get? b = some o := fun b o z => heH b o (by
      intro m
      have := List.mem_singleton.mp m
      subst this
      exact absurd (Heap.lt_size z) (Nat.not_lt.mpr F9.above)) (F9.keep b o z)
    have haH0 : s.heap.get? aH = none := by
      cases z : s.heap.get? aH with
      | none => rfl
      | some o => rw [F9.keep _ _ z] at hD0; cases hD0
    have haHL : aH ≠ L' := by
      rintro rfl
      obtain ⟨o, _, _, ho, _⟩ := F9.ns
      rw [ho] at hD0; cases hD0
    have hzH : ysH.size = xs.size + ys.size := by
      have := hKH.length
      simpa using this.symm
    obtain ⟨tlS, NS, hcS, PS⟩ := shades_paired (L := L') (h₀ := s.heap) hKH (paired_mono (F := SpotV s.heap) (fun a b (z : SpotV s.heap a b) => SpotV.text z (fun b o _ e => keepH b o e)) P)
    obtain ⟨nH, hplH⟩ := hplH
    have F10 : Fr s.heap L' hH _ := ⟨hnsH, keepH, F9.above⟩
    have N10 : News s.heap L' hH ((aH, listOf ysH nH) :: tlS) := fun p hp => by
      rcases List.mem_cons.mp hp with rfl | hp
      · exact ⟨hplH, haHL, haH0⟩
      · exact NS p hp
    have hoS : Off [aH] tlS := fun p hp a ha => by
      rw [List.mem_singleton.mp ha]
      intro z
      have z1 := (NS p hp).1
      rw [z, hplH] at z1
      have z2 := hcS p hp
      rw [← Option.some.inj z1] at z2
      exact absurd z2 (by simp)
    clear hnsH hplH heH F9 N9 hall9 hD0 hKH keepH haH0 haHL NS hcS
    repeat' (first
        | (k_unfold; (try dsimp only))
        | (k_end; kc_close)
        | (with_reducible ((with_reducible show wpAny _ _ (call (Value.builtin "list.index") _) _ _ _); refine stopW ?_))
        | (with_reducible ((with_reducible show wpAny _ _ (call (Value.builtin "list.count") _) _ _ _); refine stopW ?_))
        | ((with_reducible show wpAny _ _ (subscriptTail (Expr.Name _ _) (Expr.Slice _ _ _ _) (Value.ref _) (Value.ref _)) _ _ _); k_here; (rename Fr _ _ _ _ => zF); (rename News _ _ _ _ => zN); (first | refine slice_up zF zN (News.isList zN (by k_mem)) (by omega) ?_ | refine slice_fro zF zN (News.isList zN (by k_mem)) (by omega) ?_); clear zF zN; intro _ _ _ _ _)
        | (with_reducible ((with_reducible show wpAny _ _ (binaryOp _ (Value.ref _) (Value.ref _)) _ _ _); k_here; (rename Fr _ _ _ _ => zF); (rename News _ _ _ _ => zN); refine' add_K zF zN ?l ?b ?y ?z ?_; (case l => exact Heap.IsList.at (by assumption) (fun o e => Fr.keep zF _ o e)); (case b => exact Heap.IsList.at (by assumption) (fun o e => Fr.keep zF _ o e)); (case y => omega); (case z => omega); clear zF zN; intro _ _ _ _ _))
        | ((with_reducible show wpAny _ _ (call (Value.type "enumerate") _) _ _ _); k_here; refine' enum_K ?F ?N ?l ?_; (case F => k_asm); (case N => k_asm); (case l => first | exact listO_is (News.get (by assumption) (by k_mem)) (by assumption) | exact News.isList (by assumption) (by k_mem)); (rename News _ _ _ _ => zN); (rename Fr _ _ _ _ => zF); clear zN zF; intro _ _ _ _ _ _ _ _ _)
        | (with_reducible ((with_reducible show wpAny _ _ (exec (Stmt.Assign _ (Expr.ListComp _ _ _ _) _) _) _ _ _); refine stopW ?_))
        | (with_reducible ((with_reducible show wpAny _ _ (exec (Stmt.Assign _ (Expr.ListComp _ _ _ _) _) _) _ _ _); refine stopW ?_))
        | (with_reducible ((with_reducible show wpAny _ _ (exec (Stmt.For (Expr.Tuple _ _ _) _ _ _ _) _) _ _ _); k_dflt (refine for_rawD ?_)))
        | (with_reducible ((with_reducible show wpAny _ _ (exec (Stmt.For (Expr.Tuple _ _ _) _ _ _ _) _) _ _ _); k_dflt (refine for_rawD ?_)))
        | walk1
        | (dsimp only; walk1)
        | (leave1; (try dsimp only))
        | fail "no step")
    rename_i aR _ lR _ e it oI hE hI F9 N9 hie hall
    have b3 : @LT.lt Nat _ aH aR := lR.1
    have b4 : @LT.lt Nat _ aR it := hall (aR, _) (List.Mem.head _)
    have b5 : @LT.lt Nat _ it e := hie
    have b34 := Nat.lt_trans b3 b4
    have hzq : (q1 ++ q2).length = ysH.size := by rw [← Array.length_toList, PS.length, List.length_map]
    have htl0 : Off [e, it, aR, aH] tlS := fun p hp =>
      have z : @LT.lt Nat _ p.1 it := hall p (by repeat' (first | exact hp | refine List.Mem.tail _ ?_))
      have z2 : @LT.lt Nat _ p.1 aR := allLt_mem lR.2 p hp
      fa_cons (Nat.ne_of_lt (Nat.lt_trans z b5)) (fa_cons (Nat.ne_of_lt z) (fa_cons (Nat.ne_of_lt z2) (fa_cons (hoS p hp _ (by k_mem)) fa_nil)))
    clear hoS lR hall
    have N0 : News s.heap L' hE ((e, enumO it ((0 : Nat) : Int) .none) :: (it, oI) :: (aR, listOf #[] 0) :: (aH, listOf ysH nH) :: tlS) := N9
    refine Halt.mk (wpAny_pyIter_enum (N0 _ (List.Mem.head _)).1 (LoopFor.gen (JD s L' e it aR aH la lb ysH nH (q1 ++ q2) xs.size) (ysH.size + 1) (JD.mk (i := 0) (Nat.zero_le _) (frD0 F9) N0 hI PS Paired.nil htl0) ?_))
    clear N0 F9 N9 hI PS htl0 oI
    rintro J' Q' hJ hQ' kk s' @⟨h, tk, u1, u2, u3, u4, rs, n, i, tl, oI, old, hile, F, N, hI, PS, PR, htl⟩
    refine enum_next (n := 0) rfl F N hI (News.isList N (by k_mem)) b5 (fa_cons (two_ne b4 b5) (fa_cons (two_ne b34 b5) fun p hp => ⟨htl p hp e (by k_mem), htl p hp it (by k_mem)⟩)) (fun x hx b oI' h1 hI1 F1 N1 heb hb => ?_) (fun hge h1 F1 N1 => ?_)
    · have hlt' : i < ysH.size := arr_lt hx
      clear F N hQ' hI hb heb
      obtain ⟨hqi, hsi⟩ := at_qs (qs := q1 ++ q2) (i := i) (by rw [hzq]; exact hlt')
      have hxi : SpotIn2 tl x (sh3 ((q1 ++ q2).getD i (0, 0, 0))) := paired_get PS i _ _ (by rw [Array.getElem?_toList]; exact hx) hsi
      have hlen3 : ((q1 ++ q2).map sh3).length ≤ 1000 := by rw [List.length_map, hzq, hzH]; exact Nat.le_trans (Nat.add_le_add hlen hlen2) (by decide)
      obtain ⟨sv, hsv, hSV⟩ := paired_at P hqi
      have hU : un + 3 + 1 < cLine := Nat.lt_of_le_of_lt (Nat.add_le_add_left (by decide : 3 + 1 ≤ 200) un) U
      clear hx hqi
      generalize hqq : (q1 ++ q2).getD i (0, 0, 0) = qi at *
      generalize hss : (q1 ++ q2).map sh3 = σ at *
      generalize hcc : sh3 qi = c at *
      repeat' (first
          | (k_unfold; (try dsimp only))
          | (k_end; kc_close)
          | (with_reducible ((with_reducible show wpAny _ _ (call (Value.builtin "list.index") _) _ _ _); refine stopW ?_))
          | (with_reducible ((with_reducible show wpAny _ _ (call (Value.builtin "list.count") _) _ _ _); refine stopW ?_))
          | ((with_reducible show wpAny _ _ (subscriptTail (Expr.Name _ _) (Expr.Slice _ _ _ _) (Value.ref _) (Value.ref _)) _ _ _); k_here; (rename Fr _ _ _ _ => zF); (rename News _ _ _ _ => zN); (first | refine slice_up zF zN (News.isList zN (by k_mem)) (by omega) ?_ | refine slice_fro zF zN (News.isList zN (by k_mem)) (by omega) ?_); clear zF zN; intro _ _ _ _ _)
          | (with_reducible ((with_reducible show wpAny _ _ (binaryOp _ (Value.ref _) (Value.ref _)) _ _ _); k_here; (rename Fr _ _ _ _ => zF); (rename News _ _ _ _ => zN); refine' add_K zF zN ?l ?b ?y ?z ?_; (case l => exact Heap.IsList.at (by assumption) (fun o e => Fr.keep zF _ o e)); (case b => exact Heap.IsList.at (by assumption) (fun o e => Fr.keep zF _ o e)); (case y => omega); (case z => omega); clear zF zN; intro _ _ _ _ _))
          | ((with_reducible show wpAny _ _ (call (Value.type "enumerate") _) _ _ _); k_here; refine' enum_K ?F ?N ?l ?_; (case F => k_asm); (case N => k_asm); (case l => first | exact listO_is (News.get (by assumption) (by k_mem)) (by assumption) | exact News.isList (by assumption) (by k_mem)); (rename News _ _ _ _ => zN); (rename Fr _ _ _ _ => zF); clear zN zF; intro _ _ _ _ _ _ _ _ _)
          | (with_reducible ((with_reducible show wpAny _ _ (exec (Stmt.Assign _ (Expr.ListComp _ _ _ _) _) _) _ _ _); refine stopW ?_))
          | (with_reducible ((with_reducible show wpAny _ _ (exec (Stmt.Assign _ (Expr.ListComp _ _ _ _) _) _) _ _ _); refine stopW ?_))
          | (with_reducible ((with_reducible show wpAny _ _ (exec (Stmt.For (Expr.Tuple _ _ _) _ _ _ _) _) _ _ _); k_dflt (refine for_rawD ?_)))
          | (with_reducible ((with_reducible show wpAny _ _ (exec (Stmt.For (Expr.Tuple _ _ _) _ _ _ _) _) _ _ _); k_dflt (refine for_rawD ?_)))
          | walk1
          | (dsimp only; walk1)
          | (leave1; (try dsimp only))
          | fail "no step")
      (rename Fr _ _ _ _ => F9); (rename News _ _ _ _ => N9)
      refine Halt.mk (count_K (qs := σ.take xs.size) (c := c) (News.isList N9 (by k_mem)) (paired_take (SpotIn2.all PS fun p hp => (N9 p (by repeat' (first | exact hp | refine List.Mem.tail _ ?_))).1) _) (hxi.at fun p hp => (N9 p (by repeat' (first | exact hp | refine List.Mem.tail _ ?_))).1) hU ?_)
      (try dsimp only)
      repeat' (first
          | (k_unfold; (try dsimp only))
          | (k_end; kc_close)
          | (with_reducible ((with_reducible show wpAny _ _ (call (Value.builtin "list.index") _) _ _ _); refine stopW ?_))
          | (with_reducible ((with_reducible show wpAny _ _ (call (Value.builtin "list.count") _) _ _ _); refine stopW ?_))
          | ((with_reducible show wpAny _ _ (subscriptTail (Expr.Name _ _) (Expr.Slice _ _ _ _) (Value.ref _) (Value.ref _)) _ _ _); k_here; (rename Fr _ _ _ _ => zF); (rename News _ _ _ _ => zN); (first | refine slice_up zF zN (News.isList zN (by k_mem)) (by omega) ?_ | refine slice_fro zF zN (News.isList zN (by k_mem)) (by omega) ?_); clear zF zN; intro _ _ _ _ _)
          | (with_reducible ((with_reducible show wpAny _ _ (binaryOp _ (Value.ref _) (Value.ref _)) _ _ _); k_here; (rename Fr _ _ _ _ => zF); (rename News _ _ _ _ => zN); refine' add_K zF zN ?l ?b ?y ?z ?_; (case l => exact Heap.IsList.at (by assumption) (fun o e => Fr.keep zF _ o e)); (case b => exact Heap.IsList.at (by assumption) (fun o e => Fr.keep zF _ o e)); (case y => omega); (case z => omega); clear zF zN; intro _ _ _ _ _))
          | ((with_reducible show wpAny _ _ (call (Value.type "enumerate") _) _ _ _); k_here; refine' enum_K ?F ?N ?l ?_; (case F => k_asm); (case N => k_asm); (case l => first | exact listO_is (News.get (by assumption) (by k_mem)) (by assumption) | exact News.isList (by assumption) (by k_mem)); (rename News _ _ _ _ => zN); (rename Fr _ _ _ _ => zF); clear zN zF; intro _ _ _ _ _ _ _ _ _)
          | (with_reducible ((with_reducible show wpAny _ _ (exec (Stmt.Assign _ (Expr.ListComp _ _ _ _) _) _) _ _ _); refine stopW ?_))
          | (with_reducible ((with_reducible show wpAny _ _ (exec (Stmt.Assign _ (Expr.ListComp _ _ _ _) _) _) _ _ _); refine stopW ?_))
          | (with_reducible ((with_reducible show wpAny _ _ (exec (Stmt.For (Expr.Tuple _ _ _) _ _ _ _) _) _ _ _); k_dflt (refine for_rawD ?_)))
          | (with_reducible ((with_reducible show wpAny _ _ (exec (Stmt.For (Expr.Tuple _ _ _) _ _ _ _) _) _ _ _); k_dflt (refine for_rawD ?_)))
          | walk1
          | (dsimp only; walk1)
          | (leave1; (try dsimp only))
          | fail "no step")
      (rename Fr _ _ _ _ => F9); (rename News _ _ _ _ => N9)
      refine Halt.mk (count_K (qs := σ.drop xs.size) (c := c) (News.isList N9 (by k_mem)) (paired_drop (SpotIn2.all PS fun p hp => (N9 p (by repeat' (first | exact hp | refine List.Mem.tail _ ?_))).1) _) (hxi.at fun p hp => (N9 p (by repeat' (first | exact hp | refine List.Mem.tail _ ?_))).1) hU ?_)
      (try dsimp only)
      repeat' (first
          | (k_unfold; (try dsimp only))
          | (k_end; kc_close)
          | (with_reducible ((with_reducible show wpAny _ _ (call (Value.builtin "list.index") _) _ _ _); refine stopW ?_))
          | (with_reducible ((with_reducible show wpAny _ _ (call (Value.builtin "list.count") _) _ _ _); refine stopW ?_))
          | ((with_reducible show wpAny _ _ (subscriptTail (Expr.Name _ _) (Expr.Slice _ _ _ _) (Value.ref _) (Value.ref _)) _ _ _); k_here; (rename Fr _ _ _ _ => zF); (rename News _ _ _ _ => zN); (first | refine slice_up zF zN (News.isList zN (by k_mem)) (by omega) ?_ | refine slice_fro zF zN (News.isList zN (by k_mem)) (by omega) ?_); clear zF zN; intro _ _ _ _ _)
          | (with_reducible ((with_reducible show wpAny _ _ (binaryOp _ (Value.ref _) (Value.ref _)) _ _ _); k_here; (rename Fr _ _ _ _ => zF); (rename News _ _ _ _ => zN); refine' add_K zF zN ?l ?b ?y ?z ?_; (case l => exact Heap.IsList.at (by assumption) (fun o e => Fr.keep zF _ o e)); (case b => exact Heap.IsList.at (by assumption) (fun o e => Fr.keep zF _ o e)); (case y => omega); (case z => omega); clear zF zN; intro _ _ _ _ _))
          | ((with_reducible show wpAny _ _ (call (Value.type "enumerate") _) _ _ _); k_here; refine' enum_K ?F ?N ?l ?_; (case F => k_asm); (case N => k_asm); (case l => first | exact listO_is (News.get (by assumption) (by k_mem)) (by assumption) | exact News.isList (by assumption) (by k_mem)); (rename News _ _ _ _ => zN); (rename Fr _ _ _ _ => zF); clear zN zF; intro _ _ _ _ _ _ _ _ _)
          | (with_reducible ((with_reducible show wpAny _ _ (exec (Stmt.Assign _ (Expr.ListComp _ _ _ _) _) _) _ _ _); refine stopW ?_))
          | (with_reducible ((with_reducible show wpAny _ _ (exec (Stmt.Assign _ (Expr.ListComp _ _ _ _) _) _) _ _ _); refine stopW ?_))
          | (with_reducible ((with_reducible show wpAny _ _ (exec (Stmt.For (Expr.Tuple _ _ _) _ _ _ _) _) _ _ _); k_dflt (refine for_rawD ?_)))
          | (with_reducible ((with_reducible show wpAny _ _ (exec (Stmt.For (Expr.Tuple _ _ _) _ _ _ _) _) _ _ _); k_dflt (refine for_rawD ?_)))
          | walk1
          | (dsimp only; walk1)
          | (leave1; (try dsimp only))
          | fail "no step")
      (rename Fr _ _ _ _ => F9); (rename News _ _ _ _ => N9)
      refine Halt.mk (index_K (qs := σ) (c := c) (j := σ.idxOf c) (News.isList N9 (by k_mem)) (SpotIn2.all PS fun p hp => (N9 p (by repeat' (first | exact hp | refine List.Mem.tail _ ?_))).1) (hxi.at fun p hp => (N9 p (by repeat' (first | exact hp | refine List.Mem.tail _ ?_))).1) hU (idx_at (List.mem_of_getElem? hsi)) idx_no hlen3 ?_)
      (try dsimp only)
      repeat' (first
          | (k_unfold; (try dsimp only))
          | (k_end; kc_close)
          | (with_reducible ((with_reducible show wpAny _ _ (call (Value.builtin "list.index") _) _ _ _); refine stopW ?_))
          | (with_reducible ((with_reducible show wpAny _ _ (call (Value.builtin "list.count") _) _ _ _); refine stopW ?_))
          | ((with_reducible show wpAny _ _ (subscriptTail (Expr.Name _ _) (Expr.Slice _ _ _ _) (Value.ref _) (Value.ref _)) _ _ _); k_here; (rename Fr _ _ _ _ => zF); (rename News _ _ _ _ => zN); (first | refine slice_up zF zN (News.isList zN (by k_mem)) (by omega) ?_ | refine slice_fro zF zN (News.isList zN (by k_mem)) (by omega) ?_); clear zF zN; intro _ _ _ _ _)
          | (with_reducible ((with_reducible show wpAny _ _ (binaryOp _ (Value.ref _) (Value.ref _)) _ _ _); k_here; (rename Fr _ _ _ _ => zF); (rename News _ _ _ _ => zN); refine' add_K zF zN ?l ?b ?y ?z ?_; (case l => exact Heap.IsList.at (by assumption) (fun o e => Fr.keep zF _ o e)); (case b => exact Heap.IsList.at (by assumption) (fun o e => Fr.keep zF _ o e)); (case y => omega); (case z => omega); clear zF zN; intro _ _ _ _ _))
          | ((with_reducible show wpAny _ _ (call (Value.type "enumerate") _) _ _ _); k_here; refine' enum_K ?F ?N ?l ?_; (case F => k_asm); (case N => k_asm); (case l => first | exact listO_is (News.get (by assumption) (by k_mem)) (by assumption) | exact News.isList (by assumption) (by k_mem)); (rename News _ _ _ _ => zN); (rename Fr _ _ _ _ => zF); clear zN zF; intro _ _ _ _ _ _ _ _ _)
          | (with_reducible ((with_reducible show wpAny _ _ (exec (Stmt.Assign _ (Expr.ListComp _ _ _ _) _) _) _ _ _); refine stopW ?_))
          | (with_reducible ((with_reducible show wpAny _ _ (exec (Stmt.Assign _ (Expr.ListComp _ _ _ _) _) _) _ _ _); refine stopW ?_))
          | (with_reducible ((with_reducible show wpAny _ _ (exec (Stmt.For (Expr.Tuple _ _ _) _ _ _ _) _) _ _ _); k_dflt (refine for_rawD ?_)))
          | (with_reducible ((with_reducible show wpAny _ _ (exec (Stmt.For (Expr.Tuple _ _ _) _ _ _ _) _) _ _ _); k_dflt (refine for_rawD ?_)))
          | walk1
          | (dsimp only; walk1)
          | (leave1; (try dsimp only))
          | fail "no step")
      · rename_i hid hne tkc Dc hc F9 N9 hallc
        have N10 : News s.heap L' _ ((e, enumO it ((i : Int) + 1) x) :: (it, oI') :: (aR, listOf rs n) :: (aH, listOf ysH nH) :: tl) := newsPick N9 [4, 5, 6, 7] 8
        refine subscriptTail_builtin (News.isList N9 (by k_mem)).typeIs slot_list_getitem.lookup (wpAny_getItem_list (News.isList N9 (by k_mem)) (Int.natCast_nonneg i) (small63 hlt' (by rw [hzH]; exact Nat.le_trans (Nat.add_le_add hlen hlen2) (by decide))) (by simpa using hsv) ?_)
        clear N9 hallc hsv
        (try dsimp only)
        repeat' (first
            | (k_unfold; (try dsimp only))
            | (k_end; kc_close)
            | (with_reducible ((with_reducible show wpAny _ _ (call (Value.builtin "list.index") _) _ _ _); refine stopW ?_))
            | (with_reducible ((with_reducible show wpAny _ _ (call (Value.builtin "list.count") _) _ _ _); refine stopW ?_))
            | ((with_reducible show wpAny _ _ (subscriptTail (Expr.Name _ _) (Expr.Slice _ _ _ _) (Value.ref _) (Value.ref _)) _ _ _); k_here; (rename Fr _ _ _ _ => zF); (rename News _ _ _ _ => zN); (first | refine slice_up zF zN (News.isList zN (by k_mem)) (by omega) ?_ | refine slice_fro zF zN (News.isList zN (by k_mem)) (by omega) ?_); clear zF zN; intro _ _ _ _ _)
            | (with_reducible ((with_reducible show wpAny _ _ (binaryOp _ (Value.ref _) (Value.ref _)) _ _ _); k_here; (rename Fr _ _ _ _ => zF); (rename News _ _ _ _ => zN); refine' add_K zF zN ?l ?b ?y ?z ?_; (case l => exact Heap.IsList.at (by assumption) (fun o e => Fr.keep zF _ o e)); (case b => exact Heap.IsList.at (by assumption) (fun o e => Fr.keep zF _ o e)); (case y => omega); (case z => omega); clear zF zN; intro _ _ _ _ _))
            | ((with_reducible show wpAny _ _ (call (Value.type "enumerate") _) _ _ _); k_here; refine' enum_K ?F ?N ?l ?_; (case F => k_asm); (case N => k_asm); (case l => first | exact listO_is (News.get (by assumption) (by k_mem)) (by assumption) | exact News.isList (by assumption) (by k_mem)); (rename News _ _ _ _ => zN); (rename Fr _ _ _ _ => zF); clear zN zF; intro _ _ _ _ _ _ _ _ _)
            | (with_reducible ((with_reducible show wpAny _ _ (exec (Stmt.Assign _ (Expr.ListComp _ _ _ _) _) _) _ _ _); refine stopW ?_))
            | (with_reducible ((with_reducible show wpAny _ _ (exec (Stmt.Assign _ (Expr.ListComp _ _ _ _) _) _) _ _ _); refine stopW ?_))
            | (with_reducible ((with_reducible show wpAny _ _ (exec (Stmt.For (Expr.Tuple _ _ _) _ _ _ _) _) _ _ _); k_dflt (refine for_rawD ?_)))
            | (with_reducible ((with_reducible show wpAny _ _ (exec (Stmt.For (Expr.Tuple _ _ _) _ _ _ _) _) _ _ _); k_dflt (refine for_rawD ?_)))
            | walk1
            | (dsimp only; walk1)
            | (leave1; (try dsimp only))
            | fail "no step")
        rename_i T hT F8 N8 lT
        obtain ⟨l1, l2, l3, l4, l5⟩ := lT
        replace l1 : @LT.lt Nat _ e T := l1
        replace l2 : @LT.lt Nat _ it T := l2
        replace l3 : @LT.lt Nat _ aR T := l3
        replace l4 : @LT.lt Nat _ aH T := l4
        refine append_K (D := aR) (its := rs) (n := n) F8 N8 (Upd.tail (Nat.ne_of_gt l3) (Upd.tail (Nat.ne_of_gt (Nat.lt_trans b4 b5)) (Upd.tail (Nat.ne_of_gt b4) (Upd.head (fa_cons (Nat.ne_of_lt b3) fun p hp => htl p hp _ (by k_mem)))))) ?_ (due_room (Nat.le_trans hile (by rw [hzH]; exact Nat.le_trans (Nat.add_le_add hlen hlen2) (by decide))) PR)
        intro h11 F11 N11
        clear F8 N8
        (try dsimp only)
        repeat' (first
            | (k_unfold; (try dsimp only))
            | (k_end; kc_close)
            | (with_reducible ((with_reducible show wpAny _ _ (call (Value.builtin "list.index") _) _ _ _); refine stopW ?_))
            | (with_reducible ((with_reducible show wpAny _ _ (call (Value.builtin "list.count") _) _ _ _); refine stopW ?_))
            | ((with_reducible show wpAny _ _ (subscriptTail (Expr.Name _ _) (Expr.Slice _ _ _ _) (Value.ref _) (Value.ref _)) _ _ _); k_here; (rename Fr _ _ _ _ => zF); (rename News _ _ _ _ => zN); (first | refine slice_up zF zN (News.isList zN (by k_mem)) (by omega) ?_ | refine slice_fro zF zN (News.isList zN (by k_mem)) (by omega) ?_); clear zF zN; intro _ _ _ _ _)
            | (with_reducible ((with_reducible show wpAny _ _ (binaryOp _ (Value.ref _) (Value.ref _)) _ _ _); k_here; (rename Fr _ _ _ _ => zF); (rename News _ _ _ _ => zN); refine' add_K zF zN ?l ?b ?y ?z ?_; (case l => exact Heap.IsList.at (by assumption) (fun o e => Fr.keep zF _ o e)); (case b => exact Heap.IsList.at (by assumption) (fun o e => Fr.keep zF _ o e)); (case y => omega); (case z => omega); clear zF zN; intro _ _ _ _ _))
            | ((with_reducible show wpAny _ _ (call (Value.type "enumerate") _) _ _ _); k_here; refine' enum_K ?F ?N ?l ?_; (case F => k_asm); (case N => k_asm); (case l => first | exact listO_is (News.get (by assumption) (by k_mem)) (by assumption) | exact News.isList (by assumption) (by k_mem)); (rename News _ _ _ _ => zN); (rename Fr _ _ _ _ => zF); clear zN zF; intro _ _ _ _ _ _ _ _ _)
            | (with_reducible ((with_reducible show wpAny _ _ (exec (Stmt.Assign _ (Expr.ListComp _ _ _ _) _) _) _ _ _); refine stopW ?_))
            | (with_reducible ((with_reducible show wpAny _ _ (exec (Stmt.Assign _ (Expr.ListComp _ _ _ _) _) _) _ _ _); refine stopW ?_))
            | (with_reducible ((with_reducible show wpAny _ _ (exec (Stmt.For (Expr.Tuple _ _ _) _ _ _ _) _) _ _ _); k_dflt (refine for_rawD ?_)))
            | (with_reducible ((with_reducible show wpAny _ _ (exec (Stmt.For (Expr.Tuple _ _ _) _ _ _ _) _) _ _ _); k_dflt (refine for_rawD ?_)))
            | walk1
            | (dsimp only; walk1)
            | (leave1; (try dsimp only))
            | fail "no step")
        (rename Fr _ _ _ _ => F9); (rename News _ _ _ _ => N9)
        (try dsimp only)
        refine ⟨_, dec_turn hlt', hJ _ _ (JD.mk (tl := (T, _) :: tl) hlt' (frDT F9) (newsPick N9 [1, 2, 3, 4, 0] 5) hI1 (by rw [hss]; exact spotIn2_mono PS) (due_add hqq hss hcc ⟨Int.ofNat_inj.mp (by assumption), fun z => absurd (Int.ofNat_inj.mpr z) (by assumption)⟩ hSV PR) (off_cons (fa_cons (Nat.ne_of_gt l1) (fa_cons (Nat.ne_of_gt l2) (fa_cons (Nat.ne_of_gt l3) (fa_cons (Nat.ne_of_gt l4) fa_nil)))) htl))⟩
      · (rename Fr _ _ _ _ => F9); (rename News _ _ _ _ => N9)
        (try dsimp only)
        exact ⟨_, dec_turn hlt', hJ _ _ (JD.mk hlt' (frDT F9) (newsPick N9 [3, 4, 5, 6] 7) hI1 (hss ▸ PS) (due_skip hqq hss hcc (by rintro ⟨z1, z2⟩; first | exact z2 (Int.ofNat_inj.mp (by assumption)) | exact z2 (Int.ofNat_inj.mp (Decidable.of_not_not (by assumption))) | exact absurd (Int.ofNat_inj.mpr z1) (by assumption)) PR) htl)⟩
      · (rename Fr _ _ _ _ => F9); (rename News _ _ _ _ => N9)
        (try dsimp only)
        exact ⟨_, dec_turn hlt', hJ _ _ (JD.mk hlt' (frDT F9) (newsPick N9 [3, 4, 5, 6] 7) hI1 (hss ▸ PS) (due_skip hqq hss hcc (by rintro ⟨z1, z2⟩; first | exact z2 (Int.ofNat_inj.mp (by assumption)) | exact z2 (Int.ofNat_inj.mp (Decidable.of_not_not (by assumption))) | exact absurd (Int.ofNat_inj.mpr z1) (by assumption)) PR) htl)⟩
    · have hin : i = xs.size + ys.size := hzH ▸ Nat.le_antisymm hile (arr_ge hge)
      rw [hin] at PR
      clear F N hin hge hile hJ hI
      refine hQ' _ _ ?_
      clear hQ' J' Q'
      (try dsimp only)
      repeat' (first
          | (k_unfold; (try dsimp only))
          | (k_end; kc_close)
          | (with_reducible ((with_reducible show wpAny _ _ (call (Value.builtin "list.index") _) _ _ _); refine stopW ?_))
          | (with_reducible ((with_reducible show wpAny _ _ (call (Value.builtin "list.count") _) _ _ _); refine stopW ?_))
          | ((with_reducible show wpAny _ _ (subscriptTail (Expr.Name _ _) (Expr.Slice _ _ _ _) (Value.ref _) (Value.ref _)) _ _ _); k_here; (rename Fr _ _ _ _ => zF); (rename News _ _ _ _ => zN); (first | refine slice_up zF zN (News.isList zN (by k_mem)) (by omega) ?_ | refine slice_fro zF zN (News.isList zN (by k_mem)) (by omega) ?_); clear zF zN; intro _ _ _ _ _)
          | (with_reducible ((with_reducible show wpAny _ _ (binaryOp _ (Value.ref _) (Value.ref _)) _ _ _); k_here; (rename Fr _ _ _ _ => zF); (rename News _ _ _ _ => zN); refine' add_K zF zN ?l ?b ?y ?z ?_; (case l => exact Heap.IsList.at (by assumption) (fun o e => Fr.keep zF _ o e)); (case b => exact Heap.IsList.at (by assumption) (fun o e => Fr.keep zF _ o e)); (case y => omega); (case z => omega); clear zF zN; intro _ _ _ _ _))
          | ((with_reducible show wpAny _ _ (call (Value.type "enumerate") _) _ _ _); k_here; refine' enum_K ?F ?N ?l ?_; (case F => k_asm); (case N => k_asm); (case l => first | exact listO_is (News.get (by assumption) (by k_mem)) (by assumption) | exact News.isList (by assumption) (by k_mem)); (rename News _ _ _ _ => zN); (rename Fr _ _ _ _ => zF); clear zN zF; intro _ _ _ _ _ _ _ _ _)
          | (with_reducible ((with_reducible show wpAny _ _ (exec (Stmt.Assign _ (Expr.ListComp _ _ _ _) _) _) _ _ _); refine stopW ?_))
          | (with_reducible ((with_reducible show wpAny _ _ (exec (Stmt.Assign _ (Expr.ListComp _ _ _ _) _) _) _ _ _); refine stopW ?_))
          | (with_reducible ((with_reducible show wpAny _ _ (exec (Stmt.For (Expr.Tuple _ _ _) _ _ _ _) _) _ _ _); k_dflt (refine for_rawD ?_)))
          | (with_reducible ((with_reducible show wpAny _ _ (exec (Stmt.For (Expr.Tuple _ _ _) _ _ _ _) _) _ _ _); k_dflt (refine for_rawD ?_)))
          | walk1
          | (dsimp only; walk1)
          | (leave1; (try dsimp only))
          | fail "no step")
      (rename Fr _ _ _ _ => F9); (rename News _ _ _ _ => N9)
      (try dsimp only)
      show Q (.ref aR) _
      exact hQ aR _ _ rs F9.keep (News.fresh N9 (List.Mem.head _)) ⟨n, News.get N9 (List.Mem.head _)⟩ (paired_mono (fun _ _ z => DueIn.at z fun p hp => (N9 p (by repeat' (first | exact hp | refine List.Mem.tail _ ?_))).1) PR)
  )
end Mine
end
section
open PySem PySem.W PySem.Calls PyProof.Rows PySem.SeqAt
namespace Mine
set_option maxRecDepth 100000
set_option maxHeartbeats 4000000

noncomputable abbrev Tl := UInt64 × UInt64
/-- a told spot: a tuple of two floats, its tokens below a bound, each token's bits set down in G -/
noncomputable def TelB (G : (Nat → UInt64) × (Nat → UInt64)) (tk : Nat) (h : Heap) (y : Value) (b : Tl) : Prop :=
  ∃ (a : Addr) (u1 u2 : Nat), y = .ref a ∧ IsTup h a #[.float b.1 u1, .float b.2 u2] ∧ 0 < u1 ∧ 0 < u2 ∧ u1 < tk ∧ u2 < tk ∧ G.1 u1 = b.1 ∧ G.2 u2 = b.2
theorem TelB.keep {G : (Nat → UInt64) × (Nat → UInt64)} {tk tk' : Nat} {h h' : Heap} {y : Value} {b : Tl} (x : TelB G tk h y b) (e : TExt h h') (ht : tk ≤ tk') : TelB G tk' h' y b := by
  obtain ⟨a, u1, u2, hy, hT, z1, z2, z3, z4, g1, g2⟩ := x
  exact ⟨a, u1, u2, hy, isTup_text hT e, z1, z2, by omega, by omega, g1, g2⟩
theorem TelB.grow {G : (Nat → UInt64) × (Nat → UInt64)} {tk tk' : Nat} {h : Heap} {y : Value} {b c : Tl} (x : TelB G tk h y b) (ht : tk ≤ tk') : TelB ((fun u => if tk' < u then c.1 else G.1 u), (fun u => if tk' < u then c.2 else G.2 u)) tk h y b := by
  obtain ⟨a, u1, u2, hy, hT, z1, z2, z3, z4, g1, g2⟩ := x
  refine ⟨a, u1, u2, hy, hT, z1, z2, z3, z4, ?_, ?_⟩
  · show (if tk' < u1 then c.1 else G.1 u1) = _
    rw [if_neg (by omega)]; exact g1
  · show (if tk' < u2 then c.2 else G.2 u2) = _
    rw [if_neg (by omega)]; exact g2
theorem TelB.uniq {G G' : (Nat → UInt64) × (Nat → UInt64)} {tk tk' : Nat} {h : Heap} {y : Value} {b b' : Tl} (x : TelB G tk h y b) (y : TelB G' tk' h y b') : b = b' := by
  obtain ⟨a, u1, u2, rfl, ⟨o, ho, hc, n, hd⟩, _⟩ := x
  obtain ⟨a', v1, v2, hv, ⟨o', ho', hc', n', hd'⟩, _⟩ := y
  injection hv with hv
  subst hv
  rw [ho] at ho'; cases ho'
  rw [hd] at hd'
  injection hd' with e1 e2
  have e1 := congrArg Array.toList e1
  simp at e1
  exact Prod.ext e1.1.1 e1.2.1

/-- comparing by value is comparing by bits -/
noncomputable def Like (b b' : Tl) : Prop := feq b.1 b'.1 = decide (b.1 = b'.1) ∧ feq b.2 b'.2 = decide (b.2 = b'.2)

section
variable {A : Around} {s : Shared}
theorem rcTel {G : (Nat → UInt64) × (Nat → UInt64)} {tk : Nat} {v v' : Value} {b b' : Tl} (x : TelB G tk s.heap v b) (y : TelB G tk s.heap v' b') (hl : Like b b') (hu : A.units < cLine) (hb : NoneBooked s.heap) : RcAt A s v v' (decide (b = b')) := by
  obtain ⟨a, u1, u2, rfl, hx, z1, z2, z3, z4, g1, g2⟩ := x
  obtain ⟨a', v1, v2, rfl, hy, y1, y2, y3, y4, k1, k2⟩ := y
  have := RcAt.tuples (A := A) (s := s) (e := fun j => match j with | 0 => feq b.1 b'.1 | _ => feq b.2 b'.2) hx hy hu (fun j h1 h2 => by
    have h1' : j < 2 := h1
    match j, h1' with
    | 0, _ => exact eqFloat (Nat.ne_of_gt z1) (Nat.ne_of_gt y1) (fun e => by rw [← g1, ← k1, e]) (fun e => by rw [hl.1, decide_eq_true e]) hb
    | 1, _ => exact eqFloat (Nat.ne_of_gt z2) (Nat.ne_of_gt y2) (fun e => by rw [← g2, ← k2, e]) (fun e => by rw [hl.2, decide_eq_true e]) hb)
  have hh : ((List.range (min (#[Value.float b.1 u1, .float b.2 u2] : Array Value).size (#[Value.float b'.1 v1, .float b'.2 v2] : Array Value).size)).all (fun j => match j with | 0 => feq b.1 b'.1 | _ => feq b.2 b'.2) && (#[Value.float b.1 u1, .float b.2 u2] : Array Value).size == (#[Value.float b'.1 v1, .float b'.2 v2] : Array Value).size) = decide (b = b') := by
    obtain ⟨p1, p2⟩ := b
    obtain ⟨r1, r2⟩ := b'
    obtain ⟨l1, l2⟩ := hl
    dsimp only at l1 l2
    rw [Bool.eq_iff_iff]
    simp [List.range_succ, Prod.ext_iff, l1, l2]
  rw [hh] at this
  exact this
theorem eqTel {G : (Nat → UInt64) × (Nat → UInt64)} {tk : Nat} {v v' : Value} {b b' : Tl} (x : TelB G tk s.heap v b) (y : TelB G tk s.heap v' b') (hl : Like b b') (hu : A.units < cLine) (hb : NoneBooked s.heap) : EqAt A s v v' (decide (b = b')) := by
  by_cases e : v = v'
  · subst e
    rw [x.uniq y]
    simpa using EqAt.same v
  · have := rcTel x y hl hu hb
    obtain ⟨a, u1, u2, rfl, hx⟩ := x
    obtain ⟨a', v1, v2, rfl, hy⟩ := y
    exact EqAt.of_refs (fun z => e (by rw [z])) this
end
end Mine
end
section
open PySem PySem.W PySem.Calls PyProof.Rows PySem.SeqAt
namespace Mine
set_option maxRecDepth 100000
set_option maxHeartbeats 4000000

structure Tells (w : World) (mean : ExcName → Option Value) (mg mb : Str → Option Value) (at' : Addr) (f : Sp → Tl) (Ok : Sp → Prop) : Prop where
  keep : keepIn (Mine.hd.heap_39 w.params) (.ref at') = true
  call : ∀ {dp un : Nat} {fr : Option (List Env)} {gd : Option (List Code)} {E : Value → Shared → Prop} {s : Shared} {Q : Value → Shared → Prop} {a : Addr} (q : Sp) {t1 t2 t3 : Tok}, (Mine.hd.heap_39 w.params).In s.heap → Top Mine.hd.view_39 LS mean mg mb s.heap →
    dp + 2 < recursionLimit → IsTup s.heap a #[.int q.1 t1, .int q.2.1 t2, .int q.2.2 t3] → Ok q →
    (∀ a' h' (tk' u1 u2 : Nat), Ext s.heap h' → IsTup h' a' #[.float (f q).1 u1, .float (f q).2 u2] → s.toks < u1 → u1 < tk' → s.toks < u2 → u2 < tk' → s.heap.get? a' = none → Q (.ref a') { s with heap := h', toks := tk' }) →
    wpAny (model PySem.Challenge.rw_ox0037_01.row.prog w) (AA dp un fr gd) (call (.ref at') [.ref a]) Q E s

noncomputable def TR (f : Sp → Tl) (G : (Nat → UInt64) × (Nat → UInt64)) (tk : Nat) (h : Heap) (v y : Value) : Prop := ∃ q, SpotV h v q ∧ TelB G tk h y (f q)
theorem TR.keep {f : Sp → Tl} {G : (Nat → UInt64) × (Nat → UInt64)} {tk tk' : Nat} {h h' : Heap} {v y : Value} (x : TR f G tk h v y) (e : TExt h h') (ht : tk ≤ tk') : TR f G tk' h' v y := by
  obtain ⟨q, a, b⟩ := x
  exact ⟨q, a.text e, b.keep e ht⟩
theorem TR.grow {f : Sp → Tl} {G : (Nat → UInt64) × (Nat → UInt64)} {tk tk' : Nat} {h : Heap} {v y : Value} {c : Tl} (x : TR f G tk h v y) (ht : tk ≤ tk') : TR f ((fun u => if tk' < u then c.1 else G.1 u), (fun u => if tk' < u then c.2 else G.2 u)) tk h v y := by
  obtain ⟨q, a, b⟩ := x
  exact ⟨q, a, b.grow ht⟩

noncomputable def KT (f : Sp → Tl) (vs0 ys0 : List Value) (h : Heap) (tk : Nat) (vs ys : List Value) : Prop := ∃ G, Paired (TR f G tk h) (vs0 ++ vs) (ys0 ++ ys)
theorem KT.keep {f : Sp → Tl} {vs0 ys0 : List Value} : ∀ h h' tk tk' vs ys, KT f vs0 ys0 h tk vs ys → TExt h h' → tk ≤ tk' → KT f vs0 ys0 h' tk' vs ys :=
  fun _ _ _ _ _ _ ⟨G, P⟩ e ht => ⟨G, paired_mono (fun _ _ z => TR.keep z e ht) P⟩

noncomputable abbrev scTell : Scope := { kind := .function, names := [(".0", .local), ("spot", .local), ("tell", .free)], isGenerator := false, isCoroutine := false }

section
variable {w : World} {mean : ExcName → Option Value} {mg mb : Str → Option Value} {dp un : Nat} {fr : Option (List Env)} {gd : Option (List Code)} {E : Value → Shared → Prop} {s : Shared} {Q : Value → Shared → Prop} {env : Env}

/-- tell(spot), where tell is a cell -/
theorem tell_elt {env : Env} {p1 p2 p3 : Pos} {c at' a : Addr} {f : Sp → Tl} {Ok : Sp → Prop} {q : Sp} {t1 t2 t3 : Tok} {m : Str → Option Value} (T : Tells w mean mg mb at' f Ok) (hk : env.scope.kind = .function) (k1 : env.kindOf "tell" = some .cell) (k2 : env.kindOf "spot" = some .local) (l1 : env.cells.lookup ("tell" : Str) = some c)
    (X : (Mine.hd.heap_39 w.params).In s.heap) (Y : Top Mine.hd.view_39 LS mean mg mb s.heap) (R : dp + 2 < recursionLimit) (hc : s.heap.IsCell c (some (.ref at'))) (hn : s.heap.Ns env.locals m) (hm : m "spot" = some (.ref a))
    (hT : IsTup s.heap a #[.int q.1 t1, .int q.2.1 t2, .int q.2.2 t3]) (ok : Ok q)
    (hQ : ∀ a' h' (tk' u1 u2 : Nat), Ext s.heap h' → IsTup h' a' #[.float (f q).1 u1, .float (f q).2 u2] → s.toks < u1 → u1 < tk' → s.toks < u2 → u2 < tk' → s.heap.get? a' = none → Q (.ref a') { s with heap := h', toks := tk' }) :
    wpAny (model PySem.Challenge.rw_ox0037_01.row.prog w) (AA dp un fr gd) (eval (.Call (.Name "tell" p1) [.Name "spot" p2] [] p3) env) Q E s := by
  refine Call_ (nmC (c := c) hc l1 ?_ hk k1 (by decide))
  refine callWith_K X T.keep (args_cons (nmL (m := m) hn hm (args_nil ⟨X, ?_⟩) hk k2 (by decide)))
  exact T.call q X Y R hT ok hQ

theorem told_comp {iter : Expr} {p1 p2 p3 p4 p6 : Pos} {c at' : Addr} {f : Sp → Tl} {Ok : Sp → Prop} (vs0 ys0 : List Value) (T : Tells w mean mg mb at' f Ok) (hk : env.scope.kind = .function) (k1 : env.kindOf "tell" = some .cell) (l1 : env.cells.lookup ("tell" : Str) = some c) (R : dp + 2 < recursionLimit)
    (h : wpAny (model PySem.Challenge.rw_ox0037_01.row.prog w) (AA dp un fr gd) (eval iter env) (fun xv s₁ => Halt (∃ l items qs, xv = .ref l ∧ s₁.heap.IsList l items ∧ items.size ≤ 1000 ∧ (Mine.hd.heap_39 w.params).In s₁.heap ∧ Top Mine.hd.view_39 LS mean mg mb s₁.heap ∧ s₁.heap.IsCell c (some (.ref at')) ∧
      Paired (SpotV s₁.heap) items.toList qs ∧ (∀ q ∈ qs, Ok q) ∧ KT f vs0 ys0 s₁.heap s₁.toks [] [] ∧
      (∀ D h' tk ys, s₁.heap.get? D = none → h'.PlainList D ys → KT f vs0 ys0 h' tk items.toList ys.toList → Ext s₁.heap h' → Q (.ref D) { s₁ with heap := h', toks := tk }))) E s)
    (hs : ∀ x, foldedSetIterable iter env x = pure x := by intro _; rfl) :
    wpAny (model PySem.Challenge.rw_ox0037_01.row.prog w) (AA dp un fr gd) (eval (.ListComp (.Call (.Name "tell" p1) [.Name "spot" p2] [] p3) [⟨.Name "spot" p4, iter, [], 0⟩] scTell p6) env) Q E s := by
  refine comp_seqK (KT f vs0 ys0) KT.keep rfl (clos_one l1) (by decide) rfl (by decide) (by decide) (wpAny_mono h (fun xv s₁ h₁ => ?_) fun _ _ e => e) hs
  obtain ⟨l, items, qs, rfl, hl, hz, X, Y, hc, P, hok, hK0, hdone⟩ := h₁
  refine Halt.mk ⟨l, items, rfl, .inl hl, by rw [sizeLine_eq]; omega, hK0, fun C i v s₅ m₅ E' hC hi hns hm he ht => ?_, hdone⟩
  obtain ⟨q, hq, a, t1, t2, t3, rfl, hT⟩ := paired_some P (i := i) (by simpa using hi)
  refine tell_elt (m := m₅) (c := c) (q := q) T rfl (kindOf_relabel (by decide) hk k1) (by rfl) (by rfl) (X.keeps he) (Y.keeps he) R (isCell_ext hc he) hns hm (isTup_ext hT he) (hok q (List.mem_of_getElem? hq)) ?_
  intro a' h' tk' u1 u2 e hT' g1 g2 g3 g4 hf
  refine ⟨fun vs ys z => ?_, keeps_of e⟩
  obtain ⟨G, P'⟩ := z
  refine ⟨((fun u => if s₅.toks < u then (f q).1 else G.1 u), (fun u => if s₅.toks < u then (f q).2 else G.2 u)), ?_⟩
  rw [← List.append_assoc, ← List.append_assoc]
  refine Paired.snoc (paired_mono (fun _ _ z => (TR.grow (c := f q) z (Nat.le_refl _)).keep (Ext.text e) (by dsimp only; omega)) P') ⟨q, ⟨a, t1, t2, t3, rfl, isTup_ext (isTup_ext hT he) e⟩, a', u1, u2, rfl, hT', by omega, by omega, g2, g4, ?_, ?_⟩
  · show (if s₅.toks < u1 then _ else _) = _
    rw [if_pos g1]
  · show (if s₅.toks < u2 then _ else _) = _
    rw [if_pos g3]
end
end Mine
end
section
open PySem PySem.W PySem.Calls PyProof.Rows PySem.SeqAt
namespace Mine
set_option maxRecDepth 100000
set_option maxHeartbeats 4000000

/-- the triple made of a row -/
noncomputable def RwF (h : Heap) (v y : Value) : Prop := ∃ D d Y a b t1 t2 tv, v = .ref D ∧ h.get? D = some (rowO d #[.int a t1, .int b t2, tv]) ∧ y = .ref Y ∧ IsTup h Y #[.int a t1, .int b t2, tv]
theorem RwF.keep : ∀ h h' v y, RwF h v y → TExt h h' → RwF h' v y := fun _ _ _ _ ⟨D, d, Y, a, b, t1, t2, tv, hv, hD, hy, hY⟩ e =>
  ⟨D, d, Y, a, b, t1, t2, tv, hv, e _ _ ⟨⟨_, _, rfl⟩, .inr rfl⟩ hD, hy, isTup_text hY e⟩

noncomputable abbrev scRow : Scope := { kind := .function, names := [(".0", .local), ("row", .local)], isGenerator := false, isCoroutine := false }
theorem clos_none {env : Env} {a b : Str} {g1 g2 : Bool} {more : List (Str × Const)} :
    closureFor { kind := .function, names := [(a, .local), (b, .local)], isGenerator := g1, isCoroutine := g2, more := more } env = pure [] := by
  unfold closureFor
  simp only [List.forIn_cons, List.forIn_nil]
  rfl

section
variable {w : World} {mean : ExcName → Option Value} {mg mb : Str → Option Value} {dp un : Nat} {fr : Option (List Env)} {gd : Option (List Code)} {E : Value → Shared → Prop} {s : Shared} {Q : Value → Shared → Prop} {env : Env}

theorem row_comp {iter : Expr} {p1 p2 p3 p4 p5 p6 p7 p8 p9 : Pos} {z : Nat} (R : dp + 1 < recursionLimit) (U : un + 120 < cLine)
    (h : wpAny (model PySem.Challenge.rw_ox0037_01.row.prog w) (AA dp un fr gd) (eval iter env) (fun xv s₁ => Halt (∃ l items, xv = .ref l ∧ s₁.heap.IsList l items ∧ items.size ≤ 1000 ∧ (Mine.hd.heap_39 w.params).In s₁.heap ∧ Top Mine.hd.view_39 LS mean mg mb s₁.heap ∧
      (∀ (i : Nat) v, items[i]? = some v → ∃ D d a b t1 t2 r, v = .ref D ∧ s₁.heap.get? D = some (rowO d #[.int a t1, .int b t2, .ref r])) ∧
      (∀ D h' tk ys, s₁.heap.get? D = none → h'.PlainList D ys → Paired (RwF h') items.toList ys.toList → Ext s₁.heap h' → Q (.ref D) { s₁ with heap := h', toks := tk }))) E s)
    (hs : ∀ x, foldedSetIterable iter env x = pure x := by intro _; rfl) :
    wpAny (model PySem.Challenge.rw_ox0037_01.row.prog w) (AA dp un fr gd) (eval (.ListComp (.Tuple [.Attribute (.Name "row" p1) "actual" p2, .Attribute (.Name "row" p3) "expected" p4, .Attribute (.Name "row" p5) "value" p6] z p7) [⟨.Name "row" p8, iter, [], 0⟩] scRow p9) env) Q E s := by
  refine comp_seq RwF RwF.keep rfl clos_none (by decide) rfl (by decide) (by decide) (wpAny_mono h (fun xv s₁ h₁ => ?_) fun _ _ e => e) hs
  obtain ⟨l, items, rfl, hl, hz, X, Y, hit, hdone⟩ := h₁
  refine Halt.mk ⟨l, items, rfl, .inl hl, by rw [sizeLine_eq]; omega, fun C i v s₅ m₅ E' hC hi hns hm he => ?_, hdone⟩
  obtain ⟨D, d, a, b, t1, t2, r, rfl, hD⟩ := hit i v hi
  have hD5 := he _ _ hD
  refine Tuple_ (args_cons (Attribute_Name_ (nmL (m := m₅) hns hm ?_ rfl (by rfl) (by decide))))
  refine row_get0 (X.keeps he) (Y.keeps he) R (by omega) hD5 rfl fun h6 tk6 e6 => ?_
  refine args_cons (Attribute_Name_ (nmL (m := m₅) (hns.keeps e6) hm ?_ rfl (by rfl) (by decide)))
  refine row_get1 ((X.keeps he).keeps e6) ((Y.keeps he).keeps e6) R (by omega) (e6 _ _ hD5) rfl fun h7 tk7 e7 => ?_
  refine args_cons (Attribute_Name_ (nmL (m := m₅) ((hns.keeps e6).keeps e7) hm ?_ rfl (by rfl) (by decide)))
  refine row_get2 (((X.keeps he).keeps e6).keeps e7) (((Y.keeps he).keeps e6).keeps e7) R (by omega) (e7 _ _ (e6 _ _ hD5)) rfl fun h8 tk8 e8 => ?_
  refine args_nil (wpAny_newTuple ?_ (by show 3 ≤ sizeLine; rw [sizeLine_eq]; decide))
  have e9 : Ext s₅.heap (h8.push { cls := .type "tuple", data := .seq [Value.int a t1, .int b t2, .ref r].toArray }) := fun b o q => Heap.get?_push_of_some _ (e8 _ _ (e7 _ _ (e6 _ _ q)))
  exact ⟨⟨D, d, _, a, b, t1, t2, .ref r, rfl, e9 _ _ hD5, rfl, _, Heap.get?_push_size _ rfl, rfl, _, rfl⟩, keeps_of e9⟩
end
end Mine
end
section
open PySem PySem.W PySem.Calls PyProof.Rows PySem.SeqAt
namespace Mine
set_option maxRecDepth 100000
set_option maxHeartbeats 4000000

section
variable {prog : Program} {w : World} {A : Around} {E : Value → Shared → Prop} {env : Env} {s : Shared}

/-- a turn whose target is three local names and that has no test -/
theorem turns_three {scope : Scope} {cl : List (Str × Addr)} {x1 x2 x3 : Str} {p1 p2 p3 pt : Pos} {z : Nat} {elt : Expr} {wr : List Addr} {P : Nat → Value → Prop} {K : Heap → Nat → List Value → List Value → Prop} {s₂ : Shared}
    (hh : A.handled = none) (hkind : scope.kind = .function) (l1 : scope.names.lookup x1 = some .local) (l2 : scope.names.lookup x2 = some .local) (l3 : scope.names.lookup x3 = some .local) (n12 : x1 ≠ x2) (n13 : x1 ≠ x3) (n23 : x2 ≠ x3)
    (hP : ∀ i v (h : Heap), P i v → ExtB wr s₂.heap h → ∃ T a b c, v = .ref T ∧ IsTup h T #[a, b, c])
    (h : ∀ C i T a b c (s₅ : Shared) m₅ (E' : Value → Shared → Prop), s₂.heap.objs.size ≤ C → P i (.ref T) → IsTup s₅.heap T #[a, b, c] → s₅.heap.Ns C m₅ → m₅ x1 = some a → m₅ x2 = some b → m₅ x3 = some c → ExtB wr s₂.heap s₅.heap → s₂.toks ≤ s₅.toks →
      wpAny (model prog w) A (eval elt (compEnvC scope cl C env)) (fun y s₆ => (∀ vs ys, K s₅.heap s₅.toks vs ys → K s₆.heap s₆.toks (vs ++ [.ref T]) (ys ++ [y])) ∧ Keeps s₅ s₆) E' s₅) :
    Turns prog w A env scope cl (.Tuple [.Name x1 p1, .Name x2 p2, .Name x3 p3] z pt) [] elt wr P (fun _ => true) K s₂ := by
  intro C i v s₃ m₃ E' hC hPv hn hk htk
  obtain ⟨T, a, b, c, rfl, hT⟩ := hP i v _ hPv hk
  have hp : ((compEnvC scope cl C env).scope.kind == .class || ((compEnvC scope cl C env).scope.kind == .module && (compEnvC scope cl C env).locals != (compEnvC scope cl C env).globals)) = false := by simp [compEnvC, relabel, hkind]
  refine wpAny_assign_Tuple hh hT rfl rfl fun h1 he1 => ?_
  have hn1 : h1.Ns C m₃ := by
    obtain ⟨o, a1, a2, ho, a3⟩ := hn
    exact ⟨o, a1, a2, he1 _ _ (Nat.ne_of_lt (Heap.lt_size ho)) ho, a3⟩
  refine wpAny_assignInOrder_more (wpAny_assign_Name (wpAny_storeName_local (lookup_relabel_local l1) hn1 (fun h2 hn2 hs2 => ?_) hp))
  refine wpAny_assignInOrder_more (wpAny_assign_Name (wpAny_storeName_local (lookup_relabel_local l2) hn2 (fun h3 hn3 hs3 => ?_) hp))
  refine wpAny_assignInOrder_more (wpAny_assign_Name (wpAny_storeName_local (lookup_relabel_local l3) hn3 (fun h4 hn4 hs4 => ?_) hp))
  refine wpAny_assignInOrder_none ?_
  have e14 : ∀ b o, b ≠ C → s₃.heap.get? b = some o → h4.get? b = some o := fun b o hb q =>
    hs4.extBut b o hb (hs3.extBut b o hb (hs2.extBut b o hb (he1 b o (Nat.ne_of_lt (Heap.lt_size q)) q)))
  refine wpAny_tests_nil ⟨rfl, ⟨h4, _, _, rfl, fun b o hb q => e14 b o (fun q => hb (by simp [q])) q, hn4⟩, fun _ => ?_⟩
  have hTC : T ≠ C := by
    rintro rfl
    obtain ⟨o, ho, hc, n, hd⟩ := hT
    obtain ⟨o', es, ep, ho', hd', _⟩ := hn
    rw [ho] at ho'; cases ho'
    rw [hd] at hd'; cases hd'
  obtain ⟨o, ho, hT'⟩ := hT
  refine h C i T a b c _ _ E' hC hPv ⟨o, e14 _ _ hTC ho, hT'⟩ hn4 ?_ ?_ ?_ (fun d o hb e => ?_) (Nat.le_trans htk (by show s₃.toks ≤ s₃.toks + 1 + 1 + 1; omega))
  · simp [n12, n13]
  · simp [n23]
  · simp
  · exact e14 d o (fun q => absurd (Heap.lt_size e) (by rw [q]; exact Nat.not_lt.mpr hC)) (hk d o hb e)

/-- a comprehension over a list of triples -/
theorem comp_seqK3 {elt iter : Expr} {x1 x2 x3 : Str} {p1 p2 p3 pt : Pos} {z : Nat} {scope : Scope} {cl : List (Str × Addr)} {pos : Pos} {Q : Value → Shared → Prop} (K : Heap → Nat → List Value → List Value → Prop) (hK : ∀ h h' tk tk' vs ys, K h tk vs ys → TExt h h' → tk ≤ tk' → K h' tk' vs ys)
    (hh : A.handled = none) (hclos : closureFor scope env = pure cl) (hcell : ∀ y ∈ scope.names, y.2 ≠ .cell) (hkind : scope.kind = .function)
    (hnames : ∀ y ∈ scope.names, y.2 = .local → scope.names.lookup y.1 = some .local) (l1 : scope.names.lookup x1 = some .local) (l2 : scope.names.lookup x2 = some .local) (l3 : scope.names.lookup x3 = some .local) (n12 : x1 ≠ x2) (n13 : x1 ≠ x3) (n23 : x2 ≠ x3)
    (h : wpAny (model prog w) A (eval iter env) (fun xv s₁ => Halt (∃ l items, xv = .ref l ∧ s₁.heap.IsList l items ∧ items.size ≤ sizeLine ∧ K s₁.heap s₁.toks [] [] ∧
      (∀ (i : Nat) v, items[i]? = some v → ∃ T a b c, v = .ref T ∧ IsTup s₁.heap T #[a, b, c]) ∧
      (∀ C (i : Nat) T a b c (s₅ : Shared) m₅ (E' : Value → Shared → Prop), s₁.heap.objs.size ≤ C → items[i]? = some (.ref T) → IsTup s₅.heap T #[a, b, c] → s₅.heap.Ns C m₅ → m₅ x1 = some a → m₅ x2 = some b → m₅ x3 = some c → Ext s₁.heap s₅.heap → s₁.toks ≤ s₅.toks →
        wpAny (model prog w) A (eval elt (compEnvC scope cl C env)) (fun y s₆ => (∀ vs ys, K s₅.heap s₅.toks vs ys → K s₆.heap s₆.toks (vs ++ [.ref T]) (ys ++ [y])) ∧ Keeps s₅ s₆) E' s₅) ∧
      (∀ D h' tk ys, s₁.heap.get? D = none → h'.PlainList D ys → K h' tk items.toList ys.toList → Ext s₁.heap h' → Q (.ref D) { s₁ with heap := h', toks := tk }))) E s)
    (hs : ∀ x, foldedSetIterable iter env x = pure x := by intro _; rfl) :
    wpAny (model prog w) A (eval (.ListComp elt [⟨.Tuple [.Name x1 p1, .Name x2 p2, .Name x3 p3] z pt, iter, [], 0⟩] scope pos) env) Q E s := by
  refine comp_eval (fun _ => true) K hK hclos hcell hkind hnames (wpAny_mono h (fun xv s₁ h₁ => ?_) fun _ _ e => e) hs
  obtain ⟨l, items, rfl, hl, hsz, hK0, htup, hel, hdone⟩ := h₁
  refine over_list hh hl fun I h₂ _ O => ?_
  refine ⟨I, [I, l], [I], items.size, (fun i v => items[i]? = some v), (fun i h => h.IsListIter I l i ∧ h.IsList l items), rfl, O.W, hsz, O.st, O.fp, hK _ _ _ _ _ _ hK0 (Ext.text O.ext) (Nat.le_refl _), O.wr, fun i v s Q E st hv hq => ?_, ?_, ?_⟩
  · obtain ⟨T, a, b, c, rfl, _⟩ := htup i v hv
    exact wpAny_letOwnedTupleGo_listiter st.1 hq
  · refine turns_three hh hkind l1 l2 l3 n12 n13 n23 (fun i v h hv he => ?_) fun C i T a b c s₅ m₅ E' hC hP hT hn hm1 hm2 hm3 he ht => hel C i T a b c s₅ m₅ E' (Nat.le_trans O.size hC) hP hT hn hm1 hm2 hm3 (O.back he) ht
    obtain ⟨T, a, b, c, e, hT⟩ := htup i v hv
    exact ⟨T, a, b, c, e, isTup_ext hT (O.back he)⟩
  · intro D h' tk ys vs hD hpl hlen hP hFs hk
    have hv : vs = items.toList := list_of_get (by simpa using hlen) (fun j v e => by simpa using hP j v e)
    rw [List.filter_eq_self.mpr (by simp), hv] at hFs
    refine hdone D h' tk ys ?_ hpl hFs (O.back hk)
    cases e : s₁.heap.get? D with
    | none => rfl
    | some o => rw [O.ext D o e] at hD; cases hD
end
end Mine
end
section
open PySem PySem.W PySem.Calls PyProof.Rows PySem.SeqAt
namespace Mine
set_option maxRecDepth 100000
set_option maxHeartbeats 4000000

/-- the triple made of what is due -/
noncomputable def DF (f : Sp → Tl) (G : (Nat → UInt64) × (Nat → UInt64)) (tk : Nat) (h : Heap) (v y : Value) : Prop := ∃ (T Y : Addr) (a b : Int) (t1 t2 : Tok) (sv tv : Value) (q : Sp), v = .ref T ∧ IsTup h T #[.int a t1, .int b t2, sv] ∧ SpotV h sv q ∧ y = .ref Y ∧ IsTup h Y #[.int a t1, .int b t2, tv] ∧ TelB G tk h tv (f q)
theorem DF.keep {f : Sp → Tl} {G : (Nat → UInt64) × (Nat → UInt64)} {tk tk' : Nat} {h h' : Heap} {v y : Value} (x : DF f G tk h v y) (e : TExt h h') (ht : tk ≤ tk') : DF f G tk' h' v y := by
  obtain ⟨T, Y, a, b, t1, t2, sv, tv, q, hv, hT, hs, hy, hY, ht2⟩ := x
  exact ⟨T, Y, a, b, t1, t2, sv, tv, q, hv, isTup_text hT e, hs.text e, hy, isTup_text hY e, ht2.keep e ht⟩
theorem DF.grow {f : Sp → Tl} {G : (Nat → UInt64) × (Nat → UInt64)} {tk tk' : Nat} {h : Heap} {v y : Value} {c : Tl} (x : DF f G tk h v y) (ht : tk ≤ tk') : DF f ((fun u => if tk' < u then c.1 else G.1 u), (fun u => if tk' < u then c.2 else G.2 u)) tk h v y := by
  obtain ⟨T, Y, a, b, t1, t2, sv, tv, q, hv, hT, hs, hy, hY, ht2⟩ := x
  exact ⟨T, Y, a, b, t1, t2, sv, tv, q, hv, hT, hs, hy, hY, ht2.grow ht⟩
noncomputable def KD (f : Sp → Tl) (vs0 ys0 : List Value) (h : Heap) (tk : Nat) (vs ys : List Value) : Prop := ∃ G, Paired (TR f G tk h) vs0 ys0 ∧ Paired (DF f G tk h) vs ys
theorem KD.keep {f : Sp → Tl} {vs0 ys0 : List Value} : ∀ h h' tk tk' vs ys, KD f vs0 ys0 h tk vs ys → TExt h h' → tk ≤ tk' → KD f vs0 ys0 h' tk' vs ys :=
  fun _ _ _ _ _ _ ⟨G, P, P'⟩ e ht => ⟨G, paired_mono (fun _ _ z => TR.keep z e ht) P, paired_mono (fun _ _ z => DF.keep z e ht) P'⟩

noncomputable abbrev scDue : Scope := { kind := .function, names := [(".0", .local), ("here", .local), ("there", .local), ("spot", .local), ("tell", .free)], isGenerator := false, isCoroutine := false }
theorem clos_due {env : Env} {a b c d y : Str} {cc : Addr} {g1 g2 : Bool} {more : List (Str × Const)} (hc : env.cells.lookup y = some cc) :
    closureFor { kind := .function, names := [(a, .local), (b, .local), (c, .local), (d, .local), (y, .free)], isGenerator := g1, isCoroutine := g2, more := more } env = pure [(y, cc)] := by
  unfold closureFor
  simp only [List.forIn_cons, List.forIn_nil]
  unfold cellOf
  rw [hc]
  rfl

section
variable {w : World} {mean : ExcName → Option Value} {mg mb : Str → Option Value} {dp un : Nat} {fr : Option (List Env)} {gd : Option (List Code)} {E : Value → Shared → Prop} {s : Shared} {Q : Value → Shared → Prop} {env : Env}

theorem due_comp {iter : Expr} {p1 p2 p3 p4 p5 p6 p7 p8 p9 p10 p11 : Pos} {z zz : Nat} {c at' : Addr} {f : Sp → Tl} {Ok : Sp → Prop} (vs0 ys0 : List Value) (T : Tells w mean mg mb at' f Ok) (hk : env.scope.kind = .function) (k1 : env.kindOf "tell" = some .cell) (l1 : env.cells.lookup ("tell" : Str) = some c) (R : dp + 2 < recursionLimit)
    (h : wpAny (model PySem.Challenge.rw_ox0037_01.row.prog w) (AA dp un fr gd) (eval iter env) (fun xv s₁ => Halt (∃ l items, xv = .ref l ∧ s₁.heap.IsList l items ∧ items.size ≤ 1000 ∧ (Mine.hd.heap_39 w.params).In s₁.heap ∧ Top Mine.hd.view_39 LS mean mg mb s₁.heap ∧ s₁.heap.IsCell c (some (.ref at')) ∧
      (∀ (i : Nat) v, items[i]? = some v → ∃ (D : Addr) (a b : Int) (t1 t2 : Tok) (sv : Value) (q : Sp), v = .ref D ∧ IsTup s₁.heap D #[.int a t1, .int b t2, sv] ∧ SpotV s₁.heap sv q ∧ Ok q) ∧ KD f vs0 ys0 s₁.heap s₁.toks [] [] ∧
      (∀ D h' tk ys, s₁.heap.get? D = none → h'.PlainList D ys → KD f vs0 ys0 h' tk items.toList ys.toList → Ext s₁.heap h' → Q (.ref D) { s₁ with heap := h', toks := tk }))) E s)
    (hs : ∀ x, foldedSetIterable iter env x = pure x := by intro _; rfl) :
    wpAny (model PySem.Challenge.rw_ox0037_01.row.prog w) (AA dp un fr gd) (eval (.ListComp (.Tuple [.Name "here" p1, .Name "there" p2, .Call (.Name "tell" p3) [.Name "spot" p4] [] p5] z p6) [⟨.Tuple [.Name "here" p7, .Name "there" p8, .Name "spot" p9] zz p10, iter, [], 0⟩] scDue p11) env) Q E s := by
  refine comp_seqK3 (KD f vs0 ys0) KD.keep rfl (clos_due l1) (by decide) rfl (by decide) (by decide) (by decide) (by decide) (by decide) (by decide) (by decide) (wpAny_mono h (fun xv s₁ h₁ => ?_) fun _ _ e => e) hs
  obtain ⟨l, items, rfl, hl, hz, X, Y, hc, hit, hK0, hdone⟩ := h₁
  refine Halt.mk ⟨l, items, rfl, hl, by rw [sizeLine_eq]; omega, hK0, fun i v hi => ?_, fun C i D a b cv s₅ m₅ E' hC hi hT hns hm1 hm2 hm3 he ht => ?_, hdone⟩
  · obtain ⟨D, a, b, t1, t2, sv, q, hv, hT, _⟩ := hit i v hi
    exact ⟨D, _, _, _, hv, hT⟩
  obtain ⟨D', a', b', t1, t2, sv, q, hv, hT', hsv, ok⟩ := hit i _ hi
  injection hv with hv
  subst hv
  have hD5 := isTup_ext hT' he
  have heq : a = .int a' t1 ∧ b = .int b' t2 ∧ cv = sv := by
    obtain ⟨o, ho, hc1, n, hd⟩ := hT
    obtain ⟨o', ho', hc1', n', hd'⟩ := hD5
    rw [ho] at ho'; cases ho'
    rw [hd] at hd'
    injection hd' with e1 e2
    have e1 := congrArg Array.toList e1
    simp at e1
    exact e1
  obtain ⟨rfl, rfl, rfl⟩ := heq
  obtain ⟨a3, u1, u2, u3, rfl, hS⟩ := hsv
  have hS5 := isTup_ext hS he
  refine Tuple_ (args_cons (nmL (m := m₅) hns hm1 ?_ rfl (by rfl) (by decide)))
  refine args_cons (nmL (m := m₅) hns hm2 ?_ rfl (by rfl) (by decide))
  refine args_cons (tell_elt (m := m₅) (c := c) (q := q) T rfl (kindOf_relabel (by decide) hk k1) (by rfl) (by rfl) (X.keeps he) (Y.keeps he) R (isCell_ext hc he) hns hm3 hS5 ok ?_)
  intro a4 h6 tk6 v1 v2 e6 hT6 g1 g2 g3 g4 hf
  refine args_nil (wpAny_newTuple ?_ (by show 3 ≤ sizeLine; rw [sizeLine_eq]; decide))
  have e9 : Ext s₅.heap (h6.push { cls := .type "tuple", data := .seq [Value.int a' t1, .int b' t2, .ref a4].toArray }) := fun b o q => Heap.get?_push_of_some _ (e6 _ _ q)
  refine ⟨fun vs ys x => ?_, keeps_of e9⟩
  obtain ⟨G, P, P'⟩ := x
  refine ⟨((fun u => if s₅.toks < u then (f q).1 else G.1 u), (fun u => if s₅.toks < u then (f q).2 else G.2 u)), paired_mono (fun _ _ z => (TR.grow (c := f q) z (Nat.le_refl _)).keep (Ext.text e9) (by dsimp only; omega)) P, ?_⟩
  refine Paired.snoc (paired_mono (fun _ _ z => (DF.grow (c := f q) z (Nat.le_refl _)).keep (Ext.text e9) (by dsimp only; omega)) P') ⟨D, _, a', b', t1, t2, .ref a3, .ref a4, q, rfl, isTup_ext hD5 e9, ⟨a3, u1, u2, u3, rfl, isTup_ext hS5 e9⟩, rfl, ⟨_, Heap.get?_push_size _ rfl, rfl, _, rfl⟩, a4, v1, v2, rfl, isTup_ext hT6 (fun b o q => Heap.get?_push_of_some _ q), by omega, by omega, g2, g4, ?_, ?_⟩
  · show (if s₅.toks < v1 then _ else _) = _
    rw [if_pos g1]
  · show (if s₅.toks < v2 then _ else _) = _
    rw [if_pos g3]
end
end Mine
end
section
open PySem PySem.W PySem.Calls PyProof.Rows PySem.SeqAt
namespace Mine
set_option maxRecDepth 100000
set_option maxHeartbeats 4000000

section
variable {env : Env} {prog : Program} {w : World} {A : Around} {E : Value → Shared → Prop} {s : Shared} {h₀ : Heap} {m : Str → Option Value} {news : List (Addr × Obj)}
/-- a store into the frame, with what it leaves -/
theorem wrS {x : Str} {v : Value} {Q : Unit → Shared → Prop} (hk : env.scope.kind = .function) (l : env.kindOf x = some .local) (F : Fr h₀ env.locals s.heap m) (N : News h₀ env.locals s.heap news)
    (h : ∀ h', Fr h₀ env.locals h' (fun y => if y = x then some v else m y) → News h₀ env.locals h' news → TExt s.heap h' → Q () { s with heap := h', toks := s.toks + 1 }) :
    wpAny (model prog w) A (storeName env x v) Q E s :=
  wpAny_storeName_local l F.ns (fun h' hn hs => h h' (F.set hn hs) (newsL N hs) (ExtB.text (sameBut_extB hs) fun b hb o e => by
    obtain ⟨o', es, ep, ho, hd, _⟩ := F.ns
    rw [List.mem_singleton.mp hb, ho] at e; cases e
    exact imm_ne_dict hd)) (by rw [hk]; rfl)
end

/-- the told spots, by the spots themselves -/
noncomputable def TelP (f : Sp → Tl) (G : (Nat → UInt64) × (Nat → UInt64)) (tk : Nat) (h : Heap) (y : Value) (q : Sp) : Prop := TelB G tk h y (f q)
theorem told_spots {f : Sp → Tl} {G : (Nat → UInt64) × (Nat → UInt64)} {tk : Nat} {h : Heap} : ∀ {vs ys : List Value} {qs : List Sp}, Paired (TR f G tk h) vs ys → Paired (SpotV h) vs qs → Paired (TelP f G tk h) ys qs
  | _, _, _, .nil, .nil => .nil
  | _, _, _, .cons ⟨q, a, b⟩ r, .cons x r' => .cons (by rw [x.uniq a]; exact b) (told_spots r r')
theorem paired_split {α β : Type} {F : α → β → Prop} : ∀ {l₁ l₃ : List α} {l₂ l₄ : List β}, Paired F (l₁ ++ l₃) (l₂ ++ l₄) → l₁.length = l₂.length → Paired F l₁ l₂ ∧ Paired F l₃ l₄
  | [], _, [], _, p, _ => ⟨.nil, p⟩
  | _ :: _, _, _ :: _, _, .cons x r, h => by
    obtain ⟨a, b⟩ := paired_split r (by simpa using h)
    exact ⟨.cons x a, b⟩

noncomputable def kf (f : Sp → Tl) (qs : List Sp) (p : Nat) : Tl := f (qs.getD p (0, 0, 0))
theorem telP_at {f : Sp → Tl} {G : (Nat → UInt64) × (Nat → UInt64)} {tk : Nat} {h : Heap} {ys : Array Value} {qs : List Sp} (P : Paired (TelP f G tk h) ys.toList qs) {p : Nat} (hp : p < ys.size) : TelB G tk h (ys.getD p .none) (kf f qs p) := by
  have hlen : ys.size = qs.length := by have := P.length; simpa using this
  have h1 : ys.toList[p]? = some (ys.getD p .none) := by simp [Array.getD, hp]
  have h2 : qs[p]? = some (qs.getD p (0, 0, 0)) := by
    rw [List.getD_eq_getElem?_getD, List.getElem?_eq_getElem (by omega)]; rfl
  exact paired_get P p _ _ h1 h2

theorem told_keyed {w : World} {f : Sp → Tl} {G : (Nat → UInt64) × (Nat → UInt64)} {tk un : Nat} {h : Heap} {y1 y2 : Array Value} {q1 q2 : List Sp} (X : (Mine.hd.heap_39 w.params).In h) (P1 : Paired (TelP f G tk h) y1.toList q1) (P2 : Paired (TelP f G tk h) y2.toList q2)
    (hl : ∀ q ∈ q1 ++ q2, ∀ q' ∈ q1 ++ q2, Like (f q) (f q')) (hu : un < cLine) : Keyed h un y1 y2 (kf f q1) (kf f q2) := by
  have l1 : y1.size = q1.length := by have := P1.length; simpa using this
  have l2 : y2.size = q2.length := by have := P2.length; simpa using this
  have m1 : ∀ p, p < y1.size → ∃ q ∈ q1 ++ q2, kf f q1 p = f q := fun p hp => ⟨q1[p]'(by omega), by simp, by unfold kf; rw [List.getD_eq_getElem?_getD, List.getElem?_eq_getElem (by omega)]; rfl⟩
  have m2 : ∀ p, p < y2.size → ∃ q ∈ q1 ++ q2, kf f q2 p = f q := fun p hp => ⟨q2[p]'(by omega), by simp, by unfold kf; rw [List.getD_eq_getElem?_getD, List.getElem?_eq_getElem (by omega)]; rfl⟩
  have like : ∀ {b b' : Tl}, (∃ q ∈ q1 ++ q2, b = f q) → (∃ q ∈ q1 ++ q2, b' = f q) → Like b b' := by
    rintro b b' ⟨q, hq, rfl⟩ ⟨q', hq', rfl⟩
    exact hl q hq q' hq'
  refine ⟨fun p hp => ?_, fun p hp => ?_, fun A s ha he p q hp hq => ?_, fun A s ha he p q hp hq => ?_, fun A s ha he p q hp hq => ?_⟩
  · obtain ⟨a, u1, u2, hy, hT, _⟩ := telP_at P1 hp
    exact ⟨a, _, hy, hT⟩
  · obtain ⟨a, u1, u2, hy, hT, _⟩ := telP_at P2 hp
    exact ⟨a, _, hy, hT⟩
  · exact rcTel ((telP_at P1 hp).keep (Ext.text he) (Nat.le_refl _)) ((telP_at P1 hq).keep (Ext.text he) (Nat.le_refl _)) (like (m1 p hp) (m1 q hq)) (by omega) (booked (X.keeps he))
  · exact rcTel ((telP_at P2 hp).keep (Ext.text he) (Nat.le_refl _)) ((telP_at P1 hq).keep (Ext.text he) (Nat.le_refl _)) (like (m2 p hp) (m1 q hq)) (by omega) (booked (X.keeps he))
  · exact rcTel ((telP_at P2 hp).keep (Ext.text he) (Nat.le_refl _)) ((telP_at P2 hq).keep (Ext.text he) (Nat.le_refl _)) (like (m2 p hp) (m2 q hq)) (by omega) (booked (X.keeps he))

/-- the rows, by the spots -/
noncomputable def rowsQ1 (f : Sp → Tl) (q1 q2 : List Sp) (m n i : Nat) : List (Nat × Nat × Sp) :=
  (List.range i).filterMap fun p => if seen (kf f q1) p (kf f q1 p) = false ∧ cnt (kf f q1) m (kf f q1 p) ≠ cnt (kf f q2) n (kf f q1 p) then some (cnt (kf f q1) m (kf f q1 p), cnt (kf f q2) n (kf f q1 p), q1.getD p (0, 0, 0)) else none
noncomputable def rowsQ2 (f : Sp → Tl) (q1 q2 : List Sp) (m n i : Nat) : List (Nat × Nat × Sp) :=
  (List.range i).filterMap fun p => if seen (kf f q1) m (kf f q2 p) = false ∧ seen (kf f q2) p (kf f q2 p) = false then some (0, cnt (kf f q2) n (kf f q2 p), q2.getD p (0, 0, 0)) else none

noncomputable def SpecQ (f : Sp → Tl) (G : (Nat → UInt64) × (Nat → UInt64)) (tk : Nat) (h : Heap) (a : Spec) (b : Nat × Nat × Sp) : Prop := a.1 = b.1 ∧ a.2.1 = b.2.1 ∧ TelB G tk h a.2.2 (f b.2.2)

theorem rowsQ1_rel {f : Sp → Tl} {G : (Nat → UInt64) × (Nat → UInt64)} {tk : Nat} {h : Heap} {y1 : Array Value} {q1 q2 : List Sp} {m n : Nat} (P1 : Paired (TelP f G tk h) y1.toList q1) : ∀ i, i ≤ y1.size → Paired (SpecQ f G tk h) (rows1 (kf f q1) (kf f q2) m n y1 i) (rowsQ1 f q1 q2 m n i)
  | 0, _ => .nil
  | i + 1, hi => by
    rw [rows1_succ]
    unfold rowsQ1
    rw [List.range_succ, List.filterMap_append]
    refine paired_app (rowsQ1_rel P1 i (by omega)) ?_
    by_cases c : seen (kf f q1) i (kf f q1 i) = false ∧ cnt (kf f q1) m (kf f q1 i) ≠ cnt (kf f q2) n (kf f q1 i)
    · rw [if_pos c, List.filterMap_cons, if_pos c]
      exact .cons ⟨rfl, rfl, telP_at P1 (by omega)⟩ .nil
    · rw [if_neg c, List.filterMap_cons, if_neg c]
      exact .nil
theorem rowsQ2_rel {f : Sp → Tl} {G : (Nat → UInt64) × (Nat → UInt64)} {tk : Nat} {h : Heap} {y2 : Array Value} {q1 q2 : List Sp} {m n : Nat} (P2 : Paired (TelP f G tk h) y2.toList q2) : ∀ i, i ≤ y2.size → Paired (SpecQ f G tk h) (rows2 (kf f q1) (kf f q2) m n y2 i) (rowsQ2 f q1 q2 m n i)
  | 0, _ => .nil
  | i + 1, hi => by
    rw [rows2_succ]
    unfold rowsQ2
    rw [List.range_succ, List.filterMap_append]
    refine paired_app (rowsQ2_rel P2 i (by omega)) ?_
    by_cases c : seen (kf f q1) m (kf f q2 i) = false ∧ seen (kf f q2) i (kf f q2 i) = false
    · rw [if_pos c, List.filterMap_cons, if_pos c]
      exact .cons ⟨rfl, rfl, telP_at P2 (by omega)⟩ .nil
    · rw [if_neg c, List.filterMap_cons, if_neg c]
      exact .nil

section
variable {A : Around} {s : Shared}
theorem eqTriple {G : (Nat → UInt64) × (Nat → UInt64)} {tk : Nat} {Y Y' : Addr} {a b : Int} {t1 t2 u1 u2 : Tok} {tv tv' : Value} {c : Tl} (hY : IsTup s.heap Y #[.int a t1, .int b t2, tv]) (hY' : IsTup s.heap Y' #[.int a u1, .int b u2, tv'])
    (x : TelB G tk s.heap tv c) (y : TelB G tk s.heap tv' c) (hl : Like c c) (hu : A.units + 10 < cLine) (hb : NoneBooked s.heap) : EqAt A s (.ref Y) (.ref Y') true := by
  by_cases e : Y = Y'
  · subst e; exact EqAt.same _
  · have := RcAt.tuples (A := A) (s := s) (e := fun _ => true) hY hY' (by omega) (fun j h1 h2 => by
      have h1' : j < 3 := h1
      match j, h1' with
      | 0, _ => simpa using EqAt.int_int (A := A.in1) (s := s) a t1 a u1
      | 1, _ => simpa using EqAt.int_int (A := A.in1) (s := s) b t2 b u2
      | 2, _ => simpa using eqTel (A := A.in1) (s := s) x y hl (by show A.units + 1 < cLine; omega) hb)
    have hh : ((List.range (min (#[Value.int a t1, .int b t2, tv] : Array Value).size (#[Value.int a u1, .int b u2, tv'] : Array Value).size)).all (fun _ => true) && (#[Value.int a t1, .int b t2, tv] : Array Value).size == (#[Value.int a u1, .int b u2, tv'] : Array Value).size) = true := by simp
    rw [hh] at this
    exact EqAt.of_refs e this
end
end Mine
end
section
open PySem PySem.W PySem.Calls PyProof.Rows PySem.SeqAt
namespace Mine
set_option maxRecDepth 100000
set_option maxHeartbeats 4000000

theorem tri_inj {a b c a' b' c' : Value} (h : (#[a, b, c] : Array Value) = #[a', b', c']) : a = a' ∧ b = b' ∧ c = c' := by
  have e1 := congrArg Array.toList h
  simp at e1
  exact e1
theorem tup_uniq {h : Heap} {T : Addr} {a b c a' b' c' : Value} (x : IsTup h T #[a, b, c]) (y : IsTup h T #[a', b', c']) : a = a' ∧ b = b' ∧ c = c' := by
  obtain ⟨o, ho, hc, n, hd⟩ := x
  obtain ⟨o', ho', hc', n', hd'⟩ := y
  rw [ho] at ho'; cases ho'
  rw [hd] at hd'
  injection hd' with e1 e2
  exact tri_inj e1

section
variable {A : Around} {s : Shared}
theorem eqRow {f : Sp → Tl} {G : (Nat → UInt64) × (Nat → UInt64)} {tk : Nat} {h0 : Heap} {v y v' y' : Value} {sp : Spec} {r : Nat × Nat × Sp} (x1 : RwF s.heap v y) (x2 : RowV s.heap v sp) (x3 : SpecQ f G tk s.heap sp r) (x4 : DueV h0 s.heap v' r) (he : TExt h0 s.heap)
    (x5 : DF f G tk s.heap v' y') (hl : Like (f r.2.2) (f r.2.2)) (hu : A.units + 10 < cLine) (hb : NoneBooked s.heap) : EqAt A s y y' true := by
  obtain ⟨D, d, Y, a, b, t1, t2, tv, rfl, hD, rfl, hY⟩ := x1
  obtain ⟨D', d', t1', t2', hv, hD'⟩ := x2
  injection hv with hv
  subst hv
  rw [hD] at hD'
  have hr := Option.some.inj hD'
  have hr2 := congrArg Obj.data hr
  dsimp only at hr2
  injection hr2 with hr3 _
  obtain ⟨e1, e2, e3⟩ := tri_inj hr3
  injection e1 with e1 e1'
  injection e2 with e2 e2'
  obtain ⟨s1, s2, s3⟩ := x3
  obtain ⟨T, v1, v2, sv, rfl, hT, hsv⟩ := x4
  obtain ⟨T', Y', a', b', w1, w2, sv', tv', q, hv', hT', hs', rfl, hY', ht'⟩ := x5
  injection hv' with hv'
  subst hv'
  obtain ⟨g1, g2, g3⟩ := tup_uniq hT hT'
  injection g1 with g1 g1'
  injection g2 with g2 g2'
  subst g3
  have hq : r.2.2 = q := (hsv.text he).uniq hs'
  subst hq
  have ea : a = a' := by rw [e1, s1]; exact g1
  have eb : b = b' := by rw [e2, s2]; exact g2
  subst ea
  subst eb
  rw [e3] at hY
  exact eqTriple hY hY' s3 ht' hl hu hb
theorem eqRows {f : Sp → Tl} {G : (Nat → UInt64) × (Nat → UInt64)} {tk : Nat} {h0 : Heap} (he : TExt h0 s.heap) (hu : A.units + 10 < cLine) (hb : NoneBooked s.heap) : ∀ {rs yl ds yr : List Value} {SP : List Spec} {RQ : List (Nat × Nat × Sp)}, (∀ r ∈ RQ, Like (f r.2.2) (f r.2.2)) → Paired (RwF s.heap) rs yl → Paired (RowV s.heap) rs SP → Paired (SpecQ f G tk s.heap) SP RQ →
    Paired (DueV h0 s.heap) ds RQ → Paired (DF f G tk s.heap) ds yr → Paired (fun y y' => EqAt A s y y' true) yl yr
  | _, _, _, _, _, _, _, .nil, .nil, .nil, .nil, .nil => .nil
  | _, _, _, _, _, _, hl, .cons x1 r1, .cons x2 r2, .cons x3 r3, .cons x4 r4, .cons x5 r5 =>
    .cons (eqRow x1 x2 x3 x4 he x5 (hl _ List.mem_cons_self) hu hb) (eqRows he hu hb (fun r hr => hl r (List.mem_cons_of_mem _ hr)) r1 r2 r3 r4 r5)
end
theorem RowV.text {h h' : Heap} {v : Value} {q : Spec} (x : RowV h v q) (e : TExt h h') : RowV h' v q := by
  obtain ⟨D, d, t1, t2, hv, hD⟩ := x
  exact ⟨D, d, t1, t2, hv, e _ _ ⟨⟨_, _, rfl⟩, .inr rfl⟩ hD⟩
theorem DueV.text {h0 h0' h h' : Heap} {v : Value} {q : Nat × Nat × Sp} (x : DueV h0 h v q) (e0 : TExt h0 h0') (e : TExt h h') : DueV h0' h' v q := by
  obtain ⟨D, t1, t2, sv, hv, hT, hs⟩ := x
  exact ⟨D, t1, t2, sv, hv, isTup_text hT e, hs.text e0⟩
theorem SpecQ.keep {f : Sp → Tl} {G : (Nat → UInt64) × (Nat → UInt64)} {tk tk' : Nat} {h h' : Heap} {a : Spec} {b : Nat × Nat × Sp} (x : SpecQ f G tk h a b) (e : TExt h h') (ht : tk ≤ tk') : SpecQ f G tk' h' a b := ⟨x.1, x.2.1, x.2.2.keep e ht⟩
end Mine
end
section
open PySem PySem.W PySem.Calls PyProof.Rows
namespace Mine
set_option maxRecDepth 100000
set_option maxHeartbeats 8000000

theorem rows_call {w : World} {mean : ExcName → Option Value} {mg mb : Str → Option Value} {dp un : Nat} {fr : Option (List Env)} {gd : Option (List Code)} {E : Value → Shared → Prop} {s : Shared} {Q : Value → Shared → Prop} {at' la lb ld : Addr} {xs ys ds : Array Value} {q1 q2 : List Sp} {rd : List (Nat × Nat × Sp)} {f : Sp → Tl} {Ok : Sp → Prop} (TT : Tells w mean mg mb at' f Ok)
    (X : (Mine.hd.heap_39 w.params).In s.heap) (T : Top Mine.hd.view_39 LS mean mg mb s.heap) (R : dp + 30 < recursionLimit) (U : un + 300 < cLine) (hl : s.heap.IsList la xs) (hl2 : s.heap.IsList lb ys) (hl3 : s.heap.IsList ld ds) (hlen : xs.size ≤ 100) (hlen2 : ys.size ≤ 100) (hlen3 : ds.size ≤ 200)
    (P1 : Paired (SpotV s.heap) xs.toList q1) (P2 : Paired (SpotV s.heap) ys.toList q2) (P3 : Paired (DueV s.heap s.heap) ds.toList rd)
    (ok1 : ∀ q ∈ q1, Ok q) (ok2 : ∀ q ∈ q2, Ok q) (ok3 : ∀ r ∈ rd, Ok r.2.2) (hlike : ∀ q ∈ q1 ++ q2, ∀ q' ∈ q1 ++ q2, Like (f q) (f q')) (hmem : ∀ r ∈ rd, r.2.2 ∈ q1 ++ q2)
    (hrd : rowsQ1 f q1 q2 xs.size ys.size xs.size ++ rowsQ2 f q1 q2 xs.size ys.size ys.size = rd)
    (hQ : ∀ h' tk', Ext s.heap h' → Q (.bool true) { s with heap := h', toks := tk' }) :
    wpAny (model PySem.Challenge.rw_ox0037_01.row.prog w) (AA dp un fr gd) (call (.ref 202) [.ref at', .ref la, .ref lb, .ref ld]) Q E s := by
  w_on
  w_strict (
  revert X T R hQ
  k_fill
  intro X T R hQ
  have hR : (AA dp un fr gd).depth < recursionLimit := by dsimp only; omega
  refine' enterC (binds := [("tell", .ref at'), ("first", .ref la), ("second", .ref lb), ("due", .ref ld)]) X T ?ho ?hcd ?hroom ?hb ?hl ?hn ?_ ?c2 ?c3 ?c4
  case ho => k_is
  case hcd => k_is
  case hroom => exact hR
  case hb => exact BindsTo.of_eq rfl
  case hl => exact rfl
  case hn => decide +kernel
  case c2 => exact rfl
  case c3 => exact rfl
  case c4 => exact rfl
  intro L' h' tk' cells' F' N' Y'
  have hY := CellsAre.one Y'; obtain ⟨o1', hE', d1'⟩ := hY; subst hE'; clear Y'
  (try dsimp only)
  (try k_fold)
  repeat' (first
      | (k_unfold; (try dsimp only))
      | (k_end; kc_close)
      | ((with_reducible show wpAny _ _ (execs [] _) _ _ _); (fail_if_success (fail_if_success k_gentoks)); refine gen_tk ?_; intro zt zT; (try dsimp only [List.length_cons, List.length_nil] at zT))
      | ((with_reducible show wpAny _ _ (execs (_ :: _) _) _ _ _); (fail_if_success (fail_if_success k_gentoks)); refine gen_tk ?_; intro zt zT; (try dsimp only [List.length_cons, List.length_nil] at zT))
      | ((with_reducible show wpAny _ _ (call (Value.ref 145) _) _ _ _); refine stopW ?_)
      | (with_reducible ((with_reducible show wpAny _ _ (storeName _ _ _) _ _ _); k_here; (rename News _ _ _ _ => zN); (rename Fr _ _ _ _ => zF); refine wrS rfl rfl zF zN ?_; clear zN zF; intro _ _ _ _))
      | (with_reducible ((with_reducible show wpAny _ _ (compareOp .Eq (Value.ref _) (Value.ref _)) _ _ _); refine stopW ?_))
      | (with_reducible ((with_reducible show wpAny _ _ (eval (Expr.ListComp _ _ _ _) _) _ _ _); refine stopW ?_))
      | walk1
      | (dsimp only; walk1)
      | (leave1; (try dsimp only))
      | fail "no step")
  refine Halt.mk (told_comp (c := L' + 1) [] [] TT rfl rfl rfl (by show dp + 1 + 2 < recursionLimit; omega) ?_)
  repeat' (first
      | (k_unfold; (try dsimp only))
      | (k_end; kc_close)
      | ((with_reducible show wpAny _ _ (execs [] _) _ _ _); (fail_if_success (fail_if_success k_gentoks)); refine gen_tk ?_; intro zt zT; (try dsimp only [List.length_cons, List.length_nil] at zT))
      | ((with_reducible show wpAny _ _ (execs (_ :: _) _) _ _ _); (fail_if_success (fail_if_success k_gentoks)); refine gen_tk ?_; intro zt zT; (try dsimp only [List.length_cons, List.length_nil] at zT))
      | ((with_reducible show wpAny _ _ (call (Value.ref 145) _) _ _ _); refine stopW ?_)
      | (with_reducible ((with_reducible show wpAny _ _ (storeName _ _ _) _ _ _); k_here; (rename News _ _ _ _ => zN); (rename Fr _ _ _ _ => zF); refine wrS rfl rfl zF zN ?_; clear zN zF; intro _ _ _ _))
      | (with_reducible ((with_reducible show wpAny _ _ (compareOp .Eq (Value.ref _) (Value.ref _)) _ _ _); refine stopW ?_))
      | (with_reducible ((with_reducible show wpAny _ _ (eval (Expr.ListComp _ _ _ _) _) _ _ _); refine stopW ?_))
      | walk1
      | (dsimp only; walk1)
      | (leave1; (try dsimp only))
      | fail "no step")
  (rename Fr _ _ _ _ => F9); (rename News _ _ _ _ => N9)
  refine Halt.mk ⟨la, xs, q1, rfl, hl.at (fun o e => F9.keep _ o e), by omega, X.keeps F9.keep, T.keeps F9.keep, ⟨_, News.get N9 (by k_mem), d1'⟩, paired_mono (fun _ _ z => SpotV.text z (Ext.text F9.keep)) P1, ok1, ⟨(fun _ => 0, fun _ => 0), .nil⟩, ?_⟩
  intro D1 h1 tk1 ys1 hD1 hpl1 hK1 he1
  obtain ⟨nn1, hpl1⟩ := hpl1
  have F10 := frExt F9 he1
  have N10 := newsAdd F9 N9 hD1 hpl1 he1
  clear F9 N9
  (try dsimp only)
  repeat' (first
      | (k_unfold; (try dsimp only))
      | (k_end; kc_close)
      | ((with_reducible show wpAny _ _ (execs [] _) _ _ _); (fail_if_success (fail_if_success k_gentoks)); refine gen_tk ?_; intro zt zT; (try dsimp only [List.length_cons, List.length_nil] at zT))
      | ((with_reducible show wpAny _ _ (execs (_ :: _) _) _ _ _); (fail_if_success (fail_if_success k_gentoks)); refine gen_tk ?_; intro zt zT; (try dsimp only [List.length_cons, List.length_nil] at zT))
      | ((with_reducible show wpAny _ _ (call (Value.ref 145) _) _ _ _); refine stopW ?_)
      | (with_reducible ((with_reducible show wpAny _ _ (storeName _ _ _) _ _ _); k_here; (rename News _ _ _ _ => zN); (rename Fr _ _ _ _ => zF); refine wrS rfl rfl zF zN ?_; clear zN zF; intro _ _ _ _))
      | (with_reducible ((with_reducible show wpAny _ _ (compareOp .Eq (Value.ref _) (Value.ref _)) _ _ _); refine stopW ?_))
      | (with_reducible ((with_reducible show wpAny _ _ (eval (Expr.ListComp _ _ _ _) _) _ _ _); refine stopW ?_))
      | walk1
      | (dsimp only; walk1)
      | (leave1; (try dsimp only))
      | fail "no step")
  refine Halt.mk (told_comp (c := L' + 1) xs.toList ys1.toList TT rfl rfl rfl (by show dp + 1 + 2 < recursionLimit; omega) ?_)
  repeat' (first
      | (k_unfold; (try dsimp only))
      | (k_end; kc_close)
      | ((with_reducible show wpAny _ _ (execs [] _) _ _ _); (fail_if_success (fail_if_success k_gentoks)); refine gen_tk ?_; intro zt zT; (try dsimp only [List.length_cons, List.length_nil] at zT))
      | ((with_reducible show wpAny _ _ (execs (_ :: _) _) _ _ _); (fail_if_success (fail_if_success k_gentoks)); refine gen_tk ?_; intro zt zT; (try dsimp only [List.length_cons, List.length_nil] at zT))
      | ((with_reducible show wpAny _ _ (call (Value.ref 145) _) _ _ _); refine stopW ?_)
      | (with_reducible ((with_reducible show wpAny _ _ (storeName _ _ _) _ _ _); k_here; (rename News _ _ _ _ => zN); (rename Fr _ _ _ _ => zF); refine wrS rfl rfl zF zN ?_; clear zN zF; intro _ _ _ _))
      | (with_reducible ((with_reducible show wpAny _ _ (compareOp .Eq (Value.ref _) (Value.ref _)) _ _ _); refine stopW ?_))
      | (with_reducible ((with_reducible show wpAny _ _ (eval (Expr.ListComp _ _ _ _) _) _ _ _); refine stopW ?_))
      | walk1
      | (dsimp only; walk1)
      | (leave1; (try dsimp only))
      | fail "no step")
  (rename Fr _ _ _ _ => F9); (rename News _ _ _ _ => N9)
  have len1 : xs.toList.length = ys1.toList.length := by
    obtain ⟨G, P⟩ := hK1
    simpa using P.length
  refine Halt.mk ⟨lb, ys, q2, rfl, hl2.at (fun o e => F9.keep _ o e), by omega, X.keeps F9.keep, T.keeps F9.keep, ⟨_, News.get N9 (by k_mem), d1'⟩, paired_mono (fun _ _ z => SpotV.text z (Ext.text F9.keep)) P2, ok2, (by obtain ⟨G, P⟩ := hK1; exact ⟨G, by simpa using P⟩), ?_⟩
  intro D2 h2 tk2 ys2 hD2 hpl2 hK2 he2
  obtain ⟨nn2, hpl2⟩ := hpl2
  have F11 := frExt F9 he2
  have N11 := newsAdd F9 N9 hD2 hpl2 he2
  clear F9 N9 hK1
  obtain ⟨G2, PT⟩ := hK2
  obtain ⟨PT1, PT2⟩ := paired_split PT len1
  have len2 : ys.toList.length = ys2.toList.length := by simpa using PT2.length
  have s1 : xs.size = ys1.size := by simpa using len1
  have s2 : ys.size = ys2.size := by simpa using len2
  have PS1 : Paired (TelP f G2 tk2 h2) ys1.toList q1 := told_spots PT1 (paired_mono (F := SpotV s.heap) (fun a b (z : SpotV s.heap a b) => SpotV.text z (Ext.text F11.keep)) P1)
  have PS2 : Paired (TelP f G2 tk2 h2) ys2.toList q2 := told_spots PT2 (paired_mono (F := SpotV s.heap) (fun a b (z : SpotV s.heap a b) => SpotV.text z (Ext.text F11.keep)) P2)
  (try dsimp only)
  repeat' (first
      | (k_unfold; (try dsimp only))
      | (k_end; kc_close)
      | ((with_reducible show wpAny _ _ (execs [] _) _ _ _); (fail_if_success (fail_if_success k_gentoks)); refine gen_tk ?_; intro zt zT; (try dsimp only [List.length_cons, List.length_nil] at zT))
      | ((with_reducible show wpAny _ _ (execs (_ :: _) _) _ _ _); (fail_if_success (fail_if_success k_gentoks)); refine gen_tk ?_; intro zt zT; (try dsimp only [List.length_cons, List.length_nil] at zT))
      | ((with_reducible show wpAny _ _ (call (Value.ref 145) _) _ _ _); refine stopW ?_)
      | (with_reducible ((with_reducible show wpAny _ _ (storeName _ _ _) _ _ _); k_here; (rename News _ _ _ _ => zN); (rename Fr _ _ _ _ => zF); refine wrS rfl rfl zF zN ?_; clear zN zF; intro _ _ _ _))
      | (with_reducible ((with_reducible show wpAny _ _ (compareOp .Eq (Value.ref _) (Value.ref _)) _ _ _); refine stopW ?_))
      | (with_reducible ((with_reducible show wpAny _ _ (eval (Expr.ListComp _ _ _ _) _) _ _ _); refine stopW ?_))
      | walk1
      | (dsimp only; walk1)
      | (leave1; (try dsimp only))
      | fail "no step")
  (rename Fr _ _ _ _ => F9); (rename News _ _ _ _ => N9)
  refine Halt.mk (wpAny_with_toks (n := tk2) (by dsimp only; omega) (diff_call (k1 := kf f q1) (k2 := kf f q2) (X.keeps F9.keep) (T.keeps F9.keep) (by show dp + 1 + 20 < recursionLimit; omega) (by show un + 3 + 200 < cLine; omega) (News.isList N9 (by k_mem)) (News.isList N9 (by k_mem)) (by omega) (by omega) (told_keyed (X.keeps F9.keep) PS1 PS2 hlike (by show un + 3 + 50 < cLine; omega)) ?_))
  intro D3 h3 tk3 rs he3 hD3 hpl3 hRV hle3
  obtain ⟨nn3, hpl3⟩ := hpl3
  have F12 := frExt F9 he3
  have N12 := newsAdd F9 N9 hD3 hpl3 he3
  clear F9 N9
  (try dsimp only)
  rw [← s1, ← s2] at hRV
  have hSQ2 : Paired (SpecQ f G2 tk2 h2) (rows1 (kf f q1) (kf f q2) xs.size ys.size ys1 xs.size ++ rows2 (kf f q1) (kf f q2) xs.size ys.size ys2 ys.size) rd := hrd ▸ paired_app (rowsQ1_rel PS1 _ (by omega)) (rowsQ2_rel PS2 _ (by omega))
  have s3 : rs.size ≤ 200 := by
    have e1 := hRV.length
    have e2 := rows1_len (k1 := kf f q1) (k2 := kf f q2) (m := xs.size) (n := ys.size) (xs := ys1) (i := xs.size)
    have e3 := rows2_len (k1 := kf f q1) (k2 := kf f q2) (m := xs.size) (n := ys.size) (ys := ys2) (i := ys.size)
    rw [Array.length_toList, List.length_append] at e1
    omega
  repeat' (first
      | (k_unfold; (try dsimp only))
      | (k_end; kc_close)
      | ((with_reducible show wpAny _ _ (execs [] _) _ _ _); (fail_if_success (fail_if_success k_gentoks)); refine gen_tk ?_; intro zt zT; (try dsimp only [List.length_cons, List.length_nil] at zT))
      | ((with_reducible show wpAny _ _ (execs (_ :: _) _) _ _ _); (fail_if_success (fail_if_success k_gentoks)); refine gen_tk ?_; intro zt zT; (try dsimp only [List.length_cons, List.length_nil] at zT))
      | ((with_reducible show wpAny _ _ (call (Value.ref 145) _) _ _ _); refine stopW ?_)
      | (with_reducible ((with_reducible show wpAny _ _ (storeName _ _ _) _ _ _); k_here; (rename News _ _ _ _ => zN); (rename Fr _ _ _ _ => zF); refine wrS rfl rfl zF zN ?_; clear zN zF; intro _ _ _ _))
      | (with_reducible ((with_reducible show wpAny _ _ (compareOp .Eq (Value.ref _) (Value.ref _)) _ _ _); refine stopW ?_))
      | (with_reducible ((with_reducible show wpAny _ _ (eval (Expr.ListComp _ _ _ _) _) _ _ _); refine stopW ?_))
      | walk1
      | (dsimp only; walk1)
      | (leave1; (try dsimp only))
      | fail "no step")
  rename_i h4 F13 N13 e34
  (try dsimp only at hle3)
  refine Halt.mk (wpAny_with_toks (n := tk2) (by dsimp only at hle3 ⊢; omega) (row_comp (mean := mean) (mg := mg) (mb := mb) (by show dp + 1 + 1 < recursionLimit; omega) (by show un + 3 + 120 < cLine; omega) ?_))
  repeat' (first
      | (k_unfold; (try dsimp only))
      | (k_end; kc_close)
      | ((with_reducible show wpAny _ _ (execs [] _) _ _ _); (fail_if_success (fail_if_success k_gentoks)); refine gen_tk ?_; intro zt zT; (try dsimp only [List.length_cons, List.length_nil] at zT))
      | ((with_reducible show wpAny _ _ (execs (_ :: _) _) _ _ _); (fail_if_success (fail_if_success k_gentoks)); refine gen_tk ?_; intro zt zT; (try dsimp only [List.length_cons, List.length_nil] at zT))
      | ((with_reducible show wpAny _ _ (call (Value.ref 145) _) _ _ _); refine stopW ?_)
      | (with_reducible ((with_reducible show wpAny _ _ (storeName _ _ _) _ _ _); k_here; (rename News _ _ _ _ => zN); (rename Fr _ _ _ _ => zF); refine wrS rfl rfl zF zN ?_; clear zN zF; intro _ _ _ _))
      | (with_reducible ((with_reducible show wpAny _ _ (compareOp .Eq (Value.ref _) (Value.ref _)) _ _ _); refine stopW ?_))
      | (with_reducible ((with_reducible show wpAny _ _ (eval (Expr.ListComp _ _ _ _) _) _ _ _); refine stopW ?_))
      | walk1
      | (dsimp only; walk1)
      | (leave1; (try dsimp only))
      | fail "no step")
  (rename Fr _ _ _ _ => F9); (rename News _ _ _ _ => N9)
  (try dsimp only)
  refine Halt.mk ⟨D3, rs, rfl, News.isList N9 (by k_mem), by omega, X.keeps F9.keep, T.keeps F9.keep, fun i v hi => ?_, ?_⟩
  · obtain ⟨sp, hsp, D, d, t1, t2, rfl, hD⟩ := paired_some hRV (i := i) (by simpa using hi)
    obtain ⟨r, hr, g1, g2, a, u1, u2, hv, _⟩ := paired_some hSQ2 hsp
    rw [hv] at hD
    exact ⟨D, d, _, _, t1, t2, a, rfl, e34 _ _ ⟨⟨_, _, rfl⟩, .inr rfl⟩ hD⟩
  intro D5 h5 tk5 yl hD5 hpl5 hRw5 he5 hle5
  (try dsimp only at hle5)
  obtain ⟨nn5, hpl5⟩ := hpl5
  have F14 := frExt F9 he5
  have N14 := newsAdd F9 N9 hD5 hpl5 he5
  clear F9 N9
  (try dsimp only)
  repeat' (first
      | (k_unfold; (try dsimp only))
      | (k_end; kc_close)
      | ((with_reducible show wpAny _ _ (execs [] _) _ _ _); (fail_if_success (fail_if_success k_gentoks)); refine gen_tk ?_; intro zt zT; (try dsimp only [List.length_cons, List.length_nil] at zT))
      | ((with_reducible show wpAny _ _ (execs (_ :: _) _) _ _ _); (fail_if_success (fail_if_success k_gentoks)); refine gen_tk ?_; intro zt zT; (try dsimp only [List.length_cons, List.length_nil] at zT))
      | ((with_reducible show wpAny _ _ (call (Value.ref 145) _) _ _ _); refine stopW ?_)
      | (with_reducible ((with_reducible show wpAny _ _ (storeName _ _ _) _ _ _); k_here; (rename News _ _ _ _ => zN); (rename Fr _ _ _ _ => zF); refine wrS rfl rfl zF zN ?_; clear zN zF; intro _ _ _ _))
      | (with_reducible ((with_reducible show wpAny _ _ (compareOp .Eq (Value.ref _) (Value.ref _)) _ _ _); refine stopW ?_))
      | (with_reducible ((with_reducible show wpAny _ _ (eval (Expr.ListComp _ _ _ _) _) _ _ _); refine stopW ?_))
      | walk1
      | (dsimp only; walk1)
      | (leave1; (try dsimp only))
      | fail "no step")
  refine Halt.mk (due_comp (c := L' + 1) (xs.toList ++ ys.toList) (ys1.toList ++ ys2.toList) TT rfl rfl rfl (by show dp + 1 + 2 < recursionLimit; omega) ?_)
  repeat' (first
      | (k_unfold; (try dsimp only))
      | (k_end; kc_close)
      | ((with_reducible show wpAny _ _ (execs [] _) _ _ _); (fail_if_success (fail_if_success k_gentoks)); refine gen_tk ?_; intro zt zT; (try dsimp only [List.length_cons, List.length_nil] at zT))
      | ((with_reducible show wpAny _ _ (execs (_ :: _) _) _ _ _); (fail_if_success (fail_if_success k_gentoks)); refine gen_tk ?_; intro zt zT; (try dsimp only [List.length_cons, List.length_nil] at zT))
      | ((with_reducible show wpAny _ _ (call (Value.ref 145) _) _ _ _); refine stopW ?_)
      | (with_reducible ((with_reducible show wpAny _ _ (storeName _ _ _) _ _ _); k_here; (rename News _ _ _ _ => zN); (rename Fr _ _ _ _ => zF); refine wrS rfl rfl zF zN ?_; clear zN zF; intro _ _ _ _))
      | (with_reducible ((with_reducible show wpAny _ _ (compareOp .Eq (Value.ref _) (Value.ref _)) _ _ _); refine stopW ?_))
      | (with_reducible ((with_reducible show wpAny _ _ (eval (Expr.ListComp _ _ _ _) _) _ _ _); refine stopW ?_))
      | walk1
      | (dsimp only; walk1)
      | (leave1; (try dsimp only))
      | fail "no step")
  (rename Fr _ _ _ _ => F9); (rename News _ _ _ _ => N9)
  (try dsimp only)
  have e23 : TExt h2 h3 := Ext.text he3
  have e25 : TExt h2 h5 := (e23.trans e34).trans (Ext.text he5)
  refine Halt.mk ⟨ld, ds, rfl, hl3.at (fun o e => F9.keep _ o e), by omega, X.keeps F9.keep, T.keeps F9.keep, ⟨_, News.get N9 (by k_mem), d1'⟩, fun i v hi => ?_, ⟨G2, paired_mono (fun _ _ z => TR.keep z e25 (by first | omega | (dsimp only; omega))) PT, .nil⟩, ?_⟩
  · obtain ⟨r, hr, D, t1, t2, sv, hv, hT, hsv⟩ := paired_some P3 (i := i) (by simpa using hi)
    exact ⟨D, _, _, t1, t2, sv, r.2.2, hv, isTup_ext hT F9.keep, hsv.text (Ext.text F9.keep), ok3 r (List.mem_of_getElem? hr)⟩
  intro D6 h6 tk6 yr hD6 hpl6 hKD6 he6
  obtain ⟨nn6, hpl6⟩ := hpl6
  have F15 := frExt F9 he6
  have N15 := newsAdd F9 N9 hD6 hpl6 he6
  clear F9 N9
  (try dsimp only)
  repeat' (first
      | (k_unfold; (try dsimp only))
      | (k_end; kc_close)
      | ((with_reducible show wpAny _ _ (execs [] _) _ _ _); (fail_if_success (fail_if_success k_gentoks)); refine gen_tk ?_; intro zt zT; (try dsimp only [List.length_cons, List.length_nil] at zT))
      | ((with_reducible show wpAny _ _ (execs (_ :: _) _) _ _ _); (fail_if_success (fail_if_success k_gentoks)); refine gen_tk ?_; intro zt zT; (try dsimp only [List.length_cons, List.length_nil] at zT))
      | ((with_reducible show wpAny _ _ (call (Value.ref 145) _) _ _ _); refine stopW ?_)
      | (with_reducible ((with_reducible show wpAny _ _ (storeName _ _ _) _ _ _); k_here; (rename News _ _ _ _ => zN); (rename Fr _ _ _ _ => zF); refine wrS rfl rfl zF zN ?_; clear zN zF; intro _ _ _ _))
      | (with_reducible ((with_reducible show wpAny _ _ (compareOp .Eq (Value.ref _) (Value.ref _)) _ _ _); refine stopW ?_))
      | (with_reducible ((with_reducible show wpAny _ _ (eval (Expr.ListComp _ _ _ _) _) _ _ _); refine stopW ?_))
      | walk1
      | (dsimp only; walk1)
      | (leave1; (try dsimp only))
      | fail "no step")
  (rename Fr _ _ _ _ => F9); (rename News _ _ _ _ => N9)
  obtain ⟨G6, PT6, PD6⟩ := hKD6
  obtain ⟨PT61, PT62⟩ := paired_split PT6 len1
  have S1 : Paired (TelP f G6 tk6 h6) ys1.toList q1 := told_spots PT61 (paired_mono (F := SpotV s.heap) (fun a b (z : SpotV s.heap a b) => SpotV.text z (Ext.text F9.keep)) P1)
  have S2 : Paired (TelP f G6 tk6 h6) ys2.toList q2 := told_spots PT62 (paired_mono (F := SpotV s.heap) (fun a b (z : SpotV s.heap a b) => SpotV.text z (Ext.text F9.keep)) P2)
  have hSQ6 : Paired (SpecQ f G6 tk6 h6) (rows1 (kf f q1) (kf f q2) xs.size ys.size ys1 xs.size ++ rows2 (kf f q1) (kf f q2) xs.size ys.size ys2 ys.size) rd := hrd ▸ paired_app (rowsQ1_rel S1 _ (by omega)) (rowsQ2_rel S2 _ (by omega))
  have e36 : TExt h3 h6 := (e34.trans (Ext.text he5)).trans (Ext.text he6)
  have hEQ := fun (A' : Around) (hA : A'.units + 10 < cLine) => eqRows (A := A') (s := ⟨h6, s.gens, s.drawn, tk6, s.os⟩) (f := f) (G := G6) (tk := tk6) (h0 := s.heap) (Ext.text F9.keep) hA (booked (X.keeps F9.keep))
    (fun r hr => hlike _ (hmem r hr) _ (hmem r hr)) (paired_mono (fun _ _ z => RwF.keep _ _ _ _ z (Ext.text he6)) hRw5) (paired_mono (fun _ _ z => RowV.text z e36) hRV) hSQ6 (paired_mono (fun _ _ z => DueV.text z (TExt.refl _) (Ext.text F9.keep)) P3) PD6
  refine Halt.mk (SeqAt.eq_listAt (e := fun _ => true) (News.isList N9 (by k_mem)) (News.isList N9 (by k_mem)) (by have := (hEQ ⟨none, 0, none, none, 0⟩ (by show 0 + 10 < cLine; omega)).length; simpa using this) (by show un + 3 < cLine; omega) (fun j h1 h2 => ?_) ?_)
  · exact paired_get (hEQ _ (by show un + 3 + 1 + 10 < cLine; omega)) j yl[j] yr[j] (by simp [h1]) (by simp [h2])
  (try dsimp only)
  have hall : ((List.range yl.size).all fun _ => true) = true := by simp
  rw [hall]
  exact hQ h6 tk6 F9.keep
  )
end Mine
end
section
open PySem PySem.W PySem.Calls PyProof.Rows PySem.SeqAt
namespace Mine
set_option maxRecDepth 100000
set_option maxHeartbeats 4000000
noncomputable def MarkP : Prop := True
section
variable {env : Env} {prog : Program} {w : World} {A : Around} {E : Value → Shared → Prop} {s : Shared} {h₀ : Heap} {L : Addr} {m : Str → Option Value} {news : List (Addr × Obj)}

theorem all_K {l : Addr} {items : Array Value} {Q : Value → Shared → Prop} (hh : A.handled = none) (hl : s.heap.IsList l items) (ht : ∀ (i : Nat) v, items[i]? = some v → v = .bool true)
    (h : ∀ h' tk, Ext s.heap h' → Q (.bool true) { s with heap := h', toks := tk }) : wpAny (model prog w) A (call (.builtin "all") [.ref l]) Q E s := by
  refine call_all_walk (over_list (A := A.in1) hh hl fun I h₂ _ O => ?_)
  refine ⟨I, _, _, items.size, _, _, fun _ => true, rfl, O.W, O.st, fun i v s Q E hv hq => ?_, fun h' tk hk => ?_⟩
  · rw [ht i v hv]
    exact wpAny_truthy_bool hq
  · have : ((List.range items.size).all fun _ => true) = true := by simp
    rw [this]
    exact h h' tk (O.back hk)

theorem add_T {l b : Addr} {its its2 : Array Value} {Q : Value → Shared → Prop} (hl : s.heap.IsList l its) (hb : s.heap.IsList b its2) (z1 : its.size ≤ 1000) (z2 : its2.size ≤ 1000)
    (h : ∀ h' (D : Addr), Ext s.heap h' → s.heap.get? D = none → h'.PlainList D (its.toList ++ its2.toList).toArray → Q (.ref D) { s with heap := h' }) :
    wpAny (model prog w) A (binaryOp .Add (.ref l) (.ref b)) Q E s := by
  obtain ⟨⟨cls, dd, data, sl⟩, ho, hc, n, hd⟩ := id hl
  obtain ⟨⟨cls2, dd2, data2, sl2⟩, ho2, hc2, n2, hd2⟩ := id hb
  simp only at hc hd hc2 hd2
  subst hc hd hc2 hd2
  have e : its ++ its2 = (its.toList ++ its2.toList).toArray := by simp
  refine concat_meets ⟨_, ho, rfl⟩ ⟨_, ho2, rfl⟩ noFill_list_add seq_list_add PySem.F.slot_list_add PySem.F.entry_list_add (PySem.F.args_list_add_2 _ _) (list_addW l b its its2 n n2 dd dd2 sl sl2 (by rw [sizeLine_eq]; omega)) ⟨ho, ho2, ?_⟩
  rw [e]
  exact h _ _ (fun d o q => Heap.get?_push_of_some _ q) (get_new _) ⟨_, Heap.get?_push_size _ rfl⟩

/-- a store into a cell of the frame, with what it leaves -/
theorem stC {x : Str} {v : Value} {c : Nat} {o : Obj} {v0 : Option Value} {Q : Unit → Shared → Prop} (hk : env.scope.kind = .function) (hx : env.kindOf x = some .cell) (hc : env.cells.lookup x = some c) (F : Fr h₀ L s.heap m) (N : News h₀ L s.heap ((c, o) :: news))
    (hd : ∀ p ∈ news, p.1 ≠ c) (ho : o.data = .cell v0) (h : ∀ h' o', Fr h₀ L h' m → News h₀ L h' ((c, o') :: news) → o'.data = .cell (some v) → TExt s.heap h' → Q () { s with heap := h' }) :
    wpAny (model prog w) A (storeName env x v) Q E s := by
  have z := N _ (List.Mem.head _)
  refine wpAny_storeName_cell hk hx hc ⟨o, z.1, ho⟩ fun h' hcell hs => ?_
  obtain ⟨o', ho', hd'⟩ := hcell
  refine h h' o' (F.change hs z.2.1 z.2.2) (news_set (pre := []) N (by intro p hp; cases hp) hd hs ho') hd' (ExtB.text (sameBut_extB hs) fun b hb o2 e => ?_)
  rw [List.mem_singleton.mp hb] at e
  rw [z.1] at e; cases e
  exact imm_ne_cell ho
end
end Mine
end
section
open PySem PySem.W PySem.Calls PyProof.Rows PySem.SeqAt
namespace Mine
set_option maxRecDepth 100000
set_option maxHeartbeats 4000000
noncomputable def tHsv (q : Sp) : Tl := hsvF (q64 q.1) (q64 q.2.1) (q64 q.2.2)
noncomputable def tHls (q : Sp) : Tl := hlsF (q64 q.1) (q64 q.2.1) (q64 q.2.2)
noncomputable def tNeg (q : Sp) : Tl := hlsF (n64 q.1) (n64 q.2.1) (n64 q.2.2)
noncomputable def okHsv (q : Sp) : Prop := Bnd q ∧ hsvZ (q64 q.1) (q64 q.2.1) (q64 q.2.2)
noncomputable def okHls (q : Sp) : Prop := Bnd q ∧ hlsZ (q64 q.1) (q64 q.2.1) (q64 q.2.2)
noncomputable def okNeg (q : Sp) : Prop := Bnd q ∧ hlsZ (n64 q.1) (n64 q.2.1) (n64 q.2.2)
structure HoldsOk (r g b : Int) : Prop where
  f1 : Float64.isFinite (x1 r g b) = true
  f2 : Float64.isFinite (x2 r g b) = true
  f3 : Float64.isFinite (x3 r g b) = true
  c1 : (Float64.cmp (sNg r g b).2 (sHs r g b).2 != some Ordering.eq) = false
  c2 : (Flt.toInt Float64.nearestOf (x1 r g b)).fmod 2580480 = if min (min r g) b < max (max r g) b then 1290240 else 0
  c3 : Flt.toInt Float64.nearestOf (x2 r g b) = (max (max r g) b - min (min r g) b) * 1024
  c4 : (Flt.toInt Float64.nearestOf (x3 r g b) == (max (max r g) b - min (min r g) b) * 1024) = true
structure PlainOk (q1 q2 : List Sp) : Prop where
  l1 : q1.length ≤ 100
  l2 : q2.length ≤ 100
  bnd : ∀ q ∈ q1 ++ q2, Bnd q
  z1 : ∀ q ∈ q1 ++ q2, hsvZ (q64 q.1) (q64 q.2.1) (q64 q.2.2)
  z2 : ∀ q ∈ q1 ++ q2, hlsZ (q64 q.1) (q64 q.2.1) (q64 q.2.2)
  z3 : ∀ q ∈ q1 ++ q2, hlsZ (n64 q.1) (n64 q.2.1) (n64 q.2.2)
  ok : ∀ q ∈ q1 ++ q2, HoldsOk q.1 q.2.1 q.2.2
  k1 : ∀ q ∈ q1 ++ q2, ∀ q' ∈ q1 ++ q2, Like (tHsv q) (tHsv q')
  k2 : ∀ q ∈ q1 ++ q2, ∀ q' ∈ q1 ++ q2, Like (tHls q) (tHls q')
  k3 : ∀ q ∈ q1 ++ q2, ∀ q' ∈ q1 ++ q2, Like (tNeg q) (tNeg q')
  r1 : rowsQ1 tHsv q1 q2 q1.length q2.length q1.length ++ rowsQ2 tHsv q1 q2 q1.length q2.length q2.length = dueR (q1 ++ q2) q1.length (q1.length + q2.length)
  r2 : rowsQ1 tHls q1 q2 q1.length q2.length q1.length ++ rowsQ2 tHls q1 q2 q1.length q2.length q2.length = dueR (q1 ++ q2) q1.length (q1.length + q2.length)
  r3 : rowsQ1 tNeg q1 q2 q1.length q2.length q1.length ++ rowsQ2 tNeg q1 q2 q1.length q2.length q2.length = dueR (q1 ++ q2) q1.length (q1.length + q2.length)
theorem dueR_mem {qs : List Sp} {m i : Nat} (hi : i ≤ qs.length) : ∀ r ∈ dueR qs m i, r.2.2 ∈ qs := fun r hr => by
  unfold dueR at hr
  obtain ⟨p, hp, h⟩ := List.mem_filterMap.mp hr
  dsimp only at h
  split at h
  · cases h
    have hlt : p < qs.length := by have := List.mem_range.mp hp; omega
    rw [List.getD_eq_getElem?_getD, List.getElem?_eq_getElem hlt]
    exact List.getElem_mem hlt
  · cases h

section
variable {w : World} {mean : ExcName → Option Value} {mg mb : Str → Option Value}
theorem tells_hsv : Tells w mean mg mb 173 tHsv okHsv := ⟨by kernel_rfl, fun {dp un fr gd E s Q a} q {t1 t2 t3} X T R hT ok hQ => lhsv_call X T R hT ok.1.1 ok.1.2.1 ok.1.2.2 ok.2 hQ⟩
theorem tells_hls : Tells w mean mg mb 180 tHls okHls := ⟨by kernel_rfl, fun {dp un fr gd E s Q a} q {t1 t2 t3} X T R hT ok hQ => lhls_call X T R hT ok.1.1 ok.1.2.1 ok.1.2.2 ok.2 hQ⟩
theorem tells_neg : Tells w mean mg mb 187 tNeg okNeg := ⟨by kernel_rfl, fun {dp un fr gd E s Q a} q {t1 t2 t3} X T R hT ok hQ => lneg_call X T R hT ok.1.1 ok.1.2.1 ok.1.2.2 ok.2 hQ⟩
end
theorem paired_some2 {α β : Type} {F : α → β → Prop} {l₁ : List α} {l₂ : List β} (p : Paired F l₁ l₂) {i : Nat} {b : β} (h : l₂[i]? = some b) : ∃ a, l₁[i]? = some a ∧ F a b := by
  have hlt : i < l₂.length := by
    rcases Nat.lt_or_ge i l₂.length with q | q
    · exact q
    · rw [List.getElem?_eq_none q] at h; cases h
  have hlt' : i < l₁.length := by rw [p.length]; exact hlt
  exact ⟨l₁[i], List.getElem?_eq_getElem hlt', paired_get p i _ b (List.getElem?_eq_getElem hlt') h⟩
theorem clos3 {env : Env} {a b g x y z : Str} {c1 c2 c3 : Addr} {g1 g2 : Bool} {more : List (Str × Const)} (h1 : env.cells.lookup x = some c1) (h2 : env.cells.lookup y = some c2) (h3 : env.cells.lookup z = some c3) :
    closureFor { kind := .function, names := [(a, .local), (b, .local), (g, .globalImplicit), (x, .free), (y, .free), (z, .free)], isGenerator := g1, isCoroutine := g2, more := more } env = pure [(z, c3), (y, c2), (x, c1)] := by
  unfold closureFor
  simp only [List.forIn_cons, List.forIn_nil]
  unfold cellOf
  rw [h1, h2, h3]
  rfl
theorem ne_of_none {h : Heap} {a b : Addr} {o : Obj} (ha : h.get? a = none) (hb : h.get? b = some o) : a ≠ b := by
  rintro rfl; rw [ha] at hb; cases hb
end Mine
end
section
open PySem PySem.W PySem.Calls PyProof.Rows
namespace Mine
set_option maxRecDepth 100000
set_option maxHeartbeats 8000000

theorem law_of (hp : ∀ script : List Int, PlainOk (spotsF (List.map (fun k' => k'.fmod 4096) ([209, 2769, 3281, 365, 2048, 2055] ++ List.take 8 script)) 0) (spotsF (List.map (fun k' => k'.fmod 4096) ([209, 2769, 3281, 365, 2048, 2055] ++ List.take 8 script)) 1)) : PySem.Challenge.rw_ox0037_01.Holds := Mine.hd (by
  w_on
  w_strict (
  delta rr
  conv in fA (sta 18) => whnf
  conv in fB (sta 18) => whnf
  conv in fS (sta 18) => whnf
  k_go0
  all_goals (try k_fold)
  repeat' (first
      | (k_unfold; (try dsimp only))
      | (k_end; kc_close)
      | (with_reducible ((with_reducible show wpAny _ _ (eval (Expr.Name (Str.ofString "due") _) (compEnvC _ _ _ _)) _ _ _); refine stopW ?_))
      | (with_reducible ((with_reducible show wpAny _ _ (eval (Expr.Name (Str.ofString "second") _) (compEnvC _ _ _ _)) _ _ _); refine stopW ?_))
      | (with_reducible ((with_reducible show wpAny _ _ (eval (Expr.Name (Str.ofString "first") _) (compEnvC _ _ _ _)) _ _ _); refine stopW ?_))
      | (with_reducible ((with_reducible show wpAny _ _ (newList _) _ _ _); (rename MarkP => hMk); refine stopW ?_))
      | (with_reducible ((with_reducible show wpAny _ _ (binaryOp _ (Value.ref _) (Value.ref _)) _ _ _); (rename MarkP => hMk); refine stopW ?_))
      | (with_reducible ((with_reducible show wpAny _ _ (storeName _ _ _) _ _ _); refine stopW ?_))
      | ((with_reducible show wpAny _ _ (call (Value.ref _) _) _ _ _); refine stopW ?_)
      | (with_reducible ((with_reducible show wpAny _ _ (call (Value.builtin "all") _) _ _ _); refine stopW ?_))
      | (with_reducible ((with_reducible show wpAny _ _ (eval (Expr.ListComp _ _ _ _) _) _ _ _); refine stopW ?_))
      | walk1
      | (dsimp only; walk1)
      | (leave1; (try dsimp only))
      | fail "no step")
  (rename Fr _ _ _ _ => F0); (rename News _ _ _ _ => N0); (rename Frag.In _ _ => KX); (rename Top _ _ _ _ _ _ => KT0); (rename IntsAre _ _ => hI8)
  (rename World => w); (rename Shared => s); (rename List Int => script)
  rename_i oD oS oF hoD hoS hoF _ _ _ _ _ _ _ _ _ _ _ _ _ _ _ _ _ _ _ _ _ ys _ aN hN tk0 hoo
  have hdep : callerA.depth + 50 < recursionLimit := by decide +kernel
  have hun : callerA.units + 400 < cLine := by decide +kernel
  obtain P0 := hp script
  have hlen0 : (List.map (fun k' => k'.fmod 4096) ([209, 2769, 3281, 365, 2048, 2055] ++ List.take 8 script)).length ≤ 100 := by simp; omega
  generalize hns : List.map (fun k' => k'.fmod 4096) ([209, 2769, 3281, 365, 2048, 2055] ++ List.take 8 script) = ns at *
  refine Halt.mk (spots_call (KX.keeps F0.keep) (KT0.keeps F0.keep) (by omega) (News.isList N0 (by k_mem)) hI8 hlen0 ?_)
  intro aF hF tkF ysF heF hDF hplF hPF
  (try dsimp only at heF hDF)
  obtain ⟨nF, hplF⟩ := hplF
  have c1 : aF ≠ s.heap.objs.size + 1 := ne_of_none hDF (News.get N0 (by k_mem))
  have c2 : aF ≠ s.heap.objs.size + 1 + 1 := ne_of_none hDF (News.get N0 (by k_mem))
  have c3 : aF ≠ s.heap.objs.size + 1 + 1 + 1 := ne_of_none hDF (News.get N0 (by k_mem))
  obtain ⟨mm, F0⟩ : ∃ mm : Str → Option Value, Fr s.heap s.heap.objs.size hN (fun z => if z = ("numbers" : Str) then some (Value.ref aN) else mm z) := ⟨_, F0⟩
  have cN1 : aN ≠ s.heap.objs.size + 1 := Ne.symm hoo.2.2.2.2.2
  have F1 := frExt F0 heF
  have N1 := newsSub (news' := (s.heap.objs.size + 1, oF) :: (s.heap.objs.size + 1 + 1, oS) :: (s.heap.objs.size + 1 + 1 + 1, oD) :: (aF, listOf ysF nF) :: (aN, LCg.lst ys) :: []) (newsAdd F0 N0 hDF hplF heF) (by
    intro p hp
    simp only [List.mem_cons, List.not_mem_nil, or_false] at hp ⊢
    rcases hp with rfl | rfl | rfl | rfl | rfl <;> simp)
  clear F0 N0
  (try dsimp only)
  refine stC (news := (s.heap.objs.size + 1 + 1, oS) :: (s.heap.objs.size + 1 + 1 + 1, oD) :: (aF, listOf ysF nF) :: (aN, LCg.lst ys) :: []) rfl rfl rfl F1 N1 ?hd hoF ?_
  case hd =>
    intro p hp
    simp only [List.mem_cons, List.not_mem_nil, or_false] at hp
    rcases hp with rfl | rfl | rfl | rfl
    · exact neN (by dsimp only; omega)
    · exact neN (by dsimp only; omega)
    · exact c1
    · exact cN1
  intro hF2 oF2 F2 N2 hoF2 eF2
  clear F1 N1 hoF
  (try dsimp only)
  repeat' (first
      | (k_unfold; (try dsimp only))
      | (k_end; kc_close)
      | (with_reducible ((with_reducible show wpAny _ _ (eval (Expr.Name (Str.ofString "due") _) (compEnvC _ _ _ _)) _ _ _); refine stopW ?_))
      | (with_reducible ((with_reducible show wpAny _ _ (eval (Expr.Name (Str.ofString "second") _) (compEnvC _ _ _ _)) _ _ _); refine stopW ?_))
      | (with_reducible ((with_reducible show wpAny _ _ (eval (Expr.Name (Str.ofString "first") _) (compEnvC _ _ _ _)) _ _ _); refine stopW ?_))
      | (with_reducible ((with_reducible show wpAny _ _ (newList _) _ _ _); (rename MarkP => hMk); refine stopW ?_))
      | (with_reducible ((with_reducible show wpAny _ _ (binaryOp _ (Value.ref _) (Value.ref _)) _ _ _); (rename MarkP => hMk); refine stopW ?_))
      | (with_reducible ((with_reducible show wpAny _ _ (storeName _ _ _) _ _ _); refine stopW ?_))
      | ((with_reducible show wpAny _ _ (call (Value.ref _) _) _ _ _); refine stopW ?_)
      | (with_reducible ((with_reducible show wpAny _ _ (call (Value.builtin "all") _) _ _ _); refine stopW ?_))
      | (with_reducible ((with_reducible show wpAny _ _ (eval (Expr.ListComp _ _ _ _) _) _ _ _); refine stopW ?_))
      | walk1
      | (dsimp only; walk1)
      | (leave1; (try dsimp only))
      | fail "no step")
  refine Halt.mk (spots_call (KX.keeps F2.keep) (KT0.keeps F2.keep) (by omega) (News.isList N2 (by k_mem)) hI8 hlen0 ?_)
  intro aS hS tkS ysS heS hDS hplS hPS
  (try dsimp only at heS hDS)
  obtain ⟨nS, hplS⟩ := hplS
  have d1 : aS ≠ s.heap.objs.size + 1 := ne_of_none hDS (News.get N2 (by k_mem))
  have d2 : aS ≠ s.heap.objs.size + 1 + 1 := ne_of_none hDS (News.get N2 (by k_mem))
  have d3 : aS ≠ s.heap.objs.size + 1 + 1 + 1 := ne_of_none hDS (News.get N2 (by k_mem))
  have F3 := frExt F2 heS
  have N3 := newsSub (news' := (s.heap.objs.size + 1 + 1, oS) :: (s.heap.objs.size + 1, oF2) :: (s.heap.objs.size + 1 + 1 + 1, oD) :: (aF, listOf ysF nF) :: (aS, listOf ysS nS) :: []) (newsAdd F2 N2 hDS hplS heS) (by
    intro p hp
    simp only [List.mem_cons, List.not_mem_nil, or_false] at hp ⊢
    rcases hp with rfl | rfl | rfl | rfl | rfl <;> simp)
  clear F2 N2
  (try dsimp only)
  refine stC (news := (s.heap.objs.size + 1, oF2) :: (s.heap.objs.size + 1 + 1 + 1, oD) :: (aF, listOf ysF nF) :: (aS, listOf ysS nS) :: []) rfl rfl rfl F3 N3 ?hd hoS ?_
  case hd =>
    intro p hp
    simp only [List.mem_cons, List.not_mem_nil, or_false] at hp
    rcases hp with rfl | rfl | rfl | rfl
    · exact neN (by dsimp only; omega)
    · exact neN (by dsimp only; omega)
    · exact c2
    · exact d2
  intro hS2 oS2 F4 N4 hoS2 eS2
  clear F3 N3 hoS
  have PF : Paired (SpotV hS2) ysF.toList (spotsF ns 0) := paired_mono (F := SpotV hF) (fun a b (z : SpotV hF a b) => z.text ((eF2.trans (Ext.text heS)).trans eS2)) hPF
  have PS : Paired (SpotV hS2) ysS.toList (spotsF ns 1) := paired_mono (F := SpotV hS) (fun a b (z : SpotV hS a b) => z.text eS2) hPS
  have zF : ysF.size = (spotsF ns 0).length := by simpa using PF.length
  have zS : ysS.size = (spotsF ns 1).length := by simpa using PS.length
  have z0 := P0.l1
  have z1 := P0.l2
  clear hPF hPS
  (try dsimp only)
  repeat' (first
      | (k_unfold; (try dsimp only))
      | (k_end; kc_close)
      | (with_reducible ((with_reducible show wpAny _ _ (eval (Expr.Name (Str.ofString "due") _) (compEnvC _ _ _ _)) _ _ _); refine stopW ?_))
      | (with_reducible ((with_reducible show wpAny _ _ (eval (Expr.Name (Str.ofString "second") _) (compEnvC _ _ _ _)) _ _ _); refine stopW ?_))
      | (with_reducible ((with_reducible show wpAny _ _ (eval (Expr.Name (Str.ofString "first") _) (compEnvC _ _ _ _)) _ _ _); refine stopW ?_))
      | (with_reducible ((with_reducible show wpAny _ _ (newList _) _ _ _); (rename MarkP => hMk); refine stopW ?_))
      | (with_reducible ((with_reducible show wpAny _ _ (binaryOp _ (Value.ref _) (Value.ref _)) _ _ _); (rename MarkP => hMk); refine stopW ?_))
      | (with_reducible ((with_reducible show wpAny _ _ (storeName _ _ _) _ _ _); refine stopW ?_))
      | ((with_reducible show wpAny _ _ (call (Value.ref _) _) _ _ _); refine stopW ?_)
      | (with_reducible ((with_reducible show wpAny _ _ (call (Value.builtin "all") _) _ _ _); refine stopW ?_))
      | (with_reducible ((with_reducible show wpAny _ _ (eval (Expr.ListComp _ _ _ _) _) _ _ _); refine stopW ?_))
      | walk1
      | (dsimp only; walk1)
      | (leave1; (try dsimp only))
      | fail "no step")
  refine Halt.mk (due_call (KX.keeps F4.keep) (KT0.keeps F4.keep) (by omega) (by omega) (News.isList N4 (by k_mem)) (News.isList N4 (by k_mem)) (by omega) (by omega) PF PS P0.bnd ?_)
  intro aD hD tkD rsD heD hDD hplD hPD
  (try dsimp only at heD hDD)
  obtain ⟨nD, hplD⟩ := hplD
  have e1 : aD ≠ s.heap.objs.size + 1 := ne_of_none hDD (News.get N4 (by k_mem))
  have e2 : aD ≠ s.heap.objs.size + 1 + 1 := ne_of_none hDD (News.get N4 (by k_mem))
  have e3 : aD ≠ s.heap.objs.size + 1 + 1 + 1 := ne_of_none hDD (News.get N4 (by k_mem))
  have F5 := frExt F4 heD
  have N5 := newsSub (news' := (s.heap.objs.size + 1 + 1 + 1, oD) :: (s.heap.objs.size + 1, oF2) :: (s.heap.objs.size + 1 + 1, oS2) :: (aF, listOf ysF nF) :: (aS, listOf ysS nS) :: (aD, listOf rsD nD) :: []) (newsAdd F4 N4 hDD hplD heD) (by
    intro p hp
    simp only [List.mem_cons, List.not_mem_nil, or_false] at hp ⊢
    rcases hp with rfl | rfl | rfl | rfl | rfl | rfl <;> simp)
  clear F4 N4
  (try dsimp only)
  refine stC (news := (s.heap.objs.size + 1, oF2) :: (s.heap.objs.size + 1 + 1, oS2) :: (aF, listOf ysF nF) :: (aS, listOf ysS nS) :: (aD, listOf rsD nD) :: []) rfl rfl rfl F5 N5 ?hd hoD ?_
  case hd =>
    intro p hp
    simp only [List.mem_cons, List.not_mem_nil, or_false] at hp
    rcases hp with rfl | rfl | rfl | rfl | rfl
    · exact neN (by dsimp only; omega)
    · exact neN (by dsimp only; omega)
    · exact c3
    · exact d3
    · exact e3
  intro hD2 oD2 F6 N6 hoD2 eD2
  clear F5 N5 hoD c1 c2 c3 d1 d2 d3 e1 e2 e3 cN1
  have hMk : MarkP := trivial
  have tx : TExt hS2 hD2 := (Ext.text heD).trans eD2
  have PF2 : Paired (SpotV hD2) ysF.toList (spotsF ns 0) := paired_mono (F := SpotV hS2) (fun a b (z : SpotV hS2 a b) => z.text tx) PF
  have PS2 : Paired (SpotV hD2) ysS.toList (spotsF ns 1) := paired_mono (F := SpotV hS2) (fun a b (z : SpotV hS2 a b) => z.text tx) PS
  have PD2 : Paired (DueV hD2 hD2) rsD.toList (dueR (spotsF ns 0 ++ spotsF ns 1) ysF.size (ysF.size + ysS.size)) := paired_mono (F := DueV hS2 hD) (fun a b (z : DueV hS2 hD a b) => z.text tx eD2) hPD
  have zD : rsD.size ≤ 200 := by
    have u1 := PD2.length
    have u2 := dueR_len (qs := spotsF ns 0 ++ spotsF ns 1) (m := ysF.size) (i := ysF.size + ysS.size)
    rw [Array.length_toList] at u1
    omega
  clear PF PS hPD tx
  (try dsimp only)
  repeat' (first
      | (k_unfold; (try dsimp only))
      | (k_end; kc_close)
      | (with_reducible ((with_reducible show wpAny _ _ (eval (Expr.Name (Str.ofString "due") _) (compEnvC _ _ _ _)) _ _ _); refine stopW ?_))
      | (with_reducible ((with_reducible show wpAny _ _ (eval (Expr.Name (Str.ofString "second") _) (compEnvC _ _ _ _)) _ _ _); refine stopW ?_))
      | (with_reducible ((with_reducible show wpAny _ _ (eval (Expr.Name (Str.ofString "first") _) (compEnvC _ _ _ _)) _ _ _); refine stopW ?_))
      | (with_reducible ((with_reducible show wpAny _ _ (newList _) _ _ _); (rename MarkP => hMk); refine stopW ?_))
      | (with_reducible ((with_reducible show wpAny _ _ (binaryOp _ (Value.ref _) (Value.ref _)) _ _ _); (rename MarkP => hMk); refine stopW ?_))
      | (with_reducible ((with_reducible show wpAny _ _ (storeName _ _ _) _ _ _); refine stopW ?_))
      | ((with_reducible show wpAny _ _ (call (Value.ref _) _) _ _ _); refine stopW ?_)
      | (with_reducible ((with_reducible show wpAny _ _ (call (Value.builtin "all") _) _ _ _); refine stopW ?_))
      | (with_reducible ((with_reducible show wpAny _ _ (eval (Expr.ListComp _ _ _ _) _) _ _ _); refine stopW ?_))
      | walk1
      | (dsimp only; walk1)
      | (leave1; (try dsimp only))
      | fail "no step")
  refine Halt.mk (comp_seq (cl := []) (fun _ _ y => y = .bool true) (fun _ _ _ _ z _ => z) rfl rfl (by decide) rfl (by decide) (by decide) ?_)
  repeat' (first
      | (k_unfold; (try dsimp only))
      | (k_end; kc_close)
      | (with_reducible ((with_reducible show wpAny _ _ (eval (Expr.Name (Str.ofString "due") _) (compEnvC _ _ _ _)) _ _ _); refine stopW ?_))
      | (with_reducible ((with_reducible show wpAny _ _ (eval (Expr.Name (Str.ofString "second") _) (compEnvC _ _ _ _)) _ _ _); refine stopW ?_))
      | (with_reducible ((with_reducible show wpAny _ _ (eval (Expr.Name (Str.ofString "first") _) (compEnvC _ _ _ _)) _ _ _); refine stopW ?_))
      | (with_reducible ((with_reducible show wpAny _ _ (newList _) _ _ _); (rename MarkP => hMk); refine stopW ?_))
      | (with_reducible ((with_reducible show wpAny _ _ (binaryOp _ (Value.ref _) (Value.ref _)) _ _ _); (rename MarkP => hMk); refine stopW ?_))
      | (with_reducible ((with_reducible show wpAny _ _ (storeName _ _ _) _ _ _); refine stopW ?_))
      | ((with_reducible show wpAny _ _ (call (Value.ref _) _) _ _ _); refine stopW ?_)
      | (with_reducible ((with_reducible show wpAny _ _ (call (Value.builtin "all") _) _ _ _); refine stopW ?_))
      | (with_reducible ((with_reducible show wpAny _ _ (eval (Expr.ListComp _ _ _ _) _) _ _ _); refine stopW ?_))
      | walk1
      | (dsimp only; walk1)
      | (leave1; (try dsimp only))
      | fail "no step")
  (rename Fr _ _ _ _ => F7); (rename News _ _ _ _ => N7)
  refine Halt.mk (add_T (News.isList N7 (by k_mem)) (News.isList N7 (by k_mem)) (by omega) (by omega) ?_)
  intro hA aA heA hDA hplA
  (try dsimp only)
  have PA : Paired (SpotV hA) (ysF.toList ++ ysS.toList) (spotsF ns 0 ++ spotsF ns 1) := paired_mono (F := SpotV hD2) (fun a b (z : SpotV hD2 a b) => z.text (Ext.text heA)) (paired_app PF2 PS2)
  have FA := frExt F7 heA
  obtain ⟨nA, hplA⟩ := hplA
  have NA := newsAdd F7 N7 hDA hplA heA
  clear F7 N7
  refine Halt.mk ⟨aA, (ysF.toList ++ ysS.toList).toArray, rfl, .inl (News.isList NA (by k_mem)), by rw [sizeLine_eq]; simp; omega, ?_, ?_⟩
  · rintro C i v ⟨hp5, g5, dr5, tk5, os5⟩ m₅ E' hC5 hi hns5 hm5 he5
    obtain ⟨q, hq, a, t1, t2, t3, rfl, htp⟩ := paired_some PA (i := i) (by simpa using hi)
    have hqm := List.mem_of_getElem? hq
    obtain ⟨b1, b2, b3⟩ := P0.bnd q hqm
    have hO := P0.ok q hqm
    dsimp only at hns5 he5 hC5
    have FX : Fr hA C hp5 (fun y => if y = ("spot" : Str) then some (.ref a) else m₅ y) := frEq ⟨hns5, he5, hC5⟩ (by
      intro y
      by_cases e : y = ("spot" : Str)
      · subst e; simpa using hm5
      · simp [e])
    have NX : News hA C hp5 [] := News.nil
    have KX5 := KX.keeps FA.keep
    have KT5 := KT0.keeps FA.keep
    clear FA NA
    repeat' (first
        | (k_unfold; (try dsimp only))
        | (k_end; kc_close)
        | (with_reducible ((with_reducible show wpAny _ _ (eval (Expr.Name (Str.ofString "due") _) (compEnvC _ _ _ _)) _ _ _); refine stopW ?_))
        | (with_reducible ((with_reducible show wpAny _ _ (eval (Expr.Name (Str.ofString "second") _) (compEnvC _ _ _ _)) _ _ _); refine stopW ?_))
        | (with_reducible ((with_reducible show wpAny _ _ (eval (Expr.Name (Str.ofString "first") _) (compEnvC _ _ _ _)) _ _ _); refine stopW ?_))
        | (with_reducible ((with_reducible show wpAny _ _ (newList _) _ _ _); (rename MarkP => hMk); refine stopW ?_))
        | (with_reducible ((with_reducible show wpAny _ _ (binaryOp _ (Value.ref _) (Value.ref _)) _ _ _); (rename MarkP => hMk); refine stopW ?_))
        | (with_reducible ((with_reducible show wpAny _ _ (storeName _ _ _) _ _ _); refine stopW ?_))
        | ((with_reducible show wpAny _ _ (call (Value.ref _) _) _ _ _); refine stopW ?_)
        | (with_reducible ((with_reducible show wpAny _ _ (call (Value.builtin "all") _) _ _ _); refine stopW ?_))
        | (with_reducible ((with_reducible show wpAny _ _ (eval (Expr.ListComp _ _ _ _) _) _ _ _); refine stopW ?_))
        | walk1
        | (dsimp only; walk1)
        | (leave1; (try dsimp only))
        | fail "no step")
    all_goals first | exact (default : Str) | exact Value.none | exact ([] : List (Str × Addr)) | exact (0 : Nat) | skip
    (rename Fr _ _ _ _ => FY)
    refine Halt.mk (holds_call (Frag.In.keeps KX5 FY.keep) (Top.keeps KT5 FY.keep) (by omega) (IsTup.keeps htp FY.keep) b1 b2 b3 (P0.z1 q hqm) (P0.z2 q hqm) (P0.z3 q hqm) hO.f1 hO.f2 hO.f3 hO.c1 hO.c2 hO.c3 hO.c4 ?_)
    intro h2 tk2 he2
    exact ⟨rfl, keeps_of he2⟩
  · intro aB hB tkB ysB hDB hplB hPB heB
    (try dsimp only)
    obtain ⟨nB, hplB⟩ := hplB
    have FB := frExt FA heB
    have NB := newsAdd FA NA hDB hplB heB
    clear FA NA
    repeat' (first
        | (k_unfold; (try dsimp only))
        | (k_end; kc_close)
        | (with_reducible ((with_reducible show wpAny _ _ (eval (Expr.Name (Str.ofString "due") _) (compEnvC _ _ _ _)) _ _ _); refine stopW ?_))
        | (with_reducible ((with_reducible show wpAny _ _ (eval (Expr.Name (Str.ofString "second") _) (compEnvC _ _ _ _)) _ _ _); refine stopW ?_))
        | (with_reducible ((with_reducible show wpAny _ _ (eval (Expr.Name (Str.ofString "first") _) (compEnvC _ _ _ _)) _ _ _); refine stopW ?_))
        | (with_reducible ((with_reducible show wpAny _ _ (newList _) _ _ _); (rename MarkP => hMk); refine stopW ?_))
        | (with_reducible ((with_reducible show wpAny _ _ (binaryOp _ (Value.ref _) (Value.ref _)) _ _ _); (rename MarkP => hMk); refine stopW ?_))
        | (with_reducible ((with_reducible show wpAny _ _ (storeName _ _ _) _ _ _); refine stopW ?_))
        | ((with_reducible show wpAny _ _ (call (Value.ref _) _) _ _ _); refine stopW ?_)
        | (with_reducible ((with_reducible show wpAny _ _ (call (Value.builtin "all") _) _ _ _); refine stopW ?_))
        | (with_reducible ((with_reducible show wpAny _ _ (eval (Expr.ListComp _ _ _ _) _) _ _ _); refine stopW ?_))
        | walk1
        | (dsimp only; walk1)
        | (leave1; (try dsimp only))
        | fail "no step")
    (rename Fr _ _ _ _ => F9); (rename News _ _ _ _ => N9)
    refine Halt.mk (all_K rfl (News.isList N9 (by k_mem)) (fun i v hi => by
      obtain ⟨x, _, z⟩ := paired_some2 hPB (i := i) (by simpa using hi)
      exact z) ?_)
    intro hC tkC heC
    have FC := frExt F9 heC
    have NC := newsExt N9 heC
    clear F9 N9 hPB
    (try dsimp only)
    repeat' (first
        | (k_unfold; (try dsimp only))
        | (k_end; kc_close)
        | (with_reducible ((with_reducible show wpAny _ _ (eval (Expr.Name (Str.ofString "due") _) (compEnvC _ _ _ _)) _ _ _); refine stopW ?_))
        | (with_reducible ((with_reducible show wpAny _ _ (eval (Expr.Name (Str.ofString "second") _) (compEnvC _ _ _ _)) _ _ _); refine stopW ?_))
        | (with_reducible ((with_reducible show wpAny _ _ (eval (Expr.Name (Str.ofString "first") _) (compEnvC _ _ _ _)) _ _ _); refine stopW ?_))
        | (with_reducible ((with_reducible show wpAny _ _ (newList _) _ _ _); (rename MarkP => hMk); refine stopW ?_))
        | (with_reducible ((with_reducible show wpAny _ _ (binaryOp _ (Value.ref _) (Value.ref _)) _ _ _); (rename MarkP => hMk); refine stopW ?_))
        | (with_reducible ((with_reducible show wpAny _ _ (storeName _ _ _) _ _ _); refine stopW ?_))
        | ((with_reducible show wpAny _ _ (call (Value.ref _) _) _ _ _); refine stopW ?_)
        | (with_reducible ((with_reducible show wpAny _ _ (call (Value.builtin "all") _) _ _ _); refine stopW ?_))
        | (with_reducible ((with_reducible show wpAny _ _ (eval (Expr.ListComp _ _ _ _) _) _ _ _); refine stopW ?_))
        | walk1
        | (dsimp only; walk1)
        | (leave1; (try dsimp only))
        | fail "no step")
    (rename Fr _ _ _ _ => F9); (rename News _ _ _ _ => N9)
    refine Halt.mk (wrS rfl rfl F9 N9 ?_)
    intro hE FE NE eE
    clear F9 N9
    (try dsimp only)
    repeat' (first
        | (k_unfold; (try dsimp only))
        | (k_end; kc_close)
        | (with_reducible ((with_reducible show wpAny _ _ (eval (Expr.Name (Str.ofString "due") _) (compEnvC _ _ _ _)) _ _ _); refine stopW ?_))
        | (with_reducible ((with_reducible show wpAny _ _ (eval (Expr.Name (Str.ofString "second") _) (compEnvC _ _ _ _)) _ _ _); refine stopW ?_))
        | (with_reducible ((with_reducible show wpAny _ _ (eval (Expr.Name (Str.ofString "first") _) (compEnvC _ _ _ _)) _ _ _); refine stopW ?_))
        | (with_reducible ((with_reducible show wpAny _ _ (newList _) _ _ _); (rename MarkP => hMk); refine stopW ?_))
        | (with_reducible ((with_reducible show wpAny _ _ (binaryOp _ (Value.ref _) (Value.ref _)) _ _ _); (rename MarkP => hMk); refine stopW ?_))
        | (with_reducible ((with_reducible show wpAny _ _ (storeName _ _ _) _ _ _); refine stopW ?_))
        | ((with_reducible show wpAny _ _ (call (Value.ref _) _) _ _ _); refine stopW ?_)
        | (with_reducible ((with_reducible show wpAny _ _ (call (Value.builtin "all") _) _ _ _); refine stopW ?_))
        | (with_reducible ((with_reducible show wpAny _ _ (eval (Expr.ListComp _ _ _ _) _) _ _ _); refine stopW ?_))
        | walk1
        | (dsimp only; walk1)
        | (leave1; (try dsimp only))
        | fail "no step")
    have txE : TExt hD2 hE := ((Ext.text heA).trans (Ext.text heB)).trans ((Ext.text heC).trans eE)
    have PF3 : Paired (SpotV hE) ysF.toList (spotsF ns 0) := paired_mono (F := SpotV hD2) (fun a b (z : SpotV hD2 a b) => z.text txE) PF2
    have PS3 : Paired (SpotV hE) ysS.toList (spotsF ns 1) := paired_mono (F := SpotV hD2) (fun a b (z : SpotV hD2 a b) => z.text txE) PS2
    have PD3 : Paired (DueV hE hE) rsD.toList (dueR (spotsF ns 0 ++ spotsF ns 1) ysF.size (ysF.size + ysS.size)) := paired_mono (F := DueV hD2 hD2) (fun a b (z : DueV hD2 hD2 a b) => z.text txE txE) PD2
    clear PF2 PS2 PD2 txE
    refine Halt.mk (comp_seq (cl := [("second", s.heap.objs.size + 1 + 1), ("first", s.heap.objs.size + 1), ("due", s.heap.objs.size + 1 + 1 + 1)]) (fun _ _ y => y = .bool true) (fun _ _ _ _ z _ => z) rfl (clos3 rfl rfl rfl) (by decide) rfl (by decide) (by decide) ?_)
    repeat' (first
        | (k_unfold; (try dsimp only))
        | (k_end; kc_close)
        | (with_reducible ((with_reducible show wpAny _ _ (eval (Expr.Name (Str.ofString "due") _) (compEnvC _ _ _ _)) _ _ _); refine stopW ?_))
        | (with_reducible ((with_reducible show wpAny _ _ (eval (Expr.Name (Str.ofString "second") _) (compEnvC _ _ _ _)) _ _ _); refine stopW ?_))
        | (with_reducible ((with_reducible show wpAny _ _ (eval (Expr.Name (Str.ofString "first") _) (compEnvC _ _ _ _)) _ _ _); refine stopW ?_))
        | (with_reducible ((with_reducible show wpAny _ _ (newList _) _ _ _); (rename MarkP => hMk); refine stopW ?_))
        | (with_reducible ((with_reducible show wpAny _ _ (binaryOp _ (Value.ref _) (Value.ref _)) _ _ _); (rename MarkP => hMk); refine stopW ?_))
        | (with_reducible ((with_reducible show wpAny _ _ (storeName _ _ _) _ _ _); refine stopW ?_))
        | ((with_reducible show wpAny _ _ (call (Value.ref _) _) _ _ _); refine stopW ?_)
        | (with_reducible ((with_reducible show wpAny _ _ (call (Value.builtin "all") _) _ _ _); refine stopW ?_))
        | (with_reducible ((with_reducible show wpAny _ _ (eval (Expr.ListComp _ _ _ _) _) _ _ _); refine stopW ?_))
        | walk1
        | (dsimp only; walk1)
        | (leave1; (try dsimp only))
        | fail "no step")
    (rename Fr _ _ _ _ => F9); (rename News _ _ _ _ => N9)
    refine Halt.mk (wpAny_newObj_type ?_)
    (try dsimp only)
    generalize hGd : hE.push { cls := Value.type "list", dict := none, data := Data.seq [Value.ref 173, Value.ref 180, Value.ref 187].toArray } = hG
    have eG : Ext hE hG := fun b o q => hGd ▸ Heap.get?_push_of_some _ q
    have oG : hG.get? hE.objs.size = some (listOf #[Value.ref 173, Value.ref 180, Value.ref 187] 0) := hGd ▸ Heap.get?_push_size _ rfl
    have FG := frExt F9 eG
    have NG := newsAdd F9 N9 (get_new hE) oG eG
    clear F9 N9 hGd
    refine Halt.mk ⟨_, #[Value.ref 173, .ref 180, .ref 187], rfl, .inl (News.isList NG List.mem_cons_self), (by (show 3 ≤ sizeLine); rw [sizeLine_eq]; decide), ?_, ?_⟩
    · rintro C i v ⟨hp5, g5, dr5, tk5, os5⟩ m₅ E' hC5 hi hns5 hm5 he5
      dsimp only at hns5 he5 hC5
      have FX : Fr hG C hp5 (fun y => if y = ("tell" : Str) then some v else m₅ y) := frEq ⟨hns5, he5, hC5⟩ (by
        intro y
        by_cases e : y = ("tell" : Str)
        · subst e; simpa using hm5
        · simp [e])
      have NX : News hG C hp5 [] := News.nil
      have KX5 := KX.keeps FG.keep
      have KT5 := KT0.keeps FG.keep
      have ce1 : hp5.IsCell (s.heap.objs.size + 1) (some (.ref aF)) := ⟨_, he5 _ _ (News.get NG (by k_mem)), hoF2⟩
      have ce2 : hp5.IsCell (s.heap.objs.size + 1 + 1) (some (.ref aS)) := ⟨_, he5 _ _ (News.get NG (by k_mem)), hoS2⟩
      have ce3 : hp5.IsCell (s.heap.objs.size + 1 + 1 + 1) (some (.ref aD)) := ⟨_, he5 _ _ (News.get NG (by k_mem)), hoD2⟩
      have li1 : hp5.IsList aF ysF := (News.isList NG (by k_mem)).at fun o e => he5 _ o e
      have li2 : hp5.IsList aS ysS := (News.isList NG (by k_mem)).at fun o e => he5 _ o e
      have li3 : hp5.IsList aD rsD := (News.isList NG (by k_mem)).at fun o e => he5 _ o e
      have tx5 : TExt hE hp5 := (Ext.text eG).trans (Ext.text he5)
      have Q1 : Paired (SpotV hp5) ysF.toList (spotsF ns 0) := paired_mono (F := SpotV hE) (fun a b (z : SpotV hE a b) => z.text tx5) PF3
      have Q2 : Paired (SpotV hp5) ysS.toList (spotsF ns 1) := paired_mono (F := SpotV hE) (fun a b (z : SpotV hE a b) => z.text tx5) PS3
      have Q3 : Paired (DueV hp5 hp5) rsD.toList (dueR (spotsF ns 0 ++ spotsF ns 1) ysF.size (ysF.size + ysS.size)) := paired_mono (F := DueV hE hE) (fun a b (z : DueV hE hE a b) => z.text tx5 tx5) PD3
      clear FG NG PF3 PS3 PD3 tx5
      repeat' (first
          | (k_unfold; (try dsimp only))
          | (k_end; kc_close)
          | (with_reducible ((with_reducible show wpAny _ _ (eval (Expr.Name (Str.ofString "due") _) (compEnvC _ _ _ _)) _ _ _); refine stopW ?_))
          | (with_reducible ((with_reducible show wpAny _ _ (eval (Expr.Name (Str.ofString "second") _) (compEnvC _ _ _ _)) _ _ _); refine stopW ?_))
          | (with_reducible ((with_reducible show wpAny _ _ (eval (Expr.Name (Str.ofString "first") _) (compEnvC _ _ _ _)) _ _ _); refine stopW ?_))
          | (with_reducible ((with_reducible show wpAny _ _ (newList _) _ _ _); (rename MarkP => hMk); refine stopW ?_))
          | (with_reducible ((with_reducible show wpAny _ _ (binaryOp _ (Value.ref _) (Value.ref _)) _ _ _); (rename MarkP => hMk); refine stopW ?_))
          | (with_reducible ((with_reducible show wpAny _ _ (storeName _ _ _) _ _ _); refine stopW ?_))
          | ((with_reducible show wpAny _ _ (call (Value.ref _) _) _ _ _); refine stopW ?_)
          | (with_reducible ((with_reducible show wpAny _ _ (call (Value.builtin "all") _) _ _ _); refine stopW ?_))
          | (with_reducible ((with_reducible show wpAny _ _ (eval (Expr.ListComp _ _ _ _) _) _ _ _); refine stopW ?_))
          | walk1
          | (dsimp only; walk1)
          | (leave1; (try dsimp only))
          | fail "no step")
      all_goals first | exact (default : Str) | exact Value.none | exact ([] : List (Str × Addr)) | exact (0 : Nat) | skip
      refine Halt.mk (nmC ce1 (by rfl) ?_ rfl (kindOf_relabel (by decide) rfl (by rfl)) (by decide))
      repeat' (first
          | (k_unfold; (try dsimp only))
          | (k_end; kc_close)
          | (with_reducible ((with_reducible show wpAny _ _ (eval (Expr.Name (Str.ofString "due") _) (compEnvC _ _ _ _)) _ _ _); refine stopW ?_))
          | (with_reducible ((with_reducible show wpAny _ _ (eval (Expr.Name (Str.ofString "second") _) (compEnvC _ _ _ _)) _ _ _); refine stopW ?_))
          | (with_reducible ((with_reducible show wpAny _ _ (eval (Expr.Name (Str.ofString "first") _) (compEnvC _ _ _ _)) _ _ _); refine stopW ?_))
          | (with_reducible ((with_reducible show wpAny _ _ (newList _) _ _ _); (rename MarkP => hMk); refine stopW ?_))
          | (with_reducible ((with_reducible show wpAny _ _ (binaryOp _ (Value.ref _) (Value.ref _)) _ _ _); (rename MarkP => hMk); refine stopW ?_))
          | (with_reducible ((with_reducible show wpAny _ _ (storeName _ _ _) _ _ _); refine stopW ?_))
          | ((with_reducible show wpAny _ _ (call (Value.ref _) _) _ _ _); refine stopW ?_)
          | (with_reducible ((with_reducible show wpAny _ _ (call (Value.builtin "all") _) _ _ _); refine stopW ?_))
          | (with_reducible ((with_reducible show wpAny _ _ (eval (Expr.ListComp _ _ _ _) _) _ _ _); refine stopW ?_))
          | walk1
          | (dsimp only; walk1)
          | (leave1; (try dsimp only))
          | fail "no step")
      refine Halt.mk (nmC ce2 (by rfl) ?_ rfl (kindOf_relabel (by decide) rfl (by rfl)) (by decide))
      repeat' (first
          | (k_unfold; (try dsimp only))
          | (k_end; kc_close)
          | (with_reducible ((with_reducible show wpAny _ _ (eval (Expr.Name (Str.ofString "due") _) (compEnvC _ _ _ _)) _ _ _); refine stopW ?_))
          | (with_reducible ((with_reducible show wpAny _ _ (eval (Expr.Name (Str.ofString "second") _) (compEnvC _ _ _ _)) _ _ _); refine stopW ?_))
          | (with_reducible ((with_reducible show wpAny _ _ (eval (Expr.Name (Str.ofString "first") _) (compEnvC _ _ _ _)) _ _ _); refine stopW ?_))
          | (with_reducible ((with_reducible show wpAny _ _ (newList _) _ _ _); (rename MarkP => hMk); refine stopW ?_))
          | (with_reducible ((with_reducible show wpAny _ _ (binaryOp _ (Value.ref _) (Value.ref _)) _ _ _); (rename MarkP => hMk); refine stopW ?_))
          | (with_reducible ((with_reducible show wpAny _ _ (storeName _ _ _) _ _ _); refine stopW ?_))
          | ((with_reducible show wpAny _ _ (call (Value.ref _) _) _ _ _); refine stopW ?_)
          | (with_reducible ((with_reducible show wpAny _ _ (call (Value.builtin "all") _) _ _ _); refine stopW ?_))
          | (with_reducible ((with_reducible show wpAny _ _ (eval (Expr.ListComp _ _ _ _) _) _ _ _); refine stopW ?_))
          | walk1
          | (dsimp only; walk1)
          | (leave1; (try dsimp only))
          | fail "no step")
      refine Halt.mk (nmC ce3 (by rfl) ?_ rfl (kindOf_relabel (by decide) rfl (by rfl)) (by decide))
      repeat' (first
          | (k_unfold; (try dsimp only))
          | (k_end; kc_close)
          | (with_reducible ((with_reducible show wpAny _ _ (eval (Expr.Name (Str.ofString "due") _) (compEnvC _ _ _ _)) _ _ _); refine stopW ?_))
          | (with_reducible ((with_reducible show wpAny _ _ (eval (Expr.Name (Str.ofString "second") _) (compEnvC _ _ _ _)) _ _ _); refine stopW ?_))
          | (with_reducible ((with_reducible show wpAny _ _ (eval (Expr.Name (Str.ofString "first") _) (compEnvC _ _ _ _)) _ _ _); refine stopW ?_))
          | (with_reducible ((with_reducible show wpAny _ _ (newList _) _ _ _); (rename MarkP => hMk); refine stopW ?_))
          | (with_reducible ((with_reducible show wpAny _ _ (binaryOp _ (Value.ref _) (Value.ref _)) _ _ _); (rename MarkP => hMk); refine stopW ?_))
          | (with_reducible ((with_reducible show wpAny _ _ (storeName _ _ _) _ _ _); refine stopW ?_))
          | ((with_reducible show wpAny _ _ (call (Value.ref _) _) _ _ _); refine stopW ?_)
          | (with_reducible ((with_reducible show wpAny _ _ (call (Value.builtin "all") _) _ _ _); refine stopW ?_))
          | (with_reducible ((with_reducible show wpAny _ _ (eval (Expr.ListComp _ _ _ _) _) _ _ _); refine stopW ?_))
          | walk1
          | (dsimp only; walk1)
          | (leave1; (try dsimp only))
          | fail "no step")
      (rename Fr _ _ _ _ => FY)
      have hmemD : ∀ r ∈ dueR (spotsF ns 0 ++ spotsF ns 1) ysF.size (ysF.size + ysS.size), r.2.2 ∈ spotsF ns 0 ++ spotsF ns 1 := dueR_mem (by rw [List.length_append]; omega)
      have hv : v = .ref 173 ∨ v = .ref 180 ∨ v = .ref 187 := by
        have : i = 0 ∨ i = 1 ∨ i = 2 ∨ 3 ≤ i := by omega
        rcases this with rfl | rfl | rfl | h3
        · exact .inl (Option.some.inj hi).symm
        · exact .inr (.inl (Option.some.inj hi).symm)
        · exact .inr (.inr (Option.some.inj hi).symm)
        · rw [Array.getElem?_eq_none (by simpa using h3)] at hi; cases hi
      rcases hv with rfl | rfl | rfl
      · refine Halt.mk (rows_call tells_hsv (Frag.In.keeps KX5 FY.keep) (Top.keeps KT5 FY.keep) (by omega) (by omega) li1 li2 li3 (by omega) (by omega) zD Q1 Q2 Q3
          (fun q hq => ⟨P0.bnd q (List.mem_append_left _ hq), P0.z1 q (List.mem_append_left _ hq)⟩) (fun q hq => ⟨P0.bnd q (List.mem_append_right _ hq), P0.z1 q (List.mem_append_right _ hq)⟩)
          (fun r hr => ⟨P0.bnd _ (hmemD r hr), P0.z1 _ (hmemD r hr)⟩) P0.k1 hmemD (by rw [zF, zS]; exact P0.r1) ?_)
        intro h2 tk2 he2
        exact ⟨rfl, keeps_of he2⟩
      · refine Halt.mk (rows_call tells_hls (Frag.In.keeps KX5 FY.keep) (Top.keeps KT5 FY.keep) (by omega) (by omega) li1 li2 li3 (by omega) (by omega) zD Q1 Q2 Q3
          (fun q hq => ⟨P0.bnd q (List.mem_append_left _ hq), P0.z2 q (List.mem_append_left _ hq)⟩) (fun q hq => ⟨P0.bnd q (List.mem_append_right _ hq), P0.z2 q (List.mem_append_right _ hq)⟩)
          (fun r hr => ⟨P0.bnd _ (hmemD r hr), P0.z2 _ (hmemD r hr)⟩) P0.k2 hmemD (by rw [zF, zS]; exact P0.r2) ?_)
        intro h2 tk2 he2
        exact ⟨rfl, keeps_of he2⟩
      · refine Halt.mk (rows_call tells_neg (Frag.In.keeps KX5 FY.keep) (Top.keeps KT5 FY.keep) (by omega) (by omega) li1 li2 li3 (by omega) (by omega) zD Q1 Q2 Q3
          (fun q hq => ⟨P0.bnd q (List.mem_append_left _ hq), P0.z3 q (List.mem_append_left _ hq)⟩) (fun q hq => ⟨P0.bnd q (List.mem_append_right _ hq), P0.z3 q (List.mem_append_right _ hq)⟩)
          (fun r hr => ⟨P0.bnd _ (hmemD r hr), P0.z3 _ (hmemD r hr)⟩) P0.k3 hmemD (by rw [zF, zS]; exact P0.r3) ?_)
        intro h2 tk2 he2
        exact ⟨rfl, keeps_of he2⟩
    · intro aZ hZ tkZ ysZ hDZ hplZ hPZ heZ
      (try dsimp only)
      obtain ⟨nZ, hplZ⟩ := hplZ
      have FZ := frExt FG heZ
      have NZ := newsAdd FG NG hDZ hplZ heZ
      clear FG NG
      repeat' (first
          | (k_unfold; (try dsimp only))
          | (k_end; kc_close)
          | (with_reducible ((with_reducible show wpAny _ _ (eval (Expr.Name (Str.ofString "due") _) (compEnvC _ _ _ _)) _ _ _); refine stopW ?_))
          | (with_reducible ((with_reducible show wpAny _ _ (eval (Expr.Name (Str.ofString "second") _) (compEnvC _ _ _ _)) _ _ _); refine stopW ?_))
          | (with_reducible ((with_reducible show wpAny _ _ (eval (Expr.Name (Str.ofString "first") _) (compEnvC _ _ _ _)) _ _ _); refine stopW ?_))
          | (with_reducible ((with_reducible show wpAny _ _ (newList _) _ _ _); (rename MarkP => hMk); refine stopW ?_))
          | (with_reducible ((with_reducible show wpAny _ _ (binaryOp _ (Value.ref _) (Value.ref _)) _ _ _); (rename MarkP => hMk); refine stopW ?_))
          | (with_reducible ((with_reducible show wpAny _ _ (storeName _ _ _) _ _ _); refine stopW ?_))
          | ((with_reducible show wpAny _ _ (call (Value.ref _) _) _ _ _); refine stopW ?_)
          | (with_reducible ((with_reducible show wpAny _ _ (call (Value.builtin "all") _) _ _ _); refine stopW ?_))
          | (with_reducible ((with_reducible show wpAny _ _ (eval (Expr.ListComp _ _ _ _) _) _ _ _); refine stopW ?_))
          | walk1
          | (dsimp only; walk1)
          | (leave1; (try dsimp only))
          | fail "no step")
      (rename Fr _ _ _ _ => F9); (rename News _ _ _ _ => N9)
      refine Halt.mk (all_K rfl (News.isList N9 (by k_mem)) (fun i v hi => by
        obtain ⟨x, _, z⟩ := paired_some2 hPZ (i := i) (by simpa using hi)
        exact z) ?_)
      intro hU tkU heU
      have FU := frExt F9 heU
      have NU := newsExt N9 heU
      clear F9 N9 hPZ
      (try dsimp only)
      k_steps))
end Mine
end
section
open PySem PySem.W PySem.Calls PyProof.Rows
namespace Mine
set_option maxRecDepth 100000
set_option maxHeartbeats 4000000
noncomputable def qn (a : Nat) : UInt64 := q64 (a : Int)
noncomputable def dv (a b : Nat) : UInt64 := Float64.div (qn a) (qn b)
noncomputable def lo : List Nat := List.range 29
noncomputable def hi : List Nat := (List.range 29).map (36 + ·)
theorem all2 {l : List Nat} {k : List Nat} {P : Nat → Nat → Bool} (h : (l.all fun a => k.all fun b => P a b) = true) : ∀ a ∈ l, ∀ b ∈ k, P a b = true := fun a ha b hb => List.all_eq_true.mp (List.all_eq_true.mp h a ha) b hb
noncomputable def okCmp (a b : Nat) : Bool := Float64.cmp (qn a) (qn b) == some (compare a b)
theorem tabCmp1 : (lo.all fun a => lo.all fun b => okCmp a b) = true := by decide +kernel
theorem tabCmp2 : (hi.all fun a => hi.all fun b => okCmp a b) = true := by decide +kernel
noncomputable def okSub (a b : Nat) : Bool := decide (a < b) || Float64.sub (qn a) (qn b) == qn (a - b)
theorem tabSub1 : (lo.all fun a => lo.all fun b => okSub a b) = true := by decide +kernel
theorem tabSub2 : (hi.all fun a => hi.all fun b => okSub a b) = true := by decide +kernel
noncomputable def okAdd (a b : Nat) : Bool := Float64.add (qn a) (qn b) == qn (a + b)
theorem tabAdd1 : (lo.all fun a => lo.all fun b => okAdd a b) = true := by decide +kernel
theorem tabAdd2 : (hi.all fun a => hi.all fun b => okAdd a b) = true := by decide +kernel
theorem tabNeg : (lo.all fun a => n64 (a : Int) == qn (64 - a)) = true := by decide +kernel
theorem tabHalf : ((List.range 129).all fun a => fle (Float64.div (qn a) 4611686018427387904) 4602678819172646912 == decide (a ≤ 64)) = true := by decide +kernel
theorem tabTwo : (hi.all fun a => Float64.sub 4611686018427387904 (qn a) == qn (128 - a)) = true := by decide +kernel
noncomputable def okSub3 (a b : Nat) : Bool := Float64.sub (qn (128 - a)) (qn b) == qn (128 - a - b)
theorem tabSub3 : (hi.all fun a => hi.all fun b => okSub3 a b) = true := by decide +kernel
theorem tabZero : ((List.range 129).all fun a => Float64.isZero (qn a) == decide (a = 0)) = true := by decide +kernel
/-- quotients in lowest terms -/
noncomputable def okDv (a b : Nat) : Bool := Nat.gcd a b == 1 || dv a b == dv (a / Nat.gcd a b) (b / Nat.gcd a b)
theorem tabDv : (lo.all fun a => (List.range 57).all fun b => decide (b < a) || okDv a b) = true := by decide +kernel
end Mine
end
section
open PySem PySem.W PySem.Calls PyProof.Rows
namespace Mine
set_option maxRecDepth 100000
set_option maxHeartbeats 4000000

noncomputable def mxn (r g b : Nat) : Nat := max (max r g) b
noncomputable def mnn (r g b : Nat) : Nat := min (min r g) b
theorem mm (r g b : Nat) : r ≤ mxn r g b ∧ g ≤ mxn r g b ∧ b ≤ mxn r g b ∧ mnn r g b ≤ r ∧ mnn r g b ≤ g ∧ mnn r g b ≤ b :=
  ⟨Nat.le_trans (Nat.le_max_left _ _) (Nat.le_max_left _ _), Nat.le_trans (Nat.le_max_right _ _) (Nat.le_max_left _ _), Nat.le_max_right _ _,
   Nat.le_trans (Nat.min_le_left _ _) (Nat.min_le_left _ _), Nat.le_trans (Nat.min_le_left _ _) (Nat.min_le_right _ _), Nat.min_le_right _ _⟩
theorem mxn_le {r g b n : Nat} (hr : r ≤ n) (hg : g ≤ n) (hb : b ≤ n) : mxn r g b ≤ n := Nat.max_le.mpr ⟨Nat.max_le.mpr ⟨hr, hg⟩, hb⟩
theorem mxn_mem (r g b : Nat) : mxn r g b = r ∨ mxn r g b = g ∨ mxn r g b = b := by
  unfold mxn
  rcases Std.MaxEqOr.max_eq_or (max r g) b with h | h
  · rw [h]; rcases Std.MaxEqOr.max_eq_or r g with k | k
    · exact .inl k
    · exact .inr (.inl k)
  · exact .inr (.inr h)
theorem mnn_mem (r g b : Nat) : mnn r g b = r ∨ mnn r g b = g ∨ mnn r g b = b := by
  unfold mnn
  rcases Std.MinEqOr.min_eq_or (min r g) b with h | h
  · rw [h]; rcases Std.MinEqOr.min_eq_or r g with k | k
    · exact .inl k
    · exact .inr (.inl k)
  · exact .inr (.inr h)
theorem mxn_neg {r g b : Nat} : mxn (64 - r) (64 - g) (64 - b) = 64 - mnn r g b := by unfold mxn mnn; rw [Nat.sub_max_sub_left, Nat.sub_max_sub_left]
theorem mnn_neg {r g b : Nat} : mnn (64 - r) (64 - g) (64 - b) = 64 - mxn r g b := by unfold mxn mnn; rw [Nat.sub_min_sub_left, Nat.sub_min_sub_left]
theorem flip {M m x : Nat} (h : x ≤ M) : M - m - (M - x) = x - m := by rw [Nat.sub_right_comm, Nat.sub_sub_self h]
theorem up64 {a m : Nat} (ha : a ≤ 64) (hm : m ≤ 64) : 64 - a = 64 - m ↔ a = m :=
  ⟨fun e => by rw [← Nat.sub_sub_self ha, e, Nat.sub_sub_self hm], fun e => by rw [e]⟩
theorem sub0 {a m : Nat} (h : m ≤ a) : a = m ↔ a - m = 0 := ⟨fun e => by rw [e, Nat.sub_self], fun e => Nat.le_antisymm (Nat.le_of_sub_eq_zero e) h⟩
theorem low {n : Nat} (h : n ≤ 28) : n ≤ 64 := Nat.le_trans h (by decide)
theorem hi1 {a : Nat} (h : a ≤ 28) : 36 ≤ 64 - a := Nat.sub_le_sub_left h 64
theorem ng_eq {M m : Nat} (hM : M ≤ 28) (hm : m ≤ M) : 64 - m + (64 - M) ≤ 128 ∧ ¬ 64 - m + (64 - M) ≤ 64 ∧ 64 - m - (64 - M) = M - m ∧ 128 - (64 - m) - (64 - M) = M + m ∧ (64 - M = 64 - m ↔ m = M) := by
  have hm28 := Nat.le_trans hm hM
  refine ⟨Nat.add_le_add (Nat.sub_le _ _) (Nat.sub_le _ _), Nat.not_le_of_lt (Nat.lt_of_lt_of_le (by decide : 64 < 36 + 36) (Nat.add_le_add (hi1 hm28) (hi1 hM))), flip (low hM), ?_, (up64 (low hM) (low hm28)).trans eq_comm⟩
  have e1 : 128 - (64 - m) = m + 64 := by
    rw [show (128 : Nat) = 64 + 64 from rfl, Nat.add_sub_assoc (Nat.sub_le 64 m), Nat.sub_sub_self (low hm28), Nat.add_comm]
  rw [e1, Nat.add_sub_assoc (Nat.sub_le 64 M), Nat.sub_sub_self (low hM), Nat.add_comm]
theorem mem_lo {a : Nat} (h : a ≤ 28) : a ∈ lo := List.mem_range.mpr (Nat.lt_succ_of_le h)
theorem mem_ng {a : Nat} (h : a ≤ 28) : 64 - a ∈ hi := List.mem_map.mpr ⟨28 - a, List.mem_range.mpr (Nat.lt_succ_of_le (Nat.sub_le _ _)), (Nat.add_sub_assoc h 36).symm⟩
theorem mem_hi {a : Nat} (h : 36 ≤ a) (h' : a ≤ 64) : a ∈ hi := List.mem_map.mpr ⟨a - 36, List.mem_range.mpr (Nat.lt_succ_of_le (Nat.sub_le_sub_right h' 36)), Nat.add_sub_cancel' h⟩

noncomputable def CmpOn (l : List Nat) : Prop := ∀ a ∈ l, ∀ b ∈ l, Float64.cmp (qn a) (qn b) = some (compare a b)
theorem cmp_lo : CmpOn lo := fun a ha b hb => by simpa [okCmp] using all2 tabCmp1 a ha b hb
theorem cmp_hi : CmpOn hi := fun a ha b hb => by simpa [okCmp] using all2 tabCmp2 a ha b hb
section
variable {l : List Nat} (C : CmpOn l) {a b c : Nat} (ha : a ∈ l) (hb : b ∈ l) (hc : c ∈ l)
include C ha hb
theorem fgt_on : fgt (qn a) (qn b) = decide (b < a) := by
  unfold fgt; rw [C a ha b hb]
  rcases Nat.lt_trichotomy a b with h | h | h
  · simp [Nat.compare_eq_lt.mpr h]; omega
  · subst h; simp
  · simp [Nat.compare_eq_gt.mpr h, h]
theorem flt_on : flt (qn a) (qn b) = decide (a < b) := by
  unfold flt; rw [C a ha b hb]
  rcases Nat.lt_trichotomy a b with h | h | h
  · simp [Nat.compare_eq_lt.mpr h, h]
  · subst h; simp
  · simp [Nat.compare_eq_gt.mpr h]; omega
theorem feq_on : feq (qn a) (qn b) = decide (a = b) := by
  unfold feq; rw [C a ha b hb]
  rcases Nat.lt_trichotomy a b with h | h | h
  · simp [Nat.compare_eq_lt.mpr h]; omega
  · subst h; simp
  · simp [Nat.compare_eq_gt.mpr h]; omega
include hc
theorem mx3_on : mx3 (qn a) (qn b) (qn c) = qn (mxn a b c) := by
  unfold mx3 mxn
  rw [fgt_on C hb ha, fgt_on C hc hb, fgt_on C hc ha]
  by_cases h1 : a < b <;> by_cases h2 : b < c <;> by_cases h3 : a < c <;> simp [h1, h2, h3] <;> (congr 1; omega)
theorem mn3_on : mn3 (qn a) (qn b) (qn c) = qn (mnn a b c) := by
  unfold mn3 mnn
  rw [flt_on C hb ha, flt_on C hc hb, flt_on C hc ha]
  by_cases h1 : b < a <;> by_cases h2 : c < b <;> by_cases h3 : c < a <;> simp [h1, h2, h3] <;> (congr 1; omega)
end

theorem sub_lo {a b : Nat} (ha : a ≤ 28) (h : b ≤ a) : Float64.sub (qn a) (qn b) = qn (a - b) := by
  have := all2 tabSub1 a (mem_lo ha) b (mem_lo (by omega))
  simpa [okSub, Nat.not_lt.mpr h] using this
theorem sub_hi {a b : Nat} (ha : a ≤ 64) (hb : 36 ≤ b) (h : b ≤ a) : Float64.sub (qn a) (qn b) = qn (a - b) := by
  have := all2 tabSub2 a (mem_hi (by omega) ha) b (mem_hi hb (by omega))
  simpa [okSub, Nat.not_lt.mpr h] using this
theorem add_lo {a b : Nat} (ha : a ≤ 28) (hb : b ≤ 28) : Float64.add (qn a) (qn b) = qn (a + b) := by
  simpa [okAdd] using all2 tabAdd1 a (mem_lo ha) b (mem_lo hb)
theorem add_hi {a b : Nat} (ha : 36 ≤ a ∧ a ≤ 64) (hb : 36 ≤ b ∧ b ≤ 64) : Float64.add (qn a) (qn b) = qn (a + b) := by
  simpa [okAdd] using all2 tabAdd2 a (mem_hi ha.1 ha.2) b (mem_hi hb.1 hb.2)
theorem neg_lo {a : Nat} (ha : a ≤ 28) : n64 (a : Int) = qn (64 - a) := by
  simpa using List.all_eq_true.mp tabNeg a (mem_lo ha)
theorem half_on {a : Nat} (ha : a ≤ 128) : fle (Float64.div (qn a) 4611686018427387904) 4602678819172646912 = decide (a ≤ 64) := by
  simpa using List.all_eq_true.mp tabHalf a (List.mem_range.mpr (by omega))
theorem two_hi {a : Nat} (ha : 36 ≤ a ∧ a ≤ 64) : Float64.sub 4611686018427387904 (qn a) = qn (128 - a) := by
  simpa using List.all_eq_true.mp tabTwo a (mem_hi ha.1 ha.2)
theorem sub3_hi {a b : Nat} (ha : 36 ≤ a ∧ a ≤ 64) (hb : 36 ≤ b ∧ b ≤ 64) : Float64.sub (qn (128 - a)) (qn b) = qn (128 - a - b) := by
  simpa [okSub3] using all2 tabSub3 a (mem_hi ha.1 ha.2) b (mem_hi hb.1 hb.2)
theorem zero_on {a : Nat} (ha : a ≤ 128) : Float64.isZero (qn a) = decide (a = 0) := by
  simpa using List.all_eq_true.mp tabZero a (List.mem_range.mpr (by omega))

theorem dv_low {a b : Nat} (hb : b ≤ 56) (ha : a ≤ 28) (h : a ≤ b) : dv a b = dv (a / Nat.gcd a b) (b / Nat.gcd a b) := by
  have := all2 tabDv a (mem_lo ha) b (List.mem_range.mpr (by omega))
  simp only [okDv, Bool.or_eq_true, decide_eq_true_eq, beq_iff_eq] at this
  rcases this with h1 | h1 | h1
  · omega
  · rw [h1]; simp
  · exact h1
theorem dv_scale {k a b : Nat} (hk : 1 ≤ k) (hb : k * b ≤ 56) (ha : k * a ≤ 28) (h : a ≤ b) : dv (k * a) (k * b) = dv a b := by
  have h1 : b ≤ k * b := Nat.le_mul_of_pos_left b hk
  have h2 : a ≤ k * a := Nat.le_mul_of_pos_left a hk
  rw [dv_low (a := k * a) (b := k * b) hb ha (Nat.mul_le_mul_left k h), dv_low (a := a) (b := b) (by omega) (by omega) h, Nat.gcd_mul_left, Nat.mul_div_mul_left _ _ hk, Nat.mul_div_mul_left _ _ hk]

noncomputable def hueD (x y z R : Nat) : UInt64 := (Float64.divmod (Float64.div (bif decide (x = 0) then Float64.sub (dv z R) (dv y R) else bif decide (y = 0) then Float64.sub (Float64.add 4611686018427387904 (dv x R)) (dv z R) else Float64.sub (Float64.add 4616189618054758400 (dv y R)) (dv x R)) 4618441417868443648) 4607182418800017408).2
theorem hueD_scale {k x y z R : Nat} (hk : 1 ≤ k) (hR : k * R ≤ 28) (hx : x ≤ R) (hy : y ≤ R) (hz : z ≤ R) : hueD (k * x) (k * y) (k * z) (k * R) = hueD x y z R := by
  have e : ∀ a, a ≤ R → dv (k * a) (k * R) = dv a R := fun a ha => dv_scale hk (by omega) (Nat.le_trans (Nat.mul_le_mul_left k ha) hR) ha
  have d : ∀ a, decide (k * a = 0) = decide (a = 0) := fun a => by
    rw [decide_eq_decide, Nat.mul_eq_zero]; omega
  unfold hueD
  rw [e x hx, e y hy, e z hz, d x, d y]

noncomputable def pHsv (r g b : Nat) : Tl := bif decide (mnn r g b = mxn r g b) then (0, 0) else (hueD (mxn r g b - r) (mxn r g b - g) (mxn r g b - b) (mxn r g b - mnn r g b), dv (mxn r g b - mnn r g b) (mxn r g b))
noncomputable def pHls (r g b : Nat) : Tl := bif decide (mnn r g b = mxn r g b) then (0, 0) else (hueD (mxn r g b - r) (mxn r g b - g) (mxn r g b - b) (mxn r g b - mnn r g b), dv (mxn r g b - mnn r g b) (mxn r g b + mnn r g b))
noncomputable def pNeg (r g b : Nat) : Tl := bif decide (mnn r g b = mxn r g b) then (0, 0) else (hueD (r - mnn r g b) (g - mnn r g b) (b - mnn r g b) (mxn r g b - mnn r g b), dv (mxn r g b - mnn r g b) (mxn r g b + mnn r g b))

section
variable {r g b : Nat} (hr : r ≤ 28) (hg : g ≤ 28) (hb : b ≤ 28)
include hr hg hb
theorem hue_pos : hueF (qn r) (qn g) (qn b) (qn (mxn r g b)) (qn (mxn r g b - mnn r g b)) = hueD (mxn r g b - r) (mxn r g b - g) (mxn r g b - b) (mxn r g b - mnn r g b) := by
  obtain ⟨u1, u2, u3, u4, u5, u6⟩ := mm r g b
  have hM := mxn_le hr hg hb
  generalize mxn r g b = M at *
  generalize mnn r g b = m at *
  have d : ∀ a, a ≤ M → feq (qn a) (qn M) = decide (M - a = 0) := fun a ha => by
    rw [feq_on cmp_lo (mem_lo (Nat.le_trans ha hM)) (mem_lo hM), decide_eq_decide]; exact eq_comm.trans (sub0 ha)
  unfold hueF hueD dv
  rw [sub_lo hM u1, sub_lo hM u2, sub_lo hM u3, d r u1, d g u2]
theorem hsv_eq : tHsv ((r : Int), (g : Int), (b : Int)) = pHsv r g b := by
  obtain ⟨u1, u2, u3, u4, u5, u6⟩ := mm r g b
  have hM := mxn_le hr hg hb
  have hm := Nat.le_trans u4 u1
  show hsvF (qn r) (qn g) (qn b) = _
  unfold hsvF pHsv
  rw [mx3_on cmp_lo (mem_lo hr) (mem_lo hg) (mem_lo hb), mn3_on cmp_lo (mem_lo hr) (mem_lo hg) (mem_lo hb), feq_on cmp_lo (mem_lo (Nat.le_trans hm hM)) (mem_lo hM), sub_lo hM hm, hue_pos hr hg hb]
  rfl
theorem hls_eq : tHls ((r : Int), (g : Int), (b : Int)) = pHls r g b := by
  obtain ⟨u1, u2, u3, u4, u5, u6⟩ := mm r g b
  have hM := mxn_le hr hg hb
  have hm := Nat.le_trans u4 u1
  have h56 := Nat.add_le_add hM (Nat.le_trans hm hM)
  show hlsF (qn r) (qn g) (qn b) = _
  unfold hlsF hlsS pHls
  rw [mx3_on cmp_lo (mem_lo hr) (mem_lo hg) (mem_lo hb), mn3_on cmp_lo (mem_lo hr) (mem_lo hg) (mem_lo hb), feq_on cmp_lo (mem_lo (Nat.le_trans hm hM)) (mem_lo hM), sub_lo hM hm, hue_pos hr hg hb, add_lo hM (Nat.le_trans hm hM), half_on (Nat.le_trans h56 (by decide)), decide_eq_true (Nat.le_trans h56 (by decide))]
  rfl
theorem neg_eq : tNeg ((r : Int), (g : Int), (b : Int)) = pNeg r g b := by
  show hlsF (n64 r) (n64 g) (n64 b) = _
  rw [neg_lo hr, neg_lo hg, neg_lo hb]
  obtain ⟨u1, u2, u3, u4, u5, u6⟩ := mm r g b
  have hM := mxn_le hr hg hb
  have hm := Nat.le_trans u4 u1
  have hm28 := Nat.le_trans hm hM
  have d : ∀ a, a ≤ 28 → mnn r g b ≤ a → feq (qn (64 - a)) (qn (64 - mnn r g b)) = decide (a - mnn r g b = 0) := fun a ha h => by
    rw [feq_on cmp_hi (mem_ng ha) (mem_ng hm28), decide_eq_decide]
    exact (up64 (low ha) (low hm28)).trans (sub0 h)
  have s : ∀ a, a ≤ 28 → mnn r g b ≤ a → Float64.sub (qn (64 - mnn r g b)) (qn (64 - a)) = qn (a - mnn r g b) := fun a ha h => by
    rw [sub_hi (Nat.sub_le _ _) (hi1 ha) (Nat.sub_le_sub_left h 64), flip (low ha)]
  unfold hlsF hlsS pNeg
  rw [mx3_on cmp_hi (mem_ng hr) (mem_ng hg) (mem_ng hb), mn3_on cmp_hi (mem_ng hr) (mem_ng hg) (mem_ng hb), mxn_neg, mnn_neg,
    feq_on cmp_hi (mem_ng hM) (mem_ng hm28), s (mxn r g b) hM hm, add_hi ⟨hi1 hm28, Nat.sub_le _ _⟩ ⟨hi1 hM, Nat.sub_le _ _⟩]
  have h : hueF (qn (64 - r)) (qn (64 - g)) (qn (64 - b)) (qn (64 - mnn r g b)) (qn (mxn r g b - mnn r g b)) = hueD (r - mnn r g b) (g - mnn r g b) (b - mnn r g b) (mxn r g b - mnn r g b) := by
    unfold hueF hueD dv
    rw [s r hr u4, s g hg u5, s b hb u6, d r hr u4, d g hg u5]
  rw [h]
  clear h d s u1 u2 u3 u4 u5 u6 hr hg hb
  generalize hueD (r - mnn r g b) (g - mnn r g b) (b - mnn r g b) (mxn r g b - mnn r g b) = H
  generalize mxn r g b = M at *
  generalize mnn r g b = m at *
  obtain ⟨a1, a2, _, e3, e5⟩ := ng_eq hM hm
  rw [half_on a1, decide_eq_false a2, two_hi ⟨hi1 hm28, Nat.sub_le _ _⟩, sub3_hi ⟨hi1 hm28, Nat.sub_le _ _⟩ ⟨hi1 hM, Nat.sub_le _ _⟩]
  have e4 : decide (64 - M = 64 - m) = decide (m = M) := by rw [decide_eq_decide]; exact e5
  rw [e3, e4]
  rfl
end
end Mine
end
section
open PySem PySem.W PySem.Calls PyProof.Rows
namespace Mine
set_option maxRecDepth 100000
set_option maxHeartbeats 4000000
noncomputable def fine (x : UInt64) : Bool := Float64.isFinite x && decide (x.toNat < 2 ^ 63)
noncomputable def toN (k : Int) (x : UInt64) : Int := Flt.toInt Float64.nearestOf (Float64.mul x (Float64.ofInt k))
noncomputable def hN (x y z R : Nat) : Nat := if x = 0 then (2520 + 420 * z / R - 420 * y / R) % 2520 else if y = 0 then 840 + 420 * x / R - 420 * z / R else 1680 + 420 * y / R - 420 * x / R
noncomputable def x1D (x y z R : Nat) : UInt64 := Float64.mul (Float64.mul (Float64.sub (hueD (R - x) (R - y) (R - z) R) (hueD x y z R)) (Float64.ofInt 2520)) (Float64.ofInt 1024)
noncomputable def okHue (x y z R : Nat) : Bool := fine (hueD x y z R) && toN 2520 (hueD x y z R) == (hN x y z R : Int) && Float64.isFinite (x1D x y z R) && (Flt.toInt Float64.nearestOf (x1D x y z R)).fmod 2580480 == 1290240
/-- the ways in which one part is least and one greatest -/
noncomputable def isHue (x y z R : Nat) : Bool := (x == 0 || y == 0 || z == 0) && (x == R || y == R || z == R)
noncomputable def hueAt (R : Nat) : Bool := (List.range (R + 1)).all fun x => (List.range (R + 1)).all fun y => (List.range (R + 1)).all fun z => !isHue x y z R || okHue x y z R
theorem tabHue1 : hueAt 1 = true := by decide +kernel
theorem tabHue2 : hueAt 2 = true := by decide +kernel
theorem tabHue3 : hueAt 3 = true := by decide +kernel
theorem tabHue4 : hueAt 4 = true := by decide +kernel
theorem tabHue5 : hueAt 5 = true := by decide +kernel
theorem tabHue6 : hueAt 6 = true := by decide +kernel
theorem tabHue7 : hueAt 7 = true := by decide +kernel
noncomputable abbrev KK : Nat := 360360
noncomputable def okShare (R S : Nat) : Bool := decide (R = 0) || decide (S < R) || (fine (dv R S) && toN 360360 (dv R S) == ((KK * R / S : Nat) : Int))
theorem tabShare : ((List.range 8).all fun R => (List.range 15).all fun S => okShare R S) = true := by decide +kernel
noncomputable def x2D (R M : Nat) : UInt64 := Float64.mul (Float64.mul (dv R M) (Float64.ofInt (M : Int))) (Float64.ofInt 1024)
noncomputable def okX (R M : Nat) : Bool := decide (R = 0) || (Float64.isFinite (x2D R M) && Flt.toInt Float64.nearestOf (x2D R M) == ((R * 1024 : Nat) : Int))
theorem tabX2 : (lo.all fun R => lo.all fun M => decide (M < R) || okX R M) = true := by decide +kernel
theorem tabX3 : (lo.all fun R => lo.all fun m => decide (28 < R + m) || okX R (R + m + m)) = true := by decide +kernel
theorem tabF : (lo.all fun R => lo.all fun m => decide (R = 0) || decide (28 < R + m) || fine (dv R (R + m + m))) = true := by decide +kernel
end Mine
end
section
open PySem PySem.W PySem.Calls PyProof.Rows
namespace Mine
set_option maxRecDepth 100000
set_option maxHeartbeats 4000000
noncomputable abbrev N3 := Nat × Nat × Nat
noncomputable def cst (v : N3) : Sp := ((v.1 : Int), (v.2.1 : Int), (v.2.2 : Int))
noncomputable def gc (r g b : Nat) : Nat := Nat.gcd (Nat.gcd r g) b
noncomputable def shP (r g b : Nat) : N3 := bif decide (mnn r g b = mxn r g b) then (0, 0, 0) else (r / gc r g b, g / gc r g b, b / gc r g b)
noncomputable def okSh (a t : Nat) : Bool := (List.range 8).all fun b => (List.range 8).all fun c => sh3 (cst (t * a, t * b, t * c)) == cst (shP (t * a) (t * b) (t * c))
theorem tabSh1 : ((List.range 8).all fun a => okSh a 1) = true := by decide +kernel
theorem tabSh2 : ((List.range 8).all fun a => okSh a 2) = true := by decide +kernel
theorem tabSh3 : ((List.range 8).all fun a => okSh a 3) = true := by decide +kernel
theorem tabSh4 : ((List.range 8).all fun a => okSh a 4) = true := by decide +kernel
noncomputable def recU (M m R u : Nat) : N3 :=
  bif u / 420 == 0 then (420 * M, 420 * m + R * (u % 420), 420 * m) else
  bif u / 420 == 1 then (420 * M - R * (u % 420), 420 * M, 420 * m) else
  bif u / 420 == 2 then (420 * m, 420 * M, 420 * m + R * (u % 420)) else
  bif u / 420 == 3 then (420 * m, 420 * M - R * (u % 420), 420 * M) else
  bif u / 420 == 4 then (420 * m + R * (u % 420), 420 * m, 420 * M) else (420 * M, 420 * m, 420 * M - R * (u % 420))
noncomputable def redu (v : N3) : N3 := (v.1 / gc v.1 v.2.1 v.2.2, v.2.1 / gc v.1 v.2.1 v.2.2, v.2.2 / gc v.1 v.2.1 v.2.2)
noncomputable def recHsv (u N : Nat) : N3 := bif N == 0 then (0, 0, 0) else redu (recU KK (KK - N) N u)
noncomputable def recHls (u N : Nat) : N3 := bif N == 0 then (0, 0, 0) else redu (recU (KK + N) (KK - N) (2 * N) u)
noncomputable def recNeg (u N : Nat) : N3 := recHls ((u + 1260) % 2520) N
noncomputable def okRec (r g b : Nat) : Bool := decide (mnn r g b = mxn r g b) || shP r g b != (r, g, b) ||
  (recHsv (hN (mxn r g b - r) (mxn r g b - g) (mxn r g b - b) (mxn r g b - mnn r g b)) (KK * (mxn r g b - mnn r g b) / mxn r g b) == (r, g, b) &&
   recHls (hN (mxn r g b - r) (mxn r g b - g) (mxn r g b - b) (mxn r g b - mnn r g b)) (KK * (mxn r g b - mnn r g b) / (mxn r g b + mnn r g b)) == (r, g, b) &&
   recNeg (hN (r - mnn r g b) (g - mnn r g b) (b - mnn r g b) (mxn r g b - mnn r g b)) (KK * (mxn r g b - mnn r g b) / (mxn r g b + mnn r g b)) == (r, g, b))
theorem tabRec : ((List.range 8).all fun a => (List.range 8).all fun b => (List.range 8).all fun c => okRec a b c) = true := by decide +kernel
end Mine
end
section
open PySem PySem.W PySem.Calls PyProof.Rows
namespace Mine
set_option maxRecDepth 100000
set_option maxHeartbeats 4000000

theorem mxn_mul (t a b c : Nat) : mxn (t * a) (t * b) (t * c) = t * mxn a b c := by
  unfold mxn; rw [← Nat.mul_max_mul_left, ← Nat.mul_max_mul_left]
theorem mnn_mul (t a b c : Nat) : mnn (t * a) (t * b) (t * c) = t * mnn a b c := by
  unfold mnn; rw [← Nat.mul_min_mul_left, ← Nat.mul_min_mul_left]
theorem mul_cancel {t x y : Nat} (ht : 1 ≤ t) : decide (t * x = t * y) = decide (x = y) := by
  rw [decide_eq_decide]; exact ⟨fun h => Nat.eq_of_mul_eq_mul_left ht h, fun h => by rw [h]⟩

section
variable {k r g b : Nat} (hk : 1 ≤ k) (hM : k * mxn r g b ≤ 28)
include hk hM
theorem hsv_scale : pHsv (k * r) (k * g) (k * b) = pHsv r g b := by
  obtain ⟨u1, u2, u3, u4, u5, u6⟩ := mm r g b
  unfold pHsv
  rw [mxn_mul, mnn_mul, mul_cancel hk, ← Nat.mul_sub, ← Nat.mul_sub, ← Nat.mul_sub, ← Nat.mul_sub,
    hueD_scale hk (Nat.le_trans (Nat.mul_le_mul_left k (Nat.sub_le _ _)) hM) (Nat.sub_le_sub_left u4 _) (Nat.sub_le_sub_left u5 _) (Nat.sub_le_sub_left u6 _),
    dv_scale hk (Nat.le_trans hM (by decide)) (Nat.le_trans (Nat.mul_le_mul_left k (Nat.sub_le _ _)) hM) (Nat.sub_le _ _)]
theorem sum56 : k * (mxn r g b + mnn r g b) ≤ 56 := by
  obtain ⟨u1, u2, u3, u4, u5, u6⟩ := mm r g b
  rw [Nat.mul_add]
  exact Nat.add_le_add hM (Nat.le_trans (Nat.mul_le_mul_left k (Nat.le_trans u4 u1)) hM)
theorem hls_scale : pHls (k * r) (k * g) (k * b) = pHls r g b := by
  obtain ⟨u1, u2, u3, u4, u5, u6⟩ := mm r g b
  unfold pHls
  rw [mxn_mul, mnn_mul, mul_cancel hk, ← Nat.mul_sub, ← Nat.mul_sub, ← Nat.mul_sub, ← Nat.mul_sub, ← Nat.mul_add,
    hueD_scale hk (Nat.le_trans (Nat.mul_le_mul_left k (Nat.sub_le _ _)) hM) (Nat.sub_le_sub_left u4 _) (Nat.sub_le_sub_left u5 _) (Nat.sub_le_sub_left u6 _),
    dv_scale hk (sum56 hk hM) (Nat.le_trans (Nat.mul_le_mul_left k (Nat.sub_le _ _)) hM) (Nat.le_trans (Nat.sub_le _ _) (Nat.le_add_right _ _))]
theorem neg_scale : pNeg (k * r) (k * g) (k * b) = pNeg r g b := by
  obtain ⟨u1, u2, u3, u4, u5, u6⟩ := mm r g b
  unfold pNeg
  rw [mxn_mul, mnn_mul, mul_cancel hk, ← Nat.mul_sub, ← Nat.mul_sub, ← Nat.mul_sub, ← Nat.mul_sub, ← Nat.mul_add,
    hueD_scale hk (Nat.le_trans (Nat.mul_le_mul_left k (Nat.sub_le _ _)) hM) (Nat.sub_le_sub_right u1 _) (Nat.sub_le_sub_right u2 _) (Nat.sub_le_sub_right u3 _),
    dv_scale hk (sum56 hk hM) (Nat.le_trans (Nat.mul_le_mul_left k (Nat.sub_le _ _)) hM) (Nat.le_trans (Nat.sub_le _ _) (Nat.le_add_right _ _))]
end

theorem gc_mul (t a b c : Nat) : gc (t * a) (t * b) (t * c) = t * gc a b c := by
  unfold gc; rw [Nat.gcd_mul_left, Nat.gcd_mul_left]
theorem shP_mul {t a b c : Nat} (ht : 1 ≤ t) : shP (t * a) (t * b) (t * c) = shP a b c := by
  unfold shP
  rw [mxn_mul, mnn_mul, mul_cancel ht, gc_mul, Nat.mul_div_mul_left _ _ ht, Nat.mul_div_mul_left _ _ ht, Nat.mul_div_mul_left _ _ ht]

/-- what a spot of colour is: so many times a shade -/
structure Hued (r g b k x y z : Nat) : Prop where
  k1 : 1 ≤ k
  er : r = k * x
  eg : g = k * y
  eb : b = k * z
  sh : shP r g b = (x, y, z)
  ss : shP x y z = (x, y, z)
  ne : mnn x y z < mxn x y z
  le : mxn x y z ≤ 7
  lk : k * mxn x y z ≤ 28
theorem hued {a b c t : Nat} (ha : a < 8) (hb : b < 8) (hc : c < 8) (ht : 1 ≤ t ∧ t ≤ 4) (hn : ¬ mnn (t * a) (t * b) (t * c) = mxn (t * a) (t * b) (t * c)) :
    Hued (t * a) (t * b) (t * c) (t * gc a b c) (a / gc a b c) (b / gc a b c) (c / gc a b c) := by
  have hn' : ¬ mnn a b c = mxn a b c := fun h => hn (by rw [mxn_mul, mnn_mul, h])
  have hg : 1 ≤ gc a b c := by
    rcases Nat.eq_zero_or_pos (gc a b c) with h | h
    · have h1 := Nat.eq_zero_of_gcd_eq_zero_right h
      have h2 := Nat.eq_zero_of_gcd_eq_zero_left h
      have h3 := Nat.eq_zero_of_gcd_eq_zero_right h2
      have h4 := Nat.eq_zero_of_gcd_eq_zero_left h2
      exact absurd (by rw [h1, h3, h4]; rfl) hn'
    · exact h
  have da : gc a b c ∣ a := Nat.dvd_trans (Nat.gcd_dvd_left _ _) (Nat.gcd_dvd_left _ _)
  have db : gc a b c ∣ b := Nat.dvd_trans (Nat.gcd_dvd_left _ _) (Nat.gcd_dvd_right _ _)
  have dc : gc a b c ∣ c := Nat.gcd_dvd_right _ _
  have ea : gc a b c * (a / gc a b c) = a := Nat.mul_div_cancel' da
  have eb : gc a b c * (b / gc a b c) = b := Nat.mul_div_cancel' db
  have ec : gc a b c * (c / gc a b c) = c := Nat.mul_div_cancel' dc
  have hsh : shP a b c = (a / gc a b c, b / gc a b c, c / gc a b c) := by unfold shP; rw [decide_eq_false hn']; rfl
  have hss : shP (a / gc a b c) (b / gc a b c) (c / gc a b c) = (a / gc a b c, b / gc a b c, c / gc a b c) := by
    rw [← shP_mul hg, ea, eb, ec]; exact hsh
  have hM : gc a b c * mxn (a / gc a b c) (b / gc a b c) (c / gc a b c) = mxn a b c := by rw [← mxn_mul, ea, eb, ec]
  have hm : gc a b c * mnn (a / gc a b c) (b / gc a b c) (c / gc a b c) = mnn a b c := by rw [← mnn_mul, ea, eb, ec]
  refine ⟨Nat.mul_pos ht.1 hg, by rw [Nat.mul_assoc, ea], by rw [Nat.mul_assoc, eb], by rw [Nat.mul_assoc, ec], by rw [shP_mul ht.1]; exact hsh, hss, ?_,
    mxn_le (Nat.le_trans (Nat.div_le_self _ _) (Nat.le_of_lt_succ ha)) (Nat.le_trans (Nat.div_le_self _ _) (Nat.le_of_lt_succ hb)) (Nat.le_trans (Nat.div_le_self _ _) (Nat.le_of_lt_succ hc)), ?_⟩
  · obtain ⟨u1, _, _, u4, _, _⟩ := mm (a / gc a b c) (b / gc a b c) (c / gc a b c)
    exact Nat.lt_of_le_of_ne (Nat.le_trans u4 u1) fun h => hn' (by rw [← hM, ← hm, h])
  · rw [Nat.mul_assoc, hM]
    exact Nat.mul_le_mul ht.2 (mxn_le (Nat.le_of_lt_succ ha) (Nat.le_of_lt_succ hb) (Nat.le_of_lt_succ hc))
theorem code_sh {a b c t : Nat} (ha : a < 8) (hb : b < 8) (hc : c < 8) (ht : 1 ≤ t ∧ t ≤ 4) : sh3 (cst (t * a, t * b, t * c)) = cst (shP (t * a) (t * b) (t * c)) := by
  have go : ∀ {t : Nat}, ((List.range 8).all fun a => okSh a t) = true → sh3 (cst (t * a, t * b, t * c)) = cst (shP (t * a) (t * b) (t * c)) := fun h => by
    have h1 := List.all_eq_true.mp h a (List.mem_range.mpr ha)
    have h2 := all2 h1 b (List.mem_range.mpr hb) c (List.mem_range.mpr hc)
    simpa using h2
  have : t = 1 ∨ t = 2 ∨ t = 3 ∨ t = 4 := by omega
  rcases this with rfl | rfl | rfl | rfl
  · exact go tabSh1
  · exact go tabSh2
  · exact go tabSh3
  · exact go tabSh4
theorem cst_inj {v w : N3} (h : cst v = cst w) : v = w := by
  obtain ⟨a, b, c⟩ := v
  obtain ⟨d, e, f⟩ := w
  unfold cst at h
  simp only [Prod.mk.injEq, Int.ofNat_inj] at h
  simp [h]
end Mine
end
section
open PySem PySem.W PySem.Calls PyProof.Rows
namespace Mine
set_option maxRecDepth 100000
set_option maxHeartbeats 4000000

theorem decode_fine {x : UInt64} (h : fine x = true) : ∃ (m : Nat) (e : Int) (ex fr : Nat), Float64.decode x = .fin false m e ∧ x.toNat = ex * 2 ^ 52 + fr ∧ fr < 2 ^ 52 ∧ ((ex = 0 ∧ m = fr ∧ e = -1074) ∨ (1 ≤ ex ∧ m = 2 ^ 52 + fr ∧ e = (ex : Int) - 1075)) := by
  unfold fine at h
  rw [Bool.and_eq_true, decide_eq_true_eq] at h
  obtain ⟨h1, h2⟩ := h
  have n0 : (x.toNat / 2 ^ 63 == 1) = false := by
    have : x.toNat / 2 ^ 63 = 0 := by omega
    rw [this]; rfl
  have e0 : x.toNat / 2 ^ 52 % 2048 = x.toNat / 2 ^ 52 := by omega
  unfold Float64.isFinite at h1
  unfold Float64.decode at h1 ⊢
  dsimp only at h1 ⊢
  rw [n0, e0] at h1 ⊢
  have hd : x.toNat = x.toNat / 2 ^ 52 * 2 ^ 52 + x.toNat % 2 ^ 52 := by omega
  have hf : x.toNat % 2 ^ 52 < 2 ^ 52 := by omega
  by_cases c1 : (x.toNat / 2 ^ 52 == 2047) = true
  · rw [if_pos c1] at h1
    by_cases c2 : (x.toNat % 2 ^ 52 == 0) = true
    · rw [if_pos c2] at h1; cases h1
    · rw [if_neg c2] at h1; cases h1
  · rw [if_neg c1]
    by_cases c2 : (x.toNat / 2 ^ 52 == 0) = true
    · rw [if_pos c2]
      exact ⟨_, _, x.toNat / 2 ^ 52, x.toNat % 2 ^ 52, rfl, hd, hf, .inl ⟨by simpa using c2, rfl, rfl⟩⟩
    · rw [if_neg c2]
      refine ⟨_, _, x.toNat / 2 ^ 52, x.toNat % 2 ^ 52, rfl, hd, hf, .inr ⟨?_, rfl, rfl⟩⟩
      have : ¬ x.toNat / 2 ^ 52 = 0 := by simpa using c2
      omega

theorem cmp_fin {x y : UInt64} {m k : Nat} {e f : Int} (hx : Float64.decode x = .fin false m e) (hy : Float64.decode y = .fin false k f) :
    Float64.cmp x y = some (compare ((m * 2 ^ (e - min e f).toNat : Nat) : Int) ((k * 2 ^ (f - min e f).toNat : Nat) : Int)) := by
  unfold Float64.cmp
  rw [hx, hy]
  rfl
theorem two_pow_big {n : Nat} (h : 1 ≤ n) : 2 ≤ 2 ^ n := by
  have := Nat.pow_le_pow_right (n := 2) (by omega) h
  simpa using this

theorem feq_fine {x y : UInt64} (hx : fine x = true) (hy : fine y = true) : feq x y = decide (x = y) := by
  obtain ⟨m, e, ex, fr, d1, t1, l1, c1⟩ := decode_fine hx
  obtain ⟨k, f, ey, gr, d2, t2, l2, c2⟩ := decode_fine hy
  by_cases h : x = y
  · subst h
    unfold feq
    rw [cmp_fin d1 d1]
    simp
  · rw [decide_eq_false h]
    have hne : x.toNat ≠ y.toNat := fun q => h (UInt64.toNat_inj.mp q)
    unfold feq
    rw [cmp_fin d1 d2]
    have key : ¬ ((m * 2 ^ (e - min e f).toNat : Nat) : Int) = ((k * 2 ^ (f - min e f).toNat : Nat) : Int) := by
      intro q
      have q : m * 2 ^ (e - min e f).toNat = k * 2 ^ (f - min e f).toNat := Int.ofNat_inj.mp q
      rcases Int.lt_trichotomy e f with h1 | h1 | h1
      · have g1 : (e - min e f).toNat = 0 := by omega
        have g2 : 1 ≤ (f - min e f).toNat := by omega
        have g3 := two_pow_big g2
        rw [g1, Nat.pow_zero, Nat.mul_one] at q
        have g4 : k * 2 ≤ k * 2 ^ (f - min e f).toNat := Nat.mul_le_mul_left k g3
        omega
      · subst h1
        have g1 : (e - min e e).toNat = 0 := by omega
        rw [g1, Nat.pow_zero, Nat.mul_one, Nat.mul_one] at q
        omega
      · have g1 : (f - min e f).toNat = 0 := by omega
        have g2 : 1 ≤ (e - min e f).toNat := by omega
        have g3 := two_pow_big g2
        rw [g1, Nat.pow_zero, Nat.mul_one] at q
        have g4 : m * 2 ≤ m * 2 ^ (e - min e f).toNat := Nat.mul_le_mul_left m g3
        omega
    generalize ((m * 2 ^ (e - min e f).toNat : Nat) : Int) = p at key ⊢
    generalize ((k * 2 ^ (f - min e f).toNat : Nat) : Int) = r at key ⊢
    rcases Int.lt_trichotomy p r with h1 | h1 | h1
    · rw [Int.compare_eq_lt.mpr h1]; rfl
    · exact absurd h1 key
    · rw [Int.compare_eq_gt.mpr h1]; rfl

theorem hue_tab {x y z R : Nat} (hR : 1 ≤ R ∧ R ≤ 7) (hx : x ≤ R) (hy : y ≤ R) (hz : z ≤ R) (hi : isHue x y z R = true) : okHue x y z R = true := by
  have go : hueAt R = true → okHue x y z R = true := fun h => by
    have h1 := List.all_eq_true.mp (List.all_eq_true.mp (List.all_eq_true.mp h x (List.mem_range.mpr (by omega))) y (List.mem_range.mpr (by omega))) z (List.mem_range.mpr (by omega))
    rw [hi] at h1
    simpa using h1
  have : R = 1 ∨ R = 2 ∨ R = 3 ∨ R = 4 ∨ R = 5 ∨ R = 6 ∨ R = 7 := by omega
  rcases this with rfl | rfl | rfl | rfl | rfl | rfl | rfl
  · exact go tabHue1
  · exact go tabHue2
  · exact go tabHue3
  · exact go tabHue4
  · exact go tabHue5
  · exact go tabHue6
  · exact go tabHue7
theorem hue_pos_ok {x y z : Nat} (ne : mnn x y z < mxn x y z) (le : mxn x y z ≤ 7) : okHue (mxn x y z - x) (mxn x y z - y) (mxn x y z - z) (mxn x y z - mnn x y z) = true := by
  obtain ⟨u1, u2, u3, u4, u5, u6⟩ := mm x y z
  refine hue_tab ⟨Nat.sub_pos_of_lt ne, Nat.le_trans (Nat.sub_le _ _) le⟩ (Nat.sub_le_sub_left u4 _) (Nat.sub_le_sub_left u5 _) (Nat.sub_le_sub_left u6 _) ?_
  have a := mxn_mem x y z
  have b := mnn_mem x y z
  generalize mxn x y z = M at *
  generalize mnn x y z = m at *
  clear ne le u1 u2 u3 u4 u5 u6
  unfold isHue
  rcases a with rfl | rfl | rfl <;> rcases b with rfl | rfl | rfl <;> simp
theorem hue_neg_ok {x y z : Nat} (ne : mnn x y z < mxn x y z) (le : mxn x y z ≤ 7) : okHue (x - mnn x y z) (y - mnn x y z) (z - mnn x y z) (mxn x y z - mnn x y z) = true := by
  obtain ⟨u1, u2, u3, u4, u5, u6⟩ := mm x y z
  refine hue_tab ⟨Nat.sub_pos_of_lt ne, Nat.le_trans (Nat.sub_le _ _) le⟩ (Nat.sub_le_sub_right u1 _) (Nat.sub_le_sub_right u2 _) (Nat.sub_le_sub_right u3 _) ?_
  have a := mxn_mem x y z
  have b := mnn_mem x y z
  generalize mxn x y z = M at *
  generalize mnn x y z = m at *
  clear ne le u1 u2 u3 u4 u5 u6
  unfold isHue
  rcases a with rfl | rfl | rfl <;> rcases b with rfl | rfl | rfl <;> simp
theorem share_ok {R S : Nat} (h1 : 1 ≤ R ∧ R ≤ 7) (h2 : R ≤ S ∧ S ≤ 14) : fine (dv R S) = true ∧ toN 360360 (dv R S) = ((KK * R / S : Nat) : Int) := by
  have := all2 tabShare R (List.mem_range.mpr (by omega)) S (List.mem_range.mpr (by omega))
  simp only [okShare, Bool.or_eq_true, decide_eq_true_eq, Bool.and_eq_true, beq_iff_eq] at this
  rcases this with (h | h) | h
  · omega
  · omega
  · exact h
end Mine
end
section
open PySem PySem.W PySem.Calls PyProof.Rows
namespace Mine
set_option maxRecDepth 100000
set_option maxHeartbeats 4000000

noncomputable def dHsv (p : Tl) : N3 := recHsv (toN 2520 p.1).toNat (toN 360360 p.2).toNat
noncomputable def dHls (p : Tl) : N3 := recHls (toN 2520 p.1).toNat (toN 360360 p.2).toNat
noncomputable def dNeg (p : Tl) : N3 := recNeg (toN 2520 p.1).toNat (toN 360360 p.2).toNat
theorem toN_zero1 : toN 2520 0 = 0 := by decide +kernel
theorem toN_zero2 : toN 360360 0 = 0 := by decide +kernel
theorem fine_zero : fine 0 = true := by decide +kernel

structure Good (p : Nat → Nat → Nat → Tl) (d : Tl → N3) : Prop where
  scale : ∀ k r g b, 1 ≤ k → k * mxn r g b ≤ 28 → p (k * r) (k * g) (k * b) = p r g b
  grey : ∀ r g b, mnn r g b = mxn r g b → p r g b = (0, 0)
  hue : ∀ x y z, mnn x y z < mxn x y z → mxn x y z ≤ 7 → shP x y z = (x, y, z) → fine (p x y z).1 = true ∧ fine (p x y z).2 = true ∧ d (p x y z) = (x, y, z)
  zero : d (0, 0) = (0, 0, 0)

theorem rec_ok {x y z : Nat} (ne : mnn x y z < mxn x y z) (le : mxn x y z ≤ 7) (ss : shP x y z = (x, y, z)) :
    recHsv (hN (mxn x y z - x) (mxn x y z - y) (mxn x y z - z) (mxn x y z - mnn x y z)) (KK * (mxn x y z - mnn x y z) / mxn x y z) = (x, y, z) ∧
    recHls (hN (mxn x y z - x) (mxn x y z - y) (mxn x y z - z) (mxn x y z - mnn x y z)) (KK * (mxn x y z - mnn x y z) / (mxn x y z + mnn x y z)) = (x, y, z) ∧
    recNeg (hN (x - mnn x y z) (y - mnn x y z) (z - mnn x y z) (mxn x y z - mnn x y z)) (KK * (mxn x y z - mnn x y z) / (mxn x y z + mnn x y z)) = (x, y, z) := by
  obtain ⟨u1, u2, u3, _, _, _⟩ := mm x y z
  have h := List.all_eq_true.mp (List.all_eq_true.mp (List.all_eq_true.mp tabRec x (List.mem_range.mpr (Nat.lt_succ_of_le (Nat.le_trans u1 le)))) y (List.mem_range.mpr (Nat.lt_succ_of_le (Nat.le_trans u2 le)))) z (List.mem_range.mpr (Nat.lt_succ_of_le (Nat.le_trans u3 le)))
  unfold okRec at h
  rw [ss, decide_eq_false (Nat.ne_of_lt ne)] at h
  simp only [bne_self_eq_false, Bool.false_or, Bool.and_eq_true, beq_iff_eq] at h
  exact ⟨h.1.1, h.1.2, h.2⟩
theorem hue_parts {x y z R : Nat} (h : okHue x y z R = true) : fine (hueD x y z R) = true ∧ toN 2520 (hueD x y z R) = (hN x y z R : Int) ∧ Float64.isFinite (x1D x y z R) = true ∧ (Flt.toInt Float64.nearestOf (x1D x y z R)).fmod 2580480 = 1290240 := by
  unfold okHue at h
  simp only [Bool.and_eq_true, beq_iff_eq] at h
  exact ⟨h.1.1.1, h.1.1.2, h.1.2, h.2⟩
theorem pHsv_ne {r g b : Nat} (h : ¬ mnn r g b = mxn r g b) : pHsv r g b = (hueD (mxn r g b - r) (mxn r g b - g) (mxn r g b - b) (mxn r g b - mnn r g b), dv (mxn r g b - mnn r g b) (mxn r g b)) := by
  unfold pHsv; rw [decide_eq_false h, cond_false]
theorem pHls_ne {r g b : Nat} (h : ¬ mnn r g b = mxn r g b) : pHls r g b = (hueD (mxn r g b - r) (mxn r g b - g) (mxn r g b - b) (mxn r g b - mnn r g b), dv (mxn r g b - mnn r g b) (mxn r g b + mnn r g b)) := by
  unfold pHls; rw [decide_eq_false h, cond_false]
theorem pNeg_ne {r g b : Nat} (h : ¬ mnn r g b = mxn r g b) : pNeg r g b = (hueD (r - mnn r g b) (g - mnn r g b) (b - mnn r g b) (mxn r g b - mnn r g b), dv (mxn r g b - mnn r g b) (mxn r g b + mnn r g b)) := by
  unfold pNeg; rw [decide_eq_false h, cond_false]
theorem pHsv_eq {r g b : Nat} (h : mnn r g b = mxn r g b) : pHsv r g b = (0, 0) := by unfold pHsv; rw [decide_eq_true h, cond_true]
theorem pHls_eq {r g b : Nat} (h : mnn r g b = mxn r g b) : pHls r g b = (0, 0) := by unfold pHls; rw [decide_eq_true h, cond_true]
theorem pNeg_eq {r g b : Nat} (h : mnn r g b = mxn r g b) : pNeg r g b = (0, 0) := by unfold pNeg; rw [decide_eq_true h, cond_true]

theorem good_hsv : Good pHsv dHsv := by
  refine ⟨fun k r g b hk h => hsv_scale hk h, fun r g b h => pHsv_eq h, fun x y z ne le ss => ?_, by unfold dHsv; rw [toN_zero1, toN_zero2]; rfl⟩
  obtain ⟨f1, n1, _⟩ := hue_parts (hue_pos_ok ne le)
  obtain ⟨f2, n2⟩ := share_ok (R := mxn x y z - mnn x y z) (S := mxn x y z) ⟨Nat.sub_pos_of_lt ne, Nat.le_trans (Nat.sub_le _ _) le⟩ ⟨Nat.sub_le _ _, Nat.le_trans le (by decide)⟩
  rw [pHsv_ne (Nat.ne_of_lt ne)]
  refine ⟨f1, f2, ?_⟩
  unfold dHsv
  rw [n1, n2, Int.toNat_natCast, Int.toNat_natCast]
  exact (rec_ok ne le ss).1
theorem good_hls : Good pHls dHls := by
  refine ⟨fun k r g b hk h => hls_scale hk h, fun r g b h => pHls_eq h, fun x y z ne le ss => ?_, by unfold dHls; rw [toN_zero1, toN_zero2]; rfl⟩
  obtain ⟨f1, n1, _⟩ := hue_parts (hue_pos_ok ne le)
  obtain ⟨f2, n2⟩ := share_ok (R := mxn x y z - mnn x y z) (S := mxn x y z + mnn x y z) ⟨Nat.sub_pos_of_lt ne, Nat.le_trans (Nat.sub_le _ _) le⟩ ⟨Nat.le_trans (Nat.sub_le _ _) (Nat.le_add_right _ _), Nat.add_le_add le (Nat.le_trans (Nat.le_of_lt ne) le)⟩
  rw [pHls_ne (Nat.ne_of_lt ne)]
  refine ⟨f1, f2, ?_⟩
  unfold dHls
  rw [n1, n2, Int.toNat_natCast, Int.toNat_natCast]
  exact (rec_ok ne le ss).2.1
theorem good_neg : Good pNeg dNeg := by
  refine ⟨fun k r g b hk h => neg_scale hk h, fun r g b h => pNeg_eq h, fun x y z ne le ss => ?_, by unfold dNeg; rw [toN_zero1, toN_zero2]; rfl⟩
  obtain ⟨f1, n1, _⟩ := hue_parts (hue_neg_ok ne le)
  obtain ⟨f2, n2⟩ := share_ok (R := mxn x y z - mnn x y z) (S := mxn x y z + mnn x y z) ⟨Nat.sub_pos_of_lt ne, Nat.le_trans (Nat.sub_le _ _) le⟩ ⟨Nat.le_trans (Nat.sub_le _ _) (Nat.le_add_right _ _), Nat.add_le_add le (Nat.le_trans (Nat.le_of_lt ne) le)⟩
  rw [pNeg_ne (Nat.ne_of_lt ne)]
  refine ⟨f1, f2, ?_⟩
  unfold dNeg
  rw [n1, n2, Int.toNat_natCast, Int.toNat_natCast]
  exact (rec_ok ne le ss).2.2

noncomputable def Code (v : N3) : Prop := ∃ a b c t : Nat, a < 8 ∧ b < 8 ∧ c < 8 ∧ (1 ≤ t ∧ t ≤ 4) ∧ v = (t * a, t * b, t * c)
theorem Code.le {v : N3} (h : Code v) : v.1 ≤ 28 ∧ v.2.1 ≤ 28 ∧ v.2.2 ≤ 28 := by
  obtain ⟨a, b, c, t, ha, hb, hc, ht, rfl⟩ := h
  exact ⟨Nat.mul_le_mul ht.2 (Nat.le_of_lt_succ ha), Nat.mul_le_mul ht.2 (Nat.le_of_lt_succ hb), Nat.mul_le_mul ht.2 (Nat.le_of_lt_succ hc)⟩
theorem Code.hued {v : N3} (h : Code v) (hn : ¬ mnn v.1 v.2.1 v.2.2 = mxn v.1 v.2.1 v.2.2) : ∃ k x y z, Hued v.1 v.2.1 v.2.2 k x y z := by
  obtain ⟨a, b, c, t, ha, hb, hc, ht, rfl⟩ := h
  exact ⟨_, _, _, _, Mine.hued ha hb hc ht hn⟩
theorem shP_grey {r g b : Nat} (h : mnn r g b = mxn r g b) : shP r g b = (0, 0, 0) := by unfold shP; rw [decide_eq_true h, cond_true]
noncomputable abbrev ap (p : Nat → Nat → Nat → Tl) (v : N3) : Tl := p v.1 v.2.1 v.2.2
section
variable {p : Nat → Nat → Nat → Tl} {d : Tl → N3} (G : Good p d) {v w : N3}
include G
theorem Good.shade (h : Code v) : ap p v = ap p (shP v.1 v.2.1 v.2.2) ∧ fine (ap p v).1 = true ∧ fine (ap p v).2 = true ∧ d (ap p v) = shP v.1 v.2.1 v.2.2 := by
  by_cases hn : mnn v.1 v.2.1 v.2.2 = mxn v.1 v.2.1 v.2.2
  · have e : ap p v = (0, 0) := G.grey _ _ _ hn
    rw [e, shP_grey hn]
    exact ⟨(G.grey 0 0 0 rfl).symm, fine_zero, fine_zero, G.zero⟩
  · obtain ⟨k, x, y, z, H⟩ := h.hued hn
    have e : ap p v = p x y z := by
      show p v.1 v.2.1 v.2.2 = _
      rw [H.er, H.eg, H.eb]
      exact G.scale k x y z H.k1 H.lk
    rw [e, H.sh]
    obtain ⟨f1, f2, f3⟩ := G.hue x y z H.ne H.le H.ss
    exact ⟨rfl, f1, f2, f3⟩
theorem Good.iff (hv : Code v) (hw : Code w) : ap p v = ap p w ↔ shP v.1 v.2.1 v.2.2 = shP w.1 w.2.1 w.2.2 := by
  constructor
  · intro e
    rw [← (G.shade hv).2.2.2, ← (G.shade hw).2.2.2, e]
  · intro e
    rw [(G.shade hv).1, (G.shade hw).1, e]
end
end Mine
end
section
open PySem PySem.W PySem.Calls PyProof.Rows
namespace Mine
set_option maxRecDepth 100000
set_option maxHeartbeats 4000000

theorem filterMap_same {α β : Type} {f g : α → Option β} : ∀ {l : List α}, (∀ a ∈ l, f a = g a) → l.filterMap f = l.filterMap g
  | [], _ => rfl
  | a :: r, h => by
    rw [List.filterMap_cons, List.filterMap_cons, h a List.mem_cons_self, filterMap_same fun b hb => h b (List.mem_cons_of_mem _ hb)]
noncomputable def ks (qs : List Sp) (p : Nat) : Sp := sh3 (qs.getD p (0, 0, 0))
theorem getD_at {qs : List Sp} {p : Nat} (h : p < qs.length) : qs.getD p (0, 0, 0) = qs[p] := by
  rw [List.getD_eq_getElem?_getD, List.getElem?_eq_getElem h]; rfl
theorem getD_mem {qs : List Sp} {p : Nat} (h : p < qs.length) : qs.getD p (0, 0, 0) ∈ qs := by
  rw [getD_at h]; exact List.getElem_mem h
theorem map_ks (qs : List Sp) : qs.map sh3 = (List.range qs.length).map (ks qs) := by
  apply List.ext_getElem
  · simp
  · intro i h1 h2
    have h : i < qs.length := by simpa using h1
    simp [ks, h]
theorem cnt_ks (qs : List Sp) (c : Sp) : (qs.map sh3).countP (fun q => decide (q = c)) = cnt (ks qs) qs.length c := by
  rw [map_ks, List.countP_map]
  rfl
theorem ks_at {qs : List Sp} {p : Nat} (h : p < qs.length) : (qs.map sh3)[p]? = some (ks qs p) := by
  rw [List.getElem?_map, List.getElem?_eq_getElem h]
  simp [ks, h]

theorem idx_iff {l : List Sp} {c : Sp} {p : Nat} (h : l[p]? = some c) : l.idxOf c = p ↔ ∀ q, q < p → l[q]? ≠ some c := by
  constructor
  · rintro rfl q hq
    exact idx_no q hq
  · intro hn
    rcases Nat.lt_trichotomy (l.idxOf c) p with h1 | h1 | h1
    · exact absurd (idx_at (List.mem_of_getElem? h)) (hn _ h1)
    · exact h1
    · exact absurd h (idx_no p h1)

section
variable {f : Sp → Tl} {q1 q2 : List Sp} (H : ∀ q ∈ q1 ++ q2, ∀ q' ∈ q1 ++ q2, f q = f q' ↔ sh3 q = sh3 q')
include H
theorem cnt_same {qs : List Sp} (hqs : ∀ q ∈ qs, q ∈ q1 ++ q2) {i : Nat} (hi : i ≤ qs.length) {q : Sp} (hq : q ∈ q1 ++ q2) : cnt (kf f qs) i (f q) = cnt (ks qs) i (sh3 q) := by
  unfold cnt
  apply List.countP_congr
  intro p hp
  have hp := List.mem_range.mp hp
  simp only [decide_eq_true_eq]
  exact H _ (hqs _ (getD_mem (by omega))) _ hq
theorem seen_same2 {qs : List Sp} (hqs : ∀ q ∈ qs, q ∈ q1 ++ q2) {i : Nat} (hi : i ≤ qs.length) {q : Sp} (hq : q ∈ q1 ++ q2) : seen (kf f qs) i (f q) = seen (ks qs) i (sh3 q) := by
  rw [Bool.eq_iff_iff, seen_iff, seen_iff]
  constructor
  · rintro ⟨p, hp, e⟩
    exact ⟨p, hp, (H _ (hqs _ (getD_mem (by omega))) _ hq).mp e⟩
  · rintro ⟨p, hp, e⟩
    exact ⟨p, hp, (H _ (hqs _ (getD_mem (by omega))) _ hq).mpr e⟩

theorem rows_due : rowsQ1 f q1 q2 q1.length q2.length q1.length ++ rowsQ2 f q1 q2 q1.length q2.length q2.length = dueR (q1 ++ q2) q1.length (q1.length + q2.length) := by
  have m1 : ∀ q ∈ q1, q ∈ q1 ++ q2 := fun q h => List.mem_append_left _ h
  have m2 : ∀ q ∈ q2, q ∈ q1 ++ q2 := fun q h => List.mem_append_right _ h
  have hmap : (q1 ++ q2).map sh3 = q1.map sh3 ++ q2.map sh3 := List.map_append
  have ht : ((q1 ++ q2).map sh3).take q1.length = q1.map sh3 := by rw [hmap]; exact List.take_left' (by simp)
  have hd : ((q1 ++ q2).map sh3).drop q1.length = q2.map sh3 := by rw [hmap]; exact List.drop_left' (by simp)
  unfold dueR
  rw [List.range_add, List.filterMap_append, List.filterMap_map]
  congr 1
  · unfold rowsQ1
    apply filterMap_same
    intro p hp
    have hp := List.mem_range.mp hp
    have hg : (q1 ++ q2).getD p (0, 0, 0) = q1.getD p (0, 0, 0) := by
      rw [getD_at hp, getD_at (by rw [List.length_append]; omega), List.getElem_append_left hp]
    have hm := getD_mem hp
    dsimp only
    rw [ht, hd, hg, cnt_ks, cnt_ks]
    show (if seen (kf f q1) p (f (q1.getD p (0, 0, 0))) = false ∧ cnt (kf f q1) q1.length (f (q1.getD p (0, 0, 0))) ≠ cnt (kf f q2) q2.length (f (q1.getD p (0, 0, 0))) then some (cnt (kf f q1) q1.length (f (q1.getD p (0, 0, 0))), cnt (kf f q2) q2.length (f (q1.getD p (0, 0, 0))), q1.getD p (0, 0, 0)) else none) = _
    rw [cnt_same H m1 (Nat.le_refl _) (m1 _ hm), cnt_same H m2 (Nat.le_refl _) (m1 _ hm), seen_same2 H m1 (by omega) (m1 _ hm)]
    have hidx : seen (ks q1) p (sh3 (q1.getD p (0, 0, 0))) = false ↔ ((q1 ++ q2).map sh3).idxOf (sh3 (q1.getD p (0, 0, 0))) = p := by
      have hat : ((q1 ++ q2).map sh3)[p]? = some (sh3 (q1.getD p (0, 0, 0))) := by
        rw [hmap, List.getElem?_append_left (by simpa using hp)]; exact ks_at hp
      rw [idx_iff hat, Bool.eq_false_iff, ne_eq, seen_iff]
      constructor
      · intro hn q hq e
        rw [hmap, List.getElem?_append_left (by simp; omega), ks_at (by omega)] at e
        exact hn ⟨q, hq, Option.some.inj e⟩
      · rintro hn ⟨q, hq, e⟩
        refine hn q hq ?_
        rw [hmap, List.getElem?_append_left (by simp; omega), ks_at (by omega), e]
    simp only [hidx]
  · unfold rowsQ2
    apply filterMap_same
    intro p hp
    have hp := List.mem_range.mp hp
    have hg : (q1 ++ q2).getD (q1.length + p) (0, 0, 0) = q2.getD p (0, 0, 0) := by
      rw [getD_at hp, getD_at (by rw [List.length_append]; omega), List.getElem_append_right (by omega)]
      congr 1; omega
    have hm := getD_mem hp
    show _ = (let c := sh3 ((q1 ++ q2).getD (q1.length + p) (0, 0, 0)); _)
    dsimp only [Function.comp]
    rw [ht, hd, hg, cnt_ks, cnt_ks]
    show (if seen (kf f q1) q1.length (f (q2.getD p (0, 0, 0))) = false ∧ seen (kf f q2) p (f (q2.getD p (0, 0, 0))) = false then some (0, cnt (kf f q2) q2.length (f (q2.getD p (0, 0, 0))), q2.getD p (0, 0, 0)) else none) = _
    rw [cnt_same H m2 (Nat.le_refl _) (m2 _ hm), seen_same2 H m1 (Nat.le_refl _) (m2 _ hm), seen_same2 H m2 (by omega) (m2 _ hm)]
    have hidx : (seen (ks q1) q1.length (sh3 (q2.getD p (0, 0, 0))) = false ∧ seen (ks q2) p (sh3 (q2.getD p (0, 0, 0))) = false) ↔ ((q1 ++ q2).map sh3).idxOf (sh3 (q2.getD p (0, 0, 0))) = q1.length + p := by
      have hat : ((q1 ++ q2).map sh3)[q1.length + p]? = some (sh3 (q2.getD p (0, 0, 0))) := by
        rw [hmap, List.getElem?_append_right (by simp), List.length_map, Nat.add_sub_cancel_left]
        exact ks_at hp
      rw [idx_iff hat, Bool.eq_false_iff, Bool.eq_false_iff, ne_eq, ne_eq, seen_iff, seen_iff]
      constructor
      · rintro ⟨hn1, hn2⟩ q hq e
        rcases Nat.lt_or_ge q q1.length with h | h
        · rw [hmap, List.getElem?_append_left (by simpa using h), ks_at h] at e
          exact hn1 ⟨q, h, Option.some.inj e⟩
        · rw [hmap, List.getElem?_append_right (by simpa using h), List.length_map, ks_at (by omega)] at e
          exact hn2 ⟨q - q1.length, by omega, Option.some.inj e⟩
      · intro hn
        refine ⟨?_, ?_⟩
        · rintro ⟨q, hq, e⟩
          refine hn q (by omega) ?_
          rw [hmap, List.getElem?_append_left (by simpa using hq), ks_at hq, e]
        · rintro ⟨q, hq, e⟩
          refine hn (q1.length + q) (by omega) ?_
          rw [hmap, List.getElem?_append_right (by simp)]
          simp only [List.length_map, Nat.add_sub_cancel_left]
          rw [ks_at (by omega), e]
    by_cases hc : seen (ks q1) q1.length (sh3 (q2.getD p (0, 0, 0))) = false ∧ seen (ks q2) p (sh3 (q2.getD p (0, 0, 0))) = false
    · have hz : cnt (ks q1) q1.length (sh3 (q2.getD p (0, 0, 0))) = 0 := cnt_of_unseen hc.1
      have hpos : 0 < cnt (ks q2) q2.length (sh3 (q2.getD p (0, 0, 0))) := cnt_pos (seen_iff.mpr ⟨p, hp, rfl⟩)
      rw [if_pos hc, hz, if_pos ⟨hidx.mp hc, by omega⟩]
    · rw [if_neg hc, if_neg (fun z => hc (hidx.mpr z.1))]
end
end Mine
end
section
open PySem PySem.W PySem.Calls PyProof.Rows
namespace Mine
set_option maxRecDepth 100000
set_option maxHeartbeats 4000000

noncomputable def okG (s : Nat) : Bool := Float64.isFinite (Float64.mul (Float64.mul 0 (Float64.ofInt (s : Int))) (Float64.ofInt 1024)) && Flt.toInt Float64.nearestOf (Float64.mul (Float64.mul 0 (Float64.ofInt (s : Int))) (Float64.ofInt 1024)) == 0
theorem tabG : ((List.range 57).all fun s => okG s) = true := by decide +kernel
theorem tabG1 : (Float64.isFinite (Float64.mul (Float64.mul (Float64.sub 0 0) (Float64.ofInt 2520)) (Float64.ofInt 1024)) && (Flt.toInt Float64.nearestOf (Float64.mul (Float64.mul (Float64.sub 0 0) (Float64.ofInt 2520)) (Float64.ofInt 1024))).fmod 2580480 == 0) = true := by decide +kernel

theorem t_hsv {v : N3} (h : Code v) : tHsv (cst v) = ap pHsv v := hsv_eq h.le.1 h.le.2.1 h.le.2.2
theorem t_hls {v : N3} (h : Code v) : tHls (cst v) = ap pHls v := hls_eq h.le.1 h.le.2.1 h.le.2.2
theorem t_neg {v : N3} (h : Code v) : tNeg (cst v) = ap pNeg v := neg_eq h.le.1 h.le.2.1 h.le.2.2

theorem x2_tab {R M : Nat} (h : R ≤ M) (hM : M ≤ 28) (hR : R ≠ 0) : Float64.isFinite (x2D R M) = true ∧ Flt.toInt Float64.nearestOf (x2D R M) = ((R * 1024 : Nat) : Int) := by
  have := all2 tabX2 R (mem_lo (by omega)) M (mem_lo hM)
  simp only [okX, Bool.or_eq_true, decide_eq_true_eq, Bool.and_eq_true, beq_iff_eq] at this
  rcases this with h1 | h1 | h1
  · omega
  · exact absurd h1 hR
  · exact h1
theorem x3_tab {R m : Nat} (h : R + m ≤ 28) (hR : R ≠ 0) : Float64.isFinite (x2D R (R + m + m)) = true ∧ Flt.toInt Float64.nearestOf (x2D R (R + m + m)) = ((R * 1024 : Nat) : Int) := by
  have := all2 tabX3 R (mem_lo (by omega)) m (mem_lo (by omega))
  simp only [okX, Bool.or_eq_true, decide_eq_true_eq, Bool.and_eq_true, beq_iff_eq] at this
  rcases this with h1 | h1 | h1
  · omega
  · exact absurd h1 hR
  · exact h1
theorem g_tab {s : Nat} (h : s ≤ 56) : Float64.isFinite (Float64.mul (Float64.mul 0 (Float64.ofInt (s : Int))) (Float64.ofInt 1024)) = true ∧ Flt.toInt Float64.nearestOf (Float64.mul (Float64.mul 0 (Float64.ofInt (s : Int))) (Float64.ofInt 1024)) = 0 := by
  have := List.all_eq_true.mp tabG s (List.mem_range.mpr (by omega))
  simpa [okG] using this

theorem cast_max (a b : Nat) : ((max a b : Nat) : Int) = max (a : Int) (b : Int) := by
  rcases Nat.le_total a b with h | h
  · rw [Nat.max_eq_right h, Int.max_eq_right (Int.ofNat_le.mpr h)]
  · rw [Nat.max_eq_left h, Int.max_eq_left (Int.ofNat_le.mpr h)]
theorem cast_min (a b : Nat) : ((min a b : Nat) : Int) = min (a : Int) (b : Int) := by
  rcases Nat.le_total a b with h | h
  · rw [Nat.min_eq_left h, Int.min_eq_left (Int.ofNat_le.mpr h)]
  · rw [Nat.min_eq_right h, Int.min_eq_right (Int.ofNat_le.mpr h)]
theorem max_cast (v : N3) : max (max (v.1 : Int) (v.2.1 : Int)) (v.2.2 : Int) = ((mxn v.1 v.2.1 v.2.2 : Nat) : Int) := by
  unfold mxn; rw [cast_max, cast_max]
theorem min_cast (v : N3) : min (min (v.1 : Int) (v.2.1 : Int)) (v.2.2 : Int) = ((mnn v.1 v.2.1 v.2.2 : Nat) : Int) := by
  unfold mnn; rw [cast_min, cast_min]
theorem lim {v : N3} (h : Code v) : mxn v.1 v.2.1 v.2.2 ≤ 28 ∧ mnn v.1 v.2.1 v.2.2 ≤ mxn v.1 v.2.1 v.2.2 :=
  ⟨mxn_le h.le.1 h.le.2.1 h.le.2.2, Nat.le_trans (mm _ _ _).2.2.2.1 (mm _ _ _).1⟩
theorem cast_sub {M m : Nat} (h : m ≤ M) : (((M - m) * 1024 : Nat) : Int) = ((M : Int) - (m : Int)) * 1024 := by rw [Int.natCast_mul, Int.natCast_sub h]; rfl
theorem grey_cast {M m : Nat} (h : m = M) : (0 : Int) = ((M : Int) - (m : Int)) * 1024 := by rw [h, Int.sub_self, Int.zero_mul]

theorem holds_ok {v : N3} (h : Code v) : HoldsOk (v.1 : Int) (v.2.1 : Int) (v.2.2 : Int) := by
  obtain ⟨hM, hm⟩ := lim h
  have a1 : sNg (v.1 : Int) (v.2.1 : Int) (v.2.2 : Int) = ap pNeg v := t_neg h
  have a2 : sHs (v.1 : Int) (v.2.1 : Int) (v.2.2 : Int) = ap pHls v := t_hls h
  have a3 : sHv (v.1 : Int) (v.2.1 : Int) (v.2.2 : Int) = ap pHsv v := t_hsv h
  have b1 : x1 (v.1 : Int) (v.2.1 : Int) (v.2.2 : Int) = Float64.mul (Float64.mul (Float64.sub (ap pNeg v).1 (ap pHls v).1) (Float64.ofInt 2520)) (Float64.ofInt 1024) := by unfold x1; rw [a1, a2]
  have b2 : x2 (v.1 : Int) (v.2.1 : Int) (v.2.2 : Int) = Float64.mul (Float64.mul (ap pHsv v).2 (Float64.ofInt ((mxn v.1 v.2.1 v.2.2 : Nat) : Int))) (Float64.ofInt 1024) := by unfold x2; rw [a3, max_cast]
  have b3 : x3 (v.1 : Int) (v.2.1 : Int) (v.2.2 : Int) = Float64.mul (Float64.mul (ap pHls v).2 (Float64.ofInt ((mxn v.1 v.2.1 v.2.2 + mnn v.1 v.2.1 v.2.2 : Nat) : Int))) (Float64.ofInt 1024) := by unfold x3; rw [a2, max_cast, min_cast, Int.natCast_add]
  by_cases hn : mnn v.1 v.2.1 v.2.2 = mxn v.1 v.2.1 v.2.2
  · have p1 : ap pNeg v = (0, 0) := pNeg_eq hn
    have p2 : ap pHls v = (0, 0) := pHls_eq hn
    have p3 : ap pHsv v = (0, 0) := pHsv_eq hn
    rw [p1, p2] at b1
    rw [p3] at b2
    rw [p2] at b3
    obtain ⟨g1, g2⟩ := Bool.and_eq_true_iff.mp tabG1
    obtain ⟨g3, g4⟩ := g_tab (s := mxn v.1 v.2.1 v.2.2) (Nat.le_trans hM (by decide))
    obtain ⟨g5, g6⟩ := g_tab (s := mxn v.1 v.2.1 v.2.2 + mnn v.1 v.2.1 v.2.2) (Nat.add_le_add hM (Nat.le_trans hm hM))
    refine ⟨by rw [b1]; exact g1, by rw [b2]; exact g3, by rw [b3]; exact g5, ?_, ?_, ?_, ?_⟩
    · rw [a1, a2, p1, p2]; decide +kernel
    · rw [b1, max_cast, min_cast, if_neg fun q => Nat.ne_of_lt (Int.ofNat_lt.mp q) hn]; simpa using g2
    · rw [b2, max_cast, min_cast]
      exact g4.trans (grey_cast hn)
    · rw [b3, max_cast, min_cast, beq_iff_eq]
      exact g6.trans (grey_cast hn)
  · obtain ⟨k, x, y, z, H⟩ := h.hued hn
    have n1 : ap pNeg v = pNeg x y z := by
      show pNeg v.1 v.2.1 v.2.2 = _
      rw [H.er, H.eg, H.eb]; exact neg_scale H.k1 H.lk
    have n2 : ap pHls v = pHls x y z := by
      show pHls v.1 v.2.1 v.2.2 = _
      rw [H.er, H.eg, H.eb]; exact hls_scale H.k1 H.lk
    have hlt : mnn v.1 v.2.1 v.2.2 < mxn v.1 v.2.1 v.2.2 := Nat.lt_of_le_of_ne hm hn
    have hR : mxn v.1 v.2.1 v.2.2 - mnn v.1 v.2.1 v.2.2 ≠ 0 := Nat.sub_ne_zero_of_lt hlt
    have hx := hue_parts (hue_pos_ok H.ne H.le)
    have hxx : x1D (mxn x y z - x) (mxn x y z - y) (mxn x y z - z) (mxn x y z - mnn x y z) = x1 (v.1 : Int) (v.2.1 : Int) (v.2.2 : Int) := by
      rw [b1, n1, n2, pNeg_ne (Nat.ne_of_lt H.ne), pHls_ne (Nat.ne_of_lt H.ne)]
      unfold x1D
      obtain ⟨u1, u2, u3, _, _, _⟩ := mm x y z
      rw [flip u1, flip u2, flip u3]
    rw [hxx] at hx
    have p2 : ap pHls v = _ := pHls_ne hn
    have p3 : ap pHsv v = _ := pHsv_ne hn
    have p1 : ap pNeg v = _ := pNeg_ne hn
    obtain ⟨t1, t2⟩ := x2_tab (R := mxn v.1 v.2.1 v.2.2 - mnn v.1 v.2.1 v.2.2) (M := mxn v.1 v.2.1 v.2.2) (Nat.sub_le _ _) hM hR
    obtain ⟨t3, t4⟩ := x3_tab (R := mxn v.1 v.2.1 v.2.2 - mnn v.1 v.2.1 v.2.2) (m := mnn v.1 v.2.1 v.2.2) (by rw [Nat.sub_add_cancel hm]; exact hM) hR
    rw [Nat.sub_add_cancel hm] at t3 t4
    rw [p3] at b2
    rw [p2] at b3
    have hf := (good_hls.shade h).2.2.1
    refine ⟨hx.2.2.1, by rw [b2]; exact t1, by rw [b3]; exact t3, ?_, ?_, ?_, ?_⟩
    · rw [a1, a2]
      have e : (ap pNeg v).2 = (ap pHls v).2 := by rw [p1, p2]
      rw [e]
      have := feq_fine hf hf
      rw [decide_eq_true rfl] at this
      unfold feq at this
      rw [bne, this]
      rfl
    · rw [max_cast, min_cast, if_pos (Int.ofNat_lt.mpr hlt)]
      exact hx.2.2.2
    · rw [b2, max_cast, min_cast]
      exact t2.trans (cast_sub hm)
    · rw [b3, max_cast, min_cast, beq_iff_eq]
      exact t4.trans (cast_sub hm)

theorem z_pos {M m : Nat} (h : m ≤ M) (hf : decide (m = M) = false) : 0 < M - m := Nat.sub_pos_of_lt (Nat.lt_of_le_of_ne h (of_decide_eq_false hf))
theorem z_no {a : Nat} (h : 0 < a) : decide (a = 0) = false := decide_eq_false (Nat.ne_of_gt h)
theorem z1_ok {v : N3} (h : Code v) : hsvZ (q64 (v.1 : Int)) (q64 (v.2.1 : Int)) (q64 (v.2.2 : Int)) := by
  have hle := h.le
  obtain ⟨hM, hm⟩ := lim h
  show hsvZ (qn v.1) (qn v.2.1) (qn v.2.2)
  unfold hsvZ
  rw [mx3_on cmp_lo (mem_lo hle.1) (mem_lo hle.2.1) (mem_lo hle.2.2), mn3_on cmp_lo (mem_lo hle.1) (mem_lo hle.2.1) (mem_lo hle.2.2), feq_on cmp_lo (mem_lo (Nat.le_trans hm hM)) (mem_lo hM), sub_lo hM hm, zero_on (Nat.le_trans hM (by decide)), zero_on (Nat.le_trans (Nat.sub_le _ _) (Nat.le_trans hM (by decide)))]
  intro hf
  have hp := z_pos hm hf
  exact ⟨z_no (Nat.lt_of_lt_of_le hp (Nat.sub_le _ _)), z_no hp⟩
theorem z2_ok {v : N3} (h : Code v) : hlsZ (q64 (v.1 : Int)) (q64 (v.2.1 : Int)) (q64 (v.2.2 : Int)) := by
  have hle := h.le
  obtain ⟨hM, hm⟩ := lim h
  have h56 := Nat.add_le_add hM (Nat.le_trans hm hM)
  show hlsZ (qn v.1) (qn v.2.1) (qn v.2.2)
  unfold hlsZ
  rw [mx3_on cmp_lo (mem_lo hle.1) (mem_lo hle.2.1) (mem_lo hle.2.2), mn3_on cmp_lo (mem_lo hle.1) (mem_lo hle.2.1) (mem_lo hle.2.2), feq_on cmp_lo (mem_lo (Nat.le_trans hm hM)) (mem_lo hM), sub_lo hM hm, add_lo hM (Nat.le_trans hm hM),
    half_on (Nat.le_trans h56 (by decide)), decide_eq_true (Nat.le_trans h56 (by decide)), cond_true, zero_on (Nat.le_trans (Nat.sub_le _ _) (Nat.le_trans hM (by decide))), zero_on (Nat.le_trans h56 (by decide))]
  intro hf
  have hp := z_pos hm hf
  exact ⟨z_no hp, z_no (Nat.lt_of_lt_of_le (Nat.lt_of_lt_of_le hp (Nat.sub_le _ _)) (Nat.le_add_right _ _))⟩
theorem z3_ok {v : N3} (h : Code v) : hlsZ (n64 (v.1 : Int)) (n64 (v.2.1 : Int)) (n64 (v.2.2 : Int)) := by
  have hle := h.le
  obtain ⟨hM, hm⟩ := lim h
  have hm28 := Nat.le_trans hm hM
  have h56 := Nat.add_le_add hM hm28
  rw [neg_lo hle.1, neg_lo hle.2.1, neg_lo hle.2.2]
  unfold hlsZ
  rw [mx3_on cmp_hi (mem_ng hle.1) (mem_ng hle.2.1) (mem_ng hle.2.2), mn3_on cmp_hi (mem_ng hle.1) (mem_ng hle.2.1) (mem_ng hle.2.2), mxn_neg, mnn_neg]
  obtain ⟨a1, a2, a3, a4, a5⟩ := ng_eq hM hm
  rw [feq_on cmp_hi (mem_ng hM) (mem_ng hm28), sub_hi (Nat.sub_le _ _) (hi1 hM) (Nat.sub_le_sub_left hm 64), add_hi ⟨hi1 hm28, Nat.sub_le _ _⟩ ⟨hi1 hM, Nat.sub_le _ _⟩,
    half_on a1, decide_eq_false a2, cond_false, two_hi ⟨hi1 hm28, Nat.sub_le _ _⟩, sub3_hi ⟨hi1 hm28, Nat.sub_le _ _⟩ ⟨hi1 hM, Nat.sub_le _ _⟩, a3, a4, zero_on (Nat.le_trans (Nat.sub_le _ _) (Nat.le_trans hM (by decide))), zero_on (Nat.le_trans h56 (by decide))]
  intro hf
  have hp := z_pos hm (decide_eq_false fun q => of_decide_eq_false hf (a5.mpr q))
  exact ⟨z_no hp, z_no (Nat.lt_of_lt_of_le (Nat.lt_of_lt_of_le hp (Nat.sub_le _ _)) (Nat.le_add_right _ _))⟩
end Mine
end
section
open PySem PySem.W PySem.Calls PyProof.Rows
namespace Mine
set_option maxRecDepth 100000
set_option maxHeartbeats 4000000

theorem spot_code {n : Int} (h0 : 0 ≤ n) (_h1 : n < 4096) : ∃ v, Code v ∧ spotOf n = cst v := by
  obtain ⟨N, rfl⟩ := Int.eq_ofNat_of_zero_le h0
  refine ⟨((1 + N / 512 % 4) * (N % 8), (1 + N / 512 % 4) * (N / 8 % 8), (1 + N / 512 % 4) * (N / 64 % 8)), ⟨N % 8, N / 8 % 8, N / 64 % 8, 1 + N / 512 % 4, by omega, by omega, by omega, by omega, rfl⟩, ?_⟩
  unfold spotOf cst
  have f : ∀ (a b : Int), 0 ≤ b → a.fmod b = a % b := fun a b hb => Int.fmod_eq_emod_of_nonneg a hb
  have g : ∀ (a b : Int), 0 ≤ b → a.fdiv b = a / b := fun a b hb => Int.fdiv_eq_ediv_of_nonneg a hb
  rw [f _ 8 (by decide), g _ 512 (by decide), f _ 4 (by decide), g _ 8 (by decide), f _ 8 (by decide), g _ 64 (by decide), f _ 8 (by decide)]
  have t : (1 : Int) + (N : Int) / 512 % 4 = ((1 + N / 512 % 4 : Nat) : Int) := by omega
  have a1 : (N : Int) % 8 = ((N % 8 : Nat) : Int) := by omega
  have a2 : (N : Int) / 8 % 8 = ((N / 8 % 8 : Nat) : Int) := by omega
  have a3 : (N : Int) / 64 % 8 = ((N / 64 % 8 : Nat) : Int) := by omega
  rw [t, a1, a2, a3]
  simp only [← Int.natCast_mul, Nat.mul_comm]

theorem spots_mem {ns : List Int} {side : Int} {q : Sp} (h : q ∈ spotsF ns side) : ∃ n ∈ ns, q = spotOf n := by
  unfold spotsF at h
  obtain ⟨n, hn, rfl⟩ := List.mem_map.mp h
  exact ⟨n, (List.mem_filter.mp hn).1, rfl⟩
theorem spots_len {ns : List Int} {side : Int} : (spotsF ns side).length ≤ ns.length := by
  unfold spotsF
  rw [List.length_map]
  exact List.length_filter_le _ _

theorem like_of {p : Nat → Nat → Nat → Tl} {d : Tl → N3} (G : Good p d) {v w : N3} (hv : Code v) (hw : Code w) : Like (ap p v) (ap p w) :=
  ⟨feq_fine (G.shade hv).2.1 (G.shade hw).2.1, feq_fine (G.shade hv).2.2.1 (G.shade hw).2.2.1⟩
theorem code_sh3 {v : N3} (h : Code v) : sh3 (cst v) = cst (shP v.1 v.2.1 v.2.2) := by
  obtain ⟨a, b, c, t, ha, hb, hc, ht, rfl⟩ := h
  exact code_sh ha hb hc ht
theorem iff_of {p : Nat → Nat → Nat → Tl} {d : Tl → N3} (G : Good p d) {v w : N3} (hv : Code v) (hw : Code w) : ap p v = ap p w ↔ sh3 (cst v) = sh3 (cst w) := by
  rw [G.iff hv hw, code_sh3 hv, code_sh3 hw]
  exact ⟨fun h => by rw [h], cst_inj⟩

theorem plain_of {ns : List Int} (h : ∀ n ∈ ns, 0 ≤ n ∧ n < 4096) (hl : ns.length ≤ 100) : PlainOk (spotsF ns 0) (spotsF ns 1) := by
  have code : ∀ q ∈ spotsF ns 0 ++ spotsF ns 1, ∃ v, Code v ∧ q = cst v := fun q hq => by
    have : ∃ n ∈ ns, q = spotOf n := by
      rcases List.mem_append.mp hq with h' | h'
      · exact spots_mem h'
      · exact spots_mem h'
    obtain ⟨n, hn, rfl⟩ := this
    exact spot_code (h n hn).1 (h n hn).2
  refine ⟨Nat.le_trans spots_len hl, Nat.le_trans spots_len hl, fun q hq => ?_, fun q hq => ?_, fun q hq => ?_, fun q hq => ?_, fun q hq => ?_, fun q hq q' hq' => ?_, fun q hq q' hq' => ?_, fun q hq q' hq' => ?_,
    rows_due fun q hq q' hq' => ?_, rows_due fun q hq q' hq' => ?_, rows_due fun q hq q' hq' => ?_⟩
  all_goals obtain ⟨v, hv, rfl⟩ := code q hq
  · have := hv.le
    unfold Bnd cst
    dsimp only
    omega
  · exact z1_ok hv
  · exact z2_ok hv
  · exact z3_ok hv
  · exact holds_ok hv
  · obtain ⟨u, hu, rfl⟩ := code q' hq'
    rw [t_hsv hv, t_hsv hu]; exact like_of good_hsv hv hu
  · obtain ⟨u, hu, rfl⟩ := code q' hq'
    rw [t_hls hv, t_hls hu]; exact like_of good_hls hv hu
  · obtain ⟨u, hu, rfl⟩ := code q' hq'
    rw [t_neg hv, t_neg hu]; exact like_of good_neg hv hu
  · obtain ⟨u, hu, rfl⟩ := code q' hq'
    rw [t_hsv hv, t_hsv hu]; exact iff_of good_hsv hv hu
  · obtain ⟨u, hu, rfl⟩ := code q' hq'
    rw [t_hls hv, t_hls hu]; exact iff_of good_hls hv hu
  · obtain ⟨u, hu, rfl⟩ := code q' hq'
    rw [t_neg hv, t_neg hu]; exact iff_of good_neg hv hu
theorem plain_ok (script : List Int) : PlainOk (spotsF (List.map (fun k' => k'.fmod 4096) ([209, 2769, 3281, 365, 2048, 2055] ++ List.take 8 script)) 0) (spotsF (List.map (fun k' => k'.fmod 4096) ([209, 2769, 3281, 365, 2048, 2055] ++ List.take 8 script)) 1) := by
  refine plain_of (fun n hn => ?_) ?_
  · obtain ⟨k, _, rfl⟩ := List.mem_map.mp hn
    rw [Int.fmod_eq_emod_of_nonneg k (by decide)]
    omega
  · simp; omega
end Mine
end
theorem PySem.Challenge.cw_ox0037_01_holds : PySem.Challenge.rw_ox0037_01.Holds := by
  exact Mine.law_of Mine.plain_ok

