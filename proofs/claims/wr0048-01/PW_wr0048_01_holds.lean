import PyProof.Rows.All
import Wide.All
import OpenK.AllK
import Wide.FinOn
import Open.Tops
import Lean
import PySem.Challenge.RW_wr0048_01
set_option Elab.async false
set_option linter.all false
namespace Mine
section
open PySem PySem.W PyProof.Rows
open_shared hd for PySem.Challenge.pw_wr0048_01 leaving 8
end
end Mine
section
open PySem PySem.W PyProof.Rows
set_option maxRecDepth 100000
namespace Mine
def fnSt (i : Nat) : Stmt := (PySem.Challenge.pw_wr0048_01.main.body.drop i).headD (.Pass ⟨0, 0, 0, 0⟩)
def fnP (i : Nat) : Arguments := match fnSt i with
  | .FunctionDef (args := a) .. => a
  | _ => { posonlyargs := [], args := [], vararg := none, kwonlyargs := [], kw_defaults := [], kwarg := none, defaults := [] }
def fnB (i : Nat) : List Stmt := match fnSt i with
  | .FunctionDef (body := b) .. => b
  | _ => []
def fnS (i : Nat) : Scope := match fnSt i with
  | .FunctionDef (scope := s) .. => s
  | _ => PySem.Challenge.pw_wr0048_01.main.scope
noncomputable def o19_3 (P : Params) : Obj := { cls := Value.type "dict", data := Data.dict #[{ hash := PyData.keyHash P (Str.ofString "__name__"), key := Value.str (Str.ofString "__name__") 165, val := Value.str (Str.ofString "cpy313.stringprep") 336 }, { hash := PyData.keyHash P (Str.ofString "__doc__"), key := Value.str (Str.ofString "__doc__") 166, val := Value.none }, { hash := PyData.keyHash P (Str.ofString "__package__"), key := Value.str (Str.ofString "__package__") 167, val := Value.none }, { hash := PyData.keyHash P (Str.ofString "__loader__"), key := Value.str (Str.ofString "__loader__") 168, val := Value.builtin "__main__.__loader__#opaque" }, { hash := PyData.keyHash P (Str.ofString "__spec__"), key := Value.str (Str.ofString "__spec__") 169, val := Value.none }, { hash := PyData.keyHash P (Str.ofString "__annotations__"), key := Value.str (Str.ofString "__annotations__") 170, val := Value.ref 6 }, { hash := PyData.keyHash P (Str.ofString "__builtins__"), key := Value.str (Str.ofString "__builtins__") 171, val := Value.ref 4 }, { hash := PyData.keyHash P (Str.ofString "__file__"), key := Value.str (Str.ofString "__file__") 173, val := Value.str (Str.ofString "/claim/cut.py") 172 }, { hash := PyData.keyHash P (Str.ofString "__cached__"), key := Value.str (Str.ofString "__cached__") 174, val := Value.none }, { hash := PyData.keyHash P (Str.ofString "Error"), key := Value.str (Str.ofString "Error") 208, val := Value.ref 24 }, { hash := PyData.keyHash P (Str.ofString "error_reply"), key := Value.str (Str.ofString "error_reply") 224, val := Value.ref 37 }, { hash := PyData.keyHash P (Str.ofString "parse257"), key := Value.str (Str.ofString "parse257") 235, val := Value.ref 46 }, { hash := PyData.keyHash P (Str.ofString "ELLIPSIS_MARKER"), key := Value.str (Str.ofString "ELLIPSIS_MARKER") 239, val := Value.str (Str.ofString "...") 238 }, { hash := PyData.keyHash P (Str.ofString "_ellipsis_match"), key := Value.str (Str.ofString "_ellipsis_match") 251, val := Value.ref 53 }, { hash := PyData.keyHash P (Str.ofString "add"), key := Value.str (Str.ofString "add") 261, val := Value.ref 60 }, { hash := PyData.keyHash P (Str.ofString "and_"), key := Value.str (Str.ofString "and_") 269, val := Value.ref 67 }, { hash := PyData.keyHash P (Str.ofString "floordiv"), key := Value.str (Str.ofString "floordiv") 277, val := Value.ref 74 }, { hash := PyData.keyHash P (Str.ofString "lshift"), key := Value.str (Str.ofString "lshift") 285, val := Value.ref 81 }, { hash := PyData.keyHash P (Str.ofString "mul"), key := Value.str (Str.ofString "mul") 293, val := Value.ref 88 }, { hash := PyData.keyHash P (Str.ofString "rshift"), key := Value.str (Str.ofString "rshift") 301, val := Value.ref 95 }, { hash := PyData.keyHash P (Str.ofString "sub"), key := Value.str (Str.ofString "sub") 309, val := Value.ref 102 }, { hash := PyData.keyHash P (Str.ofString "xor"), key := Value.str (Str.ofString "xor") 317, val := Value.ref 109 }, { hash := PyData.keyHash P (Str.ofString "contains"), key := Value.str (Str.ofString "contains") 325, val := Value.ref 116 }, { hash := PyData.keyHash P (Str.ofString "countOf"), key := Value.str (Str.ofString "countOf") 335, val := Value.ref 123 }, { hash := PyData.keyHash P (Str.ofString "b1_set"), key := Value.str (Str.ofString "b1_set") 397, val := Value.ref 131 }] 25 }
noncomputable def o19_124 (P : Params) : Obj := { cls := Value.type "list", data := Data.seq #[Value.int 173 338, Value.int 847 339, Value.int 6150 340, Value.int 6155 341, Value.int 6156 342, Value.int 6157 343, Value.int 8203 344, Value.int 8204 345, Value.int 8205 346, Value.int 8288 347, Value.int 65279 348] }
noncomputable def o19_125 (P : Params) : Obj := { cls := Value.type "range", data := Data.fields #[Value.int 65024 349, Value.int 65040 350, Value.int 1 351] }
noncomputable def o19_126 (P : Params) : Obj := { cls := Value.type "list", data := Data.seq #[Value.int 65024 354, Value.int 65025 355, Value.int 65026 356, Value.int 65027 357, Value.int 65028 358, Value.int 65029 359, Value.int 65030 360, Value.int 65031 361, Value.int 65032 362, Value.int 65033 363, Value.int 65034 364, Value.int 65035 365, Value.int 65036 366, Value.int 65037 367, Value.int 65038 368, Value.int 65039 369] 18 }
noncomputable def o19_127 (P : Params) : Obj := { cls := Value.type "range_iterator", data := Data.fields #[Value.int 65040 0, Value.int 0 0, Value.int 1 0] }
noncomputable def o19_128 (P : Params) : Obj := { cls := Value.type "tuple", data := Data.seq #[] }
noncomputable def o19_129 (P : Params) : Obj := { cls := Value.type "StopIteration", data := Data.fields #[Value.ref 128, Value.none, Value.none, Value.none, Value.bool false, Value.none] }
noncomputable def o19_130 (P : Params) : Obj := { cls := Value.type "list", data := Data.seq #[Value.int 173 338, Value.int 847 339, Value.int 6150 340, Value.int 6155 341, Value.int 6156 342, Value.int 6157 343, Value.int 8203 344, Value.int 8204 345, Value.int 8205 346, Value.int 8288 347, Value.int 65279 348, Value.int 65024 354, Value.int 65025 355, Value.int 65026 356, Value.int 65027 357, Value.int 65028 358, Value.int 65029 359, Value.int 65030 360, Value.int 65031 361, Value.int 65032 362, Value.int 65033 363, Value.int 65034 364, Value.int 65035 365, Value.int 65036 366, Value.int 65037 367, Value.int 65038 368, Value.int 65039 369] }
noncomputable def o19_131 (P : Params) : Obj := { cls := Value.type "set", data := Data.set #[(65024, Value.int 65024 354), (65025, Value.int 65025 355), (65026, Value.int 65026 356), (65027, Value.int 65027 357), (65028, Value.int 65028 358), (65029, Value.int 65029 359), (6150, Value.int 6150 340), (65030, Value.int 65030 360), (65031, Value.int 65031 361), (65032, Value.int 65032 362), (65033, Value.int 65033 363), (6155, Value.int 6155 341), (6156, Value.int 6156 342), (6157, Value.int 6157 343), (8203, Value.int 8203 344), (8204, Value.int 8204 345), (8205, Value.int 8205 346), (65034, Value.int 65034 364), (65035, Value.int 65035 365), (65036, Value.int 65036 366), (65037, Value.int 65037 367), (65038, Value.int 65038 368), (65039, Value.int 65039 369), (173, Value.int 173 338), (847, Value.int 847 339), (8288, Value.int 8288 347), (65279, Value.int 65279 348)] 29 { mask := 127, place := #[0, 1, 2, 3, 4, 5, 6, 7, 8, 9, 10, 11, 12, 13, 14, 15, 16, 17, 18, 19, 20, 21, 22, 45, 79, 96, 127], dummies := #[], finger := 0, led := !P.followText "set-order", moves := 2, plain := true } }
noncomputable def o19_132 (P : Params) : Obj := { cls := Value.type "list_iterator", data := Data.fields #[Value.none, Value.int 27 0] }
noncomputable def o19_133 (P : Params) : Obj := { cls := Value.type "tuple", data := Data.seq #[] }
noncomputable def o19_134 (P : Params) : Obj := { cls := Value.type "StopIteration", data := Data.fields #[Value.ref 133, Value.none, Value.none, Value.none, Value.bool false, Value.none] }
noncomputable def o20_3 (P : Params) : Obj := { cls := Value.type "dict", data := Data.dict #[{ hash := PyData.keyHash P (Str.ofString "__name__"), key := Value.str (Str.ofString "__name__") 165, val := Value.str (Str.ofString "cpy313.stringprep") 336 }, { hash := PyData.keyHash P (Str.ofString "__doc__"), key := Value.str (Str.ofString "__doc__") 166, val := Value.none }, { hash := PyData.keyHash P (Str.ofString "__package__"), key := Value.str (Str.ofString "__package__") 167, val := Value.none }, { hash := PyData.keyHash P (Str.ofString "__loader__"), key := Value.str (Str.ofString "__loader__") 168, val := Value.builtin "__main__.__loader__#opaque" }, { hash := PyData.keyHash P (Str.ofString "__spec__"), key := Value.str (Str.ofString "__spec__") 169, val := Value.none }, { hash := PyData.keyHash P (Str.ofString "__annotations__"), key := Value.str (Str.ofString "__annotations__") 170, val := Value.ref 6 }, { hash := PyData.keyHash P (Str.ofString "__builtins__"), key := Value.str (Str.ofString "__builtins__") 171, val := Value.ref 4 }, { hash := PyData.keyHash P (Str.ofString "__file__"), key := Value.str (Str.ofString "__file__") 173, val := Value.str (Str.ofString "/claim/cut.py") 172 }, { hash := PyData.keyHash P (Str.ofString "__cached__"), key := Value.str (Str.ofString "__cached__") 174, val := Value.none }, { hash := PyData.keyHash P (Str.ofString "Error"), key := Value.str (Str.ofString "Error") 208, val := Value.ref 24 }, { hash := PyData.keyHash P (Str.ofString "error_reply"), key := Value.str (Str.ofString "error_reply") 224, val := Value.ref 37 }, { hash := PyData.keyHash P (Str.ofString "parse257"), key := Value.str (Str.ofString "parse257") 235, val := Value.ref 46 }, { hash := PyData.keyHash P (Str.ofString "ELLIPSIS_MARKER"), key := Value.str (Str.ofString "ELLIPSIS_MARKER") 239, val := Value.str (Str.ofString "...") 238 }, { hash := PyData.keyHash P (Str.ofString "_ellipsis_match"), key := Value.str (Str.ofString "_ellipsis_match") 251, val := Value.ref 53 }, { hash := PyData.keyHash P (Str.ofString "add"), key := Value.str (Str.ofString "add") 261, val := Value.ref 60 }, { hash := PyData.keyHash P (Str.ofString "and_"), key := Value.str (Str.ofString "and_") 269, val := Value.ref 67 }, { hash := PyData.keyHash P (Str.ofString "floordiv"), key := Value.str (Str.ofString "floordiv") 277, val := Value.ref 74 }, { hash := PyData.keyHash P (Str.ofString "lshift"), key := Value.str (Str.ofString "lshift") 285, val := Value.ref 81 }, { hash := PyData.keyHash P (Str.ofString "mul"), key := Value.str (Str.ofString "mul") 293, val := Value.ref 88 }, { hash := PyData.keyHash P (Str.ofString "rshift"), key := Value.str (Str.ofString "rshift") 301, val := Value.ref 95 }, { hash := PyData.keyHash P (Str.ofString "sub"), key := Value.str (Str.ofString "sub") 309, val := Value.ref 102 }, { hash := PyData.keyHash P (Str.ofString "xor"), key := Value.str (Str.ofString "xor") 317, val := Value.ref 109 }, { hash := PyData.keyHash P (Str.ofString "contains"), key := Value.str (Str.ofString "contains") 325, val := Value.ref 116 }, { hash := PyData.keyHash P (Str.ofString "countOf"), key := Value.str (Str.ofString "countOf") 335, val := Value.ref 123 }, { hash := PyData.keyHash P (Str.ofString "b1_set"), key := Value.str (Str.ofString "b1_set") 397, val := Value.ref 131 }, { hash := PyData.keyHash P (Str.ofString "in_table_b1"), key := Value.str (Str.ofString "in_table_b1") 404, val := Value.ref 141 }] 26 }
noncomputable def o20_12 (P : Params) : Obj := { cls := Value.none, data := Data.fields #[Value.int 2 0, Value.int 0 0, Value.ref 20, Value.int 4 0, Value.int 0 0, Value.ref 33, Value.int 6 0, Value.int 0 0, Value.ref 45, Value.int 25 0, Value.int 0 0, Value.ref 52, Value.int 54 0, Value.int 0 0, Value.ref 59, Value.int 56 0, Value.int 0 0, Value.ref 66, Value.int 58 0, Value.int 0 0, Value.ref 73, Value.int 60 0, Value.int 0 0, Value.ref 80, Value.int 62 0, Value.int 0 0, Value.ref 87, Value.int 64 0, Value.int 0 0, Value.ref 94, Value.int 66 0, Value.int 0 0, Value.ref 101, Value.int 68 0, Value.int 0 0, Value.ref 108, Value.int 70 0, Value.int 0 0, Value.ref 115, Value.int 72 0, Value.int 0 0, Value.ref 122, Value.int 80 0, Value.int 0 0, Value.ref 140] }
noncomputable def o20_135 (P : Params) : Obj := { cls := Value.type "tuple", data := Data.seq #[] }
noncomputable def o20_136 (P : Params) : Obj := { cls := Value.none, data := Data.fields #[] }
noncomputable def o20_137 (P : Params) : Obj := { cls := Value.type "tuple", data := Data.seq #[Value.str (Str.ofString "code") 401] }
noncomputable def o20_138 (P : Params) : Obj := { cls := Value.type "tuple", data := Data.seq #[] }
noncomputable def o20_139 (P : Params) : Obj := { cls := Value.none, data := Data.func { name := Str.ofString "in_table_b1", qualname := Str.ofString "in_table_b1", params := fnP 20, body := FuncBody.stmts (fnB 20), scope := fnS 20, globals := 0, closure := [], defaults := Value.none, kwdefaults := Value.none } }
noncomputable def o20_140 (P : Params) : Obj := { cls := Value.type "code", data := Data.fields #[Value.str (Str.ofString "in_table_b1") 398, Value.str (Str.ofString "in_table_b1") 399, Value.str (Str.ofString "/claim/cut.py") 400, Value.int 80 0, Value.int 1 0, Value.int 0 0, Value.int 0 0, Value.int 3 0, Value.ref 135, Value.bool true, Value.int 181 0, Value.ref 136, Value.none, Value.ref 137, Value.ref 138, Value.ref 139, Value.int 402 0, Value.int 80 0, Value.str (Str.ofString "/claim/cut.py") 403] }
noncomputable def o20_141 (P : Params) : Obj := { cls := Value.type "function", data := Data.func { name := Str.ofString "in_table_b1", qualname := Str.ofString "in_table_b1", params := fnP 20, body := FuncBody.stmts (fnB 20), scope := fnS 20, globals := 3, closure := [], defaults := Value.none, kwdefaults := Value.none, pyModule := Value.str (Str.ofString "cpy313.stringprep") 336, code := Value.ref 140 } }
noncomputable def o21_3 (P : Params) : Obj := { cls := Value.type "dict", data := Data.dict #[{ hash := PyData.keyHash P (Str.ofString "__name__"), key := Value.str (Str.ofString "__name__") 165, val := Value.str (Str.ofString "cpy313.stringprep") 336 }, { hash := PyData.keyHash P (Str.ofString "__doc__"), key := Value.str (Str.ofString "__doc__") 166, val := Value.none }, { hash := PyData.keyHash P (Str.ofString "__package__"), key := Value.str (Str.ofString "__package__") 167, val := Value.none }, { hash := PyData.keyHash P (Str.ofString "__loader__"), key := Value.str (Str.ofString "__loader__") 168, val := Value.builtin "__main__.__loader__#opaque" }, { hash := PyData.keyHash P (Str.ofString "__spec__"), key := Value.str (Str.ofString "__spec__") 169, val := Value.none }, { hash := PyData.keyHash P (Str.ofString "__annotations__"), key := Value.str (Str.ofString "__annotations__") 170, val := Value.ref 6 }, { hash := PyData.keyHash P (Str.ofString "__builtins__"), key := Value.str (Str.ofString "__builtins__") 171, val := Value.ref 4 }, { hash := PyData.keyHash P (Str.ofString "__file__"), key := Value.str (Str.ofString "__file__") 173, val := Value.str (Str.ofString "/claim/cut.py") 172 }, { hash := PyData.keyHash P (Str.ofString "__cached__"), key := Value.str (Str.ofString "__cached__") 174, val := Value.none }, { hash := PyData.keyHash P (Str.ofString "Error"), key := Value.str (Str.ofString "Error") 208, val := Value.ref 24 }, { hash := PyData.keyHash P (Str.ofString "error_reply"), key := Value.str (Str.ofString "error_reply") 224, val := Value.ref 37 }, { hash := PyData.keyHash P (Str.ofString "parse257"), key := Value.str (Str.ofString "parse257") 235, val := Value.ref 46 }, { hash := PyData.keyHash P (Str.ofString "ELLIPSIS_MARKER"), key := Value.str (Str.ofString "ELLIPSIS_MARKER") 239, val := Value.str (Str.ofString "...") 238 }, { hash := PyData.keyHash P (Str.ofString "_ellipsis_match"), key := Value.str (Str.ofString "_ellipsis_match") 251, val := Value.ref 53 }, { hash := PyData.keyHash P (Str.ofString "add"), key := Value.str (Str.ofString "add") 261, val := Value.ref 60 }, { hash := PyData.keyHash P (Str.ofString "and_"), key := Value.str (Str.ofString "and_") 269, val := Value.ref 67 }, { hash := PyData.keyHash P (Str.ofString "floordiv"), key := Value.str (Str.ofString "floordiv") 277, val := Value.ref 74 }, { hash := PyData.keyHash P (Str.ofString "lshift"), key := Value.str (Str.ofString "lshift") 285, val := Value.ref 81 }, { hash := PyData.keyHash P (Str.ofString "mul"), key := Value.str (Str.ofString "mul") 293, val := Value.ref 88 }, { hash := PyData.keyHash P (Str.ofString "rshift"), key := Value.str (Str.ofString "rshift") 301, val := Value.ref 95 }, { hash := PyData.keyHash P (Str.ofString "sub"), key := Value.str (Str.ofString "sub") 309, val := Value.ref 102 }, { hash := PyData.keyHash P (Str.ofString "xor"), key := Value.str (Str.ofString "xor") 317, val := Value.ref 109 }, { hash := PyData.keyHash P (Str.ofString "contains"), key := Value.str (Str.ofString "contains") 325, val := Value.ref 116 }, { hash := PyData.keyHash P (Str.ofString "countOf"), key := Value.str (Str.ofString "countOf") 335, val := Value.ref 123 }, { hash := PyData.keyHash P (Str.ofString "b1_set"), key := Value.str (Str.ofString "b1_set") 397, val := Value.ref 131 }, { hash := PyData.keyHash P (Str.ofString "in_table_b1"), key := Value.str (Str.ofString "in_table_b1") 404, val := Value.ref 141 }, { hash := PyData.keyHash P (Str.ofString "b3_exceptions"), key := Value.str (Str.ofString "b3_exceptions") 2355, val := Value.ref 142 }] 27 }
noncomputable def o26_3 (P : Params) : Obj := { cls := Value.type "dict", data := Data.dict #[{ hash := PyData.keyHash P (Str.ofString "__name__"), key := Value.str (Str.ofString "__name__") 165, val := Value.str (Str.ofString "law_wr0048_01") 2364 }, { hash := PyData.keyHash P (Str.ofString "__doc__"), key := Value.str (Str.ofString "__doc__") 166, val := Value.none }, { hash := PyData.keyHash P (Str.ofString "__package__"), key := Value.str (Str.ofString "__package__") 167, val := Value.none }, { hash := PyData.keyHash P (Str.ofString "__loader__"), key := Value.str (Str.ofString "__loader__") 168, val := Value.builtin "__main__.__loader__#opaque" }, { hash := PyData.keyHash P (Str.ofString "__spec__"), key := Value.str (Str.ofString "__spec__") 169, val := Value.none }, { hash := PyData.keyHash P (Str.ofString "__annotations__"), key := Value.str (Str.ofString "__annotations__") 170, val := Value.ref 6 }, { hash := PyData.keyHash P (Str.ofString "__builtins__"), key := Value.str (Str.ofString "__builtins__") 171, val := Value.ref 4 }, { hash := PyData.keyHash P (Str.ofString "__file__"), key := Value.str (Str.ofString "__file__") 173, val := Value.str (Str.ofString "/claim/cut.py") 172 }, { hash := PyData.keyHash P (Str.ofString "__cached__"), key := Value.str (Str.ofString "__cached__") 174, val := Value.none }, { hash := PyData.keyHash P (Str.ofString "Error"), key := Value.str (Str.ofString "Error") 208, val := Value.ref 24 }, { hash := PyData.keyHash P (Str.ofString "error_reply"), key := Value.str (Str.ofString "error_reply") 224, val := Value.ref 37 }, { hash := PyData.keyHash P (Str.ofString "parse257"), key := Value.str (Str.ofString "parse257") 235, val := Value.ref 46 }, { hash := PyData.keyHash P (Str.ofString "ELLIPSIS_MARKER"), key := Value.str (Str.ofString "ELLIPSIS_MARKER") 239, val := Value.str (Str.ofString "...") 238 }, { hash := PyData.keyHash P (Str.ofString "_ellipsis_match"), key := Value.str (Str.ofString "_ellipsis_match") 251, val := Value.ref 53 }, { hash := PyData.keyHash P (Str.ofString "add"), key := Value.str (Str.ofString "add") 261, val := Value.ref 60 }, { hash := PyData.keyHash P (Str.ofString "and_"), key := Value.str (Str.ofString "and_") 269, val := Value.ref 67 }, { hash := PyData.keyHash P (Str.ofString "floordiv"), key := Value.str (Str.ofString "floordiv") 277, val := Value.ref 74 }, { hash := PyData.keyHash P (Str.ofString "lshift"), key := Value.str (Str.ofString "lshift") 285, val := Value.ref 81 }, { hash := PyData.keyHash P (Str.ofString "mul"), key := Value.str (Str.ofString "mul") 293, val := Value.ref 88 }, { hash := PyData.keyHash P (Str.ofString "rshift"), key := Value.str (Str.ofString "rshift") 301, val := Value.ref 95 }, { hash := PyData.keyHash P (Str.ofString "sub"), key := Value.str (Str.ofString "sub") 309, val := Value.ref 102 }, { hash := PyData.keyHash P (Str.ofString "xor"), key := Value.str (Str.ofString "xor") 317, val := Value.ref 109 }, { hash := PyData.keyHash P (Str.ofString "contains"), key := Value.str (Str.ofString "contains") 325, val := Value.ref 116 }, { hash := PyData.keyHash P (Str.ofString "countOf"), key := Value.str (Str.ofString "countOf") 335, val := Value.ref 123 }, { hash := PyData.keyHash P (Str.ofString "b1_set"), key := Value.str (Str.ofString "b1_set") 397, val := Value.ref 131 }, { hash := PyData.keyHash P (Str.ofString "in_table_b1"), key := Value.str (Str.ofString "in_table_b1") 404, val := Value.ref 141 }, { hash := PyData.keyHash P (Str.ofString "b3_exceptions"), key := Value.str (Str.ofString "b3_exceptions") 2355, val := Value.ref 142 }, { hash := PyData.keyHash P (Str.ofString "map_table_b3"), key := Value.str (Str.ofString "map_table_b3") 2363, val := Value.ref 187 }, { hash := PyData.keyHash P (Str.ofString "_law_typed"), key := Value.str (Str.ofString "_law_typed") 2375, val := Value.ref 194 }, { hash := PyData.keyHash P (Str.ofString "_law_refused"), key := Value.str (Str.ofString "_law_refused") 2383, val := Value.ref 201 }, { hash := PyData.keyHash P (Str.ofString "law"), key := Value.str (Str.ofString "law") 2389, val := Value.ref 206 }] 31 }
noncomputable def o26_12 (P : Params) : Obj := { cls := Value.none, data := Data.fields #[Value.int 2 0, Value.int 0 0, Value.ref 20, Value.int 4 0, Value.int 0 0, Value.ref 33, Value.int 6 0, Value.int 0 0, Value.ref 45, Value.int 25 0, Value.int 0 0, Value.ref 52, Value.int 54 0, Value.int 0 0, Value.ref 59, Value.int 56 0, Value.int 0 0, Value.ref 66, Value.int 58 0, Value.int 0 0, Value.ref 73, Value.int 60 0, Value.int 0 0, Value.ref 80, Value.int 62 0, Value.int 0 0, Value.ref 87, Value.int 64 0, Value.int 0 0, Value.ref 94, Value.int 66 0, Value.int 0 0, Value.ref 101, Value.int 68 0, Value.int 0 0, Value.ref 108, Value.int 70 0, Value.int 0 0, Value.ref 115, Value.int 72 0, Value.int 0 0, Value.ref 122, Value.int 80 0, Value.int 0 0, Value.ref 140, Value.int 83 0, Value.int 0 0, Value.ref 186, Value.int 89 0, Value.int 0 0, Value.ref 193, Value.int 97 0, Value.int 0 0, Value.ref 200, Value.int 103 0, Value.int 0 0, Value.ref 205] }
noncomputable def o22_181 (P : Params) : Obj := { cls := Value.type "tuple", data := Data.seq #[] }
noncomputable def o22_182 (P : Params) : Obj := { cls := Value.none, data := Data.fields #[] }
noncomputable def o22_183 (P : Params) : Obj := { cls := Value.type "tuple", data := Data.seq #[Value.str (Str.ofString "code") 2359, Value.str (Str.ofString "r") 2360] }
noncomputable def o22_184 (P : Params) : Obj := { cls := Value.type "tuple", data := Data.seq #[] }
noncomputable def o22_185 (P : Params) : Obj := { cls := Value.none, data := Data.func { name := Str.ofString "map_table_b3", qualname := Str.ofString "map_table_b3", params := fnP 22, body := FuncBody.stmts (fnB 22), scope := fnS 22, globals := 0, closure := [], defaults := Value.none, kwdefaults := Value.none } }
noncomputable def o22_186 (P : Params) : Obj := { cls := Value.type "code", data := Data.fields #[Value.str (Str.ofString "map_table_b3") 2356, Value.str (Str.ofString "map_table_b3") 2357, Value.str (Str.ofString "/claim/cut.py") 2358, Value.int 83 0, Value.int 1 0, Value.int 0 0, Value.int 0 0, Value.int 3 0, Value.ref 181, Value.bool true, Value.int 181 0, Value.ref 182, Value.none, Value.ref 183, Value.ref 184, Value.ref 185, Value.int 2361 0, Value.int 83 0, Value.str (Str.ofString "/claim/cut.py") 2362] }
noncomputable def o22_187 (P : Params) : Obj := { cls := Value.type "function", data := Data.func { name := Str.ofString "map_table_b3", qualname := Str.ofString "map_table_b3", params := fnP 22, body := FuncBody.stmts (fnB 22), scope := fnS 22, globals := 3, closure := [], defaults := Value.none, kwdefaults := Value.none, pyModule := Value.str (Str.ofString "cpy313.stringprep") 336, code := Value.ref 186 } }
noncomputable def o24_188 (P : Params) : Obj := { cls := Value.type "tuple", data := Data.seq #[] }
noncomputable def o24_189 (P : Params) : Obj := { cls := Value.none, data := Data.fields #[] }
noncomputable def o24_190 (P : Params) : Obj := { cls := Value.type "tuple", data := Data.seq #[Value.str (Str.ofString "place") 2369, Value.str (Str.ofString "n") 2370, Value.str (Str.ofString "hidden") 2371, Value.str (Str.ofString "sign") 2372] }
noncomputable def o24_191 (P : Params) : Obj := { cls := Value.type "tuple", data := Data.seq #[] }
noncomputable def o24_192 (P : Params) : Obj := { cls := Value.none, data := Data.func { name := Str.ofString "_law_typed", qualname := Str.ofString "_law_typed", params := fnP 24, body := FuncBody.stmts (fnB 24), scope := fnS 24, globals := 0, closure := [], defaults := Value.none, kwdefaults := Value.none } }
noncomputable def o24_193 (P : Params) : Obj := { cls := Value.type "code", data := Data.fields #[Value.str (Str.ofString "_law_typed") 2366, Value.str (Str.ofString "_law_typed") 2367, Value.str (Str.ofString "/claim/cut.py") 2368, Value.int 89 0, Value.int 2 0, Value.int 0 0, Value.int 0 0, Value.int 3 0, Value.ref 188, Value.bool true, Value.int 181 0, Value.ref 189, Value.none, Value.ref 190, Value.ref 191, Value.ref 192, Value.int 2373 0, Value.int 89 0, Value.str (Str.ofString "/claim/cut.py") 2374] }
noncomputable def o24_194 (P : Params) : Obj := { cls := Value.type "function", data := Data.func { name := Str.ofString "_law_typed", qualname := Str.ofString "_law_typed", params := fnP 24, body := FuncBody.stmts (fnB 24), scope := fnS 24, globals := 3, closure := [], defaults := Value.none, kwdefaults := Value.none, pyModule := Value.str (Str.ofString "law_wr0048_01") 2364, code := Value.ref 193 } }
noncomputable def o25_195 (P : Params) : Obj := { cls := Value.type "tuple", data := Data.seq #[] }
noncomputable def o25_196 (P : Params) : Obj := { cls := Value.none, data := Data.fields #[] }
noncomputable def o25_197 (P : Params) : Obj := { cls := Value.type "tuple", data := Data.seq #[Value.str (Str.ofString "reply") 2379, Value.str (Str.ofString "refused") 2380] }
noncomputable def o25_198 (P : Params) : Obj := { cls := Value.type "tuple", data := Data.seq #[] }
noncomputable def o25_199 (P : Params) : Obj := { cls := Value.none, data := Data.func { name := Str.ofString "_law_refused", qualname := Str.ofString "_law_refused", params := fnP 25, body := FuncBody.stmts (fnB 25), scope := fnS 25, globals := 0, closure := [], defaults := Value.none, kwdefaults := Value.none } }
noncomputable def o25_200 (P : Params) : Obj := { cls := Value.type "code", data := Data.fields #[Value.str (Str.ofString "_law_refused") 2376, Value.str (Str.ofString "_law_refused") 2377, Value.str (Str.ofString "/claim/cut.py") 2378, Value.int 97 0, Value.int 1 0, Value.int 0 0, Value.int 0 0, Value.int 3 0, Value.ref 195, Value.bool true, Value.int 181 0, Value.ref 196, Value.none, Value.ref 197, Value.ref 198, Value.ref 199, Value.int 2381 0, Value.int 97 0, Value.str (Str.ofString "/claim/cut.py") 2382] }
noncomputable def o25_201 (P : Params) : Obj := { cls := Value.type "function", data := Data.func { name := Str.ofString "_law_refused", qualname := Str.ofString "_law_refused", params := fnP 25, body := FuncBody.stmts (fnB 25), scope := fnS 25, globals := 3, closure := [], defaults := Value.none, kwdefaults := Value.none, pyModule := Value.str (Str.ofString "law_wr0048_01") 2364, code := Value.ref 200 } }
noncomputable def o26_202 (P : Params) : Obj := { cls := Value.type "tuple", data := Data.seq #[] }
noncomputable def o26_203 (P : Params) : Obj := { cls := Value.none, data := Data.fields #[] }
noncomputable def o26_204 (P : Params) : Obj := { cls := Value.none, data := Data.func { name := Str.ofString "law", qualname := Str.ofString "law", params := fnP 26, body := FuncBody.stmts (fnB 26), scope := fnS 26, globals := 0, closure := [], defaults := Value.none, kwdefaults := Value.none } }
noncomputable def o26_205 (P : Params) : Obj := { cls := Value.type "code", data := Data.fields #[Value.str (Str.ofString "law") 2384, Value.str (Str.ofString "law") 2385, Value.str (Str.ofString "/claim/cut.py") 2386, Value.int 103 0, Value.int 1 0, Value.int 0 0, Value.int 0 0, Value.int 3 0, Value.ref 202, Value.bool true, Value.int 181 0, Value.ref 203, Value.none, Value.none, Value.none, Value.ref 204, Value.int 2387 0, Value.int 103 0, Value.str (Str.ofString "/claim/cut.py") 2388] }
noncomputable def o26_206 (P : Params) : Obj := { cls := Value.type "function", data := Data.func { name := Str.ofString "law", qualname := Str.ofString "law", params := fnP 26, body := FuncBody.stmts (fnB 26), scope := fnS 26, globals := 3, closure := [], defaults := Value.none, kwdefaults := Value.none, pyModule := Value.str (Str.ofString "law_wr0048_01") 2364, code := Value.ref 205 } }
noncomputable def tree19 (P : Params) : BT := (.node (boot_o_0 P) (.node (boot_o_1 P) (.node (o19_3 P) (.node (boot_o_7 P) (.node (hd.o_8 P) (.node (hd.o_28 P) (.node (hd.o_60 P) (.node (o19_127 P) .nil .nil) .nil) (.node (hd.o_95 P) .nil .nil)) (.node (hd.o_44 P) (.node (hd.o_79 P) .nil .nil) (.node (hd.o_111 P) .nil .nil))) (.node (hd.o_16 P) (.node (hd.o_36 P) (.node (hd.o_68 P) .nil .nil) (.node (hd.o_103 P) .nil .nil)) (.node (hd.o_52 P) (.node (hd.o_87 P) .nil .nil) (.node (hd.o_119 P) .nil .nil)))) (.node (hd.o_1 P) (.node (hd.o_12 P) (.node (hd.o_32 P) (.node (hd.o_64 P) (.node (o19_131 P) .nil .nil) .nil) (.node (hd.o_99 P) .nil .nil)) (.node (hd.o_48 P) (.node (hd.o_83 P) .nil .nil) (.node (hd.o_115 P) .nil .nil))) (.node (hd.o_20 P) (.node (hd.o_40 P) (.node (hd.o_75 P) .nil .nil) (.node (hd.o_107 P) .nil .nil)) (.node (hd.o_56 P) (.node (hd.o_91 P) .nil .nil) (.node (hd.o_123 P) .nil .nil))))) (.node (boot_o_5 P) (.node (boot_o_9 P) (.node (hd.o_10 P) (.node (hd.o_30 P) (.node (hd.o_62 P) (.node (o19_129 P) .nil .nil) .nil) (.node (hd.o_97 P) .nil .nil)) (.node (hd.o_46 P) (.node (hd.o_81 P) .nil .nil) (.node (hd.o_113 P) .nil .nil))) (.node (hd.o_18 P) (.node (hd.o_38 P) (.node (hd.o_70 P) .nil .nil) (.node (hd.o_105 P) .nil .nil)) (.node (hd.o_54 P) (.node (hd.o_89 P) .nil .nil) (.node (hd.o_121 P) .nil .nil)))) (.node (hd.o_3 P) (.node (hd.o_14 P) (.node (hd.o_34 P) (.node (hd.o_66 P) (.node (o19_133 P) .nil .nil) .nil) (.node (hd.o_101 P) .nil .nil)) (.node (hd.o_50 P) (.node (hd.o_85 P) .nil .nil) (.node (hd.o_117 P) .nil .nil))) (.node (hd.o_26 P) (.node (hd.o_42 P) (.node (hd.o_77 P) .nil .nil) (.node (hd.o_109 P) .nil .nil)) (.node (hd.o_58 P) (.node (hd.o_93 P) .nil .nil) (.node (o19_125 P) .nil .nil)))))) (.node (hd.o_5 P) (.node (boot_o_4 P) (.node (boot_o_8 P) (.node (hd.o_9 P) (.node (hd.o_29 P) (.node (hd.o_61 P) (.node (o19_128 P) .nil .nil) .nil) (.node (hd.o_96 P) .nil .nil)) (.node (hd.o_45 P) (.node (hd.o_80 P) .nil .nil) (.node (hd.o_112 P) .nil .nil))) (.node (hd.o_24 P) (.node (hd.o_37 P) (.node (hd.o_69 P) .nil .nil) (.node (hd.o_104 P) .nil .nil)) (.node (hd.o_53 P) (.node (hd.o_88 P) .nil .nil) (.node (hd.o_120 P) .nil .nil)))) (.node (hd.o_74 P) (.node (hd.o_13 P) (.node (hd.o_33 P) (.node (hd.o_65 P) (.node (o19_132 P) .nil .nil) .nil) (.node (hd.o_100 P) .nil .nil)) (.node (hd.o_49 P) (.node (hd.o_84 P) .nil .nil) (.node (hd.o_116 P) .nil .nil))) (.node (hd.o_25 P) (.node (hd.o_41 P) (.node (hd.o_76 P) .nil .nil) (.node (hd.o_108 P) .nil .nil)) (.node (hd.o_57 P) (.node (hd.o_92 P) .nil .nil) (.node (o19_124 P) .nil .nil))))) (.node (boot_o_6 P) (.node (boot_o_10 P) (.node (hd.o_11 P) (.node (hd.o_31 P) (.node (hd.o_63 P) (.node (o19_130 P) .nil .nil) .nil) (.node (hd.o_98 P) .nil .nil)) (.node (hd.o_47 P) (.node (hd.o_82 P) .nil .nil) (.node (hd.o_114 P) .nil .nil))) (.node (hd.o_19 P) (.node (hd.o_39 P) (.node (hd.o_71 P) .nil .nil) (.node (hd.o_106 P) .nil .nil)) (.node (hd.o_55 P) (.node (hd.o_90 P) .nil .nil) (.node (hd.o_122 P) .nil .nil)))) (.node (hd.o_4 P) (.node (hd.o_15 P) (.node (hd.o_35 P) (.node (hd.o_67 P) (.node (o19_134 P) .nil .nil) .nil) (.node (hd.o_102 P) .nil .nil)) (.node (hd.o_51 P) (.node (hd.o_86 P) .nil .nil) (.node (hd.o_118 P) .nil .nil))) (.node (hd.o_27 P) (.node (hd.o_43 P) (.node (hd.o_78 P) .nil .nil) (.node (hd.o_110 P) .nil .nil)) (.node (hd.o_59 P) (.node (hd.o_94 P) .nil .nil) (.node (o19_126 P) .nil .nil)))))))
noncomputable def tree20 (P : Params) : BT := (.node (boot_o_0 P) (.node (boot_o_1 P) (.node (o20_3 P) (.node (boot_o_7 P) (.node (hd.o_8 P) (.node (hd.o_28 P) (.node (hd.o_60 P) (.node (o19_127 P) .nil .nil) .nil) (.node (hd.o_95 P) .nil .nil)) (.node (hd.o_44 P) (.node (hd.o_79 P) .nil .nil) (.node (hd.o_111 P) .nil .nil))) (.node (hd.o_16 P) (.node (hd.o_36 P) (.node (hd.o_68 P) (.node (o20_135 P) .nil .nil) .nil) (.node (hd.o_103 P) .nil .nil)) (.node (hd.o_52 P) (.node (hd.o_87 P) .nil .nil) (.node (hd.o_119 P) .nil .nil)))) (.node (hd.o_1 P) (.node (hd.o_12 P) (.node (hd.o_32 P) (.node (hd.o_64 P) (.node (o19_131 P) .nil .nil) .nil) (.node (hd.o_99 P) .nil .nil)) (.node (hd.o_48 P) (.node (hd.o_83 P) .nil .nil) (.node (hd.o_115 P) .nil .nil))) (.node (hd.o_20 P) (.node (hd.o_40 P) (.node (hd.o_75 P) (.node (o20_139 P) .nil .nil) .nil) (.node (hd.o_107 P) .nil .nil)) (.node (hd.o_56 P) (.node (hd.o_91 P) .nil .nil) (.node (hd.o_123 P) .nil .nil))))) (.node (boot_o_5 P) (.node (boot_o_9 P) (.node (hd.o_10 P) (.node (hd.o_30 P) (.node (hd.o_62 P) (.node (o19_129 P) .nil .nil) .nil) (.node (hd.o_97 P) .nil .nil)) (.node (hd.o_46 P) (.node (hd.o_81 P) .nil .nil) (.node (hd.o_113 P) .nil .nil))) (.node (hd.o_18 P) (.node (hd.o_38 P) (.node (hd.o_70 P) (.node (o20_137 P) .nil .nil) .nil) (.node (hd.o_105 P) .nil .nil)) (.node (hd.o_54 P) (.node (hd.o_89 P) .nil .nil) (.node (hd.o_121 P) .nil .nil)))) (.node (hd.o_3 P) (.node (hd.o_14 P) (.node (hd.o_34 P) (.node (hd.o_66 P) (.node (o19_133 P) .nil .nil) .nil) (.node (hd.o_101 P) .nil .nil)) (.node (hd.o_50 P) (.node (hd.o_85 P) .nil .nil) (.node (hd.o_117 P) .nil .nil))) (.node (hd.o_26 P) (.node (hd.o_42 P) (.node (hd.o_77 P) (.node (o20_141 P) .nil .nil) .nil) (.node (hd.o_109 P) .nil .nil)) (.node (hd.o_58 P) (.node (hd.o_93 P) .nil .nil) (.node (o19_125 P) .nil .nil)))))) (.node (hd.o_5 P) (.node (boot_o_4 P) (.node (boot_o_8 P) (.node (hd.o_9 P) (.node (hd.o_29 P) (.node (hd.o_61 P) (.node (o19_128 P) .nil .nil) .nil) (.node (hd.o_96 P) .nil .nil)) (.node (hd.o_45 P) (.node (hd.o_80 P) .nil .nil) (.node (hd.o_112 P) .nil .nil))) (.node (hd.o_24 P) (.node (hd.o_37 P) (.node (hd.o_69 P) (.node (o20_136 P) .nil .nil) .nil) (.node (hd.o_104 P) .nil .nil)) (.node (hd.o_53 P) (.node (hd.o_88 P) .nil .nil) (.node (hd.o_120 P) .nil .nil)))) (.node (o20_12 P) (.node (hd.o_13 P) (.node (hd.o_33 P) (.node (hd.o_65 P) (.node (o19_132 P) .nil .nil) .nil) (.node (hd.o_100 P) .nil .nil)) (.node (hd.o_49 P) (.node (hd.o_84 P) .nil .nil) (.node (hd.o_116 P) .nil .nil))) (.node (hd.o_25 P) (.node (hd.o_41 P) (.node (hd.o_76 P) (.node (o20_140 P) .nil .nil) .nil) (.node (hd.o_108 P) .nil .nil)) (.node (hd.o_57 P) (.node (hd.o_92 P) .nil .nil) (.node (o19_124 P) .nil .nil))))) (.node (boot_o_6 P) (.node (boot_o_10 P) (.node (hd.o_11 P) (.node (hd.o_31 P) (.node (hd.o_63 P) (.node (o19_130 P) .nil .nil) .nil) (.node (hd.o_98 P) .nil .nil)) (.node (hd.o_47 P) (.node (hd.o_82 P) .nil .nil) (.node (hd.o_114 P) .nil .nil))) (.node (hd.o_19 P) (.node (hd.o_39 P) (.node (hd.o_71 P) (.node (o20_138 P) .nil .nil) .nil) (.node (hd.o_106 P) .nil .nil)) (.node (hd.o_55 P) (.node (hd.o_90 P) .nil .nil) (.node (hd.o_122 P) .nil .nil)))) (.node (hd.o_4 P) (.node (hd.o_15 P) (.node (hd.o_35 P) (.node (hd.o_67 P) (.node (o19_134 P) .nil .nil) .nil) (.node (hd.o_102 P) .nil .nil)) (.node (hd.o_51 P) (.node (hd.o_86 P) .nil .nil) (.node (hd.o_118 P) .nil .nil))) (.node (hd.o_27 P) (.node (hd.o_43 P) (.node (hd.o_78 P) .nil .nil) (.node (hd.o_110 P) .nil .nil)) (.node (hd.o_59 P) (.node (hd.o_94 P) .nil .nil) (.node (o19_126 P) .nil .nil)))))))
end Mine
end
section
open PySem PySem.W PyProof.Rows
set_option maxRecDepth 100000
namespace Mine
noncomputable def b3es : List DictEntry := [
  ⟨181, .int 181 405, .str (Str.ofString "μ") 406⟩,
  ⟨223, .int 223 408, .str (Str.ofString "ss") 409⟩,
  ⟨304, .int 304 411, .str (Str.ofString "i̇") 412⟩,
  ⟨329, .int 329 414, .str (Str.ofString "ʼn") 415⟩,
  ⟨383, .int 383 417, .str (Str.ofString "s") 418⟩,
  ⟨496, .int 496 420, .str (Str.ofString "ǰ") 421⟩,
  ⟨837, .int 837 423, .str (Str.ofString "ι") 424⟩,
  ⟨890, .int 890 426, .str (Str.ofString " ι") 427⟩,
  ⟨912, .int 912 429, .str (Str.ofString "ΐ") 430⟩,
  ⟨944, .int 944 432, .str (Str.ofString "ΰ") 433⟩,
  ⟨962, .int 962 435, .str (Str.ofString "σ") 436⟩,
  ⟨976, .int 976 438, .str (Str.ofString "β") 439⟩,
  ⟨977, .int 977 441, .str (Str.ofString "θ") 442⟩,
  ⟨978, .int 978 444, .str (Str.ofString "υ") 445⟩,
  ⟨979, .int 979 447, .str (Str.ofString "ύ") 448⟩,
  ⟨980, .int 980 450, .str (Str.ofString "ϋ") 451⟩,
  ⟨981, .int 981 453, .str (Str.ofString "φ") 454⟩,
  ⟨982, .int 982 456, .str (Str.ofString "π") 457⟩,
  ⟨1008, .int 1008 459, .str (Str.ofString "κ") 460⟩,
  ⟨1009, .int 1009 462, .str (Str.ofString "ρ") 463⟩,
  ⟨1010, .int 1010 465, .str (Str.ofString "σ") 466⟩,
  ⟨1013, .int 1013 468, .str (Str.ofString "ε") 469⟩,
  ⟨1415, .int 1415 471, .str (Str.ofString "եւ") 472⟩,
  ⟨7830, .int 7830 474, .str (Str.ofString "ẖ") 475⟩,
  ⟨7831, .int 7831 477, .str (Str.ofString "ẗ") 478⟩,
  ⟨7832, .int 7832 480, .str (Str.ofString "ẘ") 481⟩,
  ⟨7833, .int 7833 483, .str (Str.ofString "ẙ") 484⟩,
  ⟨7834, .int 7834 486, .str (Str.ofString "aʾ") 487⟩,
  ⟨7835, .int 7835 489, .str (Str.ofString "ṡ") 490⟩,
  ⟨8016, .int 8016 492, .str (Str.ofString "ὐ") 493⟩,
  ⟨8018, .int 8018 495, .str (Str.ofString "ὒ") 496⟩,
  ⟨8020, .int 8020 498, .str (Str.ofString "ὔ") 499⟩,
  ⟨8022, .int 8022 501, .str (Str.ofString "ὖ") 502⟩,
  ⟨8064, .int 8064 504, .str (Str.ofString "ἀι") 505⟩,
  ⟨8065, .int 8065 507, .str (Str.ofString "ἁι") 508⟩,
  ⟨8066, .int 8066 510, .str (Str.ofString "ἂι") 511⟩,
  ⟨8067, .int 8067 513, .str (Str.ofString "ἃι") 514⟩,
  ⟨8068, .int 8068 516, .str (Str.ofString "ἄι") 517⟩,
  ⟨8069, .int 8069 519, .str (Str.ofString "ἅι") 520⟩,
  ⟨8070, .int 8070 522, .str (Str.ofString "ἆι") 523⟩,
  ⟨8071, .int 8071 525, .str (Str.ofString "ἇι") 526⟩,
  ⟨8072, .int 8072 528, .str (Str.ofString "ἀι") 529⟩,
  ⟨8073, .int 8073 531, .str (Str.ofString "ἁι") 532⟩,
  ⟨8074, .int 8074 534, .str (Str.ofString "ἂι") 535⟩,
  ⟨8075, .int 8075 537, .str (Str.ofString "ἃι") 538⟩,
  ⟨8076, .int 8076 540, .str (Str.ofString "ἄι") 541⟩,
  ⟨8077, .int 8077 543, .str (Str.ofString "ἅι") 544⟩,
  ⟨8078, .int 8078 546, .str (Str.ofString "ἆι") 547⟩,
  ⟨8079, .int 8079 549, .str (Str.ofString "ἇι") 550⟩,
  ⟨8080, .int 8080 552, .str (Str.ofString "ἠι") 553⟩,
  ⟨8081, .int 8081 555, .str (Str.ofString "ἡι") 556⟩,
  ⟨8082, .int 8082 558, .str (Str.ofString "ἢι") 559⟩,
  ⟨8083, .int 8083 561, .str (Str.ofString "ἣι") 562⟩,
  ⟨8084, .int 8084 564, .str (Str.ofString "ἤι") 565⟩,
  ⟨8085, .int 8085 567, .str (Str.ofString "ἥι") 568⟩,
  ⟨8086, .int 8086 570, .str (Str.ofString "ἦι") 571⟩,
  ⟨8087, .int 8087 573, .str (Str.ofString "ἧι") 574⟩,
  ⟨8088, .int 8088 576, .str (Str.ofString "ἠι") 577⟩,
  ⟨8089, .int 8089 579, .str (Str.ofString "ἡι") 580⟩,
  ⟨8090, .int 8090 582, .str (Str.ofString "ἢι") 583⟩,
  ⟨8091, .int 8091 585, .str (Str.ofString "ἣι") 586⟩,
  ⟨8092, .int 8092 588, .str (Str.ofString "ἤι") 589⟩,
  ⟨8093, .int 8093 591, .str (Str.ofString "ἥι") 592⟩,
  ⟨8094, .int 8094 594, .str (Str.ofString "ἦι") 595⟩,
  ⟨8095, .int 8095 597, .str (Str.ofString "ἧι") 598⟩,
  ⟨8096, .int 8096 600, .str (Str.ofString "ὠι") 601⟩,
  ⟨8097, .int 8097 603, .str (Str.ofString "ὡι") 604⟩,
  ⟨8098, .int 8098 606, .str (Str.ofString "ὢι") 607⟩,
  ⟨8099, .int 8099 609, .str (Str.ofString "ὣι") 610⟩,
  ⟨8100, .int 8100 612, .str (Str.ofString "ὤι") 613⟩,
  ⟨8101, .int 8101 615, .str (Str.ofString "ὥι") 616⟩,
  ⟨8102, .int 8102 618, .str (Str.ofString "ὦι") 619⟩,
  ⟨8103, .int 8103 621, .str (Str.ofString "ὧι") 622⟩,
  ⟨8104, .int 8104 624, .str (Str.ofString "ὠι") 625⟩,
  ⟨8105, .int 8105 627, .str (Str.ofString "ὡι") 628⟩,
  ⟨8106, .int 8106 630, .str (Str.ofString "ὢι") 631⟩,
  ⟨8107, .int 8107 633, .str (Str.ofString "ὣι") 634⟩,
  ⟨8108, .int 8108 636, .str (Str.ofString "ὤι") 637⟩,
  ⟨8109, .int 8109 639, .str (Str.ofString "ὥι") 640⟩,
  ⟨8110, .int 8110 642, .str (Str.ofString "ὦι") 643⟩,
  ⟨8111, .int 8111 645, .str (Str.ofString "ὧι") 646⟩,
  ⟨8114, .int 8114 648, .str (Str.ofString "ὰι") 649⟩,
  ⟨8115, .int 8115 651, .str (Str.ofString "αι") 652⟩,
  ⟨8116, .int 8116 654, .str (Str.ofString "άι") 655⟩,
  ⟨8118, .int 8118 657, .str (Str.ofString "ᾶ") 658⟩,
  ⟨8119, .int 8119 660, .str (Str.ofString "ᾶι") 661⟩,
  ⟨8124, .int 8124 663, .str (Str.ofString "αι") 664⟩,
  ⟨8126, .int 8126 666, .str (Str.ofString "ι") 667⟩,
  ⟨8130, .int 8130 669, .str (Str.ofString "ὴι") 670⟩,
  ⟨8131, .int 8131 672, .str (Str.ofString "ηι") 673⟩,
  ⟨8132, .int 8132 675, .str (Str.ofString "ήι") 676⟩,
  ⟨8134, .int 8134 678, .str (Str.ofString "ῆ") 679⟩,
  ⟨8135, .int 8135 681, .str (Str.ofString "ῆι") 682⟩,
  ⟨8140, .int 8140 684, .str (Str.ofString "ηι") 685⟩,
  ⟨8146, .int 8146 687, .str (Str.ofString "ῒ") 688⟩,
  ⟨8147, .int 8147 690, .str (Str.ofString "ΐ") 691⟩,
  ⟨8150, .int 8150 693, .str (Str.ofString "ῖ") 694⟩,
  ⟨8151, .int 8151 696, .str (Str.ofString "ῗ") 697⟩,
  ⟨8162, .int 8162 699, .str (Str.ofString "ῢ") 700⟩,
  ⟨8163, .int 8163 702, .str (Str.ofString "ΰ") 703⟩,
  ⟨8164, .int 8164 705, .str (Str.ofString "ῤ") 706⟩,
  ⟨8166, .int 8166 708, .str (Str.ofString "ῦ") 709⟩,
  ⟨8167, .int 8167 711, .str (Str.ofString "ῧ") 712⟩,
  ⟨8178, .int 8178 714, .str (Str.ofString "ὼι") 715⟩,
  ⟨8179, .int 8179 717, .str (Str.ofString "ωι") 718⟩,
  ⟨8180, .int 8180 720, .str (Str.ofString "ώι") 721⟩,
  ⟨8182, .int 8182 723, .str (Str.ofString "ῶ") 724⟩,
  ⟨8183, .int 8183 726, .str (Str.ofString "ῶι") 727⟩,
  ⟨8188, .int 8188 729, .str (Str.ofString "ωι") 730⟩,
  ⟨8360, .int 8360 732, .str (Str.ofString "rs") 733⟩,
  ⟨8450, .int 8450 735, .str (Str.ofString "c") 736⟩,
  ⟨8451, .int 8451 738, .str (Str.ofString "°c") 739⟩,
  ⟨8455, .int 8455 741, .str (Str.ofString "ɛ") 742⟩,
  ⟨8457, .int 8457 744, .str (Str.ofString "°f") 745⟩,
  ⟨8459, .int 8459 747, .str (Str.ofString "h") 748⟩,
  ⟨8460, .int 8460 750, .str (Str.ofString "h") 751⟩,
  ⟨8461, .int 8461 753, .str (Str.ofString "h") 754⟩,
  ⟨8464, .int 8464 756, .str (Str.ofString "i") 757⟩,
  ⟨8465, .int 8465 759, .str (Str.ofString "i") 760⟩,
  ⟨8466, .int 8466 762, .str (Str.ofString "l") 763⟩,
  ⟨8469, .int 8469 765, .str (Str.ofString "n") 766⟩,
  ⟨8470, .int 8470 768, .str (Str.ofString "no") 769⟩,
  ⟨8473, .int 8473 771, .str (Str.ofString "p") 772⟩,
  ⟨8474, .int 8474 774, .str (Str.ofString "q") 775⟩,
  ⟨8475, .int 8475 777, .str (Str.ofString "r") 778⟩,
  ⟨8476, .int 8476 780, .str (Str.ofString "r") 781⟩,
  ⟨8477, .int 8477 783, .str (Str.ofString "r") 784⟩,
  ⟨8480, .int 8480 786, .str (Str.ofString "sm") 787⟩,
  ⟨8481, .int 8481 789, .str (Str.ofString "tel") 790⟩,
  ⟨8482, .int 8482 792, .str (Str.ofString "tm") 793⟩,
  ⟨8484, .int 8484 795, .str (Str.ofString "z") 796⟩,
  ⟨8488, .int 8488 798, .str (Str.ofString "z") 799⟩,
  ⟨8492, .int 8492 801, .str (Str.ofString "b") 802⟩,
  ⟨8493, .int 8493 804, .str (Str.ofString "c") 805⟩,
  ⟨8496, .int 8496 807, .str (Str.ofString "e") 808⟩,
  ⟨8497, .int 8497 810, .str (Str.ofString "f") 811⟩,
  ⟨8499, .int 8499 813, .str (Str.ofString "m") 814⟩,
  ⟨8510, .int 8510 816, .str (Str.ofString "γ") 817⟩,
  ⟨8511, .int 8511 819, .str (Str.ofString "π") 820⟩,
  ⟨8517, .int 8517 822, .str (Str.ofString "d") 823⟩,
  ⟨13169, .int 13169 825, .str (Str.ofString "hpa") 826⟩,
  ⟨13171, .int 13171 828, .str (Str.ofString "au") 829⟩,
  ⟨13173, .int 13173 831, .str (Str.ofString "ov") 832⟩,
  ⟨13184, .int 13184 834, .str (Str.ofString "pa") 835⟩,
  ⟨13185, .int 13185 837, .str (Str.ofString "na") 838⟩,
  ⟨13186, .int 13186 840, .str (Str.ofString "μa") 841⟩,
  ⟨13187, .int 13187 843, .str (Str.ofString "ma") 844⟩,
  ⟨13188, .int 13188 846, .str (Str.ofString "ka") 847⟩,
  ⟨13189, .int 13189 849, .str (Str.ofString "kb") 850⟩,
  ⟨13190, .int 13190 852, .str (Str.ofString "mb") 853⟩,
  ⟨13191, .int 13191 855, .str (Str.ofString "gb") 856⟩,
  ⟨13194, .int 13194 858, .str (Str.ofString "pf") 859⟩,
  ⟨13195, .int 13195 861, .str (Str.ofString "nf") 862⟩,
  ⟨13196, .int 13196 864, .str (Str.ofString "μf") 865⟩,
  ⟨13200, .int 13200 867, .str (Str.ofString "hz") 868⟩,
  ⟨13201, .int 13201 870, .str (Str.ofString "khz") 871⟩,
  ⟨13202, .int 13202 873, .str (Str.ofString "mhz") 874⟩,
  ⟨13203, .int 13203 876, .str (Str.ofString "ghz") 877⟩,
  ⟨13204, .int 13204 879, .str (Str.ofString "thz") 880⟩,
  ⟨13225, .int 13225 882, .str (Str.ofString "pa") 883⟩,
  ⟨13226, .int 13226 885, .str (Str.ofString "kpa") 886⟩,
  ⟨13227, .int 13227 888, .str (Str.ofString "mpa") 889⟩,
  ⟨13228, .int 13228 891, .str (Str.ofString "gpa") 892⟩,
  ⟨13236, .int 13236 894, .str (Str.ofString "pv") 895⟩,
  ⟨13237, .int 13237 897, .str (Str.ofString "nv") 898⟩,
  ⟨13238, .int 13238 900, .str (Str.ofString "μv") 901⟩,
  ⟨13239, .int 13239 903, .str (Str.ofString "mv") 904⟩,
  ⟨13240, .int 13240 906, .str (Str.ofString "kv") 907⟩,
  ⟨13241, .int 13241 909, .str (Str.ofString "mv") 910⟩,
  ⟨13242, .int 13242 912, .str (Str.ofString "pw") 913⟩,
  ⟨13243, .int 13243 915, .str (Str.ofString "nw") 916⟩,
  ⟨13244, .int 13244 918, .str (Str.ofString "μw") 919⟩,
  ⟨13245, .int 13245 921, .str (Str.ofString "mw") 922⟩,
  ⟨13246, .int 13246 924, .str (Str.ofString "kw") 925⟩,
  ⟨13247, .int 13247 927, .str (Str.ofString "mw") 928⟩,
  ⟨13248, .int 13248 930, .str (Str.ofString "kω") 931⟩,
  ⟨13249, .int 13249 933, .str (Str.ofString "mω") 934⟩,
  ⟨13251, .int 13251 936, .str (Str.ofString "bq") 937⟩,
  ⟨13254, .int 13254 939, .str (Str.ofString "c∕kg") 940⟩,
  ⟨13255, .int 13255 942, .str (Str.ofString "co.") 943⟩,
  ⟨13256, .int 13256 945, .str (Str.ofString "db") 946⟩,
  ⟨13257, .int 13257 948, .str (Str.ofString "gy") 949⟩,
  ⟨13259, .int 13259 951, .str (Str.ofString "hp") 952⟩,
  ⟨13261, .int 13261 954, .str (Str.ofString "kk") 955⟩,
  ⟨13262, .int 13262 957, .str (Str.ofString "km") 958⟩,
  ⟨13271, .int 13271 960, .str (Str.ofString "ph") 961⟩,
  ⟨13273, .int 13273 963, .str (Str.ofString "ppm") 964⟩,
  ⟨13274, .int 13274 966, .str (Str.ofString "pr") 967⟩,
  ⟨13276, .int 13276 969, .str (Str.ofString "sv") 970⟩,
  ⟨13277, .int 13277 972, .str (Str.ofString "wb") 973⟩,
  ⟨64256, .int 64256 975, .str (Str.ofString "ff") 976⟩,
  ⟨64257, .int 64257 978, .str (Str.ofString "fi") 979⟩,
  ⟨64258, .int 64258 981, .str (Str.ofString "fl") 982⟩,
  ⟨64259, .int 64259 984, .str (Str.ofString "ffi") 985⟩,
  ⟨64260, .int 64260 987, .str (Str.ofString "ffl") 988⟩,
  ⟨64261, .int 64261 990, .str (Str.ofString "st") 991⟩,
  ⟨64262, .int 64262 993, .str (Str.ofString "st") 994⟩,
  ⟨64275, .int 64275 996, .str (Str.ofString "մն") 997⟩,
  ⟨64276, .int 64276 999, .str (Str.ofString "մե") 1000⟩,
  ⟨64277, .int 64277 1002, .str (Str.ofString "մի") 1003⟩,
  ⟨64278, .int 64278 1005, .str (Str.ofString "վն") 1006⟩,
  ⟨64279, .int 64279 1008, .str (Str.ofString "մխ") 1009⟩,
  ⟨119808, .int 119808 1011, .str (Str.ofString "a") 1012⟩,
  ⟨119809, .int 119809 1014, .str (Str.ofString "b") 1015⟩,
  ⟨119810, .int 119810 1017, .str (Str.ofString "c") 1018⟩,
  ⟨119811, .int 119811 1020, .str (Str.ofString "d") 1021⟩,
  ⟨119812, .int 119812 1023, .str (Str.ofString "e") 1024⟩,
  ⟨119813, .int 119813 1026, .str (Str.ofString "f") 1027⟩,
  ⟨119814, .int 119814 1029, .str (Str.ofString "g") 1030⟩,
  ⟨119815, .int 119815 1032, .str (Str.ofString "h") 1033⟩,
  ⟨119816, .int 119816 1035, .str (Str.ofString "i") 1036⟩,
  ⟨119817, .int 119817 1038, .str (Str.ofString "j") 1039⟩,
  ⟨119818, .int 119818 1041, .str (Str.ofString "k") 1042⟩,
  ⟨119819, .int 119819 1044, .str (Str.ofString "l") 1045⟩,
  ⟨119820, .int 119820 1047, .str (Str.ofString "m") 1048⟩,
  ⟨119821, .int 119821 1050, .str (Str.ofString "n") 1051⟩,
  ⟨119822, .int 119822 1053, .str (Str.ofString "o") 1054⟩,
  ⟨119823, .int 119823 1056, .str (Str.ofString "p") 1057⟩,
  ⟨119824, .int 119824 1059, .str (Str.ofString "q") 1060⟩,
  ⟨119825, .int 119825 1062, .str (Str.ofString "r") 1063⟩,
  ⟨119826, .int 119826 1065, .str (Str.ofString "s") 1066⟩,
  ⟨119827, .int 119827 1068, .str (Str.ofString "t") 1069⟩,
  ⟨119828, .int 119828 1071, .str (Str.ofString "u") 1072⟩,
  ⟨119829, .int 119829 1074, .str (Str.ofString "v") 1075⟩,
  ⟨119830, .int 119830 1077, .str (Str.ofString "w") 1078⟩,
  ⟨119831, .int 119831 1080, .str (Str.ofString "x") 1081⟩,
  ⟨119832, .int 119832 1083, .str (Str.ofString "y") 1084⟩,
  ⟨119833, .int 119833 1086, .str (Str.ofString "z") 1087⟩,
  ⟨119860, .int 119860 1089, .str (Str.ofString "a") 1090⟩,
  ⟨119861, .int 119861 1092, .str (Str.ofString "b") 1093⟩,
  ⟨119862, .int 119862 1095, .str (Str.ofString "c") 1096⟩,
  ⟨119863, .int 119863 1098, .str (Str.ofString "d") 1099⟩,
  ⟨119864, .int 119864 1101, .str (Str.ofString "e") 1102⟩,
  ⟨119865, .int 119865 1104, .str (Str.ofString "f") 1105⟩,
  ⟨119866, .int 119866 1107, .str (Str.ofString "g") 1108⟩,
  ⟨119867, .int 119867 1110, .str (Str.ofString "h") 1111⟩,
  ⟨119868, .int 119868 1113, .str (Str.ofString "i") 1114⟩,
  ⟨119869, .int 119869 1116, .str (Str.ofString "j") 1117⟩,
  ⟨119870, .int 119870 1119, .str (Str.ofString "k") 1120⟩,
  ⟨119871, .int 119871 1122, .str (Str.ofString "l") 1123⟩,
  ⟨119872, .int 119872 1125, .str (Str.ofString "m") 1126⟩,
  ⟨119873, .int 119873 1128, .str (Str.ofString "n") 1129⟩,
  ⟨119874, .int 119874 1131, .str (Str.ofString "o") 1132⟩,
  ⟨119875, .int 119875 1134, .str (Str.ofString "p") 1135⟩,
  ⟨119876, .int 119876 1137, .str (Str.ofString "q") 1138⟩,
  ⟨119877, .int 119877 1140, .str (Str.ofString "r") 1141⟩,
  ⟨119878, .int 119878 1143, .str (Str.ofString "s") 1144⟩,
  ⟨119879, .int 119879 1146, .str (Str.ofString "t") 1147⟩,
  ⟨119880, .int 119880 1149, .str (Str.ofString "u") 1150⟩,
  ⟨119881, .int 119881 1152, .str (Str.ofString "v") 1153⟩,
  ⟨119882, .int 119882 1155, .str (Str.ofString "w") 1156⟩,
  ⟨119883, .int 119883 1158, .str (Str.ofString "x") 1159⟩,
  ⟨119884, .int 119884 1161, .str (Str.ofString "y") 1162⟩,
  ⟨119885, .int 119885 1164, .str (Str.ofString "z") 1165⟩,
  ⟨119912, .int 119912 1167, .str (Str.ofString "a") 1168⟩,
  ⟨119913, .int 119913 1170, .str (Str.ofString "b") 1171⟩,
  ⟨119914, .int 119914 1173, .str (Str.ofString "c") 1174⟩,
  ⟨119915, .int 119915 1176, .str (Str.ofString "d") 1177⟩,
  ⟨119916, .int 119916 1179, .str (Str.ofString "e") 1180⟩,
  ⟨119917, .int 119917 1182, .str (Str.ofString "f") 1183⟩,
  ⟨119918, .int 119918 1185, .str (Str.ofString "g") 1186⟩,
  ⟨119919, .int 119919 1188, .str (Str.ofString "h") 1189⟩,
  ⟨119920, .int 119920 1191, .str (Str.ofString "i") 1192⟩,
  ⟨119921, .int 119921 1194, .str (Str.ofString "j") 1195⟩,
  ⟨119922, .int 119922 1197, .str (Str.ofString "k") 1198⟩,
  ⟨119923, .int 119923 1200, .str (Str.ofString "l") 1201⟩,
  ⟨119924, .int 119924 1203, .str (Str.ofString "m") 1204⟩,
  ⟨119925, .int 119925 1206, .str (Str.ofString "n") 1207⟩,
  ⟨119926, .int 119926 1209, .str (Str.ofString "o") 1210⟩,
  ⟨119927, .int 119927 1212, .str (Str.ofString "p") 1213⟩,
  ⟨119928, .int 119928 1215, .str (Str.ofString "q") 1216⟩,
  ⟨119929, .int 119929 1218, .str (Str.ofString "r") 1219⟩,
  ⟨119930, .int 119930 1221, .str (Str.ofString "s") 1222⟩,
  ⟨119931, .int 119931 1224, .str (Str.ofString "t") 1225⟩,
  ⟨119932, .int 119932 1227, .str (Str.ofString "u") 1228⟩,
  ⟨119933, .int 119933 1230, .str (Str.ofString "v") 1231⟩,
  ⟨119934, .int 119934 1233, .str (Str.ofString "w") 1234⟩,
  ⟨119935, .int 119935 1236, .str (Str.ofString "x") 1237⟩,
  ⟨119936, .int 119936 1239, .str (Str.ofString "y") 1240⟩,
  ⟨119937, .int 119937 1242, .str (Str.ofString "z") 1243⟩,
  ⟨119964, .int 119964 1245, .str (Str.ofString "a") 1246⟩,
  ⟨119966, .int 119966 1248, .str (Str.ofString "c") 1249⟩,
  ⟨119967, .int 119967 1251, .str (Str.ofString "d") 1252⟩,
  ⟨119970, .int 119970 1254, .str (Str.ofString "g") 1255⟩,
  ⟨119973, .int 119973 1257, .str (Str.ofString "j") 1258⟩,
  ⟨119974, .int 119974 1260, .str (Str.ofString "k") 1261⟩,
  ⟨119977, .int 119977 1263, .str (Str.ofString "n") 1264⟩,
  ⟨119978, .int 119978 1266, .str (Str.ofString "o") 1267⟩,
  ⟨119979, .int 119979 1269, .str (Str.ofString "p") 1270⟩,
  ⟨119980, .int 119980 1272, .str (Str.ofString "q") 1273⟩,
  ⟨119982, .int 119982 1275, .str (Str.ofString "s") 1276⟩,
  ⟨119983, .int 119983 1278, .str (Str.ofString "t") 1279⟩,
  ⟨119984, .int 119984 1281, .str (Str.ofString "u") 1282⟩,
  ⟨119985, .int 119985 1284, .str (Str.ofString "v") 1285⟩,
  ⟨119986, .int 119986 1287, .str (Str.ofString "w") 1288⟩,
  ⟨119987, .int 119987 1290, .str (Str.ofString "x") 1291⟩,
  ⟨119988, .int 119988 1293, .str (Str.ofString "y") 1294⟩,
  ⟨119989, .int 119989 1296, .str (Str.ofString "z") 1297⟩,
  ⟨120016, .int 120016 1299, .str (Str.ofString "a") 1300⟩,
  ⟨120017, .int 120017 1302, .str (Str.ofString "b") 1303⟩,
  ⟨120018, .int 120018 1305, .str (Str.ofString "c") 1306⟩,
  ⟨120019, .int 120019 1308, .str (Str.ofString "d") 1309⟩,
  ⟨120020, .int 120020 1311, .str (Str.ofString "e") 1312⟩,
  ⟨120021, .int 120021 1314, .str (Str.ofString "f") 1315⟩,
  ⟨120022, .int 120022 1317, .str (Str.ofString "g") 1318⟩,
  ⟨120023, .int 120023 1320, .str (Str.ofString "h") 1321⟩,
  ⟨120024, .int 120024 1323, .str (Str.ofString "i") 1324⟩,
  ⟨120025, .int 120025 1326, .str (Str.ofString "j") 1327⟩,
  ⟨120026, .int 120026 1329, .str (Str.ofString "k") 1330⟩,
  ⟨120027, .int 120027 1332, .str (Str.ofString "l") 1333⟩,
  ⟨120028, .int 120028 1335, .str (Str.ofString "m") 1336⟩,
  ⟨120029, .int 120029 1338, .str (Str.ofString "n") 1339⟩,
  ⟨120030, .int 120030 1341, .str (Str.ofString "o") 1342⟩,
  ⟨120031, .int 120031 1344, .str (Str.ofString "p") 1345⟩,
  ⟨120032, .int 120032 1347, .str (Str.ofString "q") 1348⟩,
  ⟨120033, .int 120033 1350, .str (Str.ofString "r") 1351⟩,
  ⟨120034, .int 120034 1353, .str (Str.ofString "s") 1354⟩,
  ⟨120035, .int 120035 1356, .str (Str.ofString "t") 1357⟩,
  ⟨120036, .int 120036 1359, .str (Str.ofString "u") 1360⟩,
  ⟨120037, .int 120037 1362, .str (Str.ofString "v") 1363⟩,
  ⟨120038, .int 120038 1365, .str (Str.ofString "w") 1366⟩,
  ⟨120039, .int 120039 1368, .str (Str.ofString "x") 1369⟩,
  ⟨120040, .int 120040 1371, .str (Str.ofString "y") 1372⟩,
  ⟨120041, .int 120041 1374, .str (Str.ofString "z") 1375⟩,
  ⟨120068, .int 120068 1377, .str (Str.ofString "a") 1378⟩,
  ⟨120069, .int 120069 1380, .str (Str.ofString "b") 1381⟩,
  ⟨120071, .int 120071 1383, .str (Str.ofString "d") 1384⟩,
  ⟨120072, .int 120072 1386, .str (Str.ofString "e") 1387⟩,
  ⟨120073, .int 120073 1389, .str (Str.ofString "f") 1390⟩,
  ⟨120074, .int 120074 1392, .str (Str.ofString "g") 1393⟩,
  ⟨120077, .int 120077 1395, .str (Str.ofString "j") 1396⟩,
  ⟨120078, .int 120078 1398, .str (Str.ofString "k") 1399⟩,
  ⟨120079, .int 120079 1401, .str (Str.ofString "l") 1402⟩,
  ⟨120080, .int 120080 1404, .str (Str.ofString "m") 1405⟩,
  ⟨120081, .int 120081 1407, .str (Str.ofString "n") 1408⟩,
  ⟨120082, .int 120082 1410, .str (Str.ofString "o") 1411⟩,
  ⟨120083, .int 120083 1413, .str (Str.ofString "p") 1414⟩,
  ⟨120084, .int 120084 1416, .str (Str.ofString "q") 1417⟩,
  ⟨120086, .int 120086 1419, .str (Str.ofString "s") 1420⟩,
  ⟨120087, .int 120087 1422, .str (Str.ofString "t") 1423⟩,
  ⟨120088, .int 120088 1425, .str (Str.ofString "u") 1426⟩,
  ⟨120089, .int 120089 1428, .str (Str.ofString "v") 1429⟩,
  ⟨120090, .int 120090 1431, .str (Str.ofString "w") 1432⟩,
  ⟨120091, .int 120091 1434, .str (Str.ofString "x") 1435⟩,
  ⟨120092, .int 120092 1437, .str (Str.ofString "y") 1438⟩,
  ⟨120120, .int 120120 1440, .str (Str.ofString "a") 1441⟩,
  ⟨120121, .int 120121 1443, .str (Str.ofString "b") 1444⟩,
  ⟨120123, .int 120123 1446, .str (Str.ofString "d") 1447⟩,
  ⟨120124, .int 120124 1449, .str (Str.ofString "e") 1450⟩,
  ⟨120125, .int 120125 1452, .str (Str.ofString "f") 1453⟩,
  ⟨120126, .int 120126 1455, .str (Str.ofString "g") 1456⟩,
  ⟨120128, .int 120128 1458, .str (Str.ofString "i") 1459⟩,
  ⟨120129, .int 120129 1461, .str (Str.ofString "j") 1462⟩,
  ⟨120130, .int 120130 1464, .str (Str.ofString "k") 1465⟩,
  ⟨120131, .int 120131 1467, .str (Str.ofString "l") 1468⟩,
  ⟨120132, .int 120132 1470, .str (Str.ofString "m") 1471⟩,
  ⟨120134, .int 120134 1473, .str (Str.ofString "o") 1474⟩,
  ⟨120138, .int 120138 1476, .str (Str.ofString "s") 1477⟩,
  ⟨120139, .int 120139 1479, .str (Str.ofString "t") 1480⟩,
  ⟨120140, .int 120140 1482, .str (Str.ofString "u") 1483⟩,
  ⟨120141, .int 120141 1485, .str (Str.ofString "v") 1486⟩,
  ⟨120142, .int 120142 1488, .str (Str.ofString "w") 1489⟩,
  ⟨120143, .int 120143 1491, .str (Str.ofString "x") 1492⟩,
  ⟨120144, .int 120144 1494, .str (Str.ofString "y") 1495⟩,
  ⟨120172, .int 120172 1497, .str (Str.ofString "a") 1498⟩,
  ⟨120173, .int 120173 1500, .str (Str.ofString "b") 1501⟩,
  ⟨120174, .int 120174 1503, .str (Str.ofString "c") 1504⟩,
  ⟨120175, .int 120175 1506, .str (Str.ofString "d") 1507⟩,
  ⟨120176, .int 120176 1509, .str (Str.ofString "e") 1510⟩,
  ⟨120177, .int 120177 1512, .str (Str.ofString "f") 1513⟩,
  ⟨120178, .int 120178 1515, .str (Str.ofString "g") 1516⟩,
  ⟨120179, .int 120179 1518, .str (Str.ofString "h") 1519⟩,
  ⟨120180, .int 120180 1521, .str (Str.ofString "i") 1522⟩,
  ⟨120181, .int 120181 1524, .str (Str.ofString "j") 1525⟩,
  ⟨120182, .int 120182 1527, .str (Str.ofString "k") 1528⟩,
  ⟨120183, .int 120183 1530, .str (Str.ofString "l") 1531⟩,
  ⟨120184, .int 120184 1533, .str (Str.ofString "m") 1534⟩,
  ⟨120185, .int 120185 1536, .str (Str.ofString "n") 1537⟩,
  ⟨120186, .int 120186 1539, .str (Str.ofString "o") 1540⟩,
  ⟨120187, .int 120187 1542, .str (Str.ofString "p") 1543⟩,
  ⟨120188, .int 120188 1545, .str (Str.ofString "q") 1546⟩,
  ⟨120189, .int 120189 1548, .str (Str.ofString "r") 1549⟩,
  ⟨120190, .int 120190 1551, .str (Str.ofString "s") 1552⟩,
  ⟨120191, .int 120191 1554, .str (Str.ofString "t") 1555⟩,
  ⟨120192, .int 120192 1557, .str (Str.ofString "u") 1558⟩,
  ⟨120193, .int 120193 1560, .str (Str.ofString "v") 1561⟩,
  ⟨120194, .int 120194 1563, .str (Str.ofString "w") 1564⟩,
  ⟨120195, .int 120195 1566, .str (Str.ofString "x") 1567⟩,
  ⟨120196, .int 120196 1569, .str (Str.ofString "y") 1570⟩,
  ⟨120197, .int 120197 1572, .str (Str.ofString "z") 1573⟩,
  ⟨120224, .int 120224 1575, .str (Str.ofString "a") 1576⟩,
  ⟨120225, .int 120225 1578, .str (Str.ofString "b") 1579⟩,
  ⟨120226, .int 120226 1581, .str (Str.ofString "c") 1582⟩,
  ⟨120227, .int 120227 1584, .str (Str.ofString "d") 1585⟩,
  ⟨120228, .int 120228 1587, .str (Str.ofString "e") 1588⟩,
  ⟨120229, .int 120229 1590, .str (Str.ofString "f") 1591⟩,
  ⟨120230, .int 120230 1593, .str (Str.ofString "g") 1594⟩,
  ⟨120231, .int 120231 1596, .str (Str.ofString "h") 1597⟩,
  ⟨120232, .int 120232 1599, .str (Str.ofString "i") 1600⟩,
  ⟨120233, .int 120233 1602, .str (Str.ofString "j") 1603⟩,
  ⟨120234, .int 120234 1605, .str (Str.ofString "k") 1606⟩,
  ⟨120235, .int 120235 1608, .str (Str.ofString "l") 1609⟩,
  ⟨120236, .int 120236 1611, .str (Str.ofString "m") 1612⟩,
  ⟨120237, .int 120237 1614, .str (Str.ofString "n") 1615⟩,
  ⟨120238, .int 120238 1617, .str (Str.ofString "o") 1618⟩,
  ⟨120239, .int 120239 1620, .str (Str.ofString "p") 1621⟩,
  ⟨120240, .int 120240 1623, .str (Str.ofString "q") 1624⟩,
  ⟨120241, .int 120241 1626, .str (Str.ofString "r") 1627⟩,
  ⟨120242, .int 120242 1629, .str (Str.ofString "s") 1630⟩,
  ⟨120243, .int 120243 1632, .str (Str.ofString "t") 1633⟩,
  ⟨120244, .int 120244 1635, .str (Str.ofString "u") 1636⟩,
  ⟨120245, .int 120245 1638, .str (Str.ofString "v") 1639⟩,
  ⟨120246, .int 120246 1641, .str (Str.ofString "w") 1642⟩,
  ⟨120247, .int 120247 1644, .str (Str.ofString "x") 1645⟩,
  ⟨120248, .int 120248 1647, .str (Str.ofString "y") 1648⟩,
  ⟨120249, .int 120249 1650, .str (Str.ofString "z") 1651⟩,
  ⟨120276, .int 120276 1653, .str (Str.ofString "a") 1654⟩,
  ⟨120277, .int 120277 1656, .str (Str.ofString "b") 1657⟩,
  ⟨120278, .int 120278 1659, .str (Str.ofString "c") 1660⟩,
  ⟨120279, .int 120279 1662, .str (Str.ofString "d") 1663⟩,
  ⟨120280, .int 120280 1665, .str (Str.ofString "e") 1666⟩,
  ⟨120281, .int 120281 1668, .str (Str.ofString "f") 1669⟩,
  ⟨120282, .int 120282 1671, .str (Str.ofString "g") 1672⟩,
  ⟨120283, .int 120283 1674, .str (Str.ofString "h") 1675⟩,
  ⟨120284, .int 120284 1677, .str (Str.ofString "i") 1678⟩,
  ⟨120285, .int 120285 1680, .str (Str.ofString "j") 1681⟩,
  ⟨120286, .int 120286 1683, .str (Str.ofString "k") 1684⟩,
  ⟨120287, .int 120287 1686, .str (Str.ofString "l") 1687⟩,
  ⟨120288, .int 120288 1689, .str (Str.ofString "m") 1690⟩,
  ⟨120289, .int 120289 1692, .str (Str.ofString "n") 1693⟩,
  ⟨120290, .int 120290 1695, .str (Str.ofString "o") 1696⟩,
  ⟨120291, .int 120291 1698, .str (Str.ofString "p") 1699⟩,
  ⟨120292, .int 120292 1701, .str (Str.ofString "q") 1702⟩,
  ⟨120293, .int 120293 1704, .str (Str.ofString "r") 1705⟩,
  ⟨120294, .int 120294 1707, .str (Str.ofString "s") 1708⟩,
  ⟨120295, .int 120295 1710, .str (Str.ofString "t") 1711⟩,
  ⟨120296, .int 120296 1713, .str (Str.ofString "u") 1714⟩,
  ⟨120297, .int 120297 1716, .str (Str.ofString "v") 1717⟩,
  ⟨120298, .int 120298 1719, .str (Str.ofString "w") 1720⟩,
  ⟨120299, .int 120299 1722, .str (Str.ofString "x") 1723⟩,
  ⟨120300, .int 120300 1725, .str (Str.ofString "y") 1726⟩,
  ⟨120301, .int 120301 1728, .str (Str.ofString "z") 1729⟩,
  ⟨120328, .int 120328 1731, .str (Str.ofString "a") 1732⟩,
  ⟨120329, .int 120329 1734, .str (Str.ofString "b") 1735⟩,
  ⟨120330, .int 120330 1737, .str (Str.ofString "c") 1738⟩,
  ⟨120331, .int 120331 1740, .str (Str.ofString "d") 1741⟩,
  ⟨120332, .int 120332 1743, .str (Str.ofString "e") 1744⟩,
  ⟨120333, .int 120333 1746, .str (Str.ofString "f") 1747⟩,
  ⟨120334, .int 120334 1749, .str (Str.ofString "g") 1750⟩,
  ⟨120335, .int 120335 1752, .str (Str.ofString "h") 1753⟩,
  ⟨120336, .int 120336 1755, .str (Str.ofString "i") 1756⟩,
  ⟨120337, .int 120337 1758, .str (Str.ofString "j") 1759⟩,
  ⟨120338, .int 120338 1761, .str (Str.ofString "k") 1762⟩,
  ⟨120339, .int 120339 1764, .str (Str.ofString "l") 1765⟩,
  ⟨120340, .int 120340 1767, .str (Str.ofString "m") 1768⟩,
  ⟨120341, .int 120341 1770, .str (Str.ofString "n") 1771⟩,
  ⟨120342, .int 120342 1773, .str (Str.ofString "o") 1774⟩,
  ⟨120343, .int 120343 1776, .str (Str.ofString "p") 1777⟩,
  ⟨120344, .int 120344 1779, .str (Str.ofString "q") 1780⟩,
  ⟨120345, .int 120345 1782, .str (Str.ofString "r") 1783⟩,
  ⟨120346, .int 120346 1785, .str (Str.ofString "s") 1786⟩,
  ⟨120347, .int 120347 1788, .str (Str.ofString "t") 1789⟩,
  ⟨120348, .int 120348 1791, .str (Str.ofString "u") 1792⟩,
  ⟨120349, .int 120349 1794, .str (Str.ofString "v") 1795⟩,
  ⟨120350, .int 120350 1797, .str (Str.ofString "w") 1798⟩,
  ⟨120351, .int 120351 1800, .str (Str.ofString "x") 1801⟩,
  ⟨120352, .int 120352 1803, .str (Str.ofString "y") 1804⟩,
  ⟨120353, .int 120353 1806, .str (Str.ofString "z") 1807⟩,
  ⟨120380, .int 120380 1809, .str (Str.ofString "a") 1810⟩,
  ⟨120381, .int 120381 1812, .str (Str.ofString "b") 1813⟩,
  ⟨120382, .int 120382 1815, .str (Str.ofString "c") 1816⟩,
  ⟨120383, .int 120383 1818, .str (Str.ofString "d") 1819⟩,
  ⟨120384, .int 120384 1821, .str (Str.ofString "e") 1822⟩,
  ⟨120385, .int 120385 1824, .str (Str.ofString "f") 1825⟩,
  ⟨120386, .int 120386 1827, .str (Str.ofString "g") 1828⟩,
  ⟨120387, .int 120387 1830, .str (Str.ofString "h") 1831⟩,
  ⟨120388, .int 120388 1833, .str (Str.ofString "i") 1834⟩,
  ⟨120389, .int 120389 1836, .str (Str.ofString "j") 1837⟩,
  ⟨120390, .int 120390 1839, .str (Str.ofString "k") 1840⟩,
  ⟨120391, .int 120391 1842, .str (Str.ofString "l") 1843⟩,
  ⟨120392, .int 120392 1845, .str (Str.ofString "m") 1846⟩,
  ⟨120393, .int 120393 1848, .str (Str.ofString "n") 1849⟩,
  ⟨120394, .int 120394 1851, .str (Str.ofString "o") 1852⟩,
  ⟨120395, .int 120395 1854, .str (Str.ofString "p") 1855⟩,
  ⟨120396, .int 120396 1857, .str (Str.ofString "q") 1858⟩,
  ⟨120397, .int 120397 1860, .str (Str.ofString "r") 1861⟩,
  ⟨120398, .int 120398 1863, .str (Str.ofString "s") 1864⟩,
  ⟨120399, .int 120399 1866, .str (Str.ofString "t") 1867⟩,
  ⟨120400, .int 120400 1869, .str (Str.ofString "u") 1870⟩,
  ⟨120401, .int 120401 1872, .str (Str.ofString "v") 1873⟩,
  ⟨120402, .int 120402 1875, .str (Str.ofString "w") 1876⟩,
  ⟨120403, .int 120403 1878, .str (Str.ofString "x") 1879⟩,
  ⟨120404, .int 120404 1881, .str (Str.ofString "y") 1882⟩,
  ⟨120405, .int 120405 1884, .str (Str.ofString "z") 1885⟩,
  ⟨120432, .int 120432 1887, .str (Str.ofString "a") 1888⟩,
  ⟨120433, .int 120433 1890, .str (Str.ofString "b") 1891⟩,
  ⟨120434, .int 120434 1893, .str (Str.ofString "c") 1894⟩,
  ⟨120435, .int 120435 1896, .str (Str.ofString "d") 1897⟩,
  ⟨120436, .int 120436 1899, .str (Str.ofString "e") 1900⟩,
  ⟨120437, .int 120437 1902, .str (Str.ofString "f") 1903⟩,
  ⟨120438, .int 120438 1905, .str (Str.ofString "g") 1906⟩,
  ⟨120439, .int 120439 1908, .str (Str.ofString "h") 1909⟩,
  ⟨120440, .int 120440 1911, .str (Str.ofString "i") 1912⟩,
  ⟨120441, .int 120441 1914, .str (Str.ofString "j") 1915⟩,
  ⟨120442, .int 120442 1917, .str (Str.ofString "k") 1918⟩,
  ⟨120443, .int 120443 1920, .str (Str.ofString "l") 1921⟩,
  ⟨120444, .int 120444 1923, .str (Str.ofString "m") 1924⟩,
  ⟨120445, .int 120445 1926, .str (Str.ofString "n") 1927⟩,
  ⟨120446, .int 120446 1929, .str (Str.ofString "o") 1930⟩,
  ⟨120447, .int 120447 1932, .str (Str.ofString "p") 1933⟩,
  ⟨120448, .int 120448 1935, .str (Str.ofString "q") 1936⟩,
  ⟨120449, .int 120449 1938, .str (Str.ofString "r") 1939⟩,
  ⟨120450, .int 120450 1941, .str (Str.ofString "s") 1942⟩,
  ⟨120451, .int 120451 1944, .str (Str.ofString "t") 1945⟩,
  ⟨120452, .int 120452 1947, .str (Str.ofString "u") 1948⟩,
  ⟨120453, .int 120453 1950, .str (Str.ofString "v") 1951⟩,
  ⟨120454, .int 120454 1953, .str (Str.ofString "w") 1954⟩,
  ⟨120455, .int 120455 1956, .str (Str.ofString "x") 1957⟩,
  ⟨120456, .int 120456 1959, .str (Str.ofString "y") 1960⟩,
  ⟨120457, .int 120457 1962, .str (Str.ofString "z") 1963⟩,
  ⟨120488, .int 120488 1965, .str (Str.ofString "α") 1966⟩,
  ⟨120489, .int 120489 1968, .str (Str.ofString "β") 1969⟩,
  ⟨120490, .int 120490 1971, .str (Str.ofString "γ") 1972⟩,
  ⟨120491, .int 120491 1974, .str (Str.ofString "δ") 1975⟩,
  ⟨120492, .int 120492 1977, .str (Str.ofString "ε") 1978⟩,
  ⟨120493, .int 120493 1980, .str (Str.ofString "ζ") 1981⟩,
  ⟨120494, .int 120494 1983, .str (Str.ofString "η") 1984⟩,
  ⟨120495, .int 120495 1986, .str (Str.ofString "θ") 1987⟩,
  ⟨120496, .int 120496 1989, .str (Str.ofString "ι") 1990⟩,
  ⟨120497, .int 120497 1992, .str (Str.ofString "κ") 1993⟩,
  ⟨120498, .int 120498 1995, .str (Str.ofString "λ") 1996⟩,
  ⟨120499, .int 120499 1998, .str (Str.ofString "μ") 1999⟩,
  ⟨120500, .int 120500 2001, .str (Str.ofString "ν") 2002⟩,
  ⟨120501, .int 120501 2004, .str (Str.ofString "ξ") 2005⟩,
  ⟨120502, .int 120502 2007, .str (Str.ofString "ο") 2008⟩,
  ⟨120503, .int 120503 2010, .str (Str.ofString "π") 2011⟩,
  ⟨120504, .int 120504 2013, .str (Str.ofString "ρ") 2014⟩,
  ⟨120505, .int 120505 2016, .str (Str.ofString "θ") 2017⟩,
  ⟨120506, .int 120506 2019, .str (Str.ofString "σ") 2020⟩,
  ⟨120507, .int 120507 2022, .str (Str.ofString "τ") 2023⟩,
  ⟨120508, .int 120508 2025, .str (Str.ofString "υ") 2026⟩,
  ⟨120509, .int 120509 2028, .str (Str.ofString "φ") 2029⟩,
  ⟨120510, .int 120510 2031, .str (Str.ofString "χ") 2032⟩,
  ⟨120511, .int 120511 2034, .str (Str.ofString "ψ") 2035⟩,
  ⟨120512, .int 120512 2037, .str (Str.ofString "ω") 2038⟩,
  ⟨120531, .int 120531 2040, .str (Str.ofString "σ") 2041⟩,
  ⟨120546, .int 120546 2043, .str (Str.ofString "α") 2044⟩,
  ⟨120547, .int 120547 2046, .str (Str.ofString "β") 2047⟩,
  ⟨120548, .int 120548 2049, .str (Str.ofString "γ") 2050⟩,
  ⟨120549, .int 120549 2052, .str (Str.ofString "δ") 2053⟩,
  ⟨120550, .int 120550 2055, .str (Str.ofString "ε") 2056⟩,
  ⟨120551, .int 120551 2058, .str (Str.ofString "ζ") 2059⟩,
  ⟨120552, .int 120552 2061, .str (Str.ofString "η") 2062⟩,
  ⟨120553, .int 120553 2064, .str (Str.ofString "θ") 2065⟩,
  ⟨120554, .int 120554 2067, .str (Str.ofString "ι") 2068⟩,
  ⟨120555, .int 120555 2070, .str (Str.ofString "κ") 2071⟩,
  ⟨120556, .int 120556 2073, .str (Str.ofString "λ") 2074⟩,
  ⟨120557, .int 120557 2076, .str (Str.ofString "μ") 2077⟩,
  ⟨120558, .int 120558 2079, .str (Str.ofString "ν") 2080⟩,
  ⟨120559, .int 120559 2082, .str (Str.ofString "ξ") 2083⟩,
  ⟨120560, .int 120560 2085, .str (Str.ofString "ο") 2086⟩,
  ⟨120561, .int 120561 2088, .str (Str.ofString "π") 2089⟩,
  ⟨120562, .int 120562 2091, .str (Str.ofString "ρ") 2092⟩,
  ⟨120563, .int 120563 2094, .str (Str.ofString "θ") 2095⟩,
  ⟨120564, .int 120564 2097, .str (Str.ofString "σ") 2098⟩,
  ⟨120565, .int 120565 2100, .str (Str.ofString "τ") 2101⟩,
  ⟨120566, .int 120566 2103, .str (Str.ofString "υ") 2104⟩,
  ⟨120567, .int 120567 2106, .str (Str.ofString "φ") 2107⟩,
  ⟨120568, .int 120568 2109, .str (Str.ofString "χ") 2110⟩,
  ⟨120569, .int 120569 2112, .str (Str.ofString "ψ") 2113⟩,
  ⟨120570, .int 120570 2115, .str (Str.ofString "ω") 2116⟩,
  ⟨120589, .int 120589 2118, .str (Str.ofString "σ") 2119⟩,
  ⟨120604, .int 120604 2121, .str (Str.ofString "α") 2122⟩,
  ⟨120605, .int 120605 2124, .str (Str.ofString "β") 2125⟩,
  ⟨120606, .int 120606 2127, .str (Str.ofString "γ") 2128⟩,
  ⟨120607, .int 120607 2130, .str (Str.ofString "δ") 2131⟩,
  ⟨120608, .int 120608 2133, .str (Str.ofString "ε") 2134⟩,
  ⟨120609, .int 120609 2136, .str (Str.ofString "ζ") 2137⟩,
  ⟨120610, .int 120610 2139, .str (Str.ofString "η") 2140⟩,
  ⟨120611, .int 120611 2142, .str (Str.ofString "θ") 2143⟩,
  ⟨120612, .int 120612 2145, .str (Str.ofString "ι") 2146⟩,
  ⟨120613, .int 120613 2148, .str (Str.ofString "κ") 2149⟩,
  ⟨120614, .int 120614 2151, .str (Str.ofString "λ") 2152⟩,
  ⟨120615, .int 120615 2154, .str (Str.ofString "μ") 2155⟩,
  ⟨120616, .int 120616 2157, .str (Str.ofString "ν") 2158⟩,
  ⟨120617, .int 120617 2160, .str (Str.ofString "ξ") 2161⟩,
  ⟨120618, .int 120618 2163, .str (Str.ofString "ο") 2164⟩,
  ⟨120619, .int 120619 2166, .str (Str.ofString "π") 2167⟩,
  ⟨120620, .int 120620 2169, .str (Str.ofString "ρ") 2170⟩,
  ⟨120621, .int 120621 2172, .str (Str.ofString "θ") 2173⟩,
  ⟨120622, .int 120622 2175, .str (Str.ofString "σ") 2176⟩,
  ⟨120623, .int 120623 2178, .str (Str.ofString "τ") 2179⟩,
  ⟨120624, .int 120624 2181, .str (Str.ofString "υ") 2182⟩,
  ⟨120625, .int 120625 2184, .str (Str.ofString "φ") 2185⟩,
  ⟨120626, .int 120626 2187, .str (Str.ofString "χ") 2188⟩,
  ⟨120627, .int 120627 2190, .str (Str.ofString "ψ") 2191⟩,
  ⟨120628, .int 120628 2193, .str (Str.ofString "ω") 2194⟩,
  ⟨120647, .int 120647 2196, .str (Str.ofString "σ") 2197⟩,
  ⟨120662, .int 120662 2199, .str (Str.ofString "α") 2200⟩,
  ⟨120663, .int 120663 2202, .str (Str.ofString "β") 2203⟩,
  ⟨120664, .int 120664 2205, .str (Str.ofString "γ") 2206⟩,
  ⟨120665, .int 120665 2208, .str (Str.ofString "δ") 2209⟩,
  ⟨120666, .int 120666 2211, .str (Str.ofString "ε") 2212⟩,
  ⟨120667, .int 120667 2214, .str (Str.ofString "ζ") 2215⟩,
  ⟨120668, .int 120668 2217, .str (Str.ofString "η") 2218⟩,
  ⟨120669, .int 120669 2220, .str (Str.ofString "θ") 2221⟩,
  ⟨120670, .int 120670 2223, .str (Str.ofString "ι") 2224⟩,
  ⟨120671, .int 120671 2226, .str (Str.ofString "κ") 2227⟩,
  ⟨120672, .int 120672 2229, .str (Str.ofString "λ") 2230⟩,
  ⟨120673, .int 120673 2232, .str (Str.ofString "μ") 2233⟩,
  ⟨120674, .int 120674 2235, .str (Str.ofString "ν") 2236⟩,
  ⟨120675, .int 120675 2238, .str (Str.ofString "ξ") 2239⟩,
  ⟨120676, .int 120676 2241, .str (Str.ofString "ο") 2242⟩,
  ⟨120677, .int 120677 2244, .str (Str.ofString "π") 2245⟩,
  ⟨120678, .int 120678 2247, .str (Str.ofString "ρ") 2248⟩,
  ⟨120679, .int 120679 2250, .str (Str.ofString "θ") 2251⟩,
  ⟨120680, .int 120680 2253, .str (Str.ofString "σ") 2254⟩,
  ⟨120681, .int 120681 2256, .str (Str.ofString "τ") 2257⟩,
  ⟨120682, .int 120682 2259, .str (Str.ofString "υ") 2260⟩,
  ⟨120683, .int 120683 2262, .str (Str.ofString "φ") 2263⟩,
  ⟨120684, .int 120684 2265, .str (Str.ofString "χ") 2266⟩,
  ⟨120685, .int 120685 2268, .str (Str.ofString "ψ") 2269⟩,
  ⟨120686, .int 120686 2271, .str (Str.ofString "ω") 2272⟩,
  ⟨120705, .int 120705 2274, .str (Str.ofString "σ") 2275⟩,
  ⟨120720, .int 120720 2277, .str (Str.ofString "α") 2278⟩,
  ⟨120721, .int 120721 2280, .str (Str.ofString "β") 2281⟩,
  ⟨120722, .int 120722 2283, .str (Str.ofString "γ") 2284⟩,
  ⟨120723, .int 120723 2286, .str (Str.ofString "δ") 2287⟩,
  ⟨120724, .int 120724 2289, .str (Str.ofString "ε") 2290⟩,
  ⟨120725, .int 120725 2292, .str (Str.ofString "ζ") 2293⟩,
  ⟨120726, .int 120726 2295, .str (Str.ofString "η") 2296⟩,
  ⟨120727, .int 120727 2298, .str (Str.ofString "θ") 2299⟩,
  ⟨120728, .int 120728 2301, .str (Str.ofString "ι") 2302⟩,
  ⟨120729, .int 120729 2304, .str (Str.ofString "κ") 2305⟩,
  ⟨120730, .int 120730 2307, .str (Str.ofString "λ") 2308⟩,
  ⟨120731, .int 120731 2310, .str (Str.ofString "μ") 2311⟩,
  ⟨120732, .int 120732 2313, .str (Str.ofString "ν") 2314⟩,
  ⟨120733, .int 120733 2316, .str (Str.ofString "ξ") 2317⟩,
  ⟨120734, .int 120734 2319, .str (Str.ofString "ο") 2320⟩,
  ⟨120735, .int 120735 2322, .str (Str.ofString "π") 2323⟩,
  ⟨120736, .int 120736 2325, .str (Str.ofString "ρ") 2326⟩,
  ⟨120737, .int 120737 2328, .str (Str.ofString "θ") 2329⟩,
  ⟨120738, .int 120738 2331, .str (Str.ofString "σ") 2332⟩,
  ⟨120739, .int 120739 2334, .str (Str.ofString "τ") 2335⟩,
  ⟨120740, .int 120740 2337, .str (Str.ofString "υ") 2338⟩,
  ⟨120741, .int 120741 2340, .str (Str.ofString "φ") 2341⟩,
  ⟨120742, .int 120742 2343, .str (Str.ofString "χ") 2344⟩,
  ⟨120743, .int 120743 2345, .str (Str.ofString "ψ") 2346⟩,
  ⟨120744, .int 120744 2347, .str (Str.ofString "ω") 2348⟩,
  ⟨120763, .int 120763 2349, .str (Str.ofString "σ") 2350⟩]
noncomputable def b1es : List (Int × Value) := [(65024, .int 65024 354), (65025, .int 65025 355), (65026, .int 65026 356), (65027, .int 65027 357), (65028, .int 65028 358), (65029, .int 65029 359), (6150, .int 6150 340), (65030, .int 65030 360), (65031, .int 65031 361), (65032, .int 65032 362), (65033, .int 65033 363), (6155, .int 6155 341), (6156, .int 6156 342), (6157, .int 6157 343), (8203, .int 8203 344), (8204, .int 8204 345), (8205, .int 8205 346), (65034, .int 65034 364), (65035, .int 65035 365), (65036, .int 65036 366), (65037, .int 65037 367), (65038, .int 65038 368), (65039, .int 65039 369), (173, .int 173 338), (847, .int 847 339), (8288, .int 8288 347), (65279, .int 65279 348)]
noncomputable def mainEs (P : Params) : List DictEntry := [
  ⟨PyData.keyHash P (Str.ofString "__name__"), .str (Str.ofString "__name__") 165, .str (Str.ofString "law_wr0048_01") 2364⟩,
  ⟨PyData.keyHash P (Str.ofString "__doc__"), .str (Str.ofString "__doc__") 166, .none⟩,
  ⟨PyData.keyHash P (Str.ofString "__package__"), .str (Str.ofString "__package__") 167, .none⟩,
  ⟨PyData.keyHash P (Str.ofString "__loader__"), .str (Str.ofString "__loader__") 168, .builtin "__main__.__loader__#opaque"⟩,
  ⟨PyData.keyHash P (Str.ofString "__spec__"), .str (Str.ofString "__spec__") 169, .none⟩,
  ⟨PyData.keyHash P (Str.ofString "__annotations__"), .str (Str.ofString "__annotations__") 170, .ref 6⟩,
  ⟨PyData.keyHash P (Str.ofString "__builtins__"), .str (Str.ofString "__builtins__") 171, .ref 4⟩,
  ⟨PyData.keyHash P (Str.ofString "__file__"), .str (Str.ofString "__file__") 173, .str (Str.ofString "/claim/cut.py") 172⟩,
  ⟨PyData.keyHash P (Str.ofString "__cached__"), .str (Str.ofString "__cached__") 174, .none⟩,
  ⟨PyData.keyHash P (Str.ofString "Error"), .str (Str.ofString "Error") 208, .ref 24⟩,
  ⟨PyData.keyHash P (Str.ofString "error_reply"), .str (Str.ofString "error_reply") 224, .ref 37⟩,
  ⟨PyData.keyHash P (Str.ofString "parse257"), .str (Str.ofString "parse257") 235, .ref 46⟩,
  ⟨PyData.keyHash P (Str.ofString "ELLIPSIS_MARKER"), .str (Str.ofString "ELLIPSIS_MARKER") 239, .str (Str.ofString "...") 238⟩,
  ⟨PyData.keyHash P (Str.ofString "_ellipsis_match"), .str (Str.ofString "_ellipsis_match") 251, .ref 53⟩,
  ⟨PyData.keyHash P (Str.ofString "add"), .str (Str.ofString "add") 261, .ref 60⟩,
  ⟨PyData.keyHash P (Str.ofString "and_"), .str (Str.ofString "and_") 269, .ref 67⟩,
  ⟨PyData.keyHash P (Str.ofString "floordiv"), .str (Str.ofString "floordiv") 277, .ref 74⟩,
  ⟨PyData.keyHash P (Str.ofString "lshift"), .str (Str.ofString "lshift") 285, .ref 81⟩,
  ⟨PyData.keyHash P (Str.ofString "mul"), .str (Str.ofString "mul") 293, .ref 88⟩,
  ⟨PyData.keyHash P (Str.ofString "rshift"), .str (Str.ofString "rshift") 301, .ref 95⟩,
  ⟨PyData.keyHash P (Str.ofString "sub"), .str (Str.ofString "sub") 309, .ref 102⟩,
  ⟨PyData.keyHash P (Str.ofString "xor"), .str (Str.ofString "xor") 317, .ref 109⟩,
  ⟨PyData.keyHash P (Str.ofString "contains"), .str (Str.ofString "contains") 325, .ref 116⟩,
  ⟨PyData.keyHash P (Str.ofString "countOf"), .str (Str.ofString "countOf") 335, .ref 123⟩,
  ⟨PyData.keyHash P (Str.ofString "b1_set"), .str (Str.ofString "b1_set") 397, .ref 131⟩,
  ⟨PyData.keyHash P (Str.ofString "in_table_b1"), .str (Str.ofString "in_table_b1") 404, .ref 141⟩,
  ⟨PyData.keyHash P (Str.ofString "b3_exceptions"), .str (Str.ofString "b3_exceptions") 2355, .ref 142⟩,
  ⟨PyData.keyHash P (Str.ofString "map_table_b3"), .str (Str.ofString "map_table_b3") 2363, .ref 187⟩,
  ⟨PyData.keyHash P (Str.ofString "_law_typed"), .str (Str.ofString "_law_typed") 2375, .ref 194⟩,
  ⟨PyData.keyHash P (Str.ofString "_law_refused"), .str (Str.ofString "_law_refused") 2383, .ref 201⟩,
  ⟨PyData.keyHash P (Str.ofString "law"), .str (Str.ofString "law") 2389, .ref 206⟩]
noncomputable def mainO (P : Params) : Obj := ⟨.type "dict", none, .dict (mainEs P).toArray 31, #[]⟩
noncomputable def setO (P : Params) : Obj := ⟨.type "set", none, .set b1es.toArray 29 { mask := 127, place := #[0, 1, 2, 3, 4, 5, 6, 7, 8, 9, 10, 11, 12, 13, 14, 15, 16, 17, 18, 19, 20, 21, 22, 45, 79, 96, 127], dummies := #[], finger := 0, led := !P.followText "set-order", moves := 2, plain := true }, #[]⟩
noncomputable def b3O : Obj := ⟨.type "dict", none, .dict b3es.toArray 650, #[]⟩
noncomputable abbrev K (P : Params) : Frag :=
  (nat_lit 0, boot_o_0 P) ::
  (nat_lit 1, boot_o_1 P) ::
  (nat_lit 2, hd.o_5 P) ::
  (nat_lit 3, mainO P) ::
  (nat_lit 4, boot_o_4 P) ::
  (nat_lit 5, boot_o_5 P) ::
  (nat_lit 6, boot_o_6 P) ::
  (nat_lit 7, boot_o_7 P) ::
  (nat_lit 8, boot_o_8 P) ::
  (nat_lit 9, boot_o_9 P) ::
  (nat_lit 10, boot_o_10 P) ::
  (nat_lit 11, hd.o_1 P) ::
  (nat_lit 12, o26_12 P) ::
  (nat_lit 13, hd.o_3 P) ::
  (nat_lit 14, hd.o_4 P) ::
  (nat_lit 15, hd.o_8 P) ::
  (nat_lit 22, hd.o_15 P) ::
  (nat_lit 23, hd.o_16 P) ::
  (nat_lit 24, hd.o_24 P) ::
  (nat_lit 25, hd.o_18 P) ::
  (nat_lit 28, hd.o_25 P) ::
  (nat_lit 35, hd.o_32 P) ::
  (nat_lit 36, hd.o_33 P) ::
  (nat_lit 37, hd.o_34 P) ::
  (nat_lit 40, hd.o_37 P) ::
  (nat_lit 41, hd.o_38 P) ::
  (nat_lit 42, hd.o_39 P) ::
  (nat_lit 43, hd.o_40 P) ::
  (nat_lit 44, hd.o_41 P) ::
  (nat_lit 45, hd.o_42 P) ::
  (nat_lit 46, hd.o_43 P) ::
  (nat_lit 47, hd.o_44 P) ::
  (nat_lit 48, hd.o_45 P) ::
  (nat_lit 49, hd.o_46 P) ::
  (nat_lit 50, hd.o_47 P) ::
  (nat_lit 51, hd.o_48 P) ::
  (nat_lit 52, hd.o_49 P) ::
  (nat_lit 53, hd.o_50 P) ::
  (nat_lit 54, hd.o_51 P) ::
  (nat_lit 55, hd.o_52 P) ::
  (nat_lit 56, hd.o_53 P) ::
  (nat_lit 57, hd.o_54 P) ::
  (nat_lit 58, hd.o_55 P) ::
  (nat_lit 59, hd.o_56 P) ::
  (nat_lit 60, hd.o_57 P) ::
  (nat_lit 61, hd.o_58 P) ::
  (nat_lit 62, hd.o_59 P) ::
  (nat_lit 63, hd.o_60 P) ::
  (nat_lit 64, hd.o_61 P) ::
  (nat_lit 65, hd.o_62 P) ::
  (nat_lit 66, hd.o_63 P) ::
  (nat_lit 67, hd.o_64 P) ::
  (nat_lit 68, hd.o_65 P) ::
  (nat_lit 69, hd.o_66 P) ::
  (nat_lit 70, hd.o_67 P) ::
  (nat_lit 71, hd.o_68 P) ::
  (nat_lit 72, hd.o_69 P) ::
  (nat_lit 73, hd.o_70 P) ::
  (nat_lit 74, hd.o_71 P) ::
  (nat_lit 75, hd.o_75 P) ::
  (nat_lit 76, hd.o_76 P) ::
  (nat_lit 77, hd.o_77 P) ::
  (nat_lit 78, hd.o_78 P) ::
  (nat_lit 79, hd.o_79 P) ::
  (nat_lit 80, hd.o_80 P) ::
  (nat_lit 81, hd.o_81 P) ::
  (nat_lit 82, hd.o_82 P) ::
  (nat_lit 83, hd.o_83 P) ::
  (nat_lit 84, hd.o_84 P) ::
  (nat_lit 85, hd.o_85 P) ::
  (nat_lit 86, hd.o_86 P) ::
  (nat_lit 87, hd.o_87 P) ::
  (nat_lit 88, hd.o_88 P) ::
  (nat_lit 89, hd.o_89 P) ::
  (nat_lit 90, hd.o_90 P) ::
  (nat_lit 91, hd.o_91 P) ::
  (nat_lit 92, hd.o_92 P) ::
  (nat_lit 93, hd.o_93 P) ::
  (nat_lit 94, hd.o_94 P) ::
  (nat_lit 95, hd.o_95 P) ::
  (nat_lit 96, hd.o_96 P) ::
  (nat_lit 97, hd.o_97 P) ::
  (nat_lit 98, hd.o_98 P) ::
  (nat_lit 99, hd.o_99 P) ::
  (nat_lit 100, hd.o_100 P) ::
  (nat_lit 101, hd.o_101 P) ::
  (nat_lit 102, hd.o_102 P) ::
  (nat_lit 103, hd.o_103 P) ::
  (nat_lit 104, hd.o_104 P) ::
  (nat_lit 105, hd.o_105 P) ::
  (nat_lit 106, hd.o_106 P) ::
  (nat_lit 107, hd.o_107 P) ::
  (nat_lit 108, hd.o_108 P) ::
  (nat_lit 109, hd.o_109 P) ::
  (nat_lit 110, hd.o_110 P) ::
  (nat_lit 111, hd.o_111 P) ::
  (nat_lit 112, hd.o_112 P) ::
  (nat_lit 113, hd.o_113 P) ::
  (nat_lit 114, hd.o_114 P) ::
  (nat_lit 115, hd.o_115 P) ::
  (nat_lit 116, hd.o_116 P) ::
  (nat_lit 117, hd.o_117 P) ::
  (nat_lit 118, hd.o_118 P) ::
  (nat_lit 119, hd.o_119 P) ::
  (nat_lit 120, hd.o_120 P) ::
  (nat_lit 121, hd.o_121 P) ::
  (nat_lit 122, hd.o_122 P) ::
  (nat_lit 123, hd.o_123 P) ::
  (nat_lit 131, setO P) ::
  (nat_lit 135, o20_135 P) ::
  (nat_lit 136, o20_136 P) ::
  (nat_lit 137, o20_137 P) ::
  (nat_lit 138, o20_138 P) ::
  (nat_lit 139, o20_139 P) ::
  (nat_lit 140, o20_140 P) ::
  (nat_lit 141, o20_141 P) ::
  (nat_lit 142, b3O) ::
  (nat_lit 181, o22_181 P) ::
  (nat_lit 182, o22_182 P) ::
  (nat_lit 183, o22_183 P) ::
  (nat_lit 184, o22_184 P) ::
  (nat_lit 185, o22_185 P) ::
  (nat_lit 186, o22_186 P) ::
  (nat_lit 187, o22_187 P) ::
  (nat_lit 188, o24_188 P) ::
  (nat_lit 189, o24_189 P) ::
  (nat_lit 190, o24_190 P) ::
  (nat_lit 191, o24_191 P) ::
  (nat_lit 192, o24_192 P) ::
  (nat_lit 193, o24_193 P) ::
  (nat_lit 194, o24_194 P) ::
  (nat_lit 195, o25_195 P) ::
  (nat_lit 196, o25_196 P) ::
  (nat_lit 197, o25_197 P) ::
  (nat_lit 198, o25_198 P) ::
  (nat_lit 199, o25_199 P) ::
  (nat_lit 200, o25_200 P) ::
  (nat_lit 201, o25_201 P) ::
  (nat_lit 202, o26_202 P) ::
  (nat_lit 203, o26_203 P) ::
  (nat_lit 204, o26_204 P) ::
  (nat_lit 205, o26_205 P) ::
  (nat_lit 206, o26_206 P) ::
  []
abbrev KAs : List Nat := [0, 1, 2, 3, 4, 5, 6, 7, 8, 9, 10, 11, 12, 13, 14, 15, 22, 23, 24, 25, 28, 35, 36, 37, 40, 41, 42, 43, 44, 45, 46, 47, 48, 49, 50, 51, 52, 53, 54, 55, 56, 57, 58, 59, 60, 61, 62, 63, 64, 65, 66, 67, 68, 69, 70, 71, 72, 73, 74, 75, 76, 77, 78, 79, 80, 81, 82, 83, 84, 85, 86, 87, 88, 89, 90, 91, 92, 93, 94, 95, 96, 97, 98, 99, 100, 101, 102, 103, 104, 105, 106, 107, 108, 109, 110, 111, 112, 113, 114, 115, 116, 117, 118, 119, 120, 121, 122, 123, 131, 135, 136, 137, 138, 139, 140, 141, 142, 181, 182, 183, 184, 185, 186, 187, 188, 189, 190, 191, 192, 193, 194, 195, 196, 197, 198, 199, 200, 201, 202, 203, 204, 205, 206]
end Mine
end
section
open PySem PySem.W PyProof.Rows
namespace Mine
def vq : Program := view PySem.Challenge.pw_wr0048_01 [1, 2, 3, 5, 6, 8, 9, 10, 11, 12, 13, 14, 15, 16, 17, 19, 20, 21, 22, 24, 25, 26]
abbrev lse : List Str := looseW vq [Str.ofString "b1_set", Str.ofString "b3_exceptions"]
end Mine
end
section
open PySem PySem.Spec PySem.Calls PyProof.Rows PySem.W
namespace Mine
abbrev Ctr (w : World) (mean : ExcName → Option Value) (mg mb : Str → Option Value) (f : Addr) (news : List (Addr × Obj)) (pre : Prop) (vs : List Value) (R : Tok → Value) : Prop :=
  ∀ (dp un : Nat) (gd : Option (List Code)) (cn : Str) (cs : Scope) (a : Addr) (ccd : Value) (cl : List (Str × Addr)) (outer : List Env) (A₀ : Around) (base h₀ : Heap) (L : Addr) (m : Str → Option Value) (s : Shared) (Q E : Value → Shared → Prop),
    Below A₀ base outer h₀ → Fr h₀ L s.heap m → (K w.params).In h₀ → News h₀ L s.heap news → Top vq lse mean mg mb h₀ → cs.kind = .function →
    pre → dp + 5 < recursionLimit → un + 40 < cLine → CbRet h₀ L m news s Q R →
      wpAny (model PySem.Challenge.rw_wr0048_01.row.prog w) (ktrTop dp un gd cn cs L a ccd cl outer) (call (.ref f) vs) Q E s
def Stop (P : Prop) : Prop := P
theorem stop_of {P : Prop} (h : Stop P) : P := h
theorem stop_go {P : Prop} (h : P) : Stop P := h
theorem stop_post {α : Type} {M : Model} {A : Around} {t : Sem α} {Q : α → Shared → Prop} {E : Value → Shared → Prop} {s : Shared} (h : wpAny M A t (fun a s' => Stop (Q a s')) E s) : wpAny M A t Q E s := h
theorem fr_eq {h₀ h : Heap} {L : Addr} {m m' : Str → Option Value} (F : Fr h₀ L h m) (e : ∀ y, m y = m' y) : Fr h₀ L h m' := by
  have : m = m' := funext e
  rw [← this]; exact F
theorem ne_true {x y : Str} (h : x = y) (h2 : (x != y) = true) : False := by rw [h] at h2; simp at h2
theorem ne_false {x y : Str} (h : x ≠ y) (h2 : (x != y) = false) : False := by simp at h2; exact h h2
end Mine
end
section
open PySem PySem.Spec PySem.Calls PyProof.Rows PySem.W
namespace Mine
noncomputable def goL : List Nat → List Nat
  | [] => []
  | c :: r => if c = 34 then (match r with | d :: r' => if d = 34 then 34 :: goL r' else [] | [] => []) else c :: goL r
noncomputable def pf (x : Str) : Str := if Txt.slice x (some 3) (some 5) = Str.ofString " \"" then ⟨(goL (x.cps.toList.drop 5)).toArray⟩ else Str.ofString ""
noncomputable def PInv (x d : Str) (i : Int) : Prop := 5 ≤ i ∧ i ≤ (x.length : Int) ∧ (d.length : Int) ≤ i ∧ d.cps.toList ++ goL (x.cps.toList.drop i.toNat) = goL (x.cps.toList.drop 5)
theorem slice35 {x : Str} (h : (Txt.slice x (some 3) (some 5)).length = 2) : 5 ≤ x.length := by
  unfold Txt.slice at h
  split at h
  · rename_i hh
    simp only [beq_self_eq_true, Bool.true_and, beq_iff_eq] at hh
    unfold PySem.Builtin.Str.strSliceIndices PySem.sliceRange at hh
    simp only [show (1 : Int) > 0 by decide, if_true, List.length_map, List.length_range] at hh
    rw [h] at hh
    exfalso
    revert hh
    simp only [show ¬ ((3 : Int) < 0) by decide, show ¬ ((5 : Int) < 0) by decide, if_false]
    intro hh
    split at hh <;> omega
  · have h2 : ((PySem.Builtin.Str.strSliceIndices (some 3) (some 5) 1 x.length).filterMap (x.cps[·]?)).toArray.size = 2 := h
    rw [List.size_toArray] at h2
    have h3 := List.length_filterMap_le (x.cps[·]?) (PySem.Builtin.Str.strSliceIndices (some 3) (some 5) 1 x.length)
    rw [h2] at h3
    unfold PySem.Builtin.Str.strSliceIndices PySem.sliceRange at h3
    simp only [show (1 : Int) > 0 by decide, if_true, List.length_map, List.length_range, show ¬ ((3 : Int) < 0) by decide, show ¬ ((5 : Int) < 0) by decide, if_false] at h3
    split at h3 <;> omega
theorem pinv_start {x : Str} {d : Str} (e : (Txt.slice x (some 3) (some 5) != Str.ofString " \"") = false) (hd : d = Str.ofString "") : PInv x d 5 := by
  have e' : Txt.slice x (some 3) (some 5) = Str.ofString " \"" := by simpa using e
  have h := slice35 (x := x) (by rw [e']; decide)
  subst hd
  refine ⟨by decide, by omega, by decide, ?_⟩
  rw [show (Str.ofString "").cps.toList = [] from by decide]
  rfl
theorem item_eq {x : Str} {i : Int} (h0 : 0 ≤ i) (h1 : i < (x.length : Int)) : ∃ c, Txt.item x i = ⟨#[c]⟩ ∧ x.cps.toList.drop i.toNat = c :: x.cps.toList.drop (i.toNat + 1) := by
  have hl : i.toNat < x.cps.toList.length := by
    have : x.length = x.cps.toList.length := by simp [Str.length]
    omega
  refine ⟨x.cps.toList[i.toNat], ?_, List.drop_eq_getElem_cons hl⟩
  unfold Txt.item Txt.charAt
  have e : seqIndex? i x.length = some i.toNat := by
    unfold seqIndex?
    simp only [show ¬ i < 0 by omega, if_false]
    simp [h0, h1]
  rw [e]
  simp only [Option.bind_some]
  have : x.cps[i.toNat]? = some x.cps.toList[i.toNat] := by
    rw [← Array.getElem?_toList, List.getElem?_eq_getElem hl]
  rw [this]; rfl
theorem quote_is : Str.ofString "\"" = ⟨#[34]⟩ := by decide +kernel
theorem one_eq {c d : Nat} (h : (⟨#[c]⟩ : Str) = ⟨#[d]⟩) : c = d := by
  have := congrArg (fun s : Str => s.cps.toList) h
  simpa using this
theorem goL_qq (r : List Nat) : goL (34 :: 34 :: r) = 34 :: goL r := by simp [goL]
theorem goL_other {c : Nat} (h : c ≠ 34) (r : List Nat) : goL (c :: r) = c :: goL r := by rw [goL.eq_def]; simp [h]
theorem goL_q {d : Nat} (h : d ≠ 34) (r : List Nat) : goL (34 :: d :: r) = [] := by simp [goL, h]
theorem goL_end : goL [34] = [] := by simp [goL]
theorem app_list (d : Str) (c : Nat) : (d ++ (⟨#[c]⟩ : Str)).cps.toList = d.cps.toList ++ [c] := by rw [Str.cps_append]; simp
theorem pinv_t1 {x d : Str} {i : Int} (h : PInv x d i) (hlt : i < (x.length : Int)) (e1 : (Txt.item x i == Str.ofString "\"") = true) (e2 : ¬ (x.length : Int) ≤ i + 1) (e3 : (Txt.item x (i + 1) != Str.ofString "\"") = false) : PInv x (d ++ Txt.item x i) (i + 1 + 1) := by
  obtain ⟨h1, h2, h3, h4⟩ := h
  obtain ⟨c, hc, hd⟩ := item_eq (x := x) (i := i) (by omega) hlt
  obtain ⟨c', hc', hd'⟩ := item_eq (x := x) (i := i + 1) (by omega) (by omega)
  rw [hc, quote_is] at e1
  rw [hc', quote_is] at e3
  have q1 : c = 34 := one_eq (by simpa using e1)
  have q2 : c' = 34 := one_eq (by simpa using e3)
  subst q1; subst q2
  rw [hc]
  refine ⟨by omega, by omega, ?_, ?_⟩
  · rw [Str.length_append]; simp [Str.length] at h3 ⊢; omega
  · rw [app_list, ← h4, hd, show i.toNat + 1 = (i + 1).toNat by omega, hd', goL_qq, show (i + 1).toNat + 1 = (i + 1 + 1).toNat by omega]
    simp
theorem pinv_t2 {x d : Str} {i : Int} (h : PInv x d i) (hlt : i < (x.length : Int)) (e1 : (Txt.item x i == Str.ofString "\"") = false) : PInv x (d ++ Txt.item x i) (i + 1) := by
  obtain ⟨h1, h2, h3, h4⟩ := h
  obtain ⟨c, hc, hd⟩ := item_eq (x := x) (i := i) (by omega) hlt
  rw [hc, quote_is] at e1
  have q1 : c ≠ 34 := by rintro rfl; simp at e1
  rw [hc]
  refine ⟨by omega, by omega, ?_, ?_⟩
  · rw [Str.length_append]; simp [Str.length] at h3 ⊢; omega
  · rw [app_list, ← h4, hd, goL_other q1, show i.toNat + 1 = (i + 1).toNat by omega]
    simp
theorem pf_of {x d : Str} (e : (Txt.slice x (some 3) (some 5) != Str.ofString " \"") = false) (h : d.cps.toList = goL (x.cps.toList.drop 5)) : d = pf x := by
  have e' : Txt.slice x (some 3) (some 5) = Str.ofString " \"" := by simpa using e
  unfold pf
  rw [if_pos e', ← h]
theorem pf_no {x : Str} (e : (Txt.slice x (some 3) (some 5) != Str.ofString " \"") = true) : Str.ofString "" = pf x := by
  unfold pf
  rw [if_neg (by simpa using e)]
theorem pf_b1 {x d : Str} {i : Int} (e : (Txt.slice x (some 3) (some 5) != Str.ofString " \"") = false) (h : PInv x d i) (hlt : i < (x.length : Int)) (e1 : (Txt.item x i == Str.ofString "\"") = true) (e2 : (x.length : Int) ≤ i + 1) : d = pf x := by
  obtain ⟨h1, h2, h3, h4⟩ := h
  obtain ⟨c, hc, hd⟩ := item_eq (x := x) (i := i) (by omega) hlt
  rw [hc, quote_is] at e1
  have q1 : c = 34 := one_eq (by simpa using e1)
  subst q1
  refine pf_of e ?_
  rw [← h4, hd, List.drop_eq_nil_of_le (by simp [Str.length] at h2 e2 hlt ⊢; omega), goL_end]; simp
theorem pf_b2 {x d : Str} {i : Int} (e : (Txt.slice x (some 3) (some 5) != Str.ofString " \"") = false) (h : PInv x d i) (hlt : i < (x.length : Int)) (e1 : (Txt.item x i == Str.ofString "\"") = true) (e2 : ¬ (x.length : Int) ≤ i + 1) (e3 : (Txt.item x (i + 1) != Str.ofString "\"") = true) : d = pf x := by
  obtain ⟨h1, h2, h3, h4⟩ := h
  obtain ⟨c, hc, hd⟩ := item_eq (x := x) (i := i) (by omega) hlt
  obtain ⟨c', hc', hd'⟩ := item_eq (x := x) (i := i + 1) (by omega) (by omega)
  rw [hc, quote_is] at e1
  rw [hc', quote_is] at e3
  have q1 : c = 34 := one_eq (by simpa using e1)
  have q2 : c' ≠ 34 := by rintro rfl; simp at e3
  subst q1
  refine pf_of e ?_
  rw [← h4, hd, show i.toNat + 1 = (i + 1).toNat by omega, hd', goL_q q2]; simp
theorem pf_x {x d : Str} {i : Int} (e : (Txt.slice x (some 3) (some 5) != Str.ofString " \"") = false) (h : PInv x d i) (hlt : ¬ i < (x.length : Int)) : d = pf x := by
  obtain ⟨h1, h2, h3, h4⟩ := h
  refine pf_of e ?_
  rw [← h4, List.drop_eq_nil_of_le (by simp [Str.length] at h2 hlt ⊢; omega)]; simp [goL]
end Mine
end
section
open PySem PySem.Spec PySem.Calls PyProof.Rows PySem.W
namespace Mine
theorem no257 {x y : Str} (h : x = y) (h2 : (x != y) = true) : False := by rw [h] at h2; simp at h2
local macro_rules | `(tactic| walk_at "exec While Compare cons nil") => `(tactic| (refine stop_of ?_))
set_option maxRecDepth 100000 in
set_option maxHeartbeats 8000000 in
theorem c_parse (w : World) (mean : ExcName → Option Value) (mg mb : Str → Option Value) : ∀ (news : List (Addr × Obj)) (a : Str) (ta : Tok), Ctr w mean mg mb 46 news (a.length ≤ 200 ∧ Txt.slice a none (some 3) = Str.ofString "257") [.str a ta] (fun t => .str (pf a) t) := by
  dsimp only [Ctr, CbRet]
  k_fill
  k_with_none
  intros; rename_i hret
  rename_i hpre _ _
  refine wpAny_call ?_
  k_dflt cell_enter
  k_steps
  · exact (no257 hpre.2 (by assumption)).elim
  · exact cb_retS hret (pf_no (by assumption)) (by k_asm) (by k_asm)
  · refine stop_go ?_
    k_with "state" => (first | exact pinv_start (by assumption) rfl | exact pinv_t1 (by assumption) (by assumption) (by assumption) (by assumption) (by assumption) | exact pinv_t2 (by assumption) (by assumption) (by assumption))
    k_while_given ["resp"] (fun resp (_ : List Int) d i => PInv resp d i) (fun resp (_ : List Int) d i => ((resp.length : Int) - i).toNat) "dirname" "i"
    have hInv := kInv
    obtain ⟨hi1, hi2, hi3, hi4⟩ := kInv
    k_steps
    · exact cb_retS hret (pf_b1 (by assumption) hInv (by assumption) (by assumption) (by assumption)) (by k_asm) (by k_asm)
    · exact cb_retS hret (pf_b2 (by assumption) hInv (by assumption) (by assumption) (by assumption) (by assumption)) (by k_asm) (by k_asm)
    · exact cb_retS hret (pf_x (by assumption) hInv (by assumption)) (by k_asm) (by k_asm)
end Mine
end
section
open PySem PySem.Spec PySem.Calls PyProof.Rows PySem.W
namespace Mine

set_option maxRecDepth 100000 in
set_option maxHeartbeats 8000000 in
theorem c_add (w : World) (mean : ExcName → Option Value) (mg mb : Str → Option Value) : ∀ (news : List (Addr × Obj)) (a : Int) (ta : Tok) (b : Int) (tb : Tok), Ctr w mean mg mb 60 news (True) [.int a ta, .int b tb] (fun t => .int (a + b) t) := by
  dsimp only [Ctr, CbRet]
  k_fill
  k_with_none
  intros; rename_i hret
  rename_i hpre _ _
  refine wpAny_call ?_
  k_dflt cell_enter
  k_steps
  all_goals exact cb_retI hret rfl (by k_asm) (by k_asm)


set_option maxRecDepth 100000 in
set_option maxHeartbeats 8000000 in
theorem c_mul (w : World) (mean : ExcName → Option Value) (mg mb : Str → Option Value) : ∀ (news : List (Addr × Obj)) (a : Int) (ta : Tok) (b : Int) (tb : Tok), Ctr w mean mg mb 88 news (-9223372036854775808 < b ∧ b < 9223372036854775808) [.int a ta, .int b tb] (fun t => .int (a * b) t) := by
  dsimp only [Ctr, CbRet]
  k_fill
  k_with_none
  intros; rename_i hret
  rename_i hpre _ _
  refine wpAny_call ?_
  k_dflt cell_enter
  k_steps
  all_goals exact cb_retI hret rfl (by k_asm) (by k_asm)


set_option maxRecDepth 100000 in
set_option maxHeartbeats 8000000 in
theorem c_sub (w : World) (mean : ExcName → Option Value) (mg mb : Str → Option Value) : ∀ (news : List (Addr × Obj)) (a : Int) (ta : Tok) (b : Int) (tb : Tok), Ctr w mean mg mb 102 news (True) [.int a ta, .int b tb] (fun t => .int (a - b) t) := by
  dsimp only [Ctr, CbRet]
  k_fill
  k_with_none
  intros; rename_i hret
  rename_i hpre _ _
  refine wpAny_call ?_
  k_dflt cell_enter
  k_steps
  all_goals exact cb_retI hret rfl (by k_asm) (by k_asm)


set_option maxRecDepth 100000 in
set_option maxHeartbeats 8000000 in
theorem c_and_ (w : World) (mean : ExcName → Option Value) (mg mb : Str → Option Value) : ∀ (news : List (Addr × Obj)) (a : Int) (ta : Tok) (b : Int) (tb : Tok), Ctr w mean mg mb 67 news (0 ≤ a ∧ 0 ≤ b) [.int a ta, .int b tb] (fun t => .int (Builtin.bitAnd a b) t) := by
  dsimp only [Ctr, CbRet]
  k_fill
  k_with_none
  intros; rename_i hret
  rename_i hpre _ _
  refine wpAny_call ?_
  k_dflt cell_enter
  k_steps
  all_goals exact cb_retI hret rfl (by k_asm) (by k_asm)


set_option maxRecDepth 100000 in
set_option maxHeartbeats 8000000 in
theorem c_floordiv (w : World) (mean : ExcName → Option Value) (mg mb : Str → Option Value) : ∀ (news : List (Addr × Obj)) (a : Int) (ta : Tok) (b : Int) (tb : Tok), Ctr w mean mg mb 74 news (0 < b ∧ b < 1000000) [.int a ta, .int b tb] (fun t => .int (a.fdiv b) t) := by
  dsimp only [Ctr, CbRet]
  k_fill
  k_with_none
  intros; rename_i hret
  rename_i hpre _ _
  refine wpAny_call ?_
  k_dflt cell_enter
  k_steps
  all_goals exact cb_retI hret rfl (by k_asm) (by k_asm)


set_option maxRecDepth 100000 in
set_option maxHeartbeats 8000000 in
theorem c_lshift (w : World) (mean : ExcName → Option Value) (mg mb : Str → Option Value) : ∀ (news : List (Addr × Obj)) (a : Int) (ta : Tok) (b : Int) (tb : Tok), Ctr w mean mg mb 81 news (0 ≤ a ∧ 0 ≤ b ∧ a < 18446744073709551616 ∧ b < 200) [.int a ta, .int b tb] (fun t => .int (a * 2 ^ b.toNat) t) := by
  dsimp only [Ctr, CbRet]
  k_fill
  k_with_none
  intros; rename_i hret
  rename_i hpre _ _
  refine wpAny_call ?_
  k_dflt cell_enter
  k_steps
  all_goals exact cb_retI hret rfl (by k_asm) (by k_asm)


set_option maxRecDepth 100000 in
set_option maxHeartbeats 8000000 in
theorem c_rshift (w : World) (mean : ExcName → Option Value) (mg mb : Str → Option Value) : ∀ (news : List (Addr × Obj)) (a : Int) (ta : Tok) (b : Int) (tb : Tok), Ctr w mean mg mb 95 news (0 ≤ a ∧ 0 ≤ b ∧ b < 200) [.int a ta, .int b tb] (fun t => .int (a.fdiv (2 ^ b.toNat)) t) := by
  dsimp only [Ctr, CbRet]
  k_fill
  k_with_none
  intros; rename_i hret
  rename_i hpre _ _
  refine wpAny_call ?_
  k_dflt cell_enter
  k_steps
  all_goals exact cb_retI hret rfl (by k_asm) (by k_asm)


set_option maxRecDepth 100000 in
set_option maxHeartbeats 8000000 in
theorem c_xor (w : World) (mean : ExcName → Option Value) (mg mb : Str → Option Value) : ∀ (news : List (Addr × Obj)) (a : Int) (ta : Tok) (b : Int) (tb : Tok), Ctr w mean mg mb 109 news (0 ≤ a ∧ 0 ≤ b) [.int a ta, .int b tb] (fun t => .int (Builtin.bitXor a b) t) := by
  dsimp only [Ctr, CbRet]
  k_fill
  k_with_none
  intros; rename_i hret
  rename_i hpre _ _
  refine wpAny_call ?_
  k_dflt cell_enter
  k_steps
  all_goals exact cb_retI hret rfl (by k_asm) (by k_asm)


set_option maxRecDepth 100000 in
set_option maxHeartbeats 8000000 in
theorem c_contains (w : World) (mean : ExcName → Option Value) (mg mb : Str → Option Value) : ∀ (news : List (Addr × Obj)) (a : Str) (ta : Tok) (b : Str) (tb : Tok), Ctr w mean mg mb 116 news (a.length ≤ 200 ∧ b.length ≤ 200) [.str a ta, .str b tb] (fun _ => .bool (!(Builtin.Str.occurrences a b 0 a.length 1).isEmpty)) := by
  dsimp only [Ctr, CbRet]
  k_fill
  k_with_none
  intros; rename_i hret
  rename_i hpre _ _
  refine wpAny_call ?_
  k_dflt cell_enter
  k_steps
  all_goals exact cb_retB hret rfl (by k_asm) (by k_asm)

end Mine
end
section
open PySem PySem.Spec PySem.Calls PyProof.Rows PySem.W
namespace Mine
noncomputable def b1S (k : Int) : Bool := b1es.any fun e => Value.isInt k e.2
noncomputable def elemOk (e : Int × Value) : Bool := match e.2 with
  | .int k _ => decide (e.1 = hashInt k)
  | _ => false
theorem elems_ok {prog : Program} {w : World} {es : List (Int × Value)} (h : es.all elemOk = true) : ElemsOf (intKind prog w) es := by
  intro e he
  have := List.all_eq_true.mp h e he
  unfold elemOk at this
  split at this
  · rename_i k t hk
    rw [hk]
    exact ⟨⟨k, by show Value.isInt k (.int k t) = true; simp [Value.isInt], of_decide_eq_true this⟩, rfl⟩
  · cases this
theorem set131 {prog : Program} {w : World} {P : Params} {h : Heap} (X : h.get? 131 = some (setO P)) : h.SetOf (intKind prog w) 131 b1S 27 := by
  refine ⟨_, b1es.toArray, 29, _, X, ⟨rfl, rfl, rfl⟩, rfl, elems_ok (by decide +kernel), fun k => ?_, by decide +kernel, rfl, rfl⟩
  show b1es.any (fun e => Value.isInt k e.2) = true ↔ _
  rw [List.any_eq_true]
  rfl
theorem k131 (P : Params) : (K P).lookup 131 = some (setO P) := by kernel_rfl
theorem in131 {prog : Program} {w : World} {A : Around} {E : Value → Shared → Prop} {s : Shared} {g : Heap} {L : Addr} {m : Str → Option Value} {k : Int} {t : Tok} {Q : Value → Shared → Prop} (F : Fr g L s.heap m) (X : (K w.params).In g)
    (h : Q (.bool (b1S k)) { s with toks := s.toks + 1 }) : wpAny (model prog w) A (compareOp .In (.int k t) (.ref 131)) Q E s :=
  wpAny_inSet_of (knd := intKind prog w) (k := k) (by show Value.isInt k (.int k t) = true; simp [Value.isInt]) rfl (set131 (P := w.params) (F.keep _ _ (X _ _ (k131 _)))) h
noncomputable def entOk (e : DictEntry) : Bool := match e.key with
  | .int k _ => decide (e.hash = hashInt k)
  | _ => false
theorem keys_ok {prog : Program} {w : World} {es : List DictEntry} (h : es.all entOk = true) : KeysOf (intKind prog w) es.toArray := by
  intro e he
  have := List.all_eq_true.mp h e (by simpa using he)
  unfold entOk at this
  split at this
  · rename_i k t hk
    exact ⟨k, by rw [hk]; show Value.isInt k (.int k t) = true; simp [Value.isInt], of_decide_eq_true this⟩
  · cases this
noncomputable def b3f (k : Int) : Option Value := (b3es.find? fun e => Value.isInt k e.key).map (·.val)
theorem b3f_eq (k : Int) : b3f k = findBy Value.isInt b3es.toArray k := by
  unfold findBy b3f
  rw [List.find?_toArray]
set_option maxRecDepth 100000 in
theorem b3ok : b3es.all entOk = true := by decide +kernel
set_option maxRecDepth 100000 in
theorem map142 {prog : Program} {w : World} {h : Heap} (X : h.get? 142 = some b3O) : h.MapOf (intKind prog w) 142 b3f :=
  ⟨_, b3es.toArray, 650, X, ⟨rfl, rfl, rfl⟩, rfl, keys_ok b3ok, fun k => (b3f_eq k).symm⟩
theorem k142 (P : Params) : (K P).lookup 142 = some b3O := by kernel_rfl
theorem getm142 {prog : Program} {w : World} {A : Around} {E : Value → Shared → Prop} {s : Shared} {g : Heap} {L : Addr} {m : Str → Option Value} {pl : Sem Bool} {Q : Value × List Value → Shared → Prop} (F : Fr g L s.heap m) (X : (K w.params).In g)
    (h : Q (.builtin "dict.get", [.ref 142]) s) : wpAny (model prog w) A (getMethod (.ref 142) (Str.ofString "get") pl) Q E s :=
  getMethod_builtin (v := .ref 142) ⟨b3O, F.keep _ _ (X _ _ (k142 _)), rfl⟩ PySem.F.plainAttrs_dict PySem.F.slot_dict_get PySem.F.type_dict_get (fun a e => by cases e; exact ⟨_, F.keep _ _ (X _ _ (k142 _)), rfl⟩) h
theorem get142 {prog : Program} {w : World} {A : Around} {E : Value → Shared → Prop} {s : Shared} {g : Heap} {L : Addr} {m : Str → Option Value} {k : Int} {t : Tok} {Q : Value → Shared → Prop} (F : Fr g L s.heap m) (X : (K w.params).In g)
    (h : Q ((b3f k).getD .none) { s with toks := s.toks + 1 }) : wpAny (model prog w) A (call (.builtin "dict.get") [.ref 142, .int k t]) Q E s :=
  have M := map142 (prog := prog) (w := w) (F.keep _ _ (X _ _ (k142 _)))
  call_meetsIn PySem.F.slot_dict_get (self := .ref 142) ⟨b3O, F.keep _ _ (X _ _ (k142 _)), rfl⟩ PySem.F.entry_dict_get (PySem.F.args_dict_get_2 _ _) (meets_dict_get (intKind prog w) 142 (k := k) (by show Value.isInt k (.int k t) = true; simp [Value.isInt]) rfl) ⟨_, M, h⟩
noncomputable def isStrV : Value → Bool
  | .str _ _ => true
  | _ => false
noncomputable def b3x (k : Int) : Option Str := match b3f k with
  | some (.str x _) => some x
  | _ => none
set_option maxRecDepth 100000 in
theorem b3vals : b3es.all (fun e => isStrV e.val) = true := by decide +kernel
theorem findBy_mem {K : Type} {p : K → Value → Bool} {es : Array DictEntry} {k : K} {v : Value} (h : findBy p es k = some v) : ∃ e ∈ es.toList, e.val = v := by
  unfold findBy at h
  first
    | (obtain ⟨e, he, rfl⟩ := Option.map_eq_some_iff.mp h
       exact ⟨e, by simpa using Array.mem_of_find?_eq_some he, rfl⟩)
    | skip
theorem b3_cases (k : Int) : (b3f k = none ∧ b3x k = none) ∨ ∃ x t, b3f k = some (.str x t) ∧ b3x k = some x := by
  unfold b3x
  cases h : b3f k with
  | none => exact .inl ⟨rfl, rfl⟩
  | some v =>
    obtain ⟨e, he, hv⟩ := findBy_mem ((b3f_eq k).symm.trans h)
    have := List.all_eq_true.mp b3vals e (by simpa using he)
    rw [hv] at this
    cases v <;> first | (simp [isStrV] at this; done) | skip
    exact .inr ⟨_, _, rfl, rfl⟩
theorem get142' {prog : Program} {w : World} {A : Around} {E : Value → Shared → Prop} {s : Shared} {g : Heap} {L : Addr} {m : Str → Option Value} {k : Int} {t : Tok} {Q : Value → Shared → Prop} (F : Fr g L s.heap m) (X : (K w.params).In g)
    (h1 : b3x k = none → Q .none { s with toks := s.toks + 1 }) (h2 : ∀ x u, b3x k = some x → Q (.str x u) { s with toks := s.toks + 1 }) : wpAny (model prog w) A (call (.builtin "dict.get") [.ref 142, .int k t]) Q E s := by
  refine get142 F X ?_
  rcases b3_cases k with ⟨e1, e2⟩ | ⟨x, u, e1, e2⟩
  · rw [e1]; exact h1 e2
  · rw [e1]; exact h2 x u e2
noncomputable def mapF (c : Nat) : Str := match b3x c with
  | some x => x
  | none => Txt.lower ⟨#[c]⟩
theorem map_none {c : Nat} (h : b3x c = none) : Txt.lower ⟨#[c]⟩ = mapF c := by unfold mapF; rw [h]
theorem map_some {c : Nat} {x : Str} (h : b3x c = some x) : x = mapF c := by unfold mapF; rw [h]
local macro_rules | `(tactic| walk_at "compareOp In int ref") => `(tactic| (k_here; k_dflt (refine' in131 ?F ?X ?_; (case F => k_asm); (case X => k_asm); k_whole); try dsimp only))
local macro_rules | `(tactic| walk_at "getMethod ref") => `(tactic| (k_here; k_dflt (refine' getm142 ?F ?X ?_; (case F => k_asm); (case X => k_asm); k_whole); try dsimp only))
local macro_rules | `(tactic| walk_at "call builtin:dict.get") => `(tactic| (k_here; k_dflt (refine' get142' ?F ?X ?_ ?_; (case F => k_asm); (case X => k_asm)); (first | (intro _ _ _; done) | intro _ | skip); try dsimp only))
local macro_rules | `(tactic| walk_at "call builtin:str.lower") => `(tactic| ((try dsimp only); (with_reducible show wpAny _ _ (call (Value.builtin "str.lower") [Value.str (PySem.Str.mk (List.toArray [_])) _]) _ _ _); refine SCL.lower (by show (1 : Nat) ≤ _; decide) ?_; intro _; try dsimp only))
set_option maxRecDepth 100000 in
set_option maxHeartbeats 8000000 in
theorem c_inb1 (w : World) (mean : ExcName → Option Value) (mg mb : Str → Option Value) : ∀ (news : List (Addr × Obj)) (c : Nat) (ta : Tok), Ctr w mean mg mb 141 news (c < 1114112) [.str ⟨#[c]⟩ ta] (fun _ => .bool (b1S c)) := by
  dsimp only [Ctr, CbRet]
  k_fill
  k_with_none
  intros; rename_i hret
  rename_i hpre _ _
  refine wpAny_call ?_
  k_dflt cell_enter
  k_steps
  all_goals exact cb_retB hret rfl (by k_asm) (by k_asm)
set_option maxRecDepth 100000 in
set_option maxHeartbeats 8000000 in
theorem c_map (w : World) (mean : ExcName → Option Value) (mg mb : Str → Option Value) : ∀ (news : List (Addr × Obj)) (c : Nat) (ta : Tok), Ctr w mean mg mb 187 news (c < 1114112) [.str ⟨#[c]⟩ ta] (fun t => .str (mapF c) t) := by
  dsimp only [Ctr, CbRet]
  k_fill
  k_with_none
  intros; rename_i hret
  rename_i hpre _ _
  refine wpAny_call ?_
  k_dflt cell_enter
  k_steps
  · exact cb_retS hret (map_none (by assumption)) (by k_asm) (by k_asm)
  · exact cb_retS hret (map_some (by assumption)) (by k_asm) (by k_asm)
end Mine
end
section
open PySem PySem.Spec PySem.Calls PyProof.Rows PySem.W
namespace Mine
theorem ints_of_carried : ∀ {vs : List Value} {ns : List Int}, CarriedAll vs (ns.map PyData.int) → IntsAre vs ns := by
  intro vs ns h
  induction ns generalizing vs with
  | nil => cases h; exact .nil
  | cons n r ih =>
    simp only [List.map_cons] at h
    cases h with
    | cons h1 h2 =>
      cases h1
      exact .cons _ _ (ih h2)
noncomputable def hid : List Int := [173, 847, 6150, 6155, 6156, 6157, 8203, 8204, 8205, 8288, 65279, 65024, 65025, 65026, 65027, 65028, 65029, 65030, 65031, 65032, 65033, 65034, 65035, 65036, 65037, 65038, 65039]
noncomputable def alph : List Int := [0, 1, 2, 4, 7, 8, 9, 10, 11, 12]
theorem getD_bound {l : List Int} {lo hi : Int} (h : ∀ x ∈ l, lo ≤ x ∧ x ≤ hi) (h0 : lo ≤ 0 ∧ 0 ≤ hi) (k : Nat) : lo ≤ l.getD k 0 ∧ l.getD k 0 ≤ hi := by
  rw [List.getD_eq_getElem?_getD]
  cases e : l[k]? with
  | none => exact h0
  | some x => exact h x (List.mem_of_getElem? e)
theorem hid_b (k : Nat) : 0 ≤ hid.getD k 0 ∧ hid.getD k 0 ≤ 65279 := getD_bound (by decide) (by decide) k
theorem alph_b (k : Nat) : 0 ≤ alph.getD k 0 ∧ alph.getD k 0 ≤ 12 := getD_bound (by decide) (by decide) k
theorem alph_lo {a : Int} (k : Nat) (h : 0 ≤ a ∧ a < 5) : 0 ≤ 119808 + 52 * alph.getD k 0 + a := by have := alph_b k; omega
theorem alph_hi {a : Int} (k : Nat) (h : 0 ≤ a ∧ a < 5) : 119808 + 52 * alph.getD k 0 + a ≤ 1114111 := by have := alph_b k; omega
noncomputable def typA (a b : Int) : Str := ⟨#[(119808 + 52 * alph.getD (b.fmod 12).toNat 0 + a).toNat]⟩
noncomputable def typB (a b : Int) : Str := Txt.item (Str.ofString "abcdeABCDE") (a + 5 * (b.fmod 12 - 10))
noncomputable def typH (b : Int) : Str := ⟨#[(hid.getD ((b.fdiv 24).fmod 27).toNat 0).toNat]⟩
noncomputable def typF (a b : Int) : Str := (if (b.fdiv 12).fmod 2 = 0 then typH b else Str.ofString "") ++ (if b.fmod 12 < 10 then typA a b else typB a b)
theorem typ_ha {a b : Int} (h1 : b.fmod 12 < 10) (h2 : (b.fdiv 12).fmod 2 = 0) : typH b ++ typA a b = typF a b := by unfold typF; rw [if_pos h1, if_pos h2]
theorem typ_na {a b : Int} (h1 : b.fmod 12 < 10) (h2 : (b.fdiv 12).fmod 2 ≠ 0) : Str.ofString "" ++ typA a b = typF a b := by unfold typF; rw [if_pos h1, if_neg h2]
theorem typ_hb {a b : Int} (h1 : ¬ b.fmod 12 < 10) (h2 : (b.fdiv 12).fmod 2 = 0) : typH b ++ typB a b = typF a b := by unfold typF; rw [if_neg h1, if_pos h2]
theorem typ_nb {a b : Int} (h1 : ¬ b.fmod 12 < 10) (h2 : (b.fdiv 12).fmod 2 ≠ 0) : Str.ofString "" ++ typB a b = typF a b := by unfold typF; rw [if_neg h1, if_neg h2]
local macro_rules | `(tactic| walk_at "call builtin:chr") => `(tactic| (k_here; first
  | refine chr_of_range (hid_b _).1 (Int.le_trans (hid_b _).2 (by decide)) ?_
  | refine chr_of_range (alph_lo _ (by omega)) (alph_hi _ (by omega)) ?_))
local macro_rules | `(tactic| walk_at "binaryOp Add ref ref") => `(tactic| (refine stop_of ?_))
set_option maxRecDepth 100000 in
set_option maxHeartbeats 8000000 in
theorem c_typed (w : World) (mean : ExcName → Option Value) (mg mb : Str → Option Value) : ∀ (news : List (Addr × Obj)) (a : Int) (ta : Tok) (b : Int) (tb : Tok), Ctr w mean mg mb 194 news (0 ≤ a ∧ a < 5 ∧ 0 ≤ b ∧ b < 2000000) [.int a ta, .int b tb] (fun t => .str (typF a b) t) := by
  dsimp only [Ctr, CbRet]
  k_fill
  k_with_none
  intros; rename_i hret
  rename_i hpre _ _
  refine wpAny_call ?_
  k_dflt cell_enter
  k_steps
  refine stop_go ?_
  refine add_arrays_ints (ns := [173, 847, 6150, 6155, 6156, 6157, 8203, 8204, 8205, 8288, 65279]) (ms := rangeInts 65024 1 ((65040 : Int) - 65024).toNat) (by k_asm) (by k_asm) (News.isList (by k_asm) (by k_mem)) (by k_asm) (by l_intsW) (ints_of_carried (by first | assumption | (simp only [List.toArray_toList]; assumption) | (dsimp only; assumption))) (fun h' F' N' hi' => ?_) (by decide +kernel)
  rw [show ([173, 847, 6150, 6155, 6156, 6157, 8203, 8204, 8205, 8288, 65279] ++ rangeInts 65024 1 ((65040 : Int) - 65024).toNat : List Int) = hid from by decide +kernel] at hi'
  k_steps
  all_goals first
    | exact cb_retS hret (typ_ha (by assumption) (by assumption)) (by k_asm) (cb_drop (by k_asm) (by kcj_all))
    | exact cb_retS hret (typ_na (by assumption) (by assumption)) (by k_asm) (cb_drop (by k_asm) (by kcj_all))
    | exact cb_retS hret (typ_hb (by assumption) (by assumption)) (by k_asm) (cb_drop (by k_asm) (by kcj_all))
    | exact cb_retS hret (typ_nb (by assumption) (by assumption)) (by k_asm) (cb_drop (by k_asm) (by kcj_all))
end Mine
end
section
open PySem PySem.Spec PySem.Calls PyProof.Rows PySem.W
namespace Mine
theorem loopT {prog : Program} {w : World} {A : Around} {E : Value → Shared → Prop} {Q : Flow → Shared → Prop} {s : Shared} {env : Env} {h₀ : Heap} {news : List (Addr × Obj)} {m₀ : Str → Option Value} {x : Str} {px : Pos} {body : List Stmt} {xs : Str} {tx : Tok}
    (n₀ : Nat) (hh : A.handled = none) (ha : xs.cps.all (· < 128) = true) (hx : env.kindOf x = some .local) (hp : (env.scope.kind == .class || (env.scope.kind == .module && env.locals != env.globals)) = false)
    (F : Fr h₀ env.locals s.heap m₀) (N : News h₀ env.locals s.heap news) (hn : n₀ ≤ s.toks)
    (J : Nat → (Str → Option Value) → Prop) (h0 : J 0 m₀)
    (turn : ∀ i c u m₁ h tk I o, xs.cps[i]? = some c → n₀ ≤ u → J i m₁ → Fr h₀ env.locals h (fun y => if y = x then some (.str ⟨#[c]⟩ u) else m₁ y) → News h₀ env.locals h ((I, o) :: news) →
      wpAny (model prog w) A (execs body env) (fun f s₂ => match f with
        | .next | .cont => ∃ h' tk' m', s₂ = { s with heap := h', toks := tk' } ∧ Fr h₀ env.locals h' m' ∧ News h₀ env.locals h' ((I, o) :: news) ∧ J (i + 1) m'
        | .brk => Q .next s₂
        | .ret v => Q (.ret v) s₂) E { s with heap := h, toks := tk })
    (done : ∀ m₁ h tk, J xs.cps.size m₁ → Fr h₀ env.locals h m₁ → News h₀ env.locals h news → Q .next { s with heap := h, toks := tk })
    (hE : PassesOwn (model prog w) A env E := by passes_own) :
    wpAny (model prog w) A (pyIter (.str xs tx)) (fun it s₂ => codeAny (model prog w) A (.forLoop (.Name x px) it body [] env) (fun r s' => match r with | .ok f => Q f s' | .error e => cameBackBy (model prog w) A env E e s') s₂) E s := by
  refine wpAny_pyIter_ascii ha ?_
  have hI : h₀.get? s.heap.objs.size = none := next_is_new F
  have hL : s.heap.objs.size ≠ env.locals := fun e => absurd F.ns.lt (e ▸ Nat.lt_irrefl _)
  have hnw : ∀ p ∈ news, p.1 ≠ s.heap.objs.size := fun p hp e => absurd (Heap.lt_size (N p hp).1) (e ▸ Nat.lt_irrefl _)
  generalize hIe : s.heap.objs.size = I at hI hL hnw ⊢
  refine codeAny_forLoop (fun k s' => ∃ h' tk m' i, s' = { s with heap := h', toks := tk } ∧ n₀ ≤ tk ∧ h'.IsStrIter I "str_ascii_iterator" xs tx i ∧ Fr h₀ env.locals h' m' ∧ News h₀ env.locals h' news ∧ J i m' ∧ i ≤ xs.cps.size ∧ k = xs.cps.size + 1 - i) ?_ (xs.cps.size + 1)
    ⟨_, s.toks, m₀, 0, rfl, hn, ⟨_, by rw [← hIe]; exact Heap.get?_push_size _ rfl, rfl, rfl⟩, F.push _, fun p hp => ⟨Heap.get?_push_of_some _ (N p hp).1, (N p hp).2⟩, h0, Nat.zero_le _, rfl⟩
  rintro k s' ⟨h', tk, m', i, rfl, hk, hit, F', N', hJ, hi, rfl⟩
  have old : ∀ b o, h₀.get? b = some o → b ≠ I := fun b o e q => by rw [q, hI] at e; cases e
  by_cases hlt : i < xs.cps.size
  · refine wpAny_pyNext_ascii_item hit (c := xs.cps[i]) (by simp [hlt]) fun h₁ hit₁ hs₁ => ?_
    have F₁ : Fr h₀ env.locals h₁ m' := ⟨F'.ns.at' fun o e => (hs₁.2 _ (Ne.symm hL)).trans e, fun b o e => (hs₁.2 _ (old b o e)).trans (F'.keep b o e), F'.above⟩
    have N₁ : News h₀ env.locals h₁ news := fun p hp => ⟨(hs₁.2 _ (hnw p hp)).trans (N' p hp).1, (N' p hp).2⟩
    refine wpAny_assign_Name (wpAny_storeName_local hx F₁.ns (fun h₂ hn₂ hs₂ => ?_) hp)
    have F₂ := F₁.set hn₂ hs₂
    obtain ⟨oI, hoI, hcI, hdI⟩ := hit₁
    have hoI₂ : h₂.get? I = some oI := (hs₂.2 I hL).trans hoI
    have N₂ : News h₀ env.locals h₂ ((I, oI) :: news) := fun p hp => by
      rcases List.mem_cons.mp hp with rfl | hp
      · exact ⟨hoI₂, hL, hI⟩
      · exact (N₁.set hs₂) p hp
    refine wpAny_mono (wpAny_toks_of (n := n₀) (by show n₀ ≤ tk + 1 + 1; omega) (wpAny_passesOwn hE (turn i xs.cps[i] tk m' h₂ (tk + 1 + 1) I oI (by simp [hlt]) hk hJ F₂ N₂))) (fun f s₃ h₃ => ?_) fun _ _ e => e.2
    obtain ⟨ht, h₃⟩ := h₃
    cases f with
    | ret v => exact h₃
    | brk => exact h₃
    | next =>
      obtain ⟨h₄, tk₄, m₄, rfl, F₄, N₄, hJ₄⟩ := h₃
      exact ⟨xs.cps.size + 1 - (i + 1), by omega, h₄, tk₄, m₄, i + 1, rfl, ht, ⟨oI, (N₄ _ (.head _)).1, hcI, hdI⟩, F₄, fun p hp => N₄ p (.tail _ hp), hJ₄, hlt, rfl⟩
    | cont =>
      obtain ⟨h₄, tk₄, m₄, rfl, F₄, N₄, hJ₄⟩ := h₃
      exact ⟨xs.cps.size + 1 - (i + 1), by omega, h₄, tk₄, m₄, i + 1, rfl, ht, ⟨oI, (N₄ _ (.head _)).1, hcI, hdI⟩, F₄, fun p hp => N₄ p (.tail _ hp), hJ₄, hlt, rfl⟩
  · have e : i = xs.cps.size := by omega
    subst e
    refine wpAny_pyNext_ascii_end hh hit (by simp) fun h₁ he₁ => wpAny_execs_nil ?_
    have F₁ : Fr h₀ env.locals h₁ m' := ⟨F'.ns.at' fun o e => he₁ _ o (Ne.symm hL) e, fun b o e => he₁ _ o (old b o e) (F'.keep b o e), F'.above⟩
    exact done m' h₁ tk hJ F₁ fun p hp => ⟨he₁ _ _ (hnw p hp) (N' p hp).1, (N' p hp).2⟩
end Mine
end
section
open PySem PySem.Spec PySem.Calls PyProof.Rows PySem.W
namespace Mine
theorem booked (P : Params) : nsIn (K P) cStatics sharingNotToldKey = some none := by kernel_rfl
theorem notTold {M : Model} {A : Around} {E : Value → Shared → Prop} {s : Shared} {P : Params} {t : Tok} {Q : Bool → Shared → Prop} (X : (K P).In s.heap) (h : Q false s) : wpAny M A (sharingNotTold t) Q E s := by
  unfold sharingNotTold
  exact wpAny_bind (looks_nsIn X (booked P) A _ E s (fun _ _ e => e) (wpAny_pure h))
theorem is_str {M : Model} {A : Around} {E : Value → Shared → Prop} {s : Shared} {P : Params} {x y : Str} {u v : Tok} {Q : Value → Shared → Prop} (X : (K P).In s.heap) (hu : u ≠ 0) (hv : v ≠ 0) (huv : u ≠ v)
    (h : ∀ b, (b = true → x = y) → Q (.bool b) s) : wpAny M A (compareOp .Is (.str x u) (.str y v)) Q E s := by
  show wpAny _ _ (do return .bool (← isSame (.str x u) (.str y v))) Q E s
  refine wpAny_bind ?_
  show wpAny M A (isSame.created (x == y) u v) _ E s
  unfold isSame.created
  refine wpAny_ite ?_
  split
  · rename_i z; simp [hu, hv] at z
  refine wpAny_ite ?_
  split
  · rename_i z; exact absurd (by simpa using z) huv
  refine wpAny_ite ?_
  split
  · exact wpAny_pure (wpAny_pure (h _ (by intro z; cases z)))
  · rename_i z
    have e : x = y := by simpa using z
    refine wpAny_bind (notTold X ?_)
    first | rw [if_neg Bool.false_ne_true] | simp only [Bool.false_eq_true, if_false]
    refine wpAny_bind (notTold X ?_)
    first | rw [if_neg Bool.false_ne_true] | simp only [Bool.false_eq_true, if_false]
    exact wpAny_bind (wpAny_rule (wpAny_bind (wpAny_askSetting (wpAny_pure (wpAny_pure (h _ fun _ => e))))))
noncomputable def cntF (a b : Str) : Int := ((a.cps.toList.filter fun c => (⟨#[c]⟩ : Str) == b).length : Int)
noncomputable def cntU (a b : Str) (i : Nat) : Int := (((a.cps.toList.take i).filter fun c => (⟨#[c]⟩ : Str) == b).length : Int)
theorem cntU_0 (a b : Str) : cntU a b 0 = 0 := rfl
theorem cntU_end (a b : Str) : cntU a b a.cps.size = cntF a b := by
  unfold cntU cntF
  rw [List.take_of_length_le (by simp)]
theorem take_snoc {a : Str} {i c : Nat} (h : a.cps[i]? = some c) : a.cps.toList.take (i + 1) = a.cps.toList.take i ++ [c] := by
  rw [← Array.getElem?_toList] at h
  simp [List.take_add_one, h]
theorem cntU_hit {a b : Str} {i c : Nat} (h : a.cps[i]? = some c) (e : (⟨#[c]⟩ : Str) = b) : cntU a b i + 1 = cntU a b (i + 1) := by
  unfold cntU
  rw [take_snoc h, List.filter_append]
  simp [e]
theorem cntU_miss {a b : Str} {i c : Nat} (h : a.cps[i]? = some c) (e : (⟨#[c]⟩ : Str) ≠ b) : cntU a b i = cntU a b (i + 1) := by
  unfold cntU
  rw [take_snoc h, List.filter_append]
  simp [e]
theorem toks_ne {tb u n : Nat} (h0 : tb ≠ 0) (h : tb < n) (h2 : n ≤ u) : u ≠ 0 ∧ tb ≠ 0 ∧ u ≠ tb := by omega
noncomputable abbrev CtrS (w : World) (mean : ExcName → Option Value) (mg mb : Str → Option Value) (f : Addr) (news : List (Addr × Obj)) (pre : Shared → Prop) (vs : List Value) (R : Tok → Value) : Prop :=
  ∀ (dp un : Nat) (gd : Option (List Code)) (cn : Str) (cs : Scope) (a : Addr) (ccd : Value) (cl : List (Str × Addr)) (outer : List Env) (A₀ : Around) (base h₀ : Heap) (L : Addr) (m : Str → Option Value) (s : Shared) (Q E : Value → Shared → Prop),
    Below A₀ base outer h₀ → Fr h₀ L s.heap m → (K w.params).In h₀ → News h₀ L s.heap news → Top vq lse mean mg mb h₀ → cs.kind = .function →
    pre s → dp + 5 < recursionLimit → un + 40 < cLine → CbRet h₀ L m news s Q R →
      wpAny (model PySem.Challenge.rw_wr0048_01.row.prog w) (ktrTop dp un gd cn cs L a ccd cl outer) (call (.ref f) vs) Q E s
theorem or_eq {x y : Str} {b : Bool} (h : b = true → x = y) (hb : b = true) : x = y := h hb
local macro_rules | `(tactic| walk_at "execs cons") => `(tactic| ((with_reducible refine wpAny_execs_cons ?_); try dsimp only))
local macro_rules | `(tactic| walk_at "compareOp Is str str") => `(tactic| (k_here; (refine' is_str ?X ?a ?b ?c ?_); (case X => exact Frag.In.keeps (by k_asm) (Fr.keep (by k_asm))); (case a => omega); (case b => omega); (case c => omega); intro bI hbI; (try dsimp only)))
local macro_rules | `(tactic| walk_at "exec For Name Name cons nil") => `(tactic| (refine stop_of ?_))
local macro_rules | `(tactic| walk_at "exec For") => `(tactic| (refine stop_of ?_))
set_option maxRecDepth 100000 in
set_option maxHeartbeats 8000000 in
theorem c_countOf (w : World) (mean : ExcName → Option Value) (mg mb : Str → Option Value) : ∀ (news : List (Addr × Obj)) (a : Str) (ta : Tok) (b : Str) (tb : Tok), CtrS w mean mg mb 123 news (fun s => (a.length ≤ 200 ∧ a.cps.all (· < 128) = true) ∧ tb ≠ 0 ∧ tb < s.toks) [.str a ta, .str b tb] (fun t => .int (cntF a b) t) := by
  dsimp only [CtrS, CbRet]
  k_fill
  k_with_none
  intro news a ta b tb dp un gd cn cs fa ccd cl outer A₀ base h₀ L m s Q E hB hF hX hN hT hk hpre hd hu hret
  refine wpAny_call ?_
  k_dflt cell_enter
  k_steps
  refine stop_go ?_
  refine wpAny_For ?_
  walk1
  obtain ⟨⟨hp1, hp2⟩, hp3, hp4⟩ := hpre
  refine loopT (n₀ := s.toks) rfl hp2 (by rfl) (by rfl) (by k_asm) (by k_asm) ?hn (fun i m' => (∃ t, m' (Str.ofString "count") = some (.int (cntU a b i) t)) ∧ m' (Str.ofString "b") = some (.str b tb)) ?h0 ?turn ?done
  case hn => (try dsimp only); omega
  case h0 => exact ⟨⟨_, rfl⟩, rfl⟩
  case turn =>
    intro i c u m₁ h tk I o hc hun hJ F N
    obtain ⟨⟨t, hJ1⟩, hJ2⟩ := hJ
    have F := fr_eq (m' := fun y => if y = Str.ofString "i" then some (.str ⟨#[c]⟩ u) else if y = Str.ofString "count" then some (.int (cntU a b i) t) else if y = Str.ofString "b" then some (.str b tb) else m₁ y) F (fun y => by
      by_cases h1 : y = Str.ofString "i"
      · rw [if_pos h1, if_pos h1]
      · rw [if_neg h1, if_neg h1]
        by_cases h2 : y = Str.ofString "count"
        · rw [if_pos h2, h2, hJ1]
        · rw [if_neg h2]
          by_cases h3 : y = Str.ofString "b"
          · rw [if_pos h3, h3, hJ2]
          · rw [if_neg h3])
    refine stop_post ?_
    k_steps
    refine is_str (P := w.params) ?X (toks_ne hp3 hp4 hun).1 (toks_ne hp3 hp4 hun).2.1 (toks_ne hp3 hp4 hun).2.2 ?_
    case X => exact Frag.In.keeps (by k_asm) (Fr.keep (by k_asm))
    intro bI hbI
    try dsimp only
    k_steps
    · refine stop_go ⟨_, _, _, rfl, by k_asm, by k_asm, ⟨⟨_, congrArg (fun z => some (Value.int z _)) (cntU_hit hc (hbI (by assumption)))⟩, rfl⟩⟩
    · refine stop_go ⟨_, _, _, rfl, by k_asm, by k_asm, ⟨⟨_, congrArg (fun z => some (Value.int z _)) (cntU_hit hc (eq_of_beq (by assumption)))⟩, rfl⟩⟩
    · refine stop_go ⟨_, _, _, rfl, by k_asm, by k_asm, ⟨⟨_, congrArg (fun z => some (Value.int z _)) (cntU_miss hc (ne_of_beq_false (by assumption)))⟩, rfl⟩⟩
  case done =>
    intro m₁ h tk hJ F N
    obtain ⟨⟨t, hJ1⟩, hJ2⟩ := hJ
    have F := fr_eq (m' := fun y => if y = Str.ofString "count" then some (.int (cntF a b) t) else m₁ y) F (fun y => by
      by_cases h2 : y = Str.ofString "count"
      · rw [if_pos h2, h2, hJ1, cntU_end]
      · rw [if_neg h2])
    try dsimp only
    k_steps
    exact cb_retI hret rfl (by k_asm) (by k_asm)
end Mine
end
section
open PySem PySem.Spec PySem.Calls PyProof.Rows PySem.W
namespace Mine
theorem loopL {prog : Program} {w : World} {A : Around} {E : Value → Shared → Prop} {Q : Flow → Shared → Prop} {s : Shared} {env : Env} {h₀ : Heap} {news : List (Addr × Obj)} {m₀ : Str → Option Value} {x : Str} {px : Pos} {body : List Stmt} {l : Addr} {ol : Obj} {vs : Array Value} {nn : Nat}
    (hh : A.handled = none) (hl : (l, ol) ∈ news) (hol : ol = { cls := .type "list", data := .seq vs nn }) (hx : env.kindOf x = some .local) (hp : (env.scope.kind == .class || (env.scope.kind == .module && env.locals != env.globals)) = false)
    (F : Fr h₀ env.locals s.heap m₀) (N : News h₀ env.locals s.heap news)
    (J : Nat → (Str → Option Value) → Prop) (h0 : J 0 m₀)
    (turn : ∀ i v m₁ h tk I o, vs[i]? = some v → s.toks ≤ tk → J i m₁ → (∀ p ∈ news, p.1 < I) → Fr h₀ env.locals h (fun y => if y = x then some v else m₁ y) → News h₀ env.locals h ((I, o) :: news) →
      wpAny (model prog w) A (execs body env) (fun f s₂ => match f with
        | .next | .cont => ∃ h' tk' m', s₂ = { s with heap := h', toks := tk' } ∧ Fr h₀ env.locals h' m' ∧ News h₀ env.locals h' ((I, o) :: news) ∧ J (i + 1) m'
        | .brk => Q .next s₂
        | .ret v => Q (.ret v) s₂) E { s with heap := h, toks := tk })
    (done : ∀ m₁ h tk, s.toks ≤ tk → J vs.size m₁ → Fr h₀ env.locals h m₁ → News h₀ env.locals h news → Q .next { s with heap := h, toks := tk })
    (hE : PassesOwn (model prog w) A env E := by passes_own) :
    wpAny (model prog w) A (pyIter (.ref l)) (fun it s₂ => codeAny (model prog w) A (.forLoop (.Name x px) it body [] env) (fun r s' => match r with | .ok f => Q f s' | .error e => cameBackBy (model prog w) A env E e s') s₂) E s := by
  subst hol
  have hls : s.heap.IsList l vs := ⟨_, (N _ hl).1, rfl, nn, rfl⟩
  refine wpAny_pyIter_list hls ?_
  have hI : h₀.get? s.heap.objs.size = none := next_is_new F
  have hL : s.heap.objs.size ≠ env.locals := fun e => absurd F.ns.lt (e ▸ Nat.lt_irrefl _)
  have hlt : ∀ p ∈ news, p.1 < s.heap.objs.size := fun p hp => Heap.lt_size (N p hp).1
  have hnw : ∀ p ∈ news, p.1 ≠ s.heap.objs.size := fun p hp e => absurd (hlt p hp) (e ▸ Nat.lt_irrefl _)
  generalize hIe : s.heap.objs.size = I at hI hL hnw hlt ⊢
  refine codeAny_forLoop (fun k s' => ∃ h' tk m' i, s' = { s with heap := h', toks := tk } ∧ s.toks ≤ tk ∧ h'.IsListIter I l i ∧ Fr h₀ env.locals h' m' ∧ News h₀ env.locals h' news ∧ J i m' ∧ i ≤ vs.size ∧ k = vs.size + 1 - i) ?_ (vs.size + 1)
    ⟨_, s.toks, m₀, 0, rfl, Nat.le_refl _, ⟨_, by rw [← hIe]; exact Heap.get?_push_size _ rfl, rfl, rfl⟩, F.push _, fun p hp => ⟨Heap.get?_push_of_some _ (N p hp).1, (N p hp).2⟩, h0, Nat.zero_le _, rfl⟩
  rintro k s' ⟨h', tk, m', i, rfl, hk, hit, F', N', hJ, hi, rfl⟩
  have old : ∀ b o, h₀.get? b = some o → b ≠ I := fun b o e q => by rw [q, hI] at e; cases e
  have hls' : h'.IsList l vs := ⟨_, (N' _ hl).1, rfl, nn, rfl⟩
  by_cases hlt2 : i < vs.size
  · refine wpAny_pyNext_list_item hit hls' (x := vs[i]) (by simp [hlt2]) fun h₁ hit₁ hs₁ => ?_
    have F₁ : Fr h₀ env.locals h₁ m' := ⟨F'.ns.at' fun o e => (hs₁.2 _ (Ne.symm hL)).trans e, fun b o e => (hs₁.2 _ (old b o e)).trans (F'.keep b o e), F'.above⟩
    have N₁ : News h₀ env.locals h₁ news := fun p hp => ⟨(hs₁.2 _ (hnw p hp)).trans (N' p hp).1, (N' p hp).2⟩
    refine wpAny_assign_Name (wpAny_storeName_local hx F₁.ns (fun h₂ hn₂ hs₂ => ?_) hp)
    have F₂ := F₁.set hn₂ hs₂
    obtain ⟨oI, hoI, hcI, hdI⟩ := hit₁
    have hoI₂ : h₂.get? I = some oI := (hs₂.2 I hL).trans hoI
    have N₂ : News h₀ env.locals h₂ ((I, oI) :: news) := fun p hp => by
      rcases List.mem_cons.mp hp with rfl | hp
      · exact ⟨hoI₂, hL, hI⟩
      · exact (N₁.set hs₂) p hp
    refine wpAny_mono (wpAny_toks_of (n := s.toks) (by show s.toks ≤ tk + 1; omega) (wpAny_passesOwn hE (turn i vs[i] m' h₂ (tk + 1) I oI (by simp [hlt2]) (by omega) hJ hlt F₂ N₂))) (fun f s₃ h₃ => ?_) fun _ _ e => e.2
    obtain ⟨ht, h₃⟩ := h₃
    cases f with
    | ret v => exact h₃
    | brk => exact h₃
    | next =>
      obtain ⟨h₄, tk₄, m₄, rfl, F₄, N₄, hJ₄⟩ := h₃
      exact ⟨vs.size + 1 - (i + 1), by omega, h₄, tk₄, m₄, i + 1, rfl, ht, ⟨oI, (N₄ _ (.head _)).1, hcI, hdI⟩, F₄, fun p hp => N₄ p (.tail _ hp), hJ₄, hlt2, rfl⟩
    | cont =>
      obtain ⟨h₄, tk₄, m₄, rfl, F₄, N₄, hJ₄⟩ := h₃
      exact ⟨vs.size + 1 - (i + 1), by omega, h₄, tk₄, m₄, i + 1, rfl, ht, ⟨oI, (N₄ _ (.head _)).1, hcI, hdI⟩, F₄, fun p hp => N₄ p (.tail _ hp), hJ₄, hlt2, rfl⟩
  · have e : i = vs.size := by omega
    subst e
    refine wpAny_pyNext_list_end hh hit hls' (by simp) fun h₁ he₁ => wpAny_execs_nil ?_
    have F₁ : Fr h₀ env.locals h₁ m' := ⟨F'.ns.at' fun o e => he₁ _ o (Ne.symm hL) e, fun b o e => he₁ _ o (old b o e) (F'.keep b o e), F'.above⟩
    exact done m' h₁ tk hk hJ F₁ fun p hp => ⟨he₁ _ _ (hnw p hp) (N' p hp).1, (N' p hp).2⟩
theorem loopLT {prog : Program} {w : World} {A : Around} {E : Value → Shared → Prop} {Q : Flow → Shared → Prop} {s : Shared} {env : Env} {h₀ : Heap} {news : List (Addr × Obj)} {m₀ : Str → Option Value} {elts : List Expr} {x1 : Nat} {px : Pos} {body : List Stmt} {l : Addr} {ol : Obj} {vs : Array Value} {nn : Nat}
    (hh : A.handled = none) (hl : (l, ol) ∈ news) (hol : ol = { cls := .type "list", data := .seq vs nn }) (hv : ∀ v ∈ vs.toList, ∃ T, v = .ref T)
    (F : Fr h₀ env.locals s.heap m₀) (N : News h₀ env.locals s.heap news)
    (J : Nat → (Str → Option Value) → Prop) (h0 : J 0 m₀)
    (turn : ∀ i v m₁ h tk I o, vs[i]? = some v → s.toks ≤ tk → J i m₁ → (∀ p ∈ news, p.1 < I) → Fr h₀ env.locals h m₁ → News h₀ env.locals h ((I, o) :: news) →
      wpAny (model prog w) A (assign (.Tuple elts x1 px) env v) (fun _ s₁ => wpAny (model prog w) A (execs body env) (fun f s₂ => match f with
        | .next | .cont => ∃ h' tk' m', s₂ = { s with heap := h', toks := tk' } ∧ Fr h₀ env.locals h' m' ∧ News h₀ env.locals h' ((I, o) :: news) ∧ J (i + 1) m'
        | .brk => Q .next s₂
        | .ret v => Q (.ret v) s₂) E s₁) E { s with heap := h, toks := tk })
    (done : ∀ m₁ h tk, s.toks ≤ tk → J vs.size m₁ → Fr h₀ env.locals h m₁ → News h₀ env.locals h news → Q .next { s with heap := h, toks := tk })
    (hE : PassesOwn (model prog w) A env E := by passes_own) :
    wpAny (model prog w) A (pyIter (.ref l)) (fun it s₂ => codeAny (model prog w) A (.forLoop (.Tuple elts x1 px) it body [] env) (fun r s' => match r with | .ok f => Q f s' | .error e => cameBackBy (model prog w) A env E e s') s₂) E s := by
  subst hol
  have hls : s.heap.IsList l vs := ⟨_, (N _ hl).1, rfl, nn, rfl⟩
  refine wpAny_pyIter_list hls ?_
  have hI : h₀.get? s.heap.objs.size = none := next_is_new F
  have hL : s.heap.objs.size ≠ env.locals := fun e => absurd F.ns.lt (e ▸ Nat.lt_irrefl _)
  have hlt : ∀ p ∈ news, p.1 < s.heap.objs.size := fun p hp => Heap.lt_size (N p hp).1
  have hnw : ∀ p ∈ news, p.1 ≠ s.heap.objs.size := fun p hp e => absurd (hlt p hp) (e ▸ Nat.lt_irrefl _)
  generalize hIe : s.heap.objs.size = I at hI hL hnw hlt ⊢
  refine codeAny_forLoop_any (fun k s' => ∃ h' tk m' i, s' = { s with heap := h', toks := tk } ∧ s.toks ≤ tk ∧ h'.IsListIter I l i ∧ Fr h₀ env.locals h' m' ∧ News h₀ env.locals h' news ∧ J i m' ∧ i ≤ vs.size ∧ k = vs.size + 1 - i) ?_ (vs.size + 1)
    ⟨_, s.toks, m₀, 0, rfl, Nat.le_refl _, ⟨_, by rw [← hIe]; exact Heap.get?_push_size _ rfl, rfl, rfl⟩, F.push _, fun p hp => ⟨Heap.get?_push_of_some _ (N p hp).1, (N p hp).2⟩, h0, Nat.zero_le _, rfl⟩
  rintro k s' ⟨h', tk, m', i, rfl, hk, hit, F', N', hJ, hi, rfl⟩
  have old : ∀ b o, h₀.get? b = some o → b ≠ I := fun b o e q => by rw [q, hI] at e; cases e
  have hls' : h'.IsList l vs := ⟨_, (N' _ hl).1, rfl, nn, rfl⟩
  by_cases hlt2 : i < vs.size
  · refine wpAny_pyNext_list_item hit hls' (x := vs[i]) (by simp [hlt2]) fun h₁ hit₁ hs₁ => ?_
    have F₁ : Fr h₀ env.locals h₁ m' := ⟨F'.ns.at' fun o e => (hs₁.2 _ (Ne.symm hL)).trans e, fun b o e => (hs₁.2 _ (old b o e)).trans (F'.keep b o e), F'.above⟩
    have N₁ : News h₀ env.locals h₁ news := fun p hp => ⟨(hs₁.2 _ (hnw p hp)).trans (N' p hp).1, (N' p hp).2⟩
    obtain ⟨oI, hoI, hcI, hdI⟩ := hit₁
    have N₂ : News h₀ env.locals h₁ ((I, oI) :: news) := fun p hp => by
      rcases List.mem_cons.mp hp with rfl | hp
      · exact ⟨hoI, hL, hI⟩
      · exact N₁ p hp
    obtain ⟨T, hT⟩ := hv vs[i] (by simp)
    have tn := turn i vs[i] m' h₁ tk I oI (by simp [hlt2]) hk hJ hlt F₁ N₂
    show wpAny _ _ (letOwnedTupleGo _ _ vs[i]) _ _ _
    rw [hT] at tn ⊢
    refine wpAny_letOwnedTupleGo_listiter (i := i + 1) (l := l) ⟨oI, hoI, hcI, hdI⟩ ?_
    refine wpAny_mono (wpAny_toks_of (n := s.toks) hk (wpAny_passesOwn hE tn)) (fun _ s₂ h₂ => ?_) fun _ _ e => e.2
    obtain ⟨ht₂, h₂⟩ := h₂
    refine wpAny_mono (wpAny_toks_of (n := s.toks) ht₂ (wpAny_passesOwn hE h₂)) (fun f s₃ h₃ => ?_) fun _ _ e => e.2
    obtain ⟨ht, h₃⟩ := h₃
    cases f with
    | ret v => exact h₃
    | brk => exact h₃
    | next =>
      obtain ⟨h₄, tk₄, m₄, rfl, F₄, N₄, hJ₄⟩ := h₃
      exact ⟨vs.size + 1 - (i + 1), by omega, h₄, tk₄, m₄, i + 1, rfl, ht, ⟨oI, (N₄ _ (.head _)).1, hcI, hdI⟩, F₄, fun p hp => N₄ p (.tail _ hp), hJ₄, hlt2, rfl⟩
    | cont =>
      obtain ⟨h₄, tk₄, m₄, rfl, F₄, N₄, hJ₄⟩ := h₃
      exact ⟨vs.size + 1 - (i + 1), by omega, h₄, tk₄, m₄, i + 1, rfl, ht, ⟨oI, (N₄ _ (.head _)).1, hcI, hdI⟩, F₄, fun p hp => N₄ p (.tail _ hp), hJ₄, hlt2, rfl⟩
  · have e : i = vs.size := by omega
    subst e
    refine wpAny_pyNext_list_end hh hit hls' (by simp) fun h₁ he₁ => wpAny_execs_nil ?_
    have F₁ : Fr h₀ env.locals h₁ m' := ⟨F'.ns.at' fun o e => he₁ _ o (Ne.symm hL) e, fun b o e => he₁ _ o (old b o e) (F'.keep b o e), F'.above⟩
    exact done m' h₁ tk hk hJ F₁ fun p hp => ⟨he₁ _ _ (hnw p hp) (N' p hp).1, (N' p hp).2⟩
open PySem.Builtin PySem.Builtin.Str
noncomputable def find4 (x y : Str) (i j : Int) : Int := match occurrences x y (fromIndex x.length i) (min (fromIndex x.length j) x.length) 1 with | k :: _ => (k : Int) | [] => -1
theorem gives_find4 (x y : Str) (i j : Int) (t u v z : Tok) : Gives («str.find» ⟨[.str x t, .str y u, .int i v, .int j z], []⟩) (.int (find4 x y i j)) := by
  show Gives (match occurrences x y (fromIndex x.length i) (min (fromIndex x.length j) x.length) 1 with | k :: _ => retInt k | [] => (do rule "str.find.not-found"; retInt (-1))) _
  unfold find4
  cases occurrences x y (fromIndex x.length i) (min (fromIndex x.length j) x.length) 1 with
  | nil => exact .rule (.of_eq rfl)
  | cons k _ => exact .of_eq rfl
theorem find4_call {prog : Program} {w : World} {A : Around} {E : Value → Shared → Prop} {s : Shared} {x y : Str} {t u v z : Tok} {i j : Int} {Q : Value → Shared → Prop} (hq : Q (.int (find4 x y i j) s.toks) { s with toks := s.toks + 1 }) : wpAny (model prog w) A (call (.builtin "str.find") [.str x t, .str y u, .int i v, .int j z]) Q E s :=
  call_gives F.slot_str_find (typeIs_str _ _ _) F.entry_str_find (F.args_str_find_4 _ _ _ _) (gives_find4 x y i j t u v z) hq
end Mine
end
section
open PySem PySem.Spec PySem.Calls PyProof.Rows PySem.W


namespace Mine
local macro_rules | `(tactic| walk_at "truthy str") => `(tactic| (refine stop_of ?_))
local macro_rules | `(tactic| walk_at "exec For Name Name cons nil") => `(tactic| (refine stop_of ?_))
local macro_rules | `(tactic| walk_at "call builtin:str.find") => `(tactic| refine find4_call ?_)
theorem truthy_empty {prog : Program} {w : World} {A : Around} {E : Value → Shared → Prop} {s : Shared} {y : Str} {t : Tok} {Q : Bool → Shared → Prop} (e : y = Str.ofString "") (h : Q false { s with toks := s.toks + 1 + 1 }) : wpAny (model prog w) A (truthy (.str y t)) Q E s := by
  subst e
  exact P.truthy_str (by decide) h
theorem first_empty {l : List (Str × Tok)} {x : Str} {y : Str} (h : List.map (fun x => x.fst) l = Txt.split x (Str.ofString "...")) (hp : (Txt.split x (Str.ofString "..."))[0]? = some (Str.ofString "")) (hy : (List.map (fun x => x.fst) l)[Int.toNat 0]? = some y) : y = Str.ofString "" := by
  rw [h] at hy
  have : (Txt.split x (Str.ofString "..."))[0]? = some y := hy
  rw [hp] at this
  exact (Option.some.inj this).symm
theorem last_empty {l : List (Str × Tok)} {x : Str} (h : List.map (fun x => x.fst) l = Txt.split x (Str.ofString "...")) (hp : (Txt.split x (Str.ofString "...")).getLast? = some (Str.ofString "")) : (List.map (fun x => x.fst) l).getD (-1 + ((List.map (fun x => x.fst) l).length : Int)).toNat Str.empty = Str.ofString "" := by
  rw [h]
  generalize Txt.split x (Str.ofString "...") = z at hp
  have hz : z ≠ [] := by rintro rfl; cases hp
  have h1 : (-1 + (z.length : Int)).toNat = z.length - 1 := by omega
  rw [h1]
  rw [List.getLast?_eq_getElem?] at hp
  rw [List.getD_eq_getElem?_getD, hp]; rfl
theorem not_in_abs {x y : Str} (h : Txt.contains x y = true) (h2 : (Builtin.Str.occurrences x y 0 x.length 1).isEmpty = true) : False := by
  unfold Txt.contains at h
  rw [h2] at h
  cases h
theorem short_abs {l : List (Str × Tok)} {z : List Str} (h : List.map (fun x => x.fst) l = z) (h5 : 2 ≤ z.length) (h2 : ¬ 2 ≤ (l.length : Int)) : False := by
  rw [← h] at h5; simp at h5; omega
noncomputable def emStep (b : Str) (o : Option Int) (x : Str) : Option Int := o.bind fun p => if find4 b x p b.length < 0 then none else some (find4 b x p b.length + x.length)
noncomputable def emF (b : Str) (ws : List Str) : Bool := (ws.foldl (emStep b) (some 0)).isSome
theorem em_none (b : Str) : ∀ ws : List Str, ws.foldl (emStep b) none = none
  | [] => rfl
  | _ :: r => em_none b r
theorem em_hit {b : Str} {ws : List Str} {i : Nat} {x : Str} {p : Int} (h : (ws.take i).foldl (emStep b) (some 0) = some p) (hx : ws[i]? = some x) (hf : ¬ find4 b x p b.length < 0) : (ws.take (i + 1)).foldl (emStep b) (some 0) = some (find4 b x p b.length + x.length) := by
  rw [List.take_add_one, hx, List.foldl_append, h]
  show emStep b (some p) x = _
  unfold emStep
  simp only [Option.bind, if_neg hf]
theorem em_miss {b : Str} {ws : List Str} {i : Nat} {x : Str} {p : Int} (h : (ws.take i).foldl (emStep b) (some 0) = some p) (hx : ws[i]? = some x) (hf : find4 b x p b.length < 0) : emF b ws = false := by
  unfold emF
  have e : ws = ws.take i ++ x :: ws.drop (i + 1) := by
    have hi : i < ws.length := (List.getElem?_eq_some_iff.mp hx).1
    have := List.take_append_drop i ws
    rw [List.drop_eq_getElem_cons hi, (List.getElem?_eq_some_iff.mp hx).2] at this
    exact this.symm
  rw [e, List.foldl_append, h, List.foldl_cons]
  have : emStep b (some p) x = none := by unfold emStep; simp only [Option.bind, if_pos hf]
  rw [this, em_none]
  rfl
theorem em_done {b : Str} {ws : List Str} {n : Nat} {p : Int} (h : (ws.take n).foldl (emStep b) (some 0) = some p) (hn : n = ws.length) : emF b ws = true := by
  rw [hn, List.take_length] at h
  unfold emF
  rw [h]; rfl
theorem sv_get {l : List (Str × Tok)} {i : Nat} {v : Value} (h : (strValues l).toArray[i]? = some v) : ∃ x t, v = .str x t ∧ (l.map (·.1))[i]? = some x := by
  have h : (strValues l)[i]? = some v := by simpa using h
  unfold strValues at h
  rw [List.getElem?_map] at h
  rw [List.getElem?_map]
  cases e : l[i]? with
  | none => rw [e] at h; cases h
  | some p => rw [e] at h; cases h; exact ⟨_, _, rfl, rfl⟩
noncomputable abbrev emJ (b : Str) (tb : Tok) (ws : List Str) (i : Nat) (m' : Str → Option Value) : Prop := (∃ p t, m' (Str.ofString "startpos") = some (.int p t) ∧ (ws.take i).foldl (emStep b) (some 0) = some p) ∧ (∃ t, m' (Str.ofString "endpos") = some (.int b.length t)) ∧ m' (Str.ofString "got") = some (.str b tb)
set_option maxRecDepth 100000 in
set_option maxHeartbeats 8000000 in
theorem c_ell (w : World) (mean : ExcName → Option Value) (mg mb : Str → Option Value) : ∀ (news : List (Addr × Obj)) (a : Str) (ta : Tok) (b : Str) (tb : Tok), Ctr w mean mg mb 53 news ((a.length ≤ 200 ∧ b.length ≤ 200) ∧ (Txt.split a (Str.ofString "..."))[0]? = some (Str.ofString "") ∧ (Txt.split a (Str.ofString "...")).getLast? = some (Str.ofString "") ∧ 2 ≤ (Txt.split a (Str.ofString "...")).length ∧ Txt.contains a (Str.ofString "...") = true) [.str a ta, .str b tb] (fun _ => .bool (emF b (Txt.split a (Str.ofString "...")))) := by
  dsimp only [Ctr, CbRet]
  k_fill
  k_with_none
  intro news a ta b tb dp un gd cn cs fa ccd cl outer A₀ base h₀ L m s Q E hB hF hX hN hT hk hpre hd hu hret
  obtain ⟨⟨hp1, hp2⟩, hp3, hp4, hp5, hp6⟩ := hpre
  refine wpAny_call ?_
  k_dflt cell_enter
  k_steps
  · exact (not_in_abs hp6 (by assumption)).elim
  · refine stop_go ?_
    refine truthy_empty (first_empty (by assumption) hp3 (by assumption)) ?_
    try dsimp only
    k_steps
    refine stop_go ?_
    refine truthy_empty (last_empty (by assumption) hp4) ?_
    try dsimp only
    k_steps
    refine stop_go ?_
    refine wpAny_For ?_
    walk1
    rename List.map _ _ = Txt.split _ _ => hlook
    rename List (Str × Tok) => ls
    refine loopL (nn := 0) (vs := (strValues ls).toArray) (ol := { cls := .type "list", data := .seq (strValues ls).toArray 0 }) (by rfl) ?hl rfl (by rfl) (by rfl) (by k_asm) (by k_asm) (emJ b tb (Txt.split a (Str.ofString "..."))) ?h0 ?turn ?done
    case hl => k_mem
    case h0 => exact ⟨⟨_, _, rfl, rfl⟩, ⟨_, rfl⟩, rfl⟩
    case turn =>
      intro i v m₁ h tk I o hv htk hJ hlt F N
      obtain ⟨x, tx, rfl, hxi⟩ := sv_get hv
      rename ∀ x : Str, x ∈ List.map _ _ → x.length ≤ a.length => hlen
      have hxl : x.length ≤ 200 := Nat.le_trans (hlen x (List.mem_of_getElem? hxi)) hp1
      rw [hlook] at hxi
      obtain ⟨⟨p, tp, hJ1, hJp⟩, ⟨te, hJ2⟩, hJ3⟩ := hJ
      have F := fr_eq (m' := fun y => if y = Str.ofString "w" then some (.str x tx) else if y = Str.ofString "startpos" then some (.int p tp) else if y = Str.ofString "endpos" then some (.int b.length te) else if y = Str.ofString "got" then some (.str b tb) else m₁ y) F (fun y => by
        by_cases h1 : y = Str.ofString "w"
        · rw [if_pos h1, if_pos h1]
        · rw [if_neg h1, if_neg h1]
          by_cases h2 : y = Str.ofString "startpos"
          · rw [if_pos h2, h2, hJ1]
          · rw [if_neg h2]
            by_cases h3 : y = Str.ofString "endpos"
            · rw [if_pos h3, h3, hJ2]
            · rw [if_neg h3]
              by_cases h4 : y = Str.ofString "got"
              · rw [if_pos h4, h4, hJ3]
              · rw [if_neg h4])
      refine stop_post ?_
      k_steps
      · refine stop_go ?_
        k_steps
        exact cb_retB hret (em_miss hJp hxi (by assumption)).symm (by k_asm) (cb_drop (by k_asm) (by kcj_all))
      · refine stop_go ⟨_, _, _, rfl, by k_asm, by k_asm, ⟨⟨_, _, rfl, em_hit hJp hxi (by assumption)⟩, ⟨_, rfl⟩, rfl⟩⟩
    case done =>
      intro m₁ h tk htk hJ F N
      obtain ⟨⟨p, tp, hJ1, hJp⟩, _, _⟩ := hJ
      try dsimp only
      k_steps
      exact cb_retB hret (em_done hJp (by rw [← hlook]; simp [strValues])).symm (by k_asm) (cb_drop (by k_asm) (by kcj_all))
  · exact (short_abs (by assumption) hp5 (by assumption)).elim
end Mine
end
section
open PySem PySem.Spec PySem.Calls PyProof.Rows PySem.W
namespace Mine
section
variable {prog : Program} {w : World} {A : Around} {E : Value → Shared → Prop} {s : Shared} {K : Frag} {x C t0 : Addr} {ox : Obj} {vs : Array Value} {m : Str} {tk : Tok}
theorem exc_type {M : Model} {h : Heap} (ho : h.get? x = some ox) (hc : ox.cls = .ref C) : Looks M h (typeOf (.ref x)) (.ref C) := hc ▸ (Looks.ld ho).andThen .now
theorem xs_args {M : Model} {items : List Value} {Q : Value × List Value → Shared → Prop} (ho : s.heap.get? x = some ox) (hd : ox.data = .fields vs) (h0 : vs[0]? = some (.ref t0)) (ht : s.heap.TupAt t0 items) (hq : Q (.ref t0, items) s) :
    wpAny M A (Builtin.BaseException.bexcArgs (.ref x)) Q E s := by
  obtain ⟨ot, k, hto, _, htd⟩ := ht
  unfold Builtin.BaseException.bexcArgs
  refine wpAny_bind (wpAny_field ho hd h0 (wpAny_bind (wpAny_seqItems hto htd ?_)))
  have : items.toArray.toList = items := by simp
  show wpAny M A (pure (Value.ref t0, items.toArray.toList)) Q E s
  rw [this]; exact wpAny_pure hq
theorem xs_special {name : Str} {id : String} {args : List Value} {Q : Option Value → Shared → Prop} (I : ∀ {M : Model}, Looks M s.heap (typeOf (.ref x)) (.ref C)) (X : K.In s.heap) (hs : findIn K (.ref C) name = some (some (.builtin id)))
    (hb : ∀ self, bindSpecial (.builtin id) self = pure (.builtin id, [self])) (h : wpAny (model prog w) A (call (.builtin id) (.ref x :: args)) (fun v => Q (some v)) E s) : wpAny (model prog w) A (callSpecial? (.ref x) name args) Q E s :=
  wpAny_bind (wpAny_bind (I.here ((looks_findIn X hs).here (wpAny_holding (wpAny_bind ((Looks.of_pure (hb _)).here (wpAny_bind (wpAny_mono h (fun _ _ z => wpAny_pure z) fun _ _ z => z))))))))
open Builtin Builtin.Str in
theorem xs_call {Q : Value → Shared → Prop} (hu : A.in1.in1.units < cLine) (X : K.In s.heap) (ho : s.heap.get? x = some ox) (hc : ox.cls = .ref C) (hd : ox.data = .fields vs) (h0 : vs[0]? = some (.ref t0)) (ht : s.heap.TupAt t0 [.str m tk])
    (hs : findIn K (.ref C) "__str__" = some (some (.builtin "BaseException.__str__"))) (hm : mroIn K C (.type "BaseException") = some true)
    (hq : Q (.str m tk) s) : wpAny (model prog w) A (call (.type "str") [.ref x]) Q E s := by
  refine callType_codes (T := "str") (Bi := Builtin.«object.__init__») (Q₁ := fun r s₁ => ∃ y u, r = .str y u ∧ Q r s₁) PySem.F.called_str (PySem.F.typeCall_str_1 _) PySem.F.entry_object_init ?_ ?_
  · refine codeAny_of_tree ?_
    show wpAny _ A.in1.in1 (do checkBuiltinCall "str.__new__" ⟨[.type "str", .ref x], []⟩; again (.builtin "str.__new__" ⟨[.type "str", .ref x], []⟩)) _ _ s
    refine wpAny_bind (wpAny_of_eq (PySem.F.newCall_str_1 _) (wpAny_pure ⟨plainId_quiet (by decide +kernel) _, codeAny_builtin PySem.F.entry_str_new ?_⟩))
    rw [Around.under_plainId (by decide +kernel) _]
    rw [str_new_tree]
    refine wpAny_bind (wpAny_pure ?_)
    refine wpAny_bind (wpAny_of_eq isSubtype_str_str ?_)
    have bcall : ∀ Q' : Value → Shared → Prop, Q' (.str m tk) s → wpAny (model prog w) A.in1.in1 (call (.builtin "BaseException.__str__") [.ref x]) Q' E s := fun Q' hq' => by
      refine wpAny_call (codeAny_call_builtin PySem.F.excStr_Exception.str.plain PySem.F.entry_bexc_str (check_slot (i := "BaseException.__str__") (owner := "BaseException") (n := "__str__") (by decide +kernel) (by decide +kernel) ((exc_type ho hc).andThen (looks_mroIn X hm)) (PySem.F.args_bexc_str _) ?_))
      unfold Builtin.«BaseException.__str__»
      repeat (first | with_reducible refine xs_args ho hd h0 ht ?_ | wp_step)
      exact hq'
    have key : wpAny (model prog w) A.in1.in1 (PySem.Builtin.Str.strOf (.ref x)) (fun r s₁ => ∃ y u, r = .str y u ∧ Q r s₁) E s := by
      unfold PySem.Builtin.Str.strOf
      rw [show isExactStr (.ref x) = false from rfl]
      refine wpAny_bind (m := cRoomFor _ _) (wpAny_cRoomFor hu ?_)
      refine wpAny_bind (m := callSpecial? (.ref x) (Str.ofString "__str__")) ?_
      exact xs_special (exc_type ho hc) X hs PySem.F.excStr_Exception.str.bind (bcall _ (wpAny_pure ⟨_, _, rfl, hq⟩))
    exact wpAny_bind (wpAny_mono key (fun r s₁ hr => wpAny_pure hr) fun _ _ y => y)
  · rintro obj s₁ ⟨y, u, rfl, hq⟩
    exact ⟨typeIs_str _ _ _, PySem.F.args_object_init_2 _ _, object_init_meets PySem.F.called_str.init.lookup PySem.F.called_str.made (by decide) prog w A.in1 _ s₁ ⟨typeIs_str _ _ _, rfl, hq⟩⟩
end
end Mine
end
section
open PySem PySem.Spec PySem.Calls PyProof.Rows PySem.W
namespace Mine
section
variable {prog : Program} {w : World} {A₀ A : Around} {s : Shared} {base h₀ g₀ : Heap} {outer : List Env} {L a : Addr} {m : Str → Option Value} {env : Env} {news : List (Addr × Obj)} {K : Frag} {p : Program} {loose : List Str} {mean : ExcName → Option Value} {mg mb : Str → Option Value}
    {R : Result → Shared → Prop} {name qual : Str} {params : Arguments} {body : List Stmt} {scope : Scope} {dV kV doc pm cdv ct oc : Value} {an od : Option Addr} {osl : Array (Option Value)} {f : Addr} {args : Args} {binds : List (Str × Value)}
theorem sx_enter (B : Below A₀ base outer h₀) (F : Fr h₀ L s.heap m) (N : News h₀ L s.heap news) (hA : A.frames = some (env :: outer)) (hf : env.frame = some L) (hck : env.scope.kind = .function) :
    ∃ oL es ep, (hideAll s.heap (news.map (·.1))).get? L = some oL ∧ oL.data = .dict es ep ∧ (∀ h', h'.get? L = some oL → Heap.Ns h' L m) ∧ (∀ (sl : Array (Option Value)) h', h'.get? L = some { oL with slots := sl } → Heap.Ns h' L m) ∧
      h₀.StaysIn (hideAll s.heap (news.map (·.1))) ∧ Below A base (env :: outer) (hideAll s.heap (news.map (·.1))) := by
  have nm : ∀ b o, h₀.get? b = some o → b ∉ news.map (·.1) := fun b o e q => by
    obtain ⟨p, hp, rfl⟩ := List.mem_map.mp q
    rw [(N p hp).2.2] at e; cases e
  have st : h₀.StaysIn (hideAll s.heap (news.map (·.1))) := fun b o e => hideAll_get _ (F.keep b o e) (nm b o e)
  have gx := groundX (R := fun _ _ => True) B F N hA hf hck
  obtain ⟨oL, es, ep, hL, hLd, hLk, hLf⟩ := F.ns
  have nL : L ∉ news.map (·.1) := fun q => by
    obtain ⟨p, hp, e⟩ := List.mem_map.mp q
    exact (N p hp).2.1 e
  have hLg := hideAll_get (news.map (·.1)) hL nL
  exact ⟨oL, es, ep, hLg, hLd, fun h' e => ⟨oL, es, ep, e, hLd, hLk, hLf⟩, fun sl h' e => ⟨_, es, ep, e, hLd, hLk, hLf⟩, st, gx.2.1⟩
theorem sx_mem {b : Addr} (hf : env.frame = some L) (hm : b ∈ [env].filterMap (·.frame)) : b = L := by
  obtain ⟨e, he, hb⟩ := List.mem_filterMap.mp hm
  rw [List.mem_singleton.mp he, hf] at hb
  exact (Option.some.inj hb).symm
theorem code_defSX (B : Below A₀ base [] h₀) (F : Fr h₀ L s.heap m) (X₀ : K.In h₀) (N : News h₀ L s.heap news) (T : Top p loose mean mg mb h₀) (hA : A.frames = some [env]) (hf : env.frame = some L) (hck : env.scope.kind = .function)
    (ho : K.lookup f = some ⟨oc, od, .func (fnOf name qual params body scope dV kV doc pm an cdv ct), osl⟩) (hcd : codeIn K cdv qual = true) (hroom : A.depth < recursionLimit)
    (hbind : BindsTo s (fnOf name qual params body scope dV kV doc pm an cdv ct) args binds) (hloc : ∀ y ∈ binds, scope.names.lookup y.1 = some .local)
    (h : ∀ g L' h₁, Fr h₀ L g m → Fr g L' h₁ (fun y => binds.reverse.lookup y) → News g L' h₁ news → Below A base [env] g → K.In g → Top p loose mean mg mb g → KtsDicts ([env].filterMap (·.frame)) g →
      wpAny (model prog w) (A.deeper (envOf qual scope L' f cdv)) (execs body (envOf qual scope L' f cdv))
        (fun fl s' => LeaveS0 ([env].filterMap (·.frame)) h₀ L m g R (match fl with | .ret v => v | _ => .none) s')
        (fun e s' => wpAny (model prog w) (A.deeper (envOf qual scope L' f cdv)) («leaving» (envOf qual scope L' f cdv) e) (fun _ s'' => R (.error e) s'') (fun e' s'' => R (.error e') s'') s')
        { s with heap := h₁, toks := s.toks + binds.length })
    (hco : scope.isCoroutine = false) (hgen : scope.isGenerator = false) (hk : scope.kind = .function)
    (hcell : ∀ x ∈ scope.names, x.2 ≠ .cell) : codeAny (model prog w) A (.call (.ref f) args) R s := by
  have X := X₀.keeps F.keep
  refine codeAny_call_def (fd := fnOf name qual params body scope dV kV doc pm an cdv ct) (body := body) (binds := binds) hroom (X _ _ ho) rfl (T.nolimit.keeps F.keep) (codeRec_of X hcd) rfl hbind hcell hloc (fun h₁ hns hk₁ => ?_) hco hgen hk
  obtain ⟨oL, es, ep, hLg, hLd, hN, hNs, st, B₂⟩ := sx_enter B F N hA hf hck
  refine wpAny_mono (h _ s.heap.objs.size h₁ ⟨hN _ hLg, st, F.above⟩ ⟨hns, fun b o e => hk₁ b o (of_hideAll _ e), Nat.le_of_eq (hideAll_size _ _)⟩
    (fun p hp => ⟨hk₁ _ _ (N p hp).1, Nat.ne_of_lt (Heap.lt_size (N p hp).1), hideAll_none _ (List.mem_map_of_mem hp)⟩) B₂ (X₀.keeps st) (T.keeps st) (fun b hb => by
      obtain rfl := sx_mem hf hb
      exact ⟨oL, es, ep, hLg, hLd⟩)) (fun fl s' hl => ?_) fun _ _ y => y
  obtain ⟨g', L', m', news', T', F', N', k⟩ := hl
  have nL₀ : h₀.get? L = none := kts_self F
  obtain ⟨sl, hs⟩ := T'.up hLg
  refine k ⟨hNs sl _ (F'.keep _ _ hs), fun b o e => F'.keep b o (T'.other b o (st b o e) (fun q => by
    rw [sx_mem hf q, nL₀] at e
    cases e)), F.above⟩ fun p hp => ⟨(N' p hp).1, fun q => ?_, ?_⟩
  · have := (N' p hp).2.2; rw [q, hs] at this; cases this
  · cases q : h₀.get? p.1 with
    | none => rfl
    | some o =>
      obtain ⟨sl', hs'⟩ := T'.up (st _ _ q)
      have := (N' p hp).2.2
      rw [hs'] at this
      cases this
end
theorem xs_got {prog : Program} {w : World} {A : Around} {E : Value → Shared → Prop} {s : Shared} {K : Frag} {C e t : Addr} {h₀ : Heap} {L : Addr} {news : List (Addr × Obj)} {m : Str} {u : Tok} {Q : Value → Shared → Prop} (N : News h₀ L s.heap news) (G : Got news e t (.ref C) [.str m u]) (hu : A.in1.in1.units < cLine) (X : K.In s.heap)
    (hs : findIn K (.ref C) "__str__" = some (some (.builtin "BaseException.__str__"))) (hm : mroIn K C (.type "BaseException") = some true) (hq : Q (.str m u) s) : wpAny (model prog w) A (call (.type "str") [.ref e]) Q E s := by
  obtain ⟨oe, ot, ws, nt, h1, h2, hc, hd, h0, htc, htd⟩ := G
  exact xs_call hu X (N.get h1) hc hd h0 ⟨ot, nt, N.get h2, htc, htd⟩ hs hm hq
noncomputable abbrev CtrT (w : World) (mean : ExcName → Option Value) (mg mb : Str → Option Value) (f : Addr) (news : List (Addr × Obj)) (pre : Prop) (vs : List Value) (R : Tok → Value) : Prop :=
  ∀ (dp un : Nat) (gd : Option (List Code)) (cn : Str) (cs : Scope) (a : Addr) (ccd : Value) (cl : List (Str × Addr)) (A₀ : Around) (base h₀ : Heap) (L : Addr) (m : Str → Option Value) (s : Shared) (Q E : Value → Shared → Prop),
    Below A₀ base [] h₀ → (K w.params).In base → Top vq lse mean mg mb base → Fr h₀ L s.heap m → (K w.params).In h₀ → News h₀ L s.heap news → Top vq lse mean mg mb h₀ → cs.kind = .function →
    pre → dp + 5 < recursionLimit → un + 40 < cLine → CbRet h₀ L m news s Q R →
      wpAny (model PySem.Challenge.rw_wr0048_01.row.prog w) (ktrTop dp un gd cn cs L a ccd cl []) (call (.ref f) vs) Q E s
set_option maxRecDepth 100000 in
set_option maxHeartbeats 8000000 in
theorem c_ref (w : World) (mean : ExcName → Option Value) (mg mb : Str → Option Value) : ∀ (news : List (Addr × Obj)) (a : Str) (ta : Tok), CtrT w mean mg mb 201 news (a.length ≤ 200 ∧ (Txt.slice a none (some 3) != Str.ofString "257") = true) [.str a ta] (fun _ => .bool true) := by
  dsimp only [CtrT, CbRet]
  k_fill
  k_with_none
  intro news a ta dp un gd cn cs fa ccd cl A₀ base h₀ L m s Q E hB hXB hTB hF hX hN hT hk hpre hd hu hret
  refine wpAny_call ?_
  refine' code_defSX ?k1 ?k2 ?k3 ?k4 ?k5 ?kA ?kF ?kK ?k6 ?k7 ?k8 ?k9 ?kB ?_ ?c2 ?c3 ?c4 ?c5
  case kA => exact rfl
  case kF => exact rfl
  case kK => exact hk
  case k2 => k_asm
  case k1 => k_asm
  case k3 => k_asm
  case k4 => k_asm
  case k5 => k_asm
  case k6 => k_is
  case k7 => k_is
  case k8 => (show dp < recursionLimit; omega)
  case k9 => first | exact binds_K (by k_in) rfl (by k_is) rfl rfl rfl | exact BindsTo.of_eq rfl
  case kB => exact locs rfl
  case c2 => exact rfl
  case c3 => exact rfl
  case c4 => exact rfl
  case c5 => decide
  k_whole
  intro g' L' h' FG' F' N' B' X' T' D'
  try dsimp only
  try k_lift B'
  try k_fold
  obtain ⟨hp1, hp2⟩ := hpre
  k_steps
  refine wpAny_call ?_
  have hk2 : ScopeKind.function = ScopeKind.function := rfl
  k_dflt cell_enter
  k_steps
  refine' xs_got ?N ?G ?u ?X ?s ?m ?_
  case G => assumption
  case N => assumption
  case X => k_in
  case u => (show un + 3 + 1 + 1 < cLine; omega)
  case s => k_is
  case m => k_is
  k_steps
  exact cb_retB hret (by simp) (by k_asm) (cb_drop (by k_asm) (by kcj_all))
end Mine
end
section
open PySem PySem.Spec PySem.Calls PyProof.Rows PySem.W
namespace Mine
noncomputable def lawStmt : Stmt := (PySem.Challenge.pw_wr0048_01.main.body[26]?).getD (.Pass ⟨0, 0, 0, 0⟩)
noncomputable def lawBody : List Stmt := match lawStmt with
  | .FunctionDef (body := b) .. => b
  | _ => []
noncomputable def lawScope : Scope := match lawStmt with
  | .FunctionDef (scope := b) .. => b
  | _ => PySem.Challenge.pw_wr0048_01.main.scope
noncomputable abbrev lawEnv (L fa : Addr) (ccd : Value) : Env := envOfC (Str.ofString "law") lawScope L fa ccd
noncomputable abbrev lawA (L fa : Addr) (ccd : Value) : Around := callerA.deeper (lawEnv L fa ccd)
structure LawAt (h₀ : Heap) (L : Addr) (s₀ s : Shared) (m : Str → Option Value) (vk vw vn : Option Value) : Prop where
  same : ∃ h tk, s = { s₀ with heap := h, toks := tk }
  fr : Fr h₀ L s.heap m
  news : ∃ ok ow on, News h₀ L s.heap [(L + 1 + 1 + 1, ok), (L + 1 + 1, ow), (L + 1, on)] ∧ ok.data = .cell vk ∧ ow.data = .cell vw ∧ on.data = .cell vn
noncomputable abbrev LawGo (w : World) (h₀ : Heap) (L fa : Addr) (ccd : Value) (s₀ : Shared) (Q : Flow → Shared → Prop) (E : Value → Shared → Prop) (rest : List Stmt) (I : (Str → Option Value) → Option Value → Option Value → Option Value → Prop) : Prop :=
  ∀ s m vk vw vn, LawAt h₀ L s₀ s m vk vw vn → I m vk vw vn → wpAny (model PySem.Challenge.rw_wr0048_01.row.prog w) (lawA L fa ccd) (execs rest (lawEnv L fa ccd)) Q E s
noncomputable abbrev LawStep (k : Nat) (I I' : Heap → (Str → Option Value) → Option Value → Option Value → Option Value → Prop) : Prop :=
  ∀ (w : World) (mean : ExcName → Option Value) (mg mb : Str → Option Value) (h₀ : Heap) (L fa : Addr) (ccd : Value) (s₀ : Shared) (Q : Flow → Shared → Prop) (E : Value → Shared → Prop) (rest : List Stmt),
    Below callerA h₀ [] h₀ → (K w.params).In h₀ → Top vq lse mean mg mb h₀ → PassesOwn (model PySem.Challenge.rw_wr0048_01.row.prog w) (lawA L fa ccd) (lawEnv L fa ccd) E → LawGo w h₀ L fa ccd s₀ Q E rest (I' h₀) → LawGo w h₀ L fa ccd s₀ Q E ((lawBody[k]?).getD (.Pass ⟨0, 0, 0, 0⟩) :: rest) (I h₀)
theorem body_len : lawBody.length = 20 := by decide +kernel
end Mine
end
section
open PySem PySem.Spec PySem.Calls PyProof.Rows PySem.W
namespace Mine
structure LawTurn (h₀ : Heap) (L : Addr) (s₀ : Shared) (I : Addr) (oI : Obj) (J : (Str → Option Value) → Option Value → Option Value → Option Value → Prop) (s : Shared) : Prop where
  all : ∃ m vk vw vn ok ow on, (∃ h tk, s = { s₀ with heap := h, toks := tk }) ∧ Fr h₀ L s.heap m ∧ News h₀ L s.heap [(I, oI), (L + 1 + 1 + 1, ok), (L + 1 + 1, ow), (L + 1, on)] ∧ ok.data = .cell vk ∧ ow.data = .cell vw ∧ on.data = .cell vn ∧ J m vk vw vn
theorem small_range {c : Nat} (h : c ≤ 1000) : Builtin.Range.small 0 c 1 = true ∧ Builtin.Range.rangeSize 0 c 1 = c := by
  have e : Builtin.Range.rangeSize 0 c 1 = c := by
    unfold Builtin.Range.rangeSize
    simp
    omega
  refine ⟨?_, e⟩
  unfold Builtin.Range.small
  rw [e]
  unfold Builtin.Range.rangeFitsLong
  simp
  omega
theorem lawRange {w : World} {h₀ : Heap} {L fa : Addr} {ccd : Value} {s₀ s : Shared} {Q : Flow → Shared → Prop} {E : Value → Shared → Prop} {x : Str} {px : Pos} {body : List Stmt} {c : Nat} {r : Addr} {t u v : Tok} {m₀ : Str → Option Value} {ok ow on : Obj} {vk vw vn : Option Value}
    (J : Nat → (Str → Option Value) → Option Value → Option Value → Option Value → Prop) (hr : IsRange s.heap r 0 c 1 t u v) (hc : c ≤ 1000) (hs : ∃ h tk, s = { s₀ with heap := h, toks := tk })
    (F : Fr h₀ L s.heap m₀) (N : News h₀ L s.heap [(L + 1 + 1 + 1, ok), (L + 1 + 1, ow), (L + 1, on)]) (hk : ok.data = .cell vk) (hw : ow.data = .cell vw) (hn : on.data = .cell vn) (h0 : J 0 m₀ vk vw vn)
    (turn : ∀ (i : Nat) (t : Tok) (s : Shared) (m : Str → Option Value) (vk vw vn : Option Value) (I : Addr) (oI ok ow on : Obj), i < c → (∃ h tk, s = { s₀ with heap := h, toks := tk }) → Fr h₀ L s.heap m → News h₀ L s.heap [(I, oI), (L + 1 + 1 + 1, ok), (L + 1 + 1, ow), (L + 1, on)] →
      ok.data = .cell vk → ow.data = .cell vw → on.data = .cell vn → ((@Ne Nat I (L + 1 + 1 + 1)) ∧ (@Ne Nat I (L + 1 + 1)) ∧ (@Ne Nat I (L + 1))) → J i m vk vw vn →
      wpAny (model PySem.Challenge.rw_wr0048_01.row.prog w) (lawA L fa ccd) (storeName (lawEnv L fa ccd) x (.int i t)) (fun _ s₂ => wpAny (model PySem.Challenge.rw_wr0048_01.row.prog w) (lawA L fa ccd) (execs body (lawEnv L fa ccd)) (fun f s₃ => match f with
        | .next | .cont => LawTurn h₀ L s₀ I oI (J (i + 1)) s₃
        | .brk => Q .next s₃
        | .ret v => Q (.ret v) s₃) E s₂) E s)
    (done : ∀ s m vk vw vn, LawAt h₀ L s₀ s m vk vw vn → J c m vk vw vn → Q .next s)
    (hE : PassesOwn (model PySem.Challenge.rw_wr0048_01.row.prog w) (lawA L fa ccd) (lawEnv L fa ccd) E := by passes_own) :
    wpAny (model PySem.Challenge.rw_wr0048_01.row.prog w) (lawA L fa ccd) (pyIter (.ref r)) (fun it s₂ => codeAny (model PySem.Challenge.rw_wr0048_01.row.prog w) (lawA L fa ccd) (.forLoop (.Name x px) it body [] (lawEnv L fa ccd)) (fun r s' => match r with | .ok f => Q f s' | .error e => cameBackBy (model PySem.Challenge.rw_wr0048_01.row.prog w) (lawA L fa ccd) (lawEnv L fa ccd) E e s') s₂) E s := by
  obtain ⟨hh, tk, rfl⟩ := hs
  refine wpAny_pyIter_range hr (small_range hc).1 ?_
  rw [(small_range hc).2]
  have hI : h₀.get? hh.objs.size = none := next_is_new F
  have hL : hh.objs.size ≠ L := fun e => absurd F.ns.lt (e ▸ Nat.lt_irrefl _)
  have hlt : ∀ p ∈ [(L + 1 + 1 + 1, ok), (L + 1 + 1, ow), (L + 1, on)], p.1 < hh.objs.size := fun p hp => Heap.lt_size (N p hp).1
  have d1 : hh.objs.size ≠ L + 1 + 1 + 1 := fun e => absurd (hlt (L + 1 + 1 + 1, ok) (by simp)) (by rw [e]; exact Nat.lt_irrefl _)
  have d2 : hh.objs.size ≠ L + 1 + 1 := fun e => absurd (hlt (L + 1 + 1, ow) (by simp)) (by rw [e]; exact Nat.lt_irrefl _)
  have d3 : hh.objs.size ≠ L + 1 := fun e => absurd (hlt (L + 1, on) (by simp)) (by rw [e]; exact Nat.lt_irrefl _)
  show codeAny _ _ _ _ { heap := hh.push { cls := .type "range_iterator", data := .fields #[rawInt 0, rawInt c, rawInt 1] }, gens := s₀.gens, drawn := s₀.drawn, toks := tk, os := s₀.os }
  generalize hIe : hh.objs.size = I at hI hL d1 d2 d3
  refine codeAny_forLoop (fun k s' => ∃ h' tk m' vk vw vn ok ow on i, s' = { s₀ with heap := h', toks := tk } ∧ IsRangeIter h' I (i : Nat) ((c - i : Nat) : Int) 1 ∧ Fr h₀ L h' m' ∧ News h₀ L h' [(L + 1 + 1 + 1, ok), (L + 1 + 1, ow), (L + 1, on)] ∧ ok.data = .cell vk ∧ ow.data = .cell vw ∧ on.data = .cell vn ∧ J i m' vk vw vn ∧ i ≤ c ∧ k = c + 1 - i) ?_ (c + 1)
    ⟨_, tk, m₀, vk, vw, vn, ok, ow, on, 0, rfl, by rw [← hIe]; exact Heap.get?_push_size _ rfl, F.push _, fun p hp => ⟨Heap.get?_push_of_some _ (N p hp).1, (N p hp).2⟩, hk, hw, hn, h0, Nat.zero_le _, rfl⟩
  rintro k s' ⟨h', tk, m', vk, vw, vn, ok, ow, on, i, rfl, hit, F', N', hk, hw, hn, hJ, hi, rfl⟩
  have old : ∀ b o, h₀.get? b = some o → b ≠ I := fun b o e q => by rw [q, hI] at e; cases e
  have hnw : ∀ p ∈ [(L + 1 + 1 + 1, ok), (L + 1 + 1, ow), (L + 1, on)], p.1 ≠ I := fun p hp => by
    simp only [List.mem_cons, List.not_mem_nil, or_false] at hp
    rcases hp with rfl | rfl | rfl
    · exact Ne.symm d1
    · exact Ne.symm d2
    · exact Ne.symm d3
  by_cases hlt2 : i < c
  · refine wpAny_pyNext_range_item hit (by omega) fun h₁ hit₁ hs₁ => ?_
    have F₁ : Fr h₀ L h₁ m' := ⟨F'.ns.at' fun o e => (hs₁.2 _ (Ne.symm hL)).trans e, fun b o e => (hs₁.2 _ (old b o e)).trans (F'.keep b o e), F'.above⟩
    have N₁ : News h₀ L h₁ ((I, { cls := .type "range_iterator", dict := none, data := .fields #[rawInt ((i : Int) + 1), rawInt (((c - i : Nat) : Int) - 1), rawInt 1], slots := #[] }) :: [(L + 1 + 1 + 1, ok), (L + 1 + 1, ow), (L + 1, on)]) := fun p hp => by
      rcases List.mem_cons.mp hp with rfl | hp
      · exact ⟨hit₁, hL, hI⟩
      · exact ⟨(hs₁.2 _ (hnw p hp)).trans (N' p hp).1, (N' p hp).2⟩
    have T := turn i tk { s₀ with heap := h₁, toks := tk + 1 } m' vk vw vn I _ ok ow on hlt2 ⟨h₁, tk + 1, rfl⟩ F₁ N₁ hk hw hn ⟨d1, d2, d3⟩ hJ
    refine wpAny_assign_Name ?_
    refine wpAny_passesOwn hE (wpAny_mono T (fun _ s₂ h₂ => wpAny_mono (wpAny_passesOwn hE h₂) (fun f s₃ h₃ => ?_) fun _ _ e => e) fun _ _ e => e)
    have fin : LawTurn h₀ L s₀ I { cls := .type "range_iterator", dict := none, data := .fields #[rawInt ((i : Int) + 1), rawInt (((c - i : Nat) : Int) - 1), rawInt 1], slots := #[] } (J (i + 1)) s₃ →
        ∃ m, m < c + 1 - i ∧ ∃ h' tk m' vk vw vn ok ow on j, s₃ = { s₀ with heap := h', toks := tk } ∧ IsRangeIter h' I (j : Nat) ((c - j : Nat) : Int) 1 ∧ Fr h₀ L h' m' ∧ News h₀ L h' [(L + 1 + 1 + 1, ok), (L + 1 + 1, ow), (L + 1, on)] ∧ ok.data = .cell vk ∧ ow.data = .cell vw ∧ on.data = .cell vn ∧ J j m' vk vw vn ∧ j ≤ c ∧ m = c + 1 - j := by
      rintro ⟨m₂, vk₂, vw₂, vn₂, ok₂, ow₂, on₂, ⟨h₄, tk₄, rfl⟩, F₄, N₄, hk₂, hw₂, hn₂, hJ₂⟩
      refine ⟨c + 1 - (i + 1), by omega, h₄, tk₄, m₂, vk₂, vw₂, vn₂, ok₂, ow₂, on₂, i + 1, rfl, ?_, F₄, fun p hp => N₄ p (.tail _ hp), hk₂, hw₂, hn₂, hJ₂, hlt2, rfl⟩
      have z := (N₄ _ (.head _)).1
      have e1 : ((c - (i + 1) : Nat) : Int) = ((c - i : Nat) : Int) - 1 := by omega
      have e2 : ((i + 1 : Nat) : Int) = (i : Int) + 1 := by omega
      show h₄.get? I = _
      rw [e1, e2]
      exact z
    cases f with
    | ret v => exact h₃
    | brk => exact h₃
    | next => exact fin h₃
    | cont => exact fin h₃
  · have e : i = c := by omega
    subst e
    refine wpAny_pyNext_range_end (by rfl) hit (by omega) fun h₁ he₁ => wpAny_execs_nil ?_
    have F₁ : Fr h₀ L h₁ m' := ⟨F'.ns.at' fun o e => he₁ _ o (Ne.symm hL) e, fun b o e => he₁ _ o (old b o e) (F'.keep b o e), F'.above⟩
    exact done _ m' vk vw vn ⟨⟨h₁, tk, rfl⟩, F₁, ok, ow, on, fun p hp => ⟨he₁ _ _ (hnw p hp) (N' p hp).1, (N' p hp).2⟩, hk, hw, hn⟩ hJ
end Mine
end
section
open PySem PySem.Spec PySem.Calls PyProof.Rows PySem.W
namespace Mine
variable {w : World} {mean : ExcName → Option Value} {mg mb : Str → Option Value} {f : Addr} {news : List (Addr × Obj)} {vs : List Value} {R : Tok → Value} {h₀ : Heap} {L fa : Addr} {ccd : Value} {m : Str → Option Value} {s : Shared} {Q E : Value → Shared → Prop}
theorem lc {pre : Prop} (c : Ctr w mean mg mb f news pre vs R) (B : Below callerA h₀ [] h₀) (F : Fr h₀ L s.heap m) (X : (K w.params).In h₀) (N : News h₀ L s.heap news) (T : Top vq lse mean mg mb h₀) (hp : pre)
    (h : ∀ t h' tk', Fr h₀ L h' m → News h₀ L h' news → Q (R t) { s with heap := h', toks := tk' }) : wpAny (model PySem.Challenge.rw_wr0048_01.row.prog w) (lawA L fa ccd) (call (.ref f) vs) Q E s :=
  c (callerA.depth + 1) (callerA.units + 3) (some []) (Str.ofString "law") lawScope fa ccd (cellsFrom (L + 1) lawScope.names []) [] callerA h₀ h₀ L m s Q E B F X N T rfl hp (by decide) (by decide) h
theorem lcS {pre : Shared → Prop} (c : CtrS w mean mg mb f news pre vs R) (B : Below callerA h₀ [] h₀) (F : Fr h₀ L s.heap m) (X : (K w.params).In h₀) (N : News h₀ L s.heap news) (T : Top vq lse mean mg mb h₀) (hp : pre s)
    (h : ∀ t h' tk', Fr h₀ L h' m → News h₀ L h' news → Q (R t) { s with heap := h', toks := tk' }) : wpAny (model PySem.Challenge.rw_wr0048_01.row.prog w) (lawA L fa ccd) (call (.ref f) vs) Q E s :=
  c (callerA.depth + 1) (callerA.units + 3) (some []) (Str.ofString "law") lawScope fa ccd (cellsFrom (L + 1) lawScope.names []) [] callerA h₀ h₀ L m s Q E B F X N T rfl hp (by decide) (by decide) h
theorem lcT {pre : Prop} (c : CtrT w mean mg mb f news pre vs R) (B : Below callerA h₀ [] h₀) (F : Fr h₀ L s.heap m) (X : (K w.params).In h₀) (N : News h₀ L s.heap news) (T : Top vq lse mean mg mb h₀) (hp : pre)
    (h : ∀ t h' tk', Fr h₀ L h' m → News h₀ L h' news → Q (R t) { s with heap := h', toks := tk' }) : wpAny (model PySem.Challenge.rw_wr0048_01.row.prog w) (lawA L fa ccd) (call (.ref f) vs) Q E s :=
  c (callerA.depth + 1) (callerA.units + 3) (some []) (Str.ofString "law") lawScope fa ccd (cellsFrom (L + 1) lawScope.names []) callerA h₀ h₀ L m s Q E B X T F X N T rfl hp (by decide) (by decide) h
end Mine
end
section
open PySem PySem.Spec PySem.Calls PyProof.Rows PySem.W
open PyProof.Rows.LCg PyProof.Rows.LCt
namespace Mine
section
variable {prog : Program} {w : World} {A : Around} {E : Value → Shared → Prop} {s : Shared} {h₀ : Heap} {L : Addr} {m : Str → Option Value} {env : Env} {ct elt iter : PySem.Expr} {x : Str} {px : Pos} {scope : Scope} {cl : List (Str × Addr)} {pos : Pos}
theorem restT_ind {S : List (Addr × Obj) → Prop} {P : Nat → Value → Prop} {Fin : List Value → List (Addr × Obj) → Prop} {news : List (Addr × Obj)} {n : Nat} (inv : Nat → List Value → Prop) (h0 : inv 0 [])
    (turn : ∀ i ys, i < n → inv i ys → ∀ v I oI C oC D m₂ h tk (E' : Value → Shared → Prop), P i v → NsObj oC m₂ → m₂ x = some v → Fr h₀ L h m → News h₀ L h ((I, oI) :: (C, oC) :: (D, lst ys) :: news) → Off3 I C D news → ((@Ne Nat I C) ∧ (@Ne Nat I D) ∧ (@Ne Nat C D)) →
      wpAny (model prog w) A (isTrue ct (compEnvC scope cl C env) (eval ct (compEnvC scope cl C env))) (fun ok s' => if ok = true then
        wpAny (model prog w) A (eval elt (compEnvC scope cl C env)) (CompEnd h₀ L m { s with heap := h, toks := tk } I oI C oC D (lst ys) S (fun y news' => Stop (news' = news ∧ inv (i + 1) (ys ++ [y])))) E' s'
        else CompEnd h₀ L m { s with heap := h, toks := tk } I oI C oC D (lst ys) S (fun _ news' => Stop (news' = news ∧ inv (i + 1) ys)) Value.none s') E' { s with heap := h, toks := tk })
    (fin : ∀ ys, inv n ys → Fin ys news) : CompRestT prog w A h₀ L m env ct elt x scope cl s S P Fin n 0 [] news := by
  have go : ∀ k i ys, i + k = n → inv i ys → CompRestT prog w A h₀ L m env ct elt x scope cl s S P Fin k i ys news := by
    intro k
    induction k with
    | zero => intro i ys e hi; exact CompRestT.zero (fin ys (by rw [← e]; exact hi))
    | succ k ih =>
      intro i ys e hi
      refine CompRestT.succ fun v I oI C oC D m₂ h tk E' h1 h2 h3 h4 h5 h6 h7 => ?_
      refine wpAny_mono (turn i ys (by omega) hi v I oI C oC D m₂ h tk E' h1 h2 h3 h4 h5 h6 h7) (fun ok s' q => ?_) fun _ _ z => z
      split
      · rename_i hok
        rw [if_pos hok] at q
        refine wpAny_mono q (fun y s'' q' => ?_) fun _ _ z => z
        obtain ⟨h', tk', news', e1, e2, e3, e4, e5, e6⟩ := q'
        obtain ⟨rfl, e7⟩ : news' = news ∧ _ := e6
        exact ⟨h', tk', _, e1, e2, e3, e4, e5, ih (i + 1) _ (by omega) e7⟩
      · rename_i hok
        rw [if_neg hok] at q
        obtain ⟨h', tk', news', e1, e2, e3, e4, e5, e6⟩ := q
        obtain ⟨rfl, e7⟩ : news' = news ∧ _ := e6
        exact ⟨h', tk', _, e1, e2, e3, e4, e5, ih (i + 1) _ (by omega) e7⟩
  exact go n 0 [] (by omega) h0
theorem rest_ind {S : List (Addr × Obj) → Prop} {P : Nat → Value → Prop} {Fin : List Value → List (Addr × Obj) → Prop} {news : List (Addr × Obj)} {n : Nat} (inv : Nat → List Value → Prop) (h0 : inv 0 [])
    (turn : ∀ i ys, i < n → inv i ys → ∀ v I oI C oC D m₂ h tk (E' : Value → Shared → Prop), P i v → NsObj oC m₂ → m₂ x = some v → Fr h₀ L h m → News h₀ L h ((I, oI) :: (C, oC) :: (D, lst ys) :: news) → Off3 I C D news → ((@Ne Nat I C) ∧ (@Ne Nat I D) ∧ (@Ne Nat C D)) →
      wpAny (model prog w) A (eval elt (compEnvC scope cl C env)) (CompEnd h₀ L m { s with heap := h, toks := tk } I oI C oC D (lst ys) S (fun y news' => Stop (news' = news ∧ inv (i + 1) (ys ++ [y])))) E' { s with heap := h, toks := tk })
    (fin : ∀ ys, inv n ys → Fin ys news) : CompRest prog w A h₀ L m env elt x scope cl s S P Fin n 0 [] news := by
  have go : ∀ k i ys, i + k = n → inv i ys → CompRest prog w A h₀ L m env elt x scope cl s S P Fin k i ys news := by
    intro k
    induction k with
    | zero => intro i ys e hi; exact CompRest.zero (fin ys (by rw [← e]; exact hi))
    | succ k ih =>
      intro i ys e hi
      refine CompRest.succ fun v I oI C oC D m₂ h tk E' h1 h2 h3 h4 h5 h6 h7 => ?_
      refine wpAny_mono (turn i ys (by omega) hi v I oI C oC D m₂ h tk E' h1 h2 h3 h4 h5 h6 h7) (fun y s'' q' => ?_) fun _ _ z => z
      obtain ⟨h', tk', news', e1, e2, e3, e4, e5, e6⟩ := q'
      obtain ⟨rfl, e7⟩ : news' = news ∧ _ := e6
      exact ⟨h', tk', _, e1, e2, e3, e4, e5, ih (i + 1) _ (by omega) e7⟩
  exact go n 0 [] (by omega) h0
theorem text_st {I : Addr} {cls : String} {y : Str} {t : Tok} : ∀ i (h h' : Heap) (o : Obj) (nw : List (Addr × Obj)), h.IsStrIter I cls y t i → h.get? I = some o → h'.get? I = some o → (∀ b o, h₀.get? b = some o → h'.get? b = some o) → News h₀ L h' nw → True → h'.IsStrIter I cls y t i :=
  fun i h h' o nw st e e' _ _ _ => by obtain ⟨o', q, r⟩ := st; rw [e] at q; cases q; exact ⟨o, e', r⟩
theorem ListComp_text {Q : Value → Shared → Prop} (_F : Fr h₀ L s.heap m) (hclos : closureFor scope env = pure cl) (hcell : ∀ y ∈ scope.names, y.2 ≠ .cell) (hkind : scope.kind = .function)
    (hnames : ∀ y ∈ scope.names, y.2 = .local → scope.names.lookup y.1 = some .local) (hx : scope.names.lookup x = some .local)
    (h : wpAny (model prog w) A (eval iter env) (fun xv s₁ => ∃ y t news, xv = .str y t ∧ A.handled = none ∧ Fr h₀ L s₁.heap m ∧ News h₀ L s₁.heap news ∧ y.cps.size ≤ sizeLine ∧
      ∀ s₂ : Shared, (∃ h, s₂ = { s₁ with heap := h }) → CompRestT prog w A h₀ L m env ct elt x scope cl s₂ (fun _ => True) (SignAt y) (FinE h₀ L m s₂ Q) y.cps.size 0 [] news) E s)
    (hs : ∀ x, foldedSetIterable iter env x = pure x := by intro _; rfl) :
    wpAny (model prog w) A (eval (.ListComp elt [⟨.Name x px, iter, [ct], 0⟩] scope pos) env) Q E s := by
  rw [eval_ListComp]
  refine wpAny_comprehension_free (use := none) rfl hs hclos hkind hnames (wpAny_mono h (fun xv s₁ h₁ => ?_) fun _ _ e => e)
  obtain ⟨y, t, news, rfl, hh, F, N, hsz, R⟩ := h₁
  have up : ∀ o b ob, s₁.heap.get? b = some ob → (s₁.heap.push o).get? b = some ob := fun o b ob e => Heap.get?_push_of_some _ e
  have lt1 : ∀ o : Obj, ∀ b ∈ [s₁.heap.objs.size], b < (s₁.heap.push o).objs.size := fun o b hb => by
    rw [List.mem_singleton.mp hb, Heap.size_push]; exact Nat.lt_succ_self _
  cases ha : y.cps.all (· < 128)
  · refine wpAny_pyIter_wide ha ?_
    refine block_T (Walks.strWide hh s₁.heap.objs.size y t) hsz (fun i h st => let ⟨o, e, _⟩ := st; ⟨o, e⟩) text_st hcell hkind hx ⟨_, Heap.get?_push_size _ rfl, rfl, rfl⟩ (lt1 _)
      (F.keeps (up _)) (N.grown (up _)) (Nat.ne_of_lt F.ns.lt) (next_is_new F) (fun p hp => Nat.ne_of_lt (Heap.lt_size (N p hp).1)) trivial (R _ ⟨_, rfl⟩) ?_
    intro D C h tk m' ys news' F' N' o1 hn hC₀ hD₀ hCL hDL hCD offC fin
    refine ⟨m', hn, fun h'' hs'' => fin D h'' tk (F'.change hs'' hCL hC₀) (fun p hp => ?_) o1⟩
    refine ⟨hs''.extBut _ _ ?_ (N' p hp).1, (N' p hp).2⟩
    rcases List.mem_cons.mp hp with rfl | hp
    · exact Ne.symm hCD
    · exact offC p hp
  · refine wpAny_pyIter_ascii ha ?_
    refine block_T (Walks.strAscii hh s₁.heap.objs.size y t) hsz (fun i h st => let ⟨o, e, _⟩ := st; ⟨o, e⟩) text_st hcell hkind hx ⟨_, Heap.get?_push_size _ rfl, rfl, rfl⟩ (lt1 _)
      (F.keeps (up _)) (N.grown (up _)) (Nat.ne_of_lt F.ns.lt) (next_is_new F) (fun p hp => Nat.ne_of_lt (Heap.lt_size (N p hp).1)) trivial (R _ ⟨_, rfl⟩) ?_
    intro D C h tk m' ys news' F' N' o1 hn hC₀ hD₀ hCL hDL hCD offC fin
    refine ⟨m', hn, fun h'' hs'' => fin D h'' tk (F'.change hs'' hCL hC₀) (fun p hp => ?_) o1⟩
    refine ⟨hs''.extBut _ _ ?_ (N' p hp).1, (N' p hp).2⟩
    rcases List.mem_cons.mp hp with rfl | hp
    · exact Ne.symm hCD
    · exact offC p hp
theorem strs_snoc {vs : List Value} {ys : List Str} {y : Str} {t : Tok} (h : StrsAre vs ys) : StrsAre (vs ++ [.str y t]) (ys ++ [y]) := StrsAre.append' h (.cons y t .nil)
end
end Mine
end
section
open PySem PySem.Spec PySem.Calls PyProof.Rows PySem.W
namespace Mine
theorem qs_len (n : Nat) (h : n < 32) : (Txt.mul (Str.ofString "\"") (n : Int)).length ≤ 31 := by
  have : ∀ n : Nat, n < 32 → (Txt.mul (Str.ofString "\"") (n : Int)).length ≤ 31 := by decide +kernel
  exact this n h
noncomputable abbrev toldX (k : Nat) (x : String) : Str := Str.ofString "257 \"" ++ Txt.mul (Str.ofString "\"") (k : Int) ++ Str.ofString "z\"" ++ Str.ofString x
noncomputable def toldV (k : Nat) : Str := Txt.mul (Str.ofString "\"") ((k / 2 : Nat) : Int) ++ (if k % 2 = 0 then Str.ofString "z" else Str.ofString "")
noncomputable def toldOk (k : Nat) (x : String) : Bool := decide ((toldX k x).length ≤ 200) && (Txt.slice (toldX k x) none (some 3) == Str.ofString "257") && (pf (toldX k x) == toldV k)
theorem told_all : ∀ k : Nat, k < 32 → toldOk k "" = true ∧ toldOk k " it is" = true ∧ toldOk k ". \"z\"" = true := by decide +kernel
theorem told_pre {k : Nat} {x : String} (h : toldOk k x = true) : (toldX k x).length ≤ 200 ∧ Txt.slice (toldX k x) none (some 3) = Str.ofString "257" := by
  unfold toldOk at h
  simp only [Bool.and_eq_true, decide_eq_true_eq, beq_iff_eq] at h
  exact h.1
theorem told_val {k : Nat} {x : String} (h : toldOk k x = true) : pf (toldX k x) = toldV k := by
  unfold toldOk at h
  simp only [Bool.and_eq_true, decide_eq_true_eq, beq_iff_eq] at h
  exact h.2
end Mine
namespace Mine
noncomputable def haF (n : Nat) : Nat → Int
  | 0 => 0
  | i + 1 => haF n i + ((n / 2 ^ (i + 1) : Nat) : Int)
noncomputable def tyF (n d : Nat) : Nat → Str
  | 0 => Str.ofString ""
  | i + 1 => if n / 2 ^ i % 2 = 1 then tyF n d i ++ typF i (d + 41 * i) else tyF n d i
noncomputable def feF (n : Nat) : Nat → Int
  | 0 => 1
  | i + 1 => if n / 2 ^ i % 2 = 1 then feF n i * (1 + 1 * 2 ^ ((1 : Int) * 2 ^ ((i : Int)).toNat).toNat) else feF n i
theorem half_step (n i : Nat) : n / 2 ^ i / 2 = n / 2 ^ (i + 1) := by rw [Nat.div_div_eq_div_mul, Nat.pow_succ]
theorem len_append (a b : Str) : (a ++ b).length = a.length + b.length := by
  show (a.cps ++ b.cps).size = a.cps.size + b.cps.size
  exact Array.size_append
theorem typF_len (a b : Int) : (typF a b).length ≤ 2 := by
  unfold typF
  rw [len_append]
  have h1 : (if (b.fdiv 12).fmod 2 = 0 then typH b else Str.ofString "").length ≤ 1 := by
    split
    · exact Nat.le_refl _
    · exact Nat.zero_le _
  have h2 : (if b.fmod 12 < 10 then typA a b else typB a b).length ≤ 1 := by
    split
    · exact Nat.le_refl _
    · unfold typB Txt.item
      first | (split <;> first | exact Nat.le_refl _ | exact Nat.zero_le _) | exact Nat.le_refl _
  omega
theorem tyF_len (n d : Nat) : ∀ i, (tyF n d i).length ≤ 2 * i
  | 0 => Nat.le_refl 0
  | i + 1 => by
    unfold tyF
    have := tyF_len n d i
    split
    · rw [len_append]
      have := typF_len i (d + 41 * i)
      omega
    · omega
theorem haF_b (n i : Nat) (h : n < 32) (hi : i ≤ 5) : 0 ≤ haF n i ∧ haF n i ≤ 100 := by
  have : ∀ n : Nat, n < 32 → ∀ i : Nat, i < 6 → 0 ≤ haF n i ∧ haF n i ≤ 100 := by decide +kernel
  exact this n h i (by omega)
theorem pw_b (i : Nat) (hi : i < 5) : (0 ≤ (1 : Int) * 2 ^ ((i : Int)).toNat ∧ (1 : Int) * 2 ^ ((i : Int)).toNat ≤ 16) ∧ 0 ≤ (1 : Int) * 2 ^ ((1 : Int) * 2 ^ ((i : Int)).toNat).toNat ∧ (1 : Int) * 2 ^ ((1 : Int) * 2 ^ ((i : Int)).toNat).toNat ≤ 65536 := by
  have : ∀ i : Nat, i < 5 → (0 ≤ (1 : Int) * 2 ^ ((i : Int)).toNat ∧ (1 : Int) * 2 ^ ((i : Int)).toNat ≤ 16) ∧ 0 ≤ (1 : Int) * 2 ^ ((1 : Int) * 2 ^ ((i : Int)).toNat).toNat ∧ (1 : Int) * 2 ^ ((1 : Int) * 2 ^ ((i : Int)).toNat).toNat ≤ 65536 := by decide +kernel
  exact this i hi
noncomputable def tvOk (k : Nat) : Bool := decide ((toldV k).length ≤ 40) && (toldV k).cps.all (· < 128) && decide (cntF (toldV k) (Str.ofString "\"") = ((k / 2 : Nat) : Int)) && ((!(Builtin.Str.occurrences (toldV k) (Str.ofString "z") 0 (toldV k).length 1).isEmpty) == decide (k % 2 = 0)) &&
  decide ((Txt.mul (Str.ofString "\"") ((k : Int).fdiv 2)).length ≤ 31) && (toldV k == Txt.mul (Str.ofString "\"") ((k : Int).fdiv 2) ++ (if (k : Int).fmod 2 = 0 then Str.ofString "z" else Str.ofString ""))
theorem tv_all : ∀ k : Nat, k < 32 → tvOk k = true := by decide +kernel
theorem tv_facts {k : Nat} (h : k < 32) : (((toldV k).length ≤ 40 ∧ (toldV k).cps.all (· < 128) = true) ∧ cntF (toldV k) (Str.ofString "\"") = ((k / 2 : Nat) : Int) ∧ (!(Builtin.Str.occurrences (toldV k) (Str.ofString "z") 0 (toldV k).length 1).isEmpty) = decide (k % 2 = 0)) ∧
    (Txt.mul (Str.ofString "\"") ((k : Int).fdiv 2)).length ≤ 31 ∧ toldV k = Txt.mul (Str.ofString "\"") ((k : Int).fdiv 2) ++ (if (k : Int).fmod 2 = 0 then Str.ofString "z" else Str.ofString "") := by
  have := tv_all k h
  unfold tvOk at this
  simp only [Bool.and_eq_true, decide_eq_true_eq, beq_iff_eq] at this
  obtain ⟨⟨⟨⟨⟨a, b⟩, c⟩, d⟩, e⟩, f⟩ := this
  exact ⟨⟨⟨a, b⟩, c, d⟩, e, f⟩
theorem told_bad0 {k : Nat} (hk : k < 32) (h : (k : Int).fmod 2 = 0) (h2 : (toldV k != Txt.mul (Str.ofString "\"") ((k : Int).fdiv 2) ++ Str.ofString "z") = true) : False := by
  have := (tv_facts hk).2.2
  rw [if_pos h] at this
  exact ne_true this h2
theorem told_bad1 {k : Nat} (hk : k < 32) (h : (k : Int).fmod 2 = 1) (h2 : (toldV k != Txt.mul (Str.ofString "\"") ((k : Int).fdiv 2) ++ Str.ofString "") = true) : False := by
  have := (tv_facts hk).2.2
  rw [if_neg (by omega)] at this
  exact ne_true this h2
end Mine
namespace Mine
noncomputable abbrev behX (k : Nat) : Nat → Str
  | 0 => Str.ofString "257" ++ (Str.ofString " \"" ++ Txt.mul (Str.ofString "\"") (k : Int) ++ Txt.mul (Str.ofString "\"") (k : Int))
  | 1 => Str.ofString "257" ++ (Str.ofString " \"" ++ Txt.mul (Str.ofString "\"") (k : Int) ++ Txt.mul (Str.ofString "\"") (k : Int) ++ Str.ofString "z")
  | 2 => Str.ofString "257" ++ (Str.ofString " z" ++ Txt.mul (Str.ofString "\"") (k : Int))
  | _ => Str.ofString "257" ++ (Str.ofString "-\"" ++ Txt.mul (Str.ofString "\"") (k : Int))
noncomputable abbrev behV (k : Nat) : Nat → Str
  | 0 => Txt.mul (Str.ofString "\"") (k : Int)
  | 1 => Txt.mul (Str.ofString "\"") (k : Int) ++ Str.ofString "z"
  | _ => Str.ofString ""
noncomputable def behOk (k i : Nat) : Bool := decide ((behX k i).length ≤ 200) && (Txt.slice (behX k i) none (some 3) == Str.ofString "257") && (pf (behX k i) == behV k i)
theorem beh_all : ∀ k : Nat, k < 32 → behOk k 0 = true ∧ behOk k 1 = true ∧ behOk k 2 = true ∧ behOk k 3 = true := by decide +kernel
theorem beh_pre {k i : Nat} (h : behOk k i = true) : ((behX k i).length ≤ 200 ∧ Txt.slice (behX k i) none (some 3) = Str.ofString "257") ∧ pf (behX k i) = behV k i := by
  unfold behOk at h
  simp only [Bool.and_eq_true, decide_eq_true_eq, beq_iff_eq] at h
  exact h
noncomputable abbrev refX (k : Nat) : Str := Str.ofString (toString (258 + (k : Int))) ++ Str.ofString " \"z\""
theorem ref_all : ∀ k : Nat, k < 32 → (refX k).length ≤ 200 ∧ (Txt.slice (refX k) none (some 3) != Str.ofString "257") = true := by decide +kernel
end Mine
end
section
open PySem PySem.Spec PySem.Calls PyProof.Rows PySem.W
namespace Mine
noncomputable def letS (i : Nat) : Str := ⟨#[97 + i]⟩
noncomputable def lets (n : Nat) : Nat → List Str
  | 0 => []
  | i + 1 => if n / 2 ^ i % 2 = 1 then lets n i ++ [letS i] else lets n i
noncomputable def wordN (n : Nat) : Str := Txt.join (Str.ofString "") (lets n 5)
noncomputable def wOf (l : List Nat) : List Str := (l.filter fun (c : Nat) => !b1S (c : Int)).map mapF
noncomputable def tW (y : Str) (i : Nat) : List Str := wOf (y.cps.toList.take i)
theorem wOf_append (a b : List Nat) : wOf (a ++ b) = wOf a ++ wOf b := by unfold wOf; simp
theorem tW_hit {y : Str} {i c : Nat} (h : y.cps[i]? = some c) (hb : b1S (c : Int) = false) : tW y (i + 1) = tW y i ++ [mapF c] := by
  unfold tW
  rw [take_snoc h, wOf_append]
  unfold wOf
  simp [hb]
theorem tW_miss {y : Str} {i c : Nat} (h : y.cps[i]? = some c) (hb : b1S (c : Int) = true) : tW y (i + 1) = tW y i := by
  unfold tW
  rw [take_snoc h, wOf_append]
  unfold wOf
  simp [hb]
noncomputable def chrOk (y : Str) : Bool := y.cps.toList.all (· < 1114112)
noncomputable def typHk (k : Nat) : Str := ⟨#[(hid.getD k 0).toNat]⟩
noncomputable def typAr (a r : Int) : Str := ⟨#[(119808 + 52 * alph.getD r.toNat 0 + a).toNat]⟩
noncomputable def typBr (a r : Int) : Str := Txt.item (Str.ofString "abcdeABCDE") (a + 5 * (r - 10))
theorem hid_all : ∀ k : Nat, k < 27 → wOf (typHk k).cps.toList = [] ∧ chrOk (typHk k) = true := by decide +kernel
theorem typA_all : ∀ a : Nat, a < 5 → ∀ r : Nat, r < 10 → wOf (typAr a r).cps.toList = [letS a] ∧ chrOk (typAr a r) = true := by decide +kernel
theorem typB_all : ∀ a : Nat, a < 5 → ∀ r : Nat, r < 2 → wOf (typBr a ((r : Int) + 10)).cps.toList = [letS a] ∧ chrOk (typBr a ((r : Int) + 10)) = true := by decide +kernel
theorem cps_append (a b : Str) : (a ++ b).cps.toList = a.cps.toList ++ b.cps.toList := by
  show (a.cps ++ b.cps).toList = _
  simp
theorem chrOk_append {a b : Str} (h1 : chrOk a = true) (h2 : chrOk b = true) : chrOk (a ++ b) = true := by
  unfold chrOk at *
  rw [cps_append, List.all_append, h1, h2]; rfl
theorem fmod_nat {b : Int} {k : Nat} (hk : 0 < k) : ∃ r : Nat, b.fmod k = r ∧ r < k := by
  refine ⟨(b.fmod k).toNat, ?_, ?_⟩
  · have := Int.fmod_nonneg_of_pos b (b := (k : Int)) (by omega); omega
  · have := Int.fmod_lt_of_pos b (b := (k : Int)) (by omega); have := Int.fmod_nonneg_of_pos b (b := (k : Int)) (by omega); omega
theorem typF_all (a : Nat) (ha : a < 5) (b : Int) : wOf (typF a b).cps.toList = [letS a] ∧ chrOk (typF a b) = true := by
  have hH : wOf (if (b.fdiv 12).fmod 2 = 0 then typH b else Str.ofString "").cps.toList = [] ∧ chrOk (if (b.fdiv 12).fmod 2 = 0 then typH b else Str.ofString "") = true := by
    split
    · obtain ⟨r, hr, hr2⟩ := fmod_nat (b := b.fdiv 24) (k := 27) (by decide)
      have e : typH b = typHk r := by
        show typHk ((b.fdiv 24).fmod 27).toNat = _
        rw [show ((b.fdiv 24).fmod 27) = (r : Int) from hr]; rfl
      rw [e]; exact hid_all r hr2
    · decide
  have hS : wOf (if b.fmod 12 < 10 then typA a b else typB a b).cps.toList = [letS a] ∧ chrOk (if b.fmod 12 < 10 then typA a b else typB a b) = true := by
    obtain ⟨r, hr, hr2⟩ := fmod_nat (b := b) (k := 12) (by decide)
    have hr : b.fmod 12 = (r : Int) := hr
    split
    · rename_i hlt
      have e : typA a b = typAr a r := by
        show typAr a (b.fmod 12) = _
        rw [hr]
      rw [e]; exact typA_all a ha r (by omega)
    · rename_i hlt
      have e : typB a b = typBr a (((r - 10 : Nat) : Int) + 10) := by
        show typBr a (b.fmod 12) = _
        rw [hr, show (((r - 10 : Nat) : Int) + 10) = (r : Int) by omega]
      rw [e]; exact typB_all a ha (r - 10) (by omega)
  unfold typF
  refine ⟨?_, chrOk_append hH.2 hS.2⟩
  rw [cps_append, wOf_append, hH.1, hS.1]; rfl
theorem tyF_all (n d : Nat) : ∀ i, i ≤ 5 → wOf (tyF n d i).cps.toList = lets n i ∧ chrOk (tyF n d i) = true
  | 0, _ => ⟨rfl, rfl⟩
  | i + 1, h => by
    have ih := tyF_all n d i (by omega)
    have ht := typF_all i (by omega) ((d : Int) + 41 * (i : Int))
    unfold tyF lets
    split
    · refine ⟨?_, chrOk_append ih.2 ht.2⟩
      rw [cps_append, wOf_append, ih.1, ht.1]
    · exact ih
theorem tW_end (n d : Nat) : tW (tyF n d 5) (tyF n d 5).cps.size = lets n 5 := by
  unfold tW
  rw [List.take_of_length_le (by simp)]
  exact (tyF_all n d 5 (Nat.le_refl _)).1
theorem chr_lt {n d i c : Nat} (h : (tyF n d 5).cps[i]? = some c) : c < 1114112 := by
  have := (tyF_all n d 5 (Nat.le_refl _)).2
  unfold chrOk at this
  rw [List.all_eq_true] at this
  have hm : c ∈ (tyF n d 5).cps.toList := by
    rw [← Array.getElem?_toList] at h
    exact List.mem_of_getElem? h
  simpa using this c hm
theorem lets_b : ∀ n : Nat, n < 32 → ((lets n 5).map (·.length)).sum ≤ 5 ∧ (lets n 5).length ≤ 5 ∧ (wordN n).length ≤ 5 := by decide +kernel
end Mine
end
section
open PySem PySem.Spec PySem.Calls PyProof.Rows PySem.W
namespace Mine
theorem bit_eq (n i : Nat) : ((n : Int).fdiv (2 ^ (0 + (i : Int)).toNat)).fmod 2 = ((n / 2 ^ i % 2 : Nat) : Int) := by
  have e : (0 + (i : Int)).toNat = i := by omega
  rw [e, Int.fdiv_eq_ediv_of_nonneg _ (Int.pow_nonneg (by decide)), Int.fmod_eq_emod_of_nonneg _ (by decide)]
  have e2 : (2 : Int) ^ i = ((2 ^ i : Nat) : Int) := by simp
  rw [e2]
  omega
theorem item_let (i : Nat) (h : i < 5) : Txt.item (Str.ofString "abcde") (0 + (i : Int)) = letS i := by
  have : ∀ i : Nat, i < 5 → Txt.item (Str.ofString "abcde") (0 + (i : Int)) = letS i := by decide +kernel
  exact this i h
theorem let_hit {n i : Nat} (hi : i < 5) (h : ((n : Int).fdiv (2 ^ (0 + (i : Int)).toNat)).fmod 2 = 1) : lets n (i + 1) = lets n i ++ [Txt.item (Str.ofString "abcde") (0 + (i : Int))] := by
  rw [bit_eq] at h
  rw [item_let i hi]
  show (if n / 2 ^ i % 2 = 1 then _ else _) = _
  rw [if_pos (by omega)]
theorem let_miss {n i : Nat} (h : ((n : Int).fdiv (2 ^ (0 + (i : Int)).toNat)).fmod 2 ≠ 1) : lets n (i + 1) = lets n i := by
  rw [bit_eq] at h
  show (if n / 2 ^ i % 2 = 1 then _ else _) = _
  rw [if_neg (by omega)]
end Mine
end
section
open PySem PySem.Spec PySem.Calls PyProof.Rows PySem.W
namespace Mine
noncomputable def ellPre (a b : Str) : Bool := decide (a.length ≤ 200) && decide (b.length ≤ 200) && ((Txt.split a (Str.ofString "..."))[0]? == some (Str.ofString "")) && ((Txt.split a (Str.ofString "...")).getLast? == some (Str.ofString "")) && decide (2 ≤ (Txt.split a (Str.ofString "...")).length) && Txt.contains a (Str.ofString "...")
theorem ell_pre {a b : Str} (h : ellPre a b = true) : (a.length ≤ 200 ∧ b.length ≤ 200) ∧ (Txt.split a (Str.ofString "..."))[0]? = some (Str.ofString "") ∧ (Txt.split a (Str.ofString "...")).getLast? = some (Str.ofString "") ∧ 2 ≤ (Txt.split a (Str.ofString "...")).length ∧ Txt.contains a (Str.ofString "...") = true := by
  unfold ellPre at h
  simp only [Bool.and_eq_true, decide_eq_true_eq, beq_iff_eq] at h
  obtain ⟨⟨⟨⟨⟨a1, a2⟩, a3⟩, a4⟩, a5⟩, a6⟩ := h
  exact ⟨⟨a1, a2⟩, a3, a4, a5, a6⟩
theorem c_ellV (w : World) (mean : ExcName → Option Value) (mg mb : Str → Option Value) {a b : Str} {v : Bool} (h : (ellPre a b && (emF b (Txt.split a (Str.ofString "...")) == v)) = true) (news : List (Addr × Obj)) (ta tb : Tok) : Ctr w mean mg mb 53 news True [.str a ta, .str b tb] (fun _ => .bool v) := by
  simp only [Bool.and_eq_true, beq_iff_eq] at h
  intro dp un gd cn cs fa ccd cl outer A₀ base h₀ L m s Q E hB hF hX hN hT hk _ hd hu hret
  exact c_ell w mean mg mb news a ta b tb dp un gd cn cs fa ccd cl outer A₀ base h₀ L m s Q E hB hF hX hN hT hk (ell_pre h.1) hd hu (by rw [h.2]; exact hret)
noncomputable def revs (n : Nat) : Nat → List Str
  | 0 => []
  | i + 1 => revs n i ++ [Txt.item (wordN n) (-1 - (0 + (i : Int)))]
noncomputable abbrev want12 (n : Nat) : Str := Str.ofString "..." ++ Txt.join (Str.ofString "...") (revs n (wordN n).length) ++ Str.ofString "..."
theorem e12 : ∀ n : Nat, n < 32 → (ellPre (want12 n) (wordN n) && (emF (wordN n) (Txt.split (want12 n) (Str.ofString "...")) == decide ((wordN n).length < 2))) = true := by decide +kernel
theorem revs_b : ∀ n : Nat, n < 32 → ((revs n (wordN n).length).map (·.length)).sum ≤ 5 ∧ (revs n (wordN n).length).length ≤ 5 ∧ (Txt.join (Str.ofString "...") (revs n (wordN n).length)).length ≤ 40 := by decide +kernel
end Mine
end
section
open PySem PySem.Spec PySem.Calls PyProof.Rows PySem.W
namespace Mine
noncomputable def prF : Nat → Int
  | 0 => 1
  | i + 1 => prF i * ((i : Int) + 1)
noncomputable def roF : Nat → Int
  | 0 => 1
  | i + 1 => Builtin.bitXor (roF i) (roF i * 2 ^ (1 : Int).toNat)
noncomputable def wyF (n : Nat) : Nat → Int
  | 0 => 1
  | i + 1 => (wyF n i * ((n : Int) - (i : Int))).fdiv ((i : Int) + 1)
noncomputable def figF (n k : Nat) : Int := Builtin.bitAnd ((roF n).fdiv (2 ^ ((k : Int)).toNat)) 1
theorem ro_b : ∀ i : Nat, i < 32 → (0 ≤ roF i ∧ roF i < 4294967296) ∧ (0 ≤ roF i * 2 ^ (1 : Int).toNat) ∧ 0 ≤ prF i := by decide +kernel
theorem f16 : ∀ n : Nat, n < 32 → (Builtin.bitAnd (prF n) (2 * 2 ^ (haF n 5).toNat - 1) = 1 * 2 ^ (haF n 5).toNat ∧ roF n = feF n 5) ∧ (0 ≤ haF n 5 ∧ haF n 5 < 100) ∧ 0 ≤ (2 : Int) * 2 ^ (haF n 5).toNat - 1 := by decide +kernel
noncomputable def letsE (k : Nat) : Nat → List Str
  | 0 => []
  | i + 1 => if k / 2 ^ i % 2 = 1 then letsE k i ++ [letS i ++ Str.ofString "..."] else letsE k i
theorem letE_hit {n i : Nat} (hi : i < 5) (h : ((n : Int).fdiv (2 ^ (0 + (i : Int)).toNat)).fmod 2 = 1) : letsE n (i + 1) = letsE n i ++ [Txt.item (Str.ofString "abcde") (0 + (i : Int)) ++ Str.ofString "..."] := by
  rw [bit_eq] at h
  rw [item_let i hi]
  show (if n / 2 ^ i % 2 = 1 then _ else _) = _
  rw [if_pos (by omega)]
theorem letE_miss {n i : Nat} (h : ((n : Int).fdiv (2 ^ (0 + (i : Int)).toNat)).fmod 2 ≠ 1) : letsE n (i + 1) = letsE n i := by
  rw [bit_eq] at h
  show (if n / 2 ^ i % 2 = 1 then _ else _) = _
  rw [if_neg (by omega)]
theorem letsE_b : ∀ n : Nat, n < 32 → ((letsE n 5).map (·.length)).sum ≤ 20 ∧ (letsE n 5).length ≤ 5 ∧ (Txt.join (Str.ofString "") (letsE n 5)).length ≤ 20 := by decide +kernel
noncomputable abbrev want18 (k : Nat) : Str := Str.ofString "..." ++ Txt.join (Str.ofString "") (letsE k 5)
theorem e18 : ∀ n : Nat, n < 32 → ∀ k : Nat, k < 32 → (ellPre (want18 k) (wordN n) && (emF (wordN n) (Txt.split (want18 k) (Str.ofString "...")) == decide (figF n k = 1))) = true := by decide +kernel
theorem w18 : ∀ n : Nat, n < 32 → ∀ k : Nat, k < 32 → Builtin.bitAnd (wyF n k) 1 = figF n k ∧ 0 ≤ wyF n k ∧ 0 ≤ (roF n).fdiv (2 ^ ((k : Int)).toNat) := by decide +kernel
end Mine
end
section
open PySem PySem.Spec PySem.Calls PyProof.Rows PySem.W
open PyProof.Rows.LCg PyProof.Rows.LCt
namespace Mine
section
theorem fr_p1 {h₀ h : Heap} {L : Addr} {m : Str → Option Value} {x0 : Str} {v0 : Value} (e0 : m x0 = some v0) (F : Fr h₀ L h m) : Fr h₀ L h (fun y => if y = x0 then some v0 else m y) :=
  fr_eq F fun y => by
    by_cases h0 : y = x0
    · rw [if_pos h0, h0, e0]
    rw [if_neg h0]
theorem fr_p2 {h₀ h : Heap} {L : Addr} {m : Str → Option Value} {x0 : Str} {v0 : Value} {x1 : Str} {v1 : Value} (e0 : m x0 = some v0) (e1 : m x1 = some v1) (F : Fr h₀ L h m) : Fr h₀ L h (fun y => if y = x0 then some v0 else if y = x1 then some v1 else m y) :=
  fr_eq F fun y => by
    by_cases h0 : y = x0
    · rw [if_pos h0, h0, e0]
    rw [if_neg h0]
    by_cases h1 : y = x1
    · rw [if_pos h1, h1, e1]
    rw [if_neg h1]
theorem fr_p3 {h₀ h : Heap} {L : Addr} {m : Str → Option Value} {x0 : Str} {v0 : Value} {x1 : Str} {v1 : Value} {x2 : Str} {v2 : Value} (e0 : m x0 = some v0) (e1 : m x1 = some v1) (e2 : m x2 = some v2) (F : Fr h₀ L h m) : Fr h₀ L h (fun y => if y = x0 then some v0 else if y = x1 then some v1 else if y = x2 then some v2 else m y) :=
  fr_eq F fun y => by
    by_cases h0 : y = x0
    · rw [if_pos h0, h0, e0]
    rw [if_neg h0]
    by_cases h1 : y = x1
    · rw [if_pos h1, h1, e1]
    rw [if_neg h1]
    by_cases h2 : y = x2
    · rw [if_pos h2, h2, e2]
    rw [if_neg h2]
theorem fr_p4 {h₀ h : Heap} {L : Addr} {m : Str → Option Value} {x0 : Str} {v0 : Value} {x1 : Str} {v1 : Value} {x2 : Str} {v2 : Value} {x3 : Str} {v3 : Value} (e0 : m x0 = some v0) (e1 : m x1 = some v1) (e2 : m x2 = some v2) (e3 : m x3 = some v3) (F : Fr h₀ L h m) : Fr h₀ L h (fun y => if y = x0 then some v0 else if y = x1 then some v1 else if y = x2 then some v2 else if y = x3 then some v3 else m y) :=
  fr_eq F fun y => by
    by_cases h0 : y = x0
    · rw [if_pos h0, h0, e0]
    rw [if_neg h0]
    by_cases h1 : y = x1
    · rw [if_pos h1, h1, e1]
    rw [if_neg h1]
    by_cases h2 : y = x2
    · rw [if_pos h2, h2, e2]
    rw [if_neg h2]
    by_cases h3 : y = x3
    · rw [if_pos h3, h3, e3]
    rw [if_neg h3]
theorem fr_p5 {h₀ h : Heap} {L : Addr} {m : Str → Option Value} {x0 : Str} {v0 : Value} {x1 : Str} {v1 : Value} {x2 : Str} {v2 : Value} {x3 : Str} {v3 : Value} {x4 : Str} {v4 : Value} (e0 : m x0 = some v0) (e1 : m x1 = some v1) (e2 : m x2 = some v2) (e3 : m x3 = some v3) (e4 : m x4 = some v4) (F : Fr h₀ L h m) : Fr h₀ L h (fun y => if y = x0 then some v0 else if y = x1 then some v1 else if y = x2 then some v2 else if y = x3 then some v3 else if y = x4 then some v4 else m y) :=
  fr_eq F fun y => by
    by_cases h0 : y = x0
    · rw [if_pos h0, h0, e0]
    rw [if_neg h0]
    by_cases h1 : y = x1
    · rw [if_pos h1, h1, e1]
    rw [if_neg h1]
    by_cases h2 : y = x2
    · rw [if_pos h2, h2, e2]
    rw [if_neg h2]
    by_cases h3 : y = x3
    · rw [if_pos h3, h3, e3]
    rw [if_neg h3]
    by_cases h4 : y = x4
    · rw [if_pos h4, h4, e4]
    rw [if_neg h4]
theorem fr_p6 {h₀ h : Heap} {L : Addr} {m : Str → Option Value} {x0 : Str} {v0 : Value} {x1 : Str} {v1 : Value} {x2 : Str} {v2 : Value} {x3 : Str} {v3 : Value} {x4 : Str} {v4 : Value} {x5 : Str} {v5 : Value} (e0 : m x0 = some v0) (e1 : m x1 = some v1) (e2 : m x2 = some v2) (e3 : m x3 = some v3) (e4 : m x4 = some v4) (e5 : m x5 = some v5) (F : Fr h₀ L h m) : Fr h₀ L h (fun y => if y = x0 then some v0 else if y = x1 then some v1 else if y = x2 then some v2 else if y = x3 then some v3 else if y = x4 then some v4 else if y = x5 then some v5 else m y) :=
  fr_eq F fun y => by
    by_cases h0 : y = x0
    · rw [if_pos h0, h0, e0]
    rw [if_neg h0]
    by_cases h1 : y = x1
    · rw [if_pos h1, h1, e1]
    rw [if_neg h1]
    by_cases h2 : y = x2
    · rw [if_pos h2, h2, e2]
    rw [if_neg h2]
    by_cases h3 : y = x3
    · rw [if_pos h3, h3, e3]
    rw [if_neg h3]
    by_cases h4 : y = x4
    · rw [if_pos h4, h4, e4]
    rw [if_neg h4]
    by_cases h5 : y = x5
    · rw [if_pos h5, h5, e5]
    rw [if_neg h5]
theorem fr_p7 {h₀ h : Heap} {L : Addr} {m : Str → Option Value} {x0 : Str} {v0 : Value} {x1 : Str} {v1 : Value} {x2 : Str} {v2 : Value} {x3 : Str} {v3 : Value} {x4 : Str} {v4 : Value} {x5 : Str} {v5 : Value} {x6 : Str} {v6 : Value} (e0 : m x0 = some v0) (e1 : m x1 = some v1) (e2 : m x2 = some v2) (e3 : m x3 = some v3) (e4 : m x4 = some v4) (e5 : m x5 = some v5) (e6 : m x6 = some v6) (F : Fr h₀ L h m) : Fr h₀ L h (fun y => if y = x0 then some v0 else if y = x1 then some v1 else if y = x2 then some v2 else if y = x3 then some v3 else if y = x4 then some v4 else if y = x5 then some v5 else if y = x6 then some v6 else m y) :=
  fr_eq F fun y => by
    by_cases h0 : y = x0
    · rw [if_pos h0, h0, e0]
    rw [if_neg h0]
    by_cases h1 : y = x1
    · rw [if_pos h1, h1, e1]
    rw [if_neg h1]
    by_cases h2 : y = x2
    · rw [if_pos h2, h2, e2]
    rw [if_neg h2]
    by_cases h3 : y = x3
    · rw [if_pos h3, h3, e3]
    rw [if_neg h3]
    by_cases h4 : y = x4
    · rw [if_pos h4, h4, e4]
    rw [if_neg h4]
    by_cases h5 : y = x5
    · rw [if_pos h5, h5, e5]
    rw [if_neg h5]
    by_cases h6 : y = x6
    · rw [if_pos h6, h6, e6]
    rw [if_neg h6]
noncomputable abbrev P0 (h₀ : Heap) (m : Str → Option Value) (_ _ _ : Option Value) : Prop := ∃ l vs ns, m (Str.ofString "script") = some (.ref l) ∧ h₀.IsList l vs.toArray ∧ IntsAre vs ns ∧ ns.length ≤ 63
noncomputable abbrev P1 (h₀ : Heap) (m : Str → Option Value) (vk vw vn : Option Value) : Prop := P0 h₀ m vk vw vn ∧ ∃ (n : Nat) (t : Tok), n < 32 ∧ vn = some (.int n t)
noncomputable abbrev PN (m : Str → Option Value) (vn : Option Value) (n d : Nat) : Prop := n < 32 ∧ d < 1000000 ∧ (∃ t, vn = some (.int n t)) ∧ ∃ t, m (Str.ofString "dress") = some (.int d t)
noncomputable abbrev P2 (_ : Heap) (m : Str → Option Value) (_ _ vn : Option Value) : Prop := ∃ n d, PN m vn n d
noncomputable abbrev P3 (_ : Heap) (m : Str → Option Value) (_ _ vn : Option Value) : Prop := ∃ n d, PN m vn n d ∧ ∃ t, m (Str.ofString "run") = some (.str (Txt.mul (Str.ofString "\"") n) t)
noncomputable abbrev P6 (_ : Heap) (m : Str → Option Value) (_ _ vn : Option Value) : Prop := ∃ n d, PN m vn n d ∧ ∃ t, m (Str.ofString "marks") = some (.int n t)
noncomputable abbrev P7 (_ : Heap) (m : Str → Option Value) (_ _ vn : Option Value) : Prop := ∃ n d, PN m vn n d ∧ (∃ t, m (Str.ofString "marks") = some (.int n t)) ∧ ∃ t, m (Str.ofString "halves") = some (.int 0 t)
noncomputable abbrev P8 (_ : Heap) (m : Str → Option Value) (_ _ vn : Option Value) : Prop := ∃ n d, PN m vn n d ∧ (∃ t, m (Str.ofString "marks") = some (.int n t)) ∧ (∃ t, m (Str.ofString "halves") = some (.int 0 t)) ∧ ∃ t, m (Str.ofString "typed") = some (.str (Str.ofString "") t)
noncomputable abbrev P9 (_ : Heap) (m : Str → Option Value) (_ _ vn : Option Value) : Prop := ∃ n d, PN m vn n d ∧ (∃ t, m (Str.ofString "marks") = some (.int n t)) ∧ (∃ t, m (Str.ofString "halves") = some (.int 0 t)) ∧ (∃ t, m (Str.ofString "typed") = some (.str (Str.ofString "") t)) ∧ ∃ t, m (Str.ofString "fermat") = some (.int 1 t)
theorem mod_nat {a : Int} {k : Nat} (hk : 0 < k) : ∃ n : Nat, a.fmod k = n ∧ n < k := by
  refine ⟨(a.fmod k).toNat, ?_, ?_⟩
  · have := Int.fmod_nonneg_of_pos a (b := (k : Int)) (by omega); omega
  · have := Int.fmod_lt_of_pos a (b := (k : Int)) (by omega); have := Int.fmod_nonneg_of_pos a (b := (k : Int)) (by omega); omega
set_option maxRecDepth 100000 in
set_option maxHeartbeats 8000000 in
theorem l0 : LawStep 0 P0 P1 := by
  dsimp only [LawStep, LawGo]
  k_fill
  k_with_none
  intro w mean mg mb h₀ L fa ccd s₀ Q E rest hB hX hT hE hgo s m vk vw vn ⟨⟨h, tk, hs⟩, F, ok, ow, on, N, hk, hw, hn⟩ hI
  subst hs
  obtain ⟨l, vs, ns, hl, hL, hi, hlen⟩ := hI
  have F := fr_p1 hl F
  have hp := IntsAre.pick hi none none (some 2)
  obtain ⟨n, hn2, hn3⟩ := mod_nat (a := 11 + (pickNums ns none none (some 2)).sum) (k := 32) (by decide)
  show wpAny _ _ (execs (Stmt.Assign _ _ _ :: _) _) _ _ _
  k_steps
  refine hgo _ _ _ _ _ ⟨⟨_, _, rfl⟩, by k_asm, _, _, _, by first | k_asm | exact cb_drop (by k_asm) (by kcj_all), by assumption, by assumption, by assumption⟩ ?_
  exact ⟨⟨l, vs, ns, rfl, hL, hi, hlen⟩, n, _, hn3, by rw [← hn2]; rfl⟩
set_option maxRecDepth 100000 in
set_option maxHeartbeats 8000000 in
theorem l1 : LawStep 1 P1 P2 := by
  dsimp only [LawStep, LawGo]
  k_fill
  k_with_none
  intro w mean mg mb h₀ L fa ccd s₀ Q E rest hB hX hT hE hgo s m vk vw vn ⟨⟨h, tk, hs⟩, F, ok, ow, on, N, hk, hw, hn⟩ hI
  subst hs
  obtain ⟨⟨l, vs, ns, hl, hL, hi, hlen⟩, n, tn, hn1, hvn⟩ := hI
  subst hvn
  have F := fr_p1 hl F
  have hp := IntsAre.pick hi (some 1) none (some 2)
  obtain ⟨d, hd2, hd3⟩ := mod_nat (a := 4321 + (pickNums ns (some 1) none (some 2)).sum) (k := 1000000) (by decide)
  show wpAny _ _ (execs (Stmt.Assign _ _ _ :: _) _) _ _ _
  k_steps
  refine hgo _ _ _ _ _ ⟨⟨_, _, rfl⟩, by k_asm, _, _, _, by first | k_asm | exact cb_drop (by k_asm) (by kcj_all), by assumption, by assumption, by assumption⟩ ?_
  exact ⟨n, d, hn1, hd3, ⟨_, rfl⟩, _, by rw [← hd2]; rfl⟩
set_option maxRecDepth 100000 in
set_option maxHeartbeats 8000000 in
theorem l2 : LawStep 2 P2 P3 := by
  dsimp only [LawStep, LawGo]
  k_fill
  k_with_none
  intro w mean mg mb h₀ L fa ccd s₀ Q E rest hB hX hT hE hgo s m vk vw vn ⟨⟨h, tk, hs⟩, F, ok, ow, on, N, hk, hw, hn⟩ hI
  subst hs
  obtain ⟨n, d, ⟨hn1, hd1, ⟨tn, hvn⟩, td, hd⟩⟩ := hI
  subst hvn
  have F := fr_p1 hd F
  show wpAny _ _ (execs (Stmt.Assign _ _ _ :: _) _) _ _ _
  k_steps
  refine hgo _ _ _ _ _ ⟨⟨_, _, rfl⟩, by k_asm, _, _, _, by first | k_asm | exact cb_drop (by k_asm) (by kcj_all), by assumption, by assumption, by assumption⟩ ?_
  exact ⟨n, d, ⟨hn1, hd1, ⟨_, rfl⟩, _, rfl⟩, _, rfl⟩
set_option maxRecDepth 100000 in
set_option maxHeartbeats 8000000 in
theorem l5 : LawStep 5 P2 P6 := by
  dsimp only [LawStep, LawGo]
  k_fill
  k_with_none
  intro w mean mg mb h₀ L fa ccd s₀ Q E rest hB hX hT hE hgo s m vk vw vn ⟨⟨h, tk, hs⟩, F, ok, ow, on, N, hk, hw, hn⟩ hI
  subst hs
  obtain ⟨n, d, ⟨hn1, hd1, ⟨tn, hvn⟩, td, hd⟩⟩ := hI
  subst hvn
  have F := fr_p1 hd F
  show wpAny _ _ (execs (Stmt.Assign _ _ _ :: _) _) _ _ _
  k_steps
  refine hgo _ _ _ _ _ ⟨⟨_, _, rfl⟩, by k_asm, _, _, _, by first | k_asm | exact cb_drop (by k_asm) (by kcj_all), by assumption, by assumption, by assumption⟩ ?_
  exact ⟨n, d, ⟨hn1, hd1, ⟨_, rfl⟩, _, rfl⟩, _, rfl⟩
set_option maxRecDepth 100000 in
set_option maxHeartbeats 8000000 in
theorem l6 : LawStep 6 P6 P7 := by
  dsimp only [LawStep, LawGo]
  k_fill
  k_with_none
  intro w mean mg mb h₀ L fa ccd s₀ Q E rest hB hX hT hE hgo s m vk vw vn ⟨⟨h, tk, hs⟩, F, ok, ow, on, N, hk, hw, hn⟩ hI
  subst hs
  obtain ⟨n, d, ⟨hn1, hd1, ⟨tn, hvn⟩, td, hd⟩, tm, hm⟩ := hI
  subst hvn
  have F := fr_p2 hd hm F
  show wpAny _ _ (execs (Stmt.Assign _ _ _ :: _) _) _ _ _
  k_steps
  refine hgo _ _ _ _ _ ⟨⟨_, _, rfl⟩, by k_asm, _, _, _, by first | k_asm | exact cb_drop (by k_asm) (by kcj_all), by assumption, by assumption, by assumption⟩ ?_
  exact ⟨n, d, ⟨hn1, hd1, ⟨_, rfl⟩, _, rfl⟩, ⟨_, rfl⟩, _, rfl⟩
set_option maxRecDepth 100000 in
set_option maxHeartbeats 8000000 in
theorem l7 : LawStep 7 P7 P8 := by
  dsimp only [LawStep, LawGo]
  k_fill
  k_with_none
  intro w mean mg mb h₀ L fa ccd s₀ Q E rest hB hX hT hE hgo s m vk vw vn ⟨⟨h, tk, hs⟩, F, ok, ow, on, N, hk, hw, hn⟩ hI
  subst hs
  obtain ⟨n, d, ⟨hn1, hd1, ⟨tn, hvn⟩, td, hd⟩, ⟨tm, hm⟩, th, hh⟩ := hI
  subst hvn
  have F := fr_p3 hd hm hh F
  show wpAny _ _ (execs (Stmt.Assign _ _ _ :: _) _) _ _ _
  k_steps
  refine hgo _ _ _ _ _ ⟨⟨_, _, rfl⟩, by k_asm, _, _, _, by first | k_asm | exact cb_drop (by k_asm) (by kcj_all), by assumption, by assumption, by assumption⟩ ?_
  exact ⟨n, d, ⟨hn1, hd1, ⟨_, rfl⟩, _, rfl⟩, ⟨_, rfl⟩, ⟨_, rfl⟩, _, rfl⟩
set_option maxRecDepth 100000 in
set_option maxHeartbeats 8000000 in
theorem l8 : LawStep 8 P8 P9 := by
  dsimp only [LawStep, LawGo]
  k_fill
  k_with_none
  intro w mean mg mb h₀ L fa ccd s₀ Q E rest hB hX hT hE hgo s m vk vw vn ⟨⟨h, tk, hs⟩, F, ok, ow, on, N, hk, hw, hn⟩ hI
  subst hs
  obtain ⟨n, d, ⟨hn1, hd1, ⟨tn, hvn⟩, td, hd⟩, ⟨tm, hm⟩, ⟨th, hh⟩, tt, ht⟩ := hI
  subst hvn
  have F := fr_p4 hd hm hh ht F
  show wpAny _ _ (execs (Stmt.Assign _ _ _ :: _) _) _ _ _
  k_steps
  refine hgo _ _ _ _ _ ⟨⟨_, _, rfl⟩, by k_asm, _, _, _, by first | k_asm | exact cb_drop (by k_asm) (by kcj_all), by assumption, by assumption, by assumption⟩ ?_
  exact ⟨n, d, ⟨hn1, hd1, ⟨_, rfl⟩, _, rfl⟩, ⟨_, rfl⟩, ⟨_, rfl⟩, ⟨_, rfl⟩, _, rfl⟩
end

section
theorem c_beh (w : World) (mean : ExcName → Option Value) (mg mb : Str → Option Value) {k i : Nat} (h : behOk k i = true) (news : List (Addr × Obj)) (ta : Tok) : Ctr w mean mg mb 46 news True [.str (behX k i) ta] (fun t => .str (behV k i) t) := by
  intro dp un gd cn cs a ccd cl outer A₀ base h₀ L m s Q E hB hF hX hN hT hk _ hd hu hret
  exact c_parse w mean mg mb news (behX k i) ta dp un gd cn cs a ccd cl outer A₀ base h₀ L m s Q E hB hF hX hN hT hk (beh_pre h).1 hd hu (by rw [(beh_pre h).2]; exact hret)
theorem ne_self {x : Str} (h : (x != x) = true) : False := by simp at h
theorem c_beh0 (w : World) (mean : ExcName → Option Value) (mg mb : Str → Option Value) {k : Nat} (h : k < 32) (news : List (Addr × Obj)) (ta : Tok) : Ctr w mean mg mb 46 news True [.str (Str.ofString "257" ++ (Str.ofString " \"" ++ Txt.mul (Str.ofString "\"") (k : Int) ++ Txt.mul (Str.ofString "\"") (k : Int))) ta] (fun t => .str (Txt.mul (Str.ofString "\"") (k : Int)) t) := c_beh w mean mg mb (i := 0) (beh_all k h).1 news ta
theorem c_beh1 (w : World) (mean : ExcName → Option Value) (mg mb : Str → Option Value) {k : Nat} (h : k < 32) (news : List (Addr × Obj)) (ta : Tok) : Ctr w mean mg mb 46 news True [.str (Str.ofString "257" ++ (Str.ofString " \"" ++ Txt.mul (Str.ofString "\"") (k : Int) ++ Txt.mul (Str.ofString "\"") (k : Int) ++ Str.ofString "z")) ta] (fun t => .str (Txt.mul (Str.ofString "\"") (k : Int) ++ Str.ofString "z") t) := c_beh w mean mg mb (i := 1) (beh_all k h).2.1 news ta
theorem c_beh2 (w : World) (mean : ExcName → Option Value) (mg mb : Str → Option Value) {k : Nat} (h : k < 32) (news : List (Addr × Obj)) (ta : Tok) : Ctr w mean mg mb 46 news True [.str (Str.ofString "257" ++ (Str.ofString " z" ++ Txt.mul (Str.ofString "\"") (k : Int))) ta] (fun t => .str (Str.ofString "") t) := c_beh w mean mg mb (i := 2) (beh_all k h).2.2.1 news ta
theorem c_beh3 (w : World) (mean : ExcName → Option Value) (mg mb : Str → Option Value) {k : Nat} (h : k < 32) (news : List (Addr × Obj)) (ta : Tok) : Ctr w mean mg mb 46 news True [.str (Str.ofString "257" ++ (Str.ofString "-\"" ++ Txt.mul (Str.ofString "\"") (k : Int))) ta] (fun t => .str (Str.ofString "") t) := c_beh w mean mg mb (i := 3) (beh_all k h).2.2.2 news ta
local macro_rules | `(tactic| walk_at "call ref") => `(tactic| (refine stop_of ?_))
local macro_rules | `(tactic| walk_at "call ref") => `(tactic| (k_here; first
  | (with_reducible refine' lcT (c_ref _ _ _ _ _ _ _) ?B ?F ?X ?N ?T ?pre ?_; (case B => k_asm); (case F => k_asm); (case X => k_asm); (case N => k_asm); (case T => k_asm); (case pre => (exact ref_all _ (by assumption))); (intro tR hR kR FR NR); (try dsimp only))))
local macro_rules | `(tactic| walk_at "pyIter ref") => `(tactic| (refine stop_of ?_))
set_option maxRecDepth 100000 in
set_option maxHeartbeats 8000000 in
theorem l3 : LawStep 3 P3 P2 := by
  dsimp only [LawStep, LawGo]
  k_fill
  k_with_none
  intro w mean mg mb h₀ L fa ccd s₀ Q E rest hB hX hT hE hgo s m vk vw vn ⟨⟨h, tk, hs⟩, F, ok, ow, on, N, hk, hw, hn⟩ hI
  subst hs
  obtain ⟨n, d, ⟨hn1, hd1, ⟨tn, hvn⟩, td, hd⟩, tr, hr⟩ := hI
  subst hvn
  have F := fr_p2 hd hr F
  have hrl := qs_len n hn1
  show wpAny _ _ (execs (Stmt.For _ _ _ _ _ :: _) _) _ _ _
  refine wpAny_execs_cons ?_
  refine wpAny_For ?_
  k_steps
  refine stop_go ?_
  refine loopLT (nn := 0) (by rfl) (.head _) rfl ?hv (by k_asm) (by k_asm) (fun _ m' => m' (Str.ofString "dress") = some (.int d td)) ?h0 ?turn ?done hE
  case hv => intro v hv; simp only [List.mem_cons, List.not_mem_nil, or_false] at hv; rcases hv with rfl | rfl | rfl | rfl <;> exact ⟨_, rfl⟩
  case h0 => rfl
  case done =>
    intro m₁ h tk htk hJ F N
    refine hgo _ _ _ _ _ ⟨⟨_, _, rfl⟩, by k_asm, _, _, _, by first | k_asm | exact cb_drop (by k_asm) (by kcj_all), by assumption, by assumption, by assumption⟩ ?_
    exact ⟨n, d, hn1, hd1, ⟨_, rfl⟩, _, hJ⟩
  case turn =>
    intro i v m₁ h tk I o hv htk hJ hlt F N
    have F := fr_p1 hJ F
    have hi : i < 4 := by
      have := (Array.getElem?_eq_some_iff.mp hv).1
      simpa using this
    have F : Fr h₀ L h _ := F
    have N : News h₀ L h _ := N
    match i, hi with
    | 0, _ =>
      obtain rfl : Value.ref _ = v := Option.some.inj hv
      refine stop_post ?_
      k_steps
      refine stop_go ?_
      refine stop_post ?_
      k_steps
      refine stop_go ?_
      with_reducible refine' lc (c_beh0 _ _ _ _ ?hq _ _) ?B ?F ?X ?N ?T ?pre ?_
      (case hq => assumption)
      (case B => k_asm)
      (case F => k_asm)
      (case X => k_asm)
      (case N => k_asm)
      (case T => k_asm)
      (case pre => (trivial))
      (intro tR hR kR FR NR)
      (try dsimp only)
      k_steps
      all_goals first
        | exact (ne_self (by assumption)).elim
        | exact stop_go ⟨_, _, _, rfl, by k_asm, by k_asm, rfl⟩
    | 1, _ =>
      obtain rfl : Value.ref _ = v := Option.some.inj hv
      refine stop_post ?_
      k_steps
      refine stop_go ?_
      refine stop_post ?_
      k_steps
      refine stop_go ?_
      with_reducible refine' lc (c_beh1 _ _ _ _ ?hq _ _) ?B ?F ?X ?N ?T ?pre ?_
      (case hq => assumption)
      (case B => k_asm)
      (case F => k_asm)
      (case X => k_asm)
      (case N => k_asm)
      (case T => k_asm)
      (case pre => (trivial))
      (intro tR hR kR FR NR)
      (try dsimp only)
      k_steps
      all_goals first
        | exact (ne_self (by assumption)).elim
        | exact stop_go ⟨_, _, _, rfl, by k_asm, by k_asm, rfl⟩
    | 2, _ =>
      obtain rfl : Value.ref _ = v := Option.some.inj hv
      refine stop_post ?_
      k_steps
      refine stop_go ?_
      refine stop_post ?_
      k_steps
      refine stop_go ?_
      with_reducible refine' lc (c_beh2 _ _ _ _ ?hq _ _) ?B ?F ?X ?N ?T ?pre ?_
      (case hq => assumption)
      (case B => k_asm)
      (case F => k_asm)
      (case X => k_asm)
      (case N => k_asm)
      (case T => k_asm)
      (case pre => (trivial))
      (intro tR hR kR FR NR)
      (try dsimp only)
      k_steps
      all_goals first
        | exact (ne_self (by assumption)).elim
        | exact stop_go ⟨_, _, _, rfl, by k_asm, by k_asm, rfl⟩
    | 3, _ =>
      obtain rfl : Value.ref _ = v := Option.some.inj hv
      refine stop_post ?_
      k_steps
      refine stop_go ?_
      refine stop_post ?_
      k_steps
      refine stop_go ?_
      with_reducible refine' lc (c_beh3 _ _ _ _ ?hq _ _) ?B ?F ?X ?N ?T ?pre ?_
      (case hq => assumption)
      (case B => k_asm)
      (case F => k_asm)
      (case X => k_asm)
      (case N => k_asm)
      (case T => k_asm)
      (case pre => (trivial))
      (intro tR hR kR FR NR)
      (try dsimp only)
      k_steps
      all_goals first
        | exact (ne_self (by assumption)).elim
        | exact stop_go ⟨_, _, _, rfl, by k_asm, by k_asm, rfl⟩
end

section
local macro_rules | `(tactic| walk_at "call ref") => `(tactic| (refine stop_of ?_))
local macro_rules | `(tactic| walk_at "call ref") => `(tactic| (k_here; first
  | (with_reducible refine' lcT (c_ref _ _ _ _ _ _ _) ?B ?F ?X ?N ?T ?pre ?_; (case B => k_asm); (case F => k_asm); (case X => k_asm); (case N => k_asm); (case T => k_asm); (case pre => (exact ref_all _ (by assumption))); (intro tR hR kR FR NR); (try dsimp only))))
local macro_rules | `(tactic| walk_at "pyIter ref") => `(tactic| (refine stop_of ?_))
set_option maxRecDepth 100000 in
set_option maxHeartbeats 8000000 in
theorem l4 : LawStep 4 P2 P2 := by
  dsimp only [LawStep, LawGo]
  k_fill
  k_with_none
  intro w mean mg mb h₀ L fa ccd s₀ Q E rest hB hX hT hE hgo s m vk vw vn ⟨⟨h, tk, hs⟩, F, ok, ow, on, N, hk, hw, hn⟩ hI
  subst hs
  obtain ⟨n, d, hn1, hd1, ⟨tn, hvn⟩, td, hd⟩ := hI
  subst hvn
  have F := fr_p1 hd F
  show wpAny _ _ (execs (Stmt.If _ _ _ _ :: _) _) _ _ _
  k_steps
  refine hgo _ _ _ _ _ ⟨⟨_, _, rfl⟩, by k_asm, _, _, _, by first | k_asm | exact cb_drop (by k_asm) (by kcj_all), by assumption, by assumption, by assumption⟩ ?_
  exact ⟨n, d, hn1, hd1, ⟨_, rfl⟩, _, rfl⟩
end

section
theorem c_told (w : World) (mean : ExcName → Option Value) (mg mb : Str → Option Value) {k : Nat} {x : String} (h : toldOk k x = true) (news : List (Addr × Obj)) (ta : Tok) : Ctr w mean mg mb 46 news True [.str (toldX k x) ta] (fun t => .str (toldV k) t) := by
  intro dp un gd cn cs a ccd cl outer A₀ base h₀ L m s Q E hB hF hX hN hT hk _ hd hu hret
  exact c_parse w mean mg mb news (toldX k x) ta dp un gd cn cs a ccd cl outer A₀ base h₀ L m s Q E hB hF hX hN hT hk (told_pre h) hd hu (by rw [told_val h]; exact hret)
theorem tok_ok {k : Nat} (h : 1 ≤ k) : k ≠ 0 ∧ k < k + 1 := ⟨by omega, by omega⟩
theorem c_cnt (w : World) (mean : ExcName → Option Value) (mg mb : Str → Option Value) {k : Nat} (h : k < 32) (news : List (Addr × Obj)) (ta tb : Tok) : CtrS w mean mg mb 123 news (fun s => tb ≠ 0 ∧ tb < s.toks) [.str (toldV k) ta, .str (Str.ofString "\"") tb] (fun t => .int ((k / 2 : Nat) : Int) t) := by
  intro dp un gd cn cs a ccd cl outer A₀ base h₀ L m s Q E hB hF hX hN hT hk hp hd hu hret
  exact c_countOf w mean mg mb news (toldV k) ta (Str.ofString "\"") tb dp un gd cn cs a ccd cl outer A₀ base h₀ L m s Q E hB hF hX hN hT hk ⟨⟨Nat.le_trans (tv_facts h).1.1.1 (by decide), (tv_facts h).1.1.2⟩, hp⟩ hd hu (by rw [(tv_facts h).1.2.1]; exact hret)
theorem c_hasz (w : World) (mean : ExcName → Option Value) (mg mb : Str → Option Value) {k : Nat} (h : k < 32) (news : List (Addr × Obj)) (ta tb : Tok) : Ctr w mean mg mb 116 news True [.str (toldV k) ta, .str (Str.ofString "z") tb] (fun _ => .bool (decide (k % 2 = 0))) := by
  intro dp un gd cn cs a ccd cl outer A₀ base h₀ L m s Q E hB hF hX hN hT hk _ hd hu hret
  exact c_contains w mean mg mb news (toldV k) ta (Str.ofString "z") tb dp un gd cn cs a ccd cl outer A₀ base h₀ L m s Q E hB hF hX hN hT hk ⟨Nat.le_trans (tv_facts h).1.1.1 (by decide), by decide⟩ hd hu (by rw [(tv_facts h).1.2.2]; exact hret)
local macro_rules | `(tactic| walk_at "call ref") => `(tactic| (refine stop_of ?_))
local macro_rules | `(tactic| walk_at "call ref") => `(tactic| (k_here; first
  | (with_reducible refine' lc (c_add _ _ _ _ _ _ _ _ _) ?B ?F ?X ?N ?T ?pre ?_; (case B => k_asm); (case F => k_asm); (case X => k_asm); (case N => k_asm); (case T => k_asm); (case pre => (trivial)); (intro tR hR kR FR NR); (try dsimp only))
  | (with_reducible refine' lc (c_mul _ _ _ _ _ _ _ _ _) ?B ?F ?X ?N ?T ?pre ?_; (case B => k_asm); (case F => k_asm); (case X => k_asm); (case N => k_asm); (case T => k_asm); (case pre => (omega)); (intro tR hR kR FR NR); (try dsimp only))
  | (with_reducible refine' lc (c_sub _ _ _ _ _ _ _ _ _) ?B ?F ?X ?N ?T ?pre ?_; (case B => k_asm); (case F => k_asm); (case X => k_asm); (case N => k_asm); (case T => k_asm); (case pre => (trivial)); (intro tR hR kR FR NR); (try dsimp only))
  | (with_reducible refine' lc (c_and_ _ _ _ _ _ _ _ _ _) ?B ?F ?X ?N ?T ?pre ?_; (case B => k_asm); (case F => k_asm); (case X => k_asm); (case N => k_asm); (case T => k_asm); (case pre => (omega)); (intro tR hR kR FR NR); (try dsimp only))
  | (with_reducible refine' lc (c_floordiv _ _ _ _ _ _ _ _ _) ?B ?F ?X ?N ?T ?pre ?_; (case B => k_asm); (case F => k_asm); (case X => k_asm); (case N => k_asm); (case T => k_asm); (case pre => (omega)); (intro tR hR kR FR NR); (try dsimp only))
  | (with_reducible refine' lc (c_lshift _ _ _ _ _ _ _ _ _) ?B ?F ?X ?N ?T ?pre ?_; (case B => k_asm); (case F => k_asm); (case X => k_asm); (case N => k_asm); (case T => k_asm); (case pre => (omega)); (intro tR hR kR FR NR); (try dsimp only))
  | (with_reducible refine' lc (c_rshift _ _ _ _ _ _ _ _ _) ?B ?F ?X ?N ?T ?pre ?_; (case B => k_asm); (case F => k_asm); (case X => k_asm); (case N => k_asm); (case T => k_asm); (case pre => (omega)); (intro tR hR kR FR NR); (try dsimp only))
  | (with_reducible refine' lc (c_xor _ _ _ _ _ _ _ _ _) ?B ?F ?X ?N ?T ?pre ?_; (case B => k_asm); (case F => k_asm); (case X => k_asm); (case N => k_asm); (case T => k_asm); (case pre => (omega)); (intro tR hR kR FR NR); (try dsimp only))
  | (with_reducible refine' lc (c_typed _ _ _ _ _ _ _ _ _) ?B ?F ?X ?N ?T ?pre ?_; (case B => k_asm); (case F => k_asm); (case X => k_asm); (case N => k_asm); (case T => k_asm); (case pre => (omega)); (intro tR hR kR FR NR); (try dsimp only))))
local macro_rules | `(tactic| walk_at "call ref") => `(tactic| (k_here; first
  | (with_reducible refine' lc (c_told _ _ _ _ ?hq _ _) ?B ?F ?X ?N ?T ?pre ?_; (case hq => exact (told_all _ (by assumption)).1); (case B => k_asm); (case F => k_asm); (case X => k_asm); (case N => k_asm); (case T => k_asm); (case pre => (trivial)); (intro tR hR kR FR NR); (try dsimp only))
  | (with_reducible refine' lc (c_told _ _ _ _ ?hq _ _) ?B ?F ?X ?N ?T ?pre ?_; (case hq => exact (told_all _ (by assumption)).2.1); (case B => k_asm); (case F => k_asm); (case X => k_asm); (case N => k_asm); (case T => k_asm); (case pre => (trivial)); (intro tR hR kR FR NR); (try dsimp only))
  | (with_reducible refine' lc (c_told _ _ _ _ ?hq _ _) ?B ?F ?X ?N ?T ?pre ?_; (case hq => exact (told_all _ (by assumption)).2.2); (case B => k_asm); (case F => k_asm); (case X => k_asm); (case N => k_asm); (case T => k_asm); (case pre => (trivial)); (intro tR hR kR FR NR); (try dsimp only))
  | (with_reducible refine' lcS (c_cnt _ _ _ _ ?hq _ _ _) ?B ?F ?X ?N ?T ?pre ?_; (case hq => assumption); (case B => k_asm); (case F => k_asm); (case X => k_asm); (case N => k_asm); (case T => k_asm); (case pre => (exact tok_ok (by assumption))); (intro tR hR kR FR NR); (try dsimp only))
  | (with_reducible refine' lc (c_hasz _ _ _ _ ?hq _ _ _) ?B ?F ?X ?N ?T ?pre ?_; (case hq => assumption); (case B => k_asm); (case F => k_asm); (case X => k_asm); (case N => k_asm); (case T => k_asm); (case pre => (trivial)); (intro tR hR kR FR NR); (try dsimp only))))
local macro_rules | `(tactic| walk_at "pyIter ref") => `(tactic| (refine stop_of ?_))
noncomputable abbrev J9 (n d i : Nat) (m : Str → Option Value) (_ _ vn : Option Value) : Prop := PN m vn n d ∧ (∃ t, m (Str.ofString "marks") = some (.int ((n / 2 ^ i : Nat) : Int) t)) ∧ (∃ t, m (Str.ofString "halves") = some (.int (haF n i) t)) ∧ (∃ t, m (Str.ofString "typed") = some (.str (tyF n d i) t)) ∧ ∃ t, m (Str.ofString "fermat") = some (.int (feF n i) t)
noncomputable abbrev P10 (_ : Heap) (m : Str → Option Value) (vk vw vn : Option Value) : Prop := ∃ n d, J9 n d 5 m vk vw vn
theorem par0 {k : Nat} (h : (k : Int).fmod 2 = 0) : k % 2 = 0 := by rw [Int.fmod_eq_emod_of_nonneg _ (by decide)] at h; omega
theorem par1 {k : Nat} (h : (k : Int).fmod 2 = 1) : ¬ k % 2 = 0 := by rw [Int.fmod_eq_emod_of_nonneg _ (by decide)] at h; omega
theorem pa1 {k : Nat} (h : (k : Int).fmod 2 = 0) (h2 : (!decide (k % 2 = 0)) = true) : False := by simp [par0 h] at h2
theorem pa2 {k : Nat} (h : (k : Int).fmod 2 = 0) (h2 : decide (k % 2 = 0) = false) : False := by simp [par0 h] at h2
theorem pa3 {k : Nat} (h : (k : Int).fmod 2 = 0) (h2 : ¬ k % 2 = 0) : False := h2 (par0 h)
theorem pa4 {k : Nat} (h : (k : Int).fmod 2 = 1) (h2 : (!decide (k % 2 = 0)) = false) : False := by simp [par1 h] at h2
theorem pa5 {k : Nat} (h : (k : Int).fmod 2 = 1) (h2 : decide (k % 2 = 0) = true) : False := par1 h (of_decide_eq_true h2)
theorem pa6 {k : Nat} (h : (k : Int).fmod 2 = 1) (h2 : k % 2 = 0) : False := par1 h h2
theorem execs_if1 {M : Model} {A : Around} {E : Value → Shared → Prop} {Q : Flow → Shared → Prop} {s : Shared} {c : PySem.Expr} {b o : List Stmt} {p : Pos} {rest : List Stmt} {env : Env} (h1 : 1 ≤ s.toks) (h : wpAny M A (exec (.If c b o p) env) (fun f s' => 1 ≤ s'.toks → match f with | .next => wpAny M A (execs rest env) Q E s' | f => Q f s') E s) : wpAny M A (execs (.If c b o p :: rest) env) Q E s :=
  wpAny_execs_cons (wpAny_mono (wpAny_toks_of (n := 1) h1 h) (fun _ _ q => q.2 q.1) fun _ _ e => e.2)
local macro_rules | `(tactic| walk_at "execs cons") => `(tactic| ((with_reducible refine wpAny_execs_cons ?_); try dsimp only))
local macro_rules | `(tactic| walk_at "execs cons") => `(tactic| ((with_reducible refine execs_if1 (by (try dsimp only); omega) ?_); try dsimp only))
set_option maxRecDepth 100000 in
set_option maxHeartbeats 8000000 in
theorem l9 : LawStep 9 P9 P10 := by
  dsimp only [LawStep, LawGo]
  k_fill
  k_with_none
  intro w mean mg mb h₀ L fa ccd s₀ Q E rest hB hX hT hE hgo s m vk vw vn ⟨⟨h, tk, hs⟩, F, ok, ow, on, N, hk, hw, hn⟩ hI
  subst hs
  obtain ⟨n, d, ⟨hn1, hd1, ⟨tn, hvn⟩, td, hd⟩, ⟨tm, hm⟩, ⟨th, hh⟩, ⟨tt, ht⟩, tf, hf⟩ := hI
  subst hvn
  have F := fr_p5 hd hm hh ht hf F
  show wpAny _ _ (execs (Stmt.For _ _ _ _ _ :: _) _) _ _ _
  refine wpAny_execs_cons ?_
  refine wpAny_For ?_
  k_steps
  refine stop_go ?_
  refine lawRange (s₀ := s₀) (c := 5) (J9 n d) (by assumption) (by omega) ⟨_, _, rfl⟩ (by assumption) (by assumption) (by assumption) (by assumption) (by assumption) ?h0 ?turn ?done hE
  case h0 => exact ⟨⟨hn1, hd1, ⟨_, rfl⟩, _, rfl⟩, ⟨_, by rw [Nat.pow_zero, Nat.div_one]; rfl⟩, ⟨_, rfl⟩, ⟨_, rfl⟩, ⟨_, rfl⟩⟩
  case done =>
    intro s m vk vw vn hL hJ
    exact hgo _ _ _ _ _ hL ⟨n, d, hJ⟩
  case turn =>
    intro i t s m₁ vk₁ vw₁ vn₁ I oI ok₁ ow₁ on₁ hi ⟨h₁, tk₁, hs⟩ F₁ N₁ hk₁ hw₁ hn₁ hne hJ
    subst hs
    obtain ⟨⟨_, _, ⟨tn₁, hvn₁⟩, td₁, hd₁⟩, ⟨tm, hm⟩, ⟨th, hh⟩, ⟨tt, ht⟩, tf, hf⟩ := hJ
    subst hvn₁
    have F := fr_p5 hd₁ hm hh ht hf F₁
    clear F₁ hk hw hn
    have hmk : n / 2 ^ i < 32 := Nat.lt_of_le_of_lt (Nat.div_le_self _ _) hn1
    have hha := haF_b n i hn1 (by omega)
    have hpw := pw_b i hi
    have hty : (tyF n d i).length ≤ 10 := Nat.le_trans (tyF_len n d i) (by omega)
    have htl := typF_len (i : Int) ((d : Int) + 41 * (i : Int))
    have hmul := (tv_facts hmk).2.1
    have key : ∀ (m' : Str → Option Value) (vn' : Option Value), PN m' vn' n d → (∃ t, m' (Str.ofString "marks") = some (.int ((n / 2 ^ i / 2 : Nat) : Int) t)) → (∃ t, m' (Str.ofString "halves") = some (.int (haF n i + ((n / 2 ^ i / 2 : Nat) : Int)) t)) →
        ((n / 2 ^ i % 2 = 0 ∧ (∃ t, m' (Str.ofString "typed") = some (.str (tyF n d i) t)) ∧ ∃ t, m' (Str.ofString "fermat") = some (.int (feF n i) t)) ∨ (¬ n / 2 ^ i % 2 = 0 ∧ (∃ t, m' (Str.ofString "typed") = some (.str (tyF n d i ++ typF i (d + 41 * i)) t)) ∧ ∃ t, m' (Str.ofString "fermat") = some (.int (feF n i * (1 + 1 * 2 ^ ((1 : Int) * 2 ^ ((i : Int)).toNat).toNat)) t))) →
        ∀ vk vw, J9 n d (i + 1) m' vk vw vn' := by
      intro m' vn' h1 h2 h3 h4 vk vw
      rw [half_step] at h2 h3
      refine ⟨h1, h2, h3, ?_⟩
      unfold tyF feF
      rcases h4 with ⟨h5, h6⟩ | ⟨h5, h6⟩
      · rw [if_neg (by omega), if_neg (by omega)]; exact h6
      · rw [if_pos (by omega), if_pos (by omega)]; exact h6
    generalize n / 2 ^ i = mk at hm hmk F hmul key
    refine stop_post ?_
    k_steps
    refine stop_go ?_
    refine stop_post ?_
    k_steps
    all_goals first
      | exact (told_bad0 hmk (by assumption) (by assumption)).elim
      | exact (told_bad1 hmk (by assumption) (by assumption)).elim
      | exact stop_go ⟨_, vk₁, vw₁, _, ok₁, ow₁, on₁, ⟨_, _, rfl⟩, by k_asm, cb_drop (by k_asm) (by kcj_all), hk₁, hw₁, hn₁, key _ _ ⟨hn1, hd1, ⟨_, rfl⟩, _, rfl⟩ ⟨_, rfl⟩ ⟨_, rfl⟩ (.inl ⟨par0 (by assumption), ⟨_, rfl⟩, _, rfl⟩) _ _⟩
      | exact stop_go ⟨_, vk₁, vw₁, _, ok₁, ow₁, on₁, ⟨_, _, rfl⟩, by k_asm, cb_drop (by k_asm) (by kcj_all), hk₁, hw₁, hn₁, key _ _ ⟨hn1, hd1, ⟨_, rfl⟩, _, rfl⟩ ⟨_, rfl⟩ ⟨_, rfl⟩ (.inr ⟨par1 (by assumption), ⟨_, rfl⟩, _, rfl⟩) _ _⟩
      | exact (pa1 (by assumption) (by assumption)).elim
      | exact (pa2 (by assumption) (by assumption)).elim
      | exact (pa3 (by assumption) (by assumption)).elim
      | exact (pa4 (by assumption) (by assumption)).elim
      | exact (pa5 (by assumption) (by assumption)).elim
      | exact (pa6 (by assumption) (by assumption)).elim
      | skip
end

section
open PyProof.Rows.LCg PyProof.Rows.LCt
noncomputable abbrev PW (m : Str → Option Value) (vw vn : Option Value) (n : Nat) : Prop := n < 32 ∧ (∃ t, vn = some (.int n t)) ∧ (∃ t, vw = some (.str (wordN n) t))
noncomputable abbrev P11 (_ : Heap) (m : Str → Option Value) (_ vw vn : Option Value) : Prop := ∃ n, PW m vw vn n ∧ (∃ t, m (Str.ofString "halves") = some (.int (haF n 5) t)) ∧ (∃ t, m (Str.ofString "fermat") = some (.int (feF n 5) t))
local macro_rules | `(tactic| walk_at "call ref") => `(tactic| (refine stop_of ?_))
local macro_rules | `(tactic| walk_at "call ref") => `(tactic| (k_here; first
  | (with_reducible refine' lc (c_inb1 _ _ _ _ _ _ _) ?B ?F ?X ?N ?T ?pre ?_; (case B => k_asm); (case F => k_asm); (case X => k_asm); (case N => k_asm); (case T => k_asm); (case pre => (assumption)); (intro tR hR kR FR NR); (try dsimp only))
  | (with_reducible refine' lc (c_map _ _ _ _ _ _ _) ?B ?F ?X ?N ?T ?pre ?_; (case B => k_asm); (case F => k_asm); (case X => k_asm); (case N => k_asm); (case T => k_asm); (case pre => (assumption)); (intro tR hR kR FR NR); (try dsimp only))))
local macro_rules | `(tactic| walk_at "pyIter ref") => `(tactic| (refine stop_of ?_))
local macro_rules | `(tactic| walk_at "eval ListComp") => `(tactic| (refine stop_of ?_))
local macro_rules | `(tactic| walk_at "call builtin:str.join") => `(tactic| (refine stop_of ?_))
set_option maxRecDepth 100000 in
set_option maxHeartbeats 8000000 in
theorem l10 : LawStep 10 P10 P11 := by
  dsimp only [LawStep, LawGo]
  k_fill
  k_with_none
  intro w mean mg mb h₀ L fa ccd s₀ Q E rest hB hX hT hE hgo s m vk vw vn ⟨⟨h, tk, hs⟩, F, ok, ow, on, N, hk, hw, hn⟩ hI
  subst hs
  obtain ⟨n, d, ⟨hn1, hd1, ⟨tn, hvn⟩, td, hd⟩, _, ⟨th, hh⟩, ⟨tt, ht⟩, tf, hf⟩ := hI
  subst hvn
  have F := fr_p4 hd hh hf ht F
  have htl := tyF_len n d 5
  show wpAny _ _ (execs (Stmt.Assign _ _ _ :: _) _) _ _ _
  k_steps
  refine stop_go ?_
  refine ListComp_text F (by with_unfolding_all rfl) (by decide) (by rfl) (by decide) (by rfl) ?_
  refine stop_post ?_
  k_steps
  refine stop_go ⟨_, _, _, rfl, rfl, by k_asm, by k_asm, Nat.le_trans htl (by decide), fun s₂ hs₂ => restT_ind (fun i ys => StrsAre ys (tW (tyF n d 5) i)) .nil ?_ ?_⟩
  · intro i ys hi hys v I oI C oC D m₂ h tk E' hP hNs hx F N off ne
    obtain ⟨c, u, hc, rfl⟩ := hP
    obtain ⟨g₂, rfl⟩ := hs₂
    have hcl := chr_lt hc
    simp only [LCg.Off3, and_true] at off
    k_steps
    · exact stop_go ⟨rfl, by rw [tW_miss hc (by assumption)]; exact hys⟩
    · exact stop_go ⟨rfl, by rw [tW_hit hc (by assumption)]; exact strs_snoc hys⟩
  · intro ys hys
    obtain ⟨g₂, rfl⟩ := hs₂
    rw [tW_end] at hys
    have hlb := lets_b n hn1
    k_steps
    refine stop_go ?_
    refine join_list (items := ys.toArray) (ys := lets n 5) (News.isList (by k_asm) (.head _)) hys (by show _ + _ * 0 ≤ _; omega) ?_
    intro tJ kJ
    k_steps
    refine hgo _ _ _ _ _ ⟨⟨_, _, rfl⟩, by k_asm, _, _, _, by first | k_asm | exact cb_drop (by k_asm) (by kcj_all), by assumption, by assumption, by assumption⟩ ?_
    exact ⟨n, ⟨hn1, ⟨_, rfl⟩, _, rfl⟩, ⟨_, rfl⟩, _, rfl⟩
end

section
open PyProof.Rows.LCg PyProof.Rows.LCt
local macro_rules | `(tactic| walk_at "call ref") => `(tactic| (refine stop_of ?_))
local macro_rules | `(tactic| walk_at "pyIter ref") => `(tactic| (refine stop_of ?_))
local macro_rules | `(tactic| walk_at "eval ListComp") => `(tactic| (refine stop_of ?_))
local macro_rules | `(tactic| walk_at "CompSrcT") => `(tactic| (refine stop_of ?_))
local macro_rules | `(tactic| walk_at "call builtin:str.join") => `(tactic| (refine stop_of ?_))
set_option maxRecDepth 100000 in
set_option maxHeartbeats 8000000 in
theorem l11 : LawStep 11 P11 P11 := by
  dsimp only [LawStep, LawGo]
  k_fill
  k_with_none
  intro w mean mg mb h₀ L fa ccd s₀ Q E rest hB hX hT hE hgo s m vk vw vn ⟨⟨h, tk, hs⟩, F, ok, ow, on, N, hk, hw, hn⟩ hI
  subst hs
  obtain ⟨n, ⟨hn1, ⟨tn, hvn⟩, tw, hvw⟩, ⟨th, hh⟩, ⟨tf, hf⟩⟩ := hI
  subst hvn
  subst hvw
  have F := fr_p2 hh hf F
  have hlb := lets_b n hn1
  show wpAny _ _ (execs (Stmt.If _ _ _ _ :: _) _) _ _ _
  k_steps
  refine stop_go ?_
  refine ListComp_T F (by with_unfolding_all rfl) (by decide) (by rfl) (by decide) (by rfl) ?_
  k_steps
  refine stop_go ?_
  refine CompSrcT.range (n := 5) (by rfl) (by k_asm) (by k_asm) (by assumption) (by decide) (by rfl) (by decide) ?_
  intro g₂
  refine restT_ind (fun i ys => StrsAre ys (lets n i)) .nil ?_ ?_
  · intro i ys hi hys v I oI C oC D m₂ h tk E' hP hNs hx F N off ne
    obtain ⟨u, rfl⟩ := hP
    simp only [Off3, and_true] at off
    k_steps
    · exact stop_go ⟨rfl, by rw [let_hit hi (by assumption)]; exact strs_snoc hys⟩
    · exact stop_go ⟨rfl, by rw [let_miss (by assumption)]; exact hys⟩
  · intro ys hys
    k_steps
    refine stop_go ?_
    refine join_list (items := ys.toArray) (ys := lets n 5) (News.isList (by k_asm) (.head _)) hys (by show _ + _ * 0 ≤ _; omega) ?_
    intro tJ kJ
    k_steps
    · exact (ne_self (x := wordN n) (by assumption)).elim
    refine hgo _ _ _ _ _ ⟨⟨_, _, rfl⟩, by k_asm, _, _, _, by first | k_asm | exact cb_drop (by k_asm) (by kcj_all), by assumption, by assumption, by assumption⟩ ?_
    exact ⟨n, ⟨hn1, ⟨_, rfl⟩, _, rfl⟩, ⟨_, rfl⟩, _, rfl⟩
end

section
open PyProof.Rows.LCg PyProof.Rows.LCt
local macro_rules | `(tactic| walk_at "call ref") => `(tactic| (refine stop_of ?_))
local macro_rules | `(tactic| walk_at "pyIter ref") => `(tactic| (refine stop_of ?_))
local macro_rules | `(tactic| walk_at "call ref") => `(tactic| (k_here; first
  | (with_reducible refine' lc (c_ellV _ _ _ _ ?hq _ _ _) ?B ?F ?X ?N ?T ?pre ?_; (case hq => exact e12 _ (by assumption)); (case B => k_asm); (case F => k_asm); (case X => k_asm); (case N => k_asm); (case T => k_asm); (case pre => (trivial)); (intro tR hR kR FR NR); (try dsimp only))))
theorem len_ne {l : Nat} (h : (decide (l < 2) != decide ((l : Int) < 2)) = true) : False := by
  by_cases h2 : l < 2
  · have : (l : Int) < 2 := by omega
    simp [h2, this] at h
  · have : ¬ (l : Int) < 2 := by omega
    simp [h2, this] at h
local macro_rules | `(tactic| walk_at "eval ListComp") => `(tactic| (refine stop_of ?_))
local macro_rules | `(tactic| walk_at "CompSrc") => `(tactic| (refine stop_of ?_))
local macro_rules | `(tactic| walk_at "call builtin:str.join") => `(tactic| (refine stop_of ?_))
set_option maxRecDepth 100000 in
set_option maxHeartbeats 8000000 in
theorem l12 : LawStep 12 P11 P11 := by
  dsimp only [LawStep, LawGo]
  k_fill
  k_with_none
  intro w mean mg mb h₀ L fa ccd s₀ Q E rest hB hX hT hE hgo s m vk vw vn ⟨⟨h, tk, hs⟩, F, ok, ow, on, N, hk, hw, hn⟩ hI
  subst hs
  obtain ⟨n, ⟨hn1, ⟨tn, hvn⟩, tw, hvw⟩, ⟨th, hh⟩, ⟨tf, hf⟩⟩ := hI
  subst hvn
  subst hvw
  have F := fr_p2 hh hf F
  have hlb := lets_b n hn1
  have hrb := revs_b n hn1
  show wpAny _ _ (execs (Stmt.If _ _ _ _ :: _) _) _ _ _
  k_steps
  refine stop_go ?_
  refine ListComp_U F (by with_unfolding_all rfl) (by decide) (by rfl) (by decide) (by rfl) ?_
  k_steps
  refine stop_go ?_
  refine CompSrc.range (n := (wordN n).length) (by rfl) (by k_asm) (by k_asm) (by assumption) (small_range (Nat.le_trans hlb.2.2 (by decide))).1 (small_range (Nat.le_trans hlb.2.2 (by decide))).2 (Nat.le_trans hlb.2.2 (by decide)) ?_
  intro g₂
  refine rest_ind (fun i ys => StrsAre ys (revs n i)) .nil ?_ ?_
  · intro i ys hi hys v I oI C oC D m₂ h tk E' hP hNs hx F N off ne
    obtain ⟨u, rfl⟩ := hP
    simp only [Off3, and_true] at off
    k_steps
    exact stop_go ⟨rfl, strs_snoc hys⟩
  · intro ys hys
    k_steps
    refine stop_go ?_
    refine join_list (items := ys.toArray) (ys := revs n (wordN n).length) (News.isList (by k_asm) (.head _)) hys (by show _ + _ * 3 ≤ _; omega) ?_
    intro tJ kJ
    k_steps
    · exact (len_ne (by assumption)).elim
    refine hgo _ _ _ _ _ ⟨⟨_, _, rfl⟩, by k_asm, _, _, _, by first | k_asm | exact cb_drop (by k_asm) (by kcj_all), by assumption, by assumption, by assumption⟩ ?_
    exact ⟨n, ⟨hn1, ⟨_, rfl⟩, _, rfl⟩, ⟨_, rfl⟩, _, rfl⟩
end

section
open PyProof.Rows.LCg PyProof.Rows.LCt
local macro_rules | `(tactic| walk_at "call ref") => `(tactic| (refine stop_of ?_))
local macro_rules | `(tactic| walk_at "pyIter ref") => `(tactic| (refine stop_of ?_))
noncomputable abbrev P14 (_ : Heap) (m : Str → Option Value) (_ vw vn : Option Value) : Prop := ∃ n, PW m vw vn n ∧ (∃ t, m (Str.ofString "halves") = some (.int (haF n 5) t)) ∧ (∃ t, m (Str.ofString "fermat") = some (.int (feF n 5) t)) ∧ (∃ t, m (Str.ofString "product") = some (.int 1 t))
noncomputable abbrev J15 (n i : Nat) (m : Str → Option Value) (_ vw vn : Option Value) : Prop := PW m vw vn n ∧ (∃ t, m (Str.ofString "halves") = some (.int (haF n 5) t)) ∧ (∃ t, m (Str.ofString "fermat") = some (.int (feF n 5) t)) ∧ (∃ t, m (Str.ofString "product") = some (.int (prF i) t)) ∧ (∃ t, m (Str.ofString "row") = some (.int (roF i) t))
noncomputable abbrev P15 (_ : Heap) (m : Str → Option Value) (vk vw vn : Option Value) : Prop := ∃ n, J15 n 0 m vk vw vn
noncomputable abbrev P16 (_ : Heap) (m : Str → Option Value) (vk vw vn : Option Value) : Prop := ∃ n, J15 n n m vk vw vn
noncomputable abbrev P17 (_ : Heap) (m : Str → Option Value) (_ vw vn : Option Value) : Prop := ∃ n, PW m vw vn n ∧ (∃ t, m (Str.ofString "row") = some (.int (roF n) t))
noncomputable abbrev J18 (n i : Nat) (m : Str → Option Value) (_ vw vn : Option Value) : Prop := PW m vw vn n ∧ (∃ t, m (Str.ofString "row") = some (.int (roF n) t)) ∧ (∃ t, m (Str.ofString "ways") = some (.int (wyF n i) t))
noncomputable abbrev P18 (_ : Heap) (m : Str → Option Value) (vk vw vn : Option Value) : Prop := ∃ n, J18 n 0 m vk vw vn
noncomputable abbrev P19 (_ : Heap) (_ : Str → Option Value) (_ _ _ : Option Value) : Prop := True
local macro_rules | `(tactic| walk_at "call ref") => `(tactic| (k_here; first
  | (with_reducible refine' lc (c_add _ _ _ _ _ _ _ _ _) ?B ?F ?X ?N ?T ?pre ?_; (case B => k_asm); (case F => k_asm); (case X => k_asm); (case N => k_asm); (case T => k_asm); (case pre => (trivial)); (intro tR hR kR FR NR); (try dsimp only))
  | (with_reducible refine' lc (c_mul _ _ _ _ _ _ _ _ _) ?B ?F ?X ?N ?T ?pre ?_; (case B => k_asm); (case F => k_asm); (case X => k_asm); (case N => k_asm); (case T => k_asm); (case pre => (omega)); (intro tR hR kR FR NR); (try dsimp only))
  | (with_reducible refine' lc (c_sub _ _ _ _ _ _ _ _ _) ?B ?F ?X ?N ?T ?pre ?_; (case B => k_asm); (case F => k_asm); (case X => k_asm); (case N => k_asm); (case T => k_asm); (case pre => (trivial)); (intro tR hR kR FR NR); (try dsimp only))
  | (with_reducible refine' lc (c_and_ _ _ _ _ _ _ _ _ _) ?B ?F ?X ?N ?T ?pre ?_; (case B => k_asm); (case F => k_asm); (case X => k_asm); (case N => k_asm); (case T => k_asm); (case pre => (omega)); (intro tR hR kR FR NR); (try dsimp only))
  | (with_reducible refine' lc (c_floordiv _ _ _ _ _ _ _ _ _) ?B ?F ?X ?N ?T ?pre ?_; (case B => k_asm); (case F => k_asm); (case X => k_asm); (case N => k_asm); (case T => k_asm); (case pre => (omega)); (intro tR hR kR FR NR); (try dsimp only))
  | (with_reducible refine' lc (c_lshift _ _ _ _ _ _ _ _ _) ?B ?F ?X ?N ?T ?pre ?_; (case B => k_asm); (case F => k_asm); (case X => k_asm); (case N => k_asm); (case T => k_asm); (case pre => (omega)); (intro tR hR kR FR NR); (try dsimp only))
  | (with_reducible refine' lc (c_rshift _ _ _ _ _ _ _ _ _) ?B ?F ?X ?N ?T ?pre ?_; (case B => k_asm); (case F => k_asm); (case X => k_asm); (case N => k_asm); (case T => k_asm); (case pre => (omega)); (intro tR hR kR FR NR); (try dsimp only))
  | (with_reducible refine' lc (c_xor _ _ _ _ _ _ _ _ _) ?B ?F ?X ?N ?T ?pre ?_; (case B => k_asm); (case F => k_asm); (case X => k_asm); (case N => k_asm); (case T => k_asm); (case pre => (omega)); (intro tR hR kR FR NR); (try dsimp only))))
set_option maxRecDepth 100000 in
set_option maxHeartbeats 8000000 in
theorem l13 : LawStep 13 P11 P14 := by
  dsimp only [LawStep, LawGo]
  k_fill
  k_with_none
  intro w mean mg mb h₀ L fa ccd s₀ Q E rest hB hX hT hE hgo s m vk vw vn ⟨⟨h, tk, hs⟩, F, ok, ow, on, N, hk, hw, hn⟩ hI
  subst hs
  obtain ⟨n, ⟨hn1, ⟨tn, hvn⟩, tw, hvw⟩, ⟨th, hh⟩, ⟨tf, hf⟩⟩ := hI
  subst hvn
  subst hvw
  have F := fr_p2 hh hf F
  have hlb := lets_b n hn1
  show wpAny _ _ (execs (Stmt.Assign _ _ _ :: _) _) _ _ _
  k_steps
  refine hgo _ _ _ _ _ ⟨⟨_, _, rfl⟩, by k_asm, _, _, _, by first | k_asm | exact cb_drop (by k_asm) (by kcj_all), by assumption, by assumption, by assumption⟩ ?_
  exact ⟨n, ⟨hn1, ⟨_, rfl⟩, _, rfl⟩, ⟨_, rfl⟩, ⟨_, rfl⟩, _, rfl⟩
set_option maxRecDepth 100000 in
set_option maxHeartbeats 8000000 in
theorem l14 : LawStep 14 P14 P15 := by
  dsimp only [LawStep, LawGo]
  k_fill
  k_with_none
  intro w mean mg mb h₀ L fa ccd s₀ Q E rest hB hX hT hE hgo s m vk vw vn ⟨⟨h, tk, hs⟩, F, ok, ow, on, N, hk, hw, hn⟩ hI
  subst hs
  obtain ⟨n, ⟨hn1, ⟨tn, hvn⟩, tw, hvw⟩, ⟨th, hh⟩, ⟨tf, hf⟩, tp, hp⟩ := hI
  subst hvn
  subst hvw
  have F := fr_p3 hh hf hp F
  show wpAny _ _ (execs (Stmt.Assign _ _ _ :: _) _) _ _ _
  k_steps
  refine hgo _ _ _ _ _ ⟨⟨_, _, rfl⟩, by k_asm, _, _, _, by first | k_asm | exact cb_drop (by k_asm) (by kcj_all), by assumption, by assumption, by assumption⟩ ?_
  exact ⟨n, ⟨hn1, ⟨_, rfl⟩, _, rfl⟩, ⟨_, rfl⟩, ⟨_, rfl⟩, ⟨_, rfl⟩, _, rfl⟩
set_option maxRecDepth 100000 in
set_option maxHeartbeats 8000000 in
theorem l15 : LawStep 15 P15 P16 := by
  dsimp only [LawStep, LawGo]
  k_fill
  k_with_none
  intro w mean mg mb h₀ L fa ccd s₀ Q E rest hB hX hT hE hgo s m vk vw vn ⟨⟨h, tk, hs⟩, F, ok, ow, on, N, hk, hw, hn⟩ hI
  subst hs
  obtain ⟨n, ⟨hn1, ⟨tn, hvn⟩, tw, hvw⟩, ⟨th, hh⟩, ⟨tf, hf⟩, ⟨tp, hp⟩, tr, hr⟩ := hI
  subst hvn
  subst hvw
  have F := fr_p4 hh hf hp hr F
  show wpAny _ _ (execs (Stmt.For _ _ _ _ _ :: _) _) _ _ _
  refine wpAny_execs_cons ?_
  refine wpAny_For ?_
  k_steps
  refine stop_go ?_
  refine lawRange (s₀ := s₀) (c := n) (J15 n) (by assumption) (by omega) ⟨_, _, rfl⟩ (by assumption) (by assumption) (by assumption) (by assumption) (by assumption) ?h0 ?turn ?done hE
  case h0 => exact ⟨⟨hn1, ⟨_, rfl⟩, _, rfl⟩, ⟨_, rfl⟩, ⟨_, rfl⟩, ⟨_, rfl⟩, _, rfl⟩
  case done =>
    intro s m vk vw vn hL hJ
    exact hgo _ _ _ _ _ hL ⟨n, hJ⟩
  case turn =>
    intro i t s m₁ vk₁ vw₁ vn₁ I oI ok₁ ow₁ on₁ hi ⟨h₁, tk₁, hs⟩ F₁ N₁ hk₁ hw₁ hn₁ hne hJ
    subst hs
    obtain ⟨⟨_, ⟨tn₁, hvn₁⟩, tw₁, hvw₁⟩, ⟨th, hh⟩, ⟨tf, hf⟩, ⟨tp, hp⟩, tr, hr⟩ := hJ
    subst hvn₁
    subst hvw₁
    have F := fr_p4 hh hf hp hr F₁
    have hro := ro_b i (by omega)
    refine stop_post ?_
    k_steps
    refine stop_go ?_
    refine stop_post ?_
    k_steps
    exact stop_go ⟨_, _, _, _, _, _, _, ⟨_, _, rfl⟩, by k_asm, by k_asm, by assumption, hw₁, hn₁, ⟨hn1, ⟨_, rfl⟩, _, rfl⟩, ⟨_, rfl⟩, ⟨_, rfl⟩, ⟨_, rfl⟩, _, rfl⟩
set_option maxRecDepth 100000 in
set_option maxHeartbeats 8000000 in
theorem l16 : LawStep 16 P16 P17 := by
  dsimp only [LawStep, LawGo]
  k_fill
  k_with_none
  intro w mean mg mb h₀ L fa ccd s₀ Q E rest hB hX hT hE hgo s m vk vw vn ⟨⟨h, tk, hs⟩, F, ok, ow, on, N, hk, hw, hn⟩ hI
  subst hs
  obtain ⟨n, ⟨hn1, ⟨tn, hvn⟩, tw, hvw⟩, ⟨th, hh⟩, ⟨tf, hf⟩, ⟨tp, hp⟩, tr, hr⟩ := hI
  subst hvn
  subst hvw
  have F := fr_p4 hh hf hp hr F
  have hf16 := f16 n hn1
  have hro := ro_b n hn1
  show wpAny _ _ (execs (Stmt.If _ _ _ _ :: _) _) _ _ _
  k_steps
  · exact absurd hf16.1.1 (by assumption)
  · exact absurd hf16.1.2 (by assumption)
  refine hgo _ _ _ _ _ ⟨⟨_, _, rfl⟩, by k_asm, _, _, _, by first | k_asm | exact cb_drop (by k_asm) (by kcj_all), by assumption, by assumption, by assumption⟩ ?_
  exact ⟨n, ⟨hn1, ⟨_, rfl⟩, _, rfl⟩, _, rfl⟩
set_option maxRecDepth 100000 in
set_option maxHeartbeats 8000000 in
theorem l17 : LawStep 17 P17 P18 := by
  dsimp only [LawStep, LawGo]
  k_fill
  k_with_none
  intro w mean mg mb h₀ L fa ccd s₀ Q E rest hB hX hT hE hgo s m vk vw vn ⟨⟨h, tk, hs⟩, F, ok, ow, on, N, hk, hw, hn⟩ hI
  subst hs
  obtain ⟨n, ⟨hn1, ⟨tn, hvn⟩, tw, hvw⟩, tr, hr⟩ := hI
  subst hvn
  subst hvw
  have F := fr_p1 hr F
  show wpAny _ _ (execs (Stmt.Assign _ _ _ :: _) _) _ _ _
  k_steps
  refine hgo _ _ _ _ _ ⟨⟨_, _, rfl⟩, by k_asm, _, _, _, by first | k_asm | exact cb_drop (by k_asm) (by kcj_all), by assumption, by assumption, by assumption⟩ ?_
  exact ⟨n, ⟨hn1, ⟨_, rfl⟩, _, rfl⟩, ⟨_, rfl⟩, _, rfl⟩
end

section
open PyProof.Rows.LCg PyProof.Rows.LCt
local macro_rules | `(tactic| walk_at "call ref") => `(tactic| (refine stop_of ?_))
local macro_rules | `(tactic| walk_at "pyIter ref") => `(tactic| (refine stop_of ?_))
local macro_rules | `(tactic| walk_at "call ref") => `(tactic| (k_here; first
  | (with_reducible refine' lc (c_add _ _ _ _ _ _ _ _ _) ?B ?F ?X ?N ?T ?pre ?_; (case B => k_asm); (case F => k_asm); (case X => k_asm); (case N => k_asm); (case T => k_asm); (case pre => (trivial)); (intro tR hR kR FR NR); (try dsimp only))
  | (with_reducible refine' lc (c_mul _ _ _ _ _ _ _ _ _) ?B ?F ?X ?N ?T ?pre ?_; (case B => k_asm); (case F => k_asm); (case X => k_asm); (case N => k_asm); (case T => k_asm); (case pre => (omega)); (intro tR hR kR FR NR); (try dsimp only))
  | (with_reducible refine' lc (c_sub _ _ _ _ _ _ _ _ _) ?B ?F ?X ?N ?T ?pre ?_; (case B => k_asm); (case F => k_asm); (case X => k_asm); (case N => k_asm); (case T => k_asm); (case pre => (trivial)); (intro tR hR kR FR NR); (try dsimp only))
  | (with_reducible refine' lc (c_and_ _ _ _ _ _ _ _ _ _) ?B ?F ?X ?N ?T ?pre ?_; (case B => k_asm); (case F => k_asm); (case X => k_asm); (case N => k_asm); (case T => k_asm); (case pre => (omega)); (intro tR hR kR FR NR); (try dsimp only))
  | (with_reducible refine' lc (c_floordiv _ _ _ _ _ _ _ _ _) ?B ?F ?X ?N ?T ?pre ?_; (case B => k_asm); (case F => k_asm); (case X => k_asm); (case N => k_asm); (case T => k_asm); (case pre => (omega)); (intro tR hR kR FR NR); (try dsimp only))
  | (with_reducible refine' lc (c_lshift _ _ _ _ _ _ _ _ _) ?B ?F ?X ?N ?T ?pre ?_; (case B => k_asm); (case F => k_asm); (case X => k_asm); (case N => k_asm); (case T => k_asm); (case pre => (omega)); (intro tR hR kR FR NR); (try dsimp only))
  | (with_reducible refine' lc (c_rshift _ _ _ _ _ _ _ _ _) ?B ?F ?X ?N ?T ?pre ?_; (case B => k_asm); (case F => k_asm); (case X => k_asm); (case N => k_asm); (case T => k_asm); (case pre => (omega)); (intro tR hR kR FR NR); (try dsimp only))
  | (with_reducible refine' lc (c_xor _ _ _ _ _ _ _ _ _) ?B ?F ?X ?N ?T ?pre ?_; (case B => k_asm); (case F => k_asm); (case X => k_asm); (case N => k_asm); (case T => k_asm); (case pre => (omega)); (intro tR hR kR FR NR); (try dsimp only))))
theorem dec_ne {x : Int} (h : (decide (x = 1) != (x == 1)) = true) : False := by by_cases e : x = 1 <;> simp [e] at h
local macro_rules | `(tactic| walk_at "call ref") => `(tactic| (k_here; first
  | (with_reducible refine' lc (c_ellV _ _ _ _ ?hq _ _ _) ?B ?F ?X ?N ?T ?pre ?_; (case hq => exact e18 _ (by assumption) _ (by assumption)); (case B => k_asm); (case F => k_asm); (case X => k_asm); (case N => k_asm); (case T => k_asm); (case pre => (trivial)); (intro tR hR kR FR NR); (try dsimp only))))
local macro_rules | `(tactic| walk_at "eval ListComp") => `(tactic| (refine stop_of ?_))
local macro_rules | `(tactic| walk_at "CompSrcT") => `(tactic| (refine stop_of ?_))
local macro_rules | `(tactic| walk_at "call builtin:str.join") => `(tactic| (refine stop_of ?_))
set_option maxRecDepth 100000 in
set_option maxHeartbeats 8000000 in
theorem l18 : LawStep 18 P18 P19 := by
  dsimp only [LawStep, LawGo]
  k_fill
  k_with_none
  intro w mean mg mb h₀ L fa ccd s₀ Q E rest hB hX hT hE hgo s m vk vw vn ⟨⟨h, tk, hs⟩, F, ok, ow, on, N, hk, hw, hn⟩ hI
  subst hs
  obtain ⟨n, ⟨hn1, ⟨tn, hvn⟩, tw, hvw⟩, ⟨tr, hr⟩, ty, hy⟩ := hI
  subst hvn
  subst hvw
  have F := fr_p2 hr hy F
  show wpAny _ _ (execs (Stmt.For _ _ _ _ _ :: _) _) _ _ _
  refine wpAny_execs_cons ?_
  refine wpAny_For ?_
  k_steps
  refine stop_go ?_
  refine lawRange (s₀ := s₀) (c := 32) (J18 n) (by assumption) (by omega) ⟨_, _, rfl⟩ (by assumption) (by assumption) (by assumption) (by assumption) (by assumption) ?h0 ?turn ?done hE
  case h0 => exact ⟨⟨hn1, ⟨_, rfl⟩, _, rfl⟩, ⟨_, rfl⟩, _, rfl⟩
  case done =>
    intro s m vk vw vn hL hJ
    exact hgo _ _ _ _ _ hL trivial
  case turn =>
    intro i t s m₁ vk₁ vw₁ vn₁ I oI ok₁ ow₁ on₁ hi ⟨h₁, tk₁, hs⟩ F₁ N₁ hk₁ hw₁ hn₁ hne hJ
    subst hs
    obtain ⟨⟨_, ⟨tn₁, hvn₁⟩, tw₁, hvw₁⟩, ⟨tr, hr⟩, ty, hy⟩ := hJ
    subst hvn₁
    subst hvw₁
    have F := fr_p2 hr hy F₁
    have hw18 := w18 n hn1 i hi
    have hro := ro_b n hn1
    have hlb := letsE_b i hi
    refine stop_post ?_
    k_steps
    refine stop_go ?_
    refine stop_post ?_
    k_steps
    refine stop_go ?_
    rename Fr h₀ L _ _ => F'
    refine ListComp_T F' (by with_unfolding_all rfl) (by decide) (by rfl) (by decide) (by rfl) ?_
    k_steps
    refine stop_go ?_
    refine CompSrcT.range (n := 5) (by rfl) (by k_asm) (by k_asm) (by assumption) (by decide) (by rfl) (by decide) ?_
    intro g₂
    refine restT_ind (fun j ys => StrsAre ys (letsE i j)) .nil ?_ ?_
    · intro j ys hj hys v I' oI' C oC D m₂ h tk E' hP hNs hx F N off ne
      obtain ⟨u, rfl⟩ := hP
      simp only [Off3, and_true] at off
      k_steps
      · exact stop_go ⟨rfl, by rw [letE_hit hj (by assumption)]; exact strs_snoc hys⟩
      · exact stop_go ⟨rfl, by rw [letE_miss (by assumption)]; exact hys⟩
    intro ys hys
    k_steps
    refine stop_go ?_
    refine join_list (items := ys.toArray) (ys := letsE i 5) (News.isList (by k_asm) (.head _)) hys (by show _ + _ * 0 ≤ _; omega) ?_
    intro tJ kJ
    k_steps
    · exact (dec_ne (x := figF n i) (by assumption)).elim
    · exact absurd hw18.1 (by assumption)
    · exact stop_go ⟨_, _, _, _, _, _, _, ⟨_, _, rfl⟩, by k_asm, cb_drop (by k_asm) (by kcj_all), by assumption, hw₁, hn₁, ⟨hn1, ⟨_, rfl⟩, _, rfl⟩, ⟨_, rfl⟩, _, rfl⟩
set_option maxRecDepth 100000 in
set_option maxHeartbeats 8000000 in
theorem l19 (w : World) (h₀ : Heap) (L fa : Addr) (ccd : Value) (s₀ : Shared) (Q : Flow → Shared → Prop) (E : Value → Shared → Prop) (mean : ExcName → Option Value) (mg mb : Str → Option Value) (hB : Below callerA h₀ [] h₀) (hX : (K w.params).In h₀) (hT : Top vq lse mean mg mb h₀)
    (hQ : ∀ s m vk vw vn, LawAt h₀ L s₀ s m vk vw vn → Q (.ret (.bool true)) s) : LawGo w h₀ L fa ccd s₀ Q E [(lawBody[19]?).getD (.Pass ⟨0, 0, 0, 0⟩)] (P19 h₀) := by
  dsimp only [LawGo]
  k_fill
  k_with_none
  intro s m vk vw vn ⟨⟨h, tk, hs⟩, F, ok, ow, on, N, hk, hw, hn⟩ hI
  subst hs
  show wpAny _ _ (execs (Stmt.Return _ _ :: _) _) _ _ _
  k_steps
  exact hQ _ _ _ _ _ ⟨⟨_, _, rfl⟩, by k_asm, _, _, _, by k_asm, hk, hw, hn⟩
end

set_option maxRecDepth 100000 in
theorem drop_cons (k : Nat) (h : k < 20) : lawBody.drop k = (lawBody[k]?).getD (.Pass ⟨0, 0, 0, 0⟩) :: lawBody.drop (k + 1) := by
  have hk : k < lawBody.length := by rw [body_len]; exact h
  rw [List.drop_eq_getElem_cons hk, List.getElem?_eq_getElem hk]; rfl
set_option maxRecDepth 100000 in
set_option maxHeartbeats 8000000 in
theorem law_walk (w : World) (h₀ : Heap) (L fa : Addr) (ccd : Value) (s₀ : Shared) (Q : Flow → Shared → Prop) (E : Value → Shared → Prop) (mean : ExcName → Option Value) (mg mb : Str → Option Value) (hB : Below callerA h₀ [] h₀) (hX : (K w.params).In h₀) (hT : Top vq lse mean mg mb h₀)
    (hE : PassesOwn (model PySem.Challenge.rw_wr0048_01.row.prog w) (lawA L fa ccd) (lawEnv L fa ccd) E)
    (hQ : ∀ s m vk vw vn, LawAt h₀ L s₀ s m vk vw vn → Q (.ret (.bool true)) s) : LawGo w h₀ L fa ccd s₀ Q E lawBody (P0 h₀) := by
  have g19 : LawGo w h₀ L fa ccd s₀ Q E (lawBody.drop 19) (P19 h₀) := by
    rw [drop_cons 19 (by decide), List.drop_of_length_le (by rw [body_len]; decide)]
    exact l19 w h₀ L fa ccd s₀ Q E mean mg mb hB hX hT hQ
  have g18 : LawGo w h₀ L fa ccd s₀ Q E (lawBody.drop 18) (P18 h₀) := by
    rw [drop_cons 18 (by decide)]
    exact l18 w mean mg mb h₀ L fa ccd s₀ Q E _ hB hX hT hE g19
  have g17 : LawGo w h₀ L fa ccd s₀ Q E (lawBody.drop 17) (P17 h₀) := by
    rw [drop_cons 17 (by decide)]
    exact l17 w mean mg mb h₀ L fa ccd s₀ Q E _ hB hX hT hE g18
  have g16 : LawGo w h₀ L fa ccd s₀ Q E (lawBody.drop 16) (P16 h₀) := by
    rw [drop_cons 16 (by decide)]
    exact l16 w mean mg mb h₀ L fa ccd s₀ Q E _ hB hX hT hE g17
  have g15 : LawGo w h₀ L fa ccd s₀ Q E (lawBody.drop 15) (P15 h₀) := by
    rw [drop_cons 15 (by decide)]
    exact l15 w mean mg mb h₀ L fa ccd s₀ Q E _ hB hX hT hE g16
  have g14 : LawGo w h₀ L fa ccd s₀ Q E (lawBody.drop 14) (P14 h₀) := by
    rw [drop_cons 14 (by decide)]
    exact l14 w mean mg mb h₀ L fa ccd s₀ Q E _ hB hX hT hE g15
  have g13 : LawGo w h₀ L fa ccd s₀ Q E (lawBody.drop 13) (P11 h₀) := by
    rw [drop_cons 13 (by decide)]
    exact l13 w mean mg mb h₀ L fa ccd s₀ Q E _ hB hX hT hE g14
  have g12 : LawGo w h₀ L fa ccd s₀ Q E (lawBody.drop 12) (P11 h₀) := by
    rw [drop_cons 12 (by decide)]
    exact l12 w mean mg mb h₀ L fa ccd s₀ Q E _ hB hX hT hE g13
  have g11 : LawGo w h₀ L fa ccd s₀ Q E (lawBody.drop 11) (P11 h₀) := by
    rw [drop_cons 11 (by decide)]
    exact l11 w mean mg mb h₀ L fa ccd s₀ Q E _ hB hX hT hE g12
  have g10 : LawGo w h₀ L fa ccd s₀ Q E (lawBody.drop 10) (P10 h₀) := by
    rw [drop_cons 10 (by decide)]
    exact l10 w mean mg mb h₀ L fa ccd s₀ Q E _ hB hX hT hE g11
  have g9 : LawGo w h₀ L fa ccd s₀ Q E (lawBody.drop 9) (P9 h₀) := by
    rw [drop_cons 9 (by decide)]
    exact l9 w mean mg mb h₀ L fa ccd s₀ Q E _ hB hX hT hE g10
  have g8 : LawGo w h₀ L fa ccd s₀ Q E (lawBody.drop 8) (P8 h₀) := by
    rw [drop_cons 8 (by decide)]
    exact l8 w mean mg mb h₀ L fa ccd s₀ Q E _ hB hX hT hE g9
  have g7 : LawGo w h₀ L fa ccd s₀ Q E (lawBody.drop 7) (P7 h₀) := by
    rw [drop_cons 7 (by decide)]
    exact l7 w mean mg mb h₀ L fa ccd s₀ Q E _ hB hX hT hE g8
  have g6 : LawGo w h₀ L fa ccd s₀ Q E (lawBody.drop 6) (P6 h₀) := by
    rw [drop_cons 6 (by decide)]
    exact l6 w mean mg mb h₀ L fa ccd s₀ Q E _ hB hX hT hE g7
  have g5 : LawGo w h₀ L fa ccd s₀ Q E (lawBody.drop 5) (P2 h₀) := by
    rw [drop_cons 5 (by decide)]
    exact l5 w mean mg mb h₀ L fa ccd s₀ Q E _ hB hX hT hE g6
  have g4 : LawGo w h₀ L fa ccd s₀ Q E (lawBody.drop 4) (P2 h₀) := by
    rw [drop_cons 4 (by decide)]
    exact l4 w mean mg mb h₀ L fa ccd s₀ Q E _ hB hX hT hE g5
  have g3 : LawGo w h₀ L fa ccd s₀ Q E (lawBody.drop 3) (P3 h₀) := by
    rw [drop_cons 3 (by decide)]
    exact l3 w mean mg mb h₀ L fa ccd s₀ Q E _ hB hX hT hE g4
  have g2 : LawGo w h₀ L fa ccd s₀ Q E (lawBody.drop 2) (P2 h₀) := by
    rw [drop_cons 2 (by decide)]
    exact l2 w mean mg mb h₀ L fa ccd s₀ Q E _ hB hX hT hE g3
  have g1 : LawGo w h₀ L fa ccd s₀ Q E (lawBody.drop 1) (P1 h₀) := by
    rw [drop_cons 1 (by decide)]
    exact l1 w mean mg mb h₀ L fa ccd s₀ Q E _ hB hX hT hE g2
  have g0 : LawGo w h₀ L fa ccd s₀ Q E (lawBody.drop 0) (P0 h₀) := by
    rw [drop_cons 0 (by decide)]
    exact l0 w mean mg mb h₀ L fa ccd s₀ Q E _ hB hX hT hE g1
  exact g0
end Mine
end
section
open PySem PySem.W PyProof.Rows
namespace Mine
section
variable {α β : Type} {p : Program} {w : World} {b : List Stmt} {env : Env}
noncomputable abbrev fr0 : List Frame := [topFrame ⟨0, 0, 0, 0⟩]
noncomputable abbrev sR (p : Program) (w : World) (n : Nat) (s : Shared) (t : Thread) := segRun treeTable p w 11 (some (.ref 6)) 1 n s t
noncomputable def R (p : Program) (w : World) (b : List Stmt) (env : Env) (x : Sem α) (s : Shared) (pos : Pos) (n : Nat) (a : α) (s' : Shared) (pos' : Pos) : Prop :=
  ∀ (K : α → Sem Fin) (H : Value → Sem Fin) (gd : Bool → Bool) (lv : List Value → List Value) (N : Nat) (r : Flow × Shared × Code × Pos),
    sR p w N s' ⟨K a, .body b env, pos', fr0⟩ = some r → sR p w (n + N) s ⟨x.wrap K H gd lv, .body b env, pos, fr0⟩ = some r
theorem r_pure {a : α} {s : Shared} {pos : Pos} : R p w b env (Sem.pure a) s pos 0 a s pos := fun K H gd lv N r h => by
  rw [Nat.zero_add]; exact h
theorem r_bind {x : Sem α} {f : α → Sem β} {s s₁ s₂ : Shared} {pos p₁ p₂ : Pos} {n m : Nat} {a : α} {c : β} (h1 : R p w b env x s pos n a s₁ p₁) (h2 : R p w b env (f a) s₁ p₁ m c s₂ p₂) : R p w b env (x >>= f) s pos (n + m) c s₂ p₂ :=
  fun K H gd lv N r h => by
    rw [Nat.add_assoc, Sem.bind_eq_wrap', Sem.wrap_wrap]
    exact h1 _ _ _ _ _ _ (h2 _ _ _ _ _ _ h)
theorem r_onRaise {x : Sem α} {g : Value → Sem Unit} {s s₁ : Shared} {pos p₁ : Pos} {n : Nat} {a : α} (h1 : R p w b env x s pos n a s₁ p₁) : R p w b env (x.onRaise g) s pos n a s₁ p₁ :=
  fun K H gd lv N r h => by
    rw [Sem.onRaise_eq_wrap, Sem.wrap_wrap]
    exact h1 _ _ _ _ _ _ h
theorem r_keep {x : Sem α} {vs : List Value} {s s₁ : Shared} {pos p₁ : Pos} {n : Nat} {a : α} (h1 : R p w b env x s pos n a s₁ p₁) : R p w b env (x.keep vs) s pos n a s₁ p₁ :=
  fun K H gd lv N r h => by
    rw [Sem.keep_eq_wrap, Sem.wrap_wrap]
    exact h1 _ _ _ _ _ _ h
theorem r_holding {x : Sem α} {vs : List Value} {s s₁ : Shared} {pos p₁ : Pos} {n : Nat} {a : α} (h1 : R p w b env x s pos n a s₁ p₁) : R p w b env (holding vs x) s pos n a s₁ p₁ := by
  unfold PySem.holding
  split
  · exact h1
  · exact r_keep h1
theorem r_rule {tag : String} {s : Shared} {pos : Pos} : R p w b env (rule tag) s pos 1 () s pos := fun K H gd lv N r h => by
  rw [Nat.add_comm]; exact h
theorem r_standAt {q : Pos} {s : Shared} {pos : Pos} : R p w b env (standAt q) s pos 1 () s q := fun K H gd lv N r h => by
  rw [Nat.add_comm]; exact h
theorem r_fresh {s : Shared} {pos : Pos} : R p w b env fresh s pos 1 s.toks { s with toks := s.toks + 1 } pos := fun K H gd lv N r h => by
  rw [Nat.add_comm]; exact h
theorem r_alloc {o : Obj} {s : Shared} {pos : Pos} : R p w b env (alloc o) s pos 1 s.heap.objs.size { s with heap := s.heap.push o } pos := fun K H gd lv N r h => by
  rw [Nat.add_comm]; exact h
theorem r_load {A : Addr} {part : Option Value} {o : Obj} {s : Shared} {pos : Pos} (e : s.heap.get? A = some o) : R p w b env (loadPart A part) s pos 1 o s pos := fun K H gd lv N r h => by
  rw [Nat.add_comm]
  obtain ⟨heap, gens, drawn, toks, os⟩ := s
  show (match (match heap.get? A with | some o => Step.go ⟨heap, gens, drawn, toks, os⟩ ⟨K o, .body b env, pos, fr0⟩ | none => _) with | .go s' t' => segRun treeTable p w 11 (some (.ref 6)) 1 N s' t' | .halt _ _ => none) = some r
  have e : heap.get? A = some o := e
  rw [e]
  exact h
theorem r_update {A : Addr} {part : Option Value} {f : Obj → Obj} {o : Obj} {s : Shared} {pos : Pos} (hA : Nat.ble 11 A = true) (e : s.heap.get? A = some o) : R p w b env (updatePart A part f) s pos 1 () { s with heap := s.heap.update A f } pos := fun K H gd lv N r h => by
  rw [Nat.add_comm]
  obtain ⟨heap, gens, drawn, toks, os⟩ := s
  have e : heap.get? A = some o := e
  show (match (true && (Nat.ble 11 A || A == mainNs || A == cStatics || some (Value.ref 6) == some (Value.ref A))) with
    | false => none
    | true => match (if (heap.get? A).isSome then Step.go ⟨heap.update A f, gens, drawn, toks, os⟩ ⟨K (), .body b env, pos, fr0⟩ else _) with | .go s' t' => segRun treeTable p w 11 (some (.ref 6)) 1 N s' t' | .halt _ _ => none) = some r
  rw [hA, e]
  exact h
end
end Mine
end
section
open PySem PySem.W PyProof.Rows
namespace Mine
noncomputable def red (x : Int) : Int := let h : Int := x.natAbs % (2 ^ 61 - 1 : Nat); let h := if x < 0 then -h else h; if h == -1 then -2 else h
noncomputable def CallGo (w : World) : Prop := ∀ (p : Program) (b : List Stmt) (env : Env) (x : Int) (t : Tok) (g : Sem Value) (K : Option Value → Sem Fin) (H : Value → Sem Fin) (gd : Bool → Bool) (lv : List Value → List Value) (heap : Heap) (gens : Array GenState) (drawn : Drawn) (toks : Nat) (os : OsState) (pos : Pos),
    segGo treeTable p w 11 (some (.ref 6)) 1 5 ⟨heap, gens, drawn, toks, os⟩ ⟨(callSpecialIfBoundUnlessNone? (.int x t) "__hash__" g).wrap K H gd lv, .body b env, pos, fr0⟩ = some (⟨heap, gens, drawn, toks + 1, os⟩, ⟨K (some (.int (red x) toks)), .body b env, pos, fr0⟩)
set_option maxRecDepth 100000 in
theorem call_go (w : World) : CallGo w := by
  refine byRow2 "special-get-raises" (P := CallGo) (fun w => ?_) (fun w => ?_) w
  · intro p b env x t g K H gd lv heap gens drawn toks os pos
    kernel_rfl
  · intro p b env x t g K H gd lv heap gens drawn toks os pos
    kernel_rfl
theorem spec_hash (x : Int) (t : Tok) : specialOf (.int x t) "__hash__" = (Sem.pure (some (.builtin "int.__hash__")) : Sem (Option Value)) := by kernel_rfl
theorem red_small {k : Nat} (h : k < 1114112) : red (Int.ofNat k) = Int.ofNat k := by
  have e0 : (Int.ofNat k) = (k : Int) := rfl
  unfold red
  rw [e0]
  have e2 : ¬ ((k : Int) < 0) := by omega
  have e1 : (((k : Int).natAbs : Int) % ((2 ^ 61 - 1 : Nat) : Int)) = (k : Int) := by
    rw [Int.natAbs_natCast]
    exact Int.emod_eq_of_lt (by omega) (by omega)
  have e3 : ((k : Int) == -1) = false := by simp only [beq_eq_false_iff_ne, ne_eq]; omega
  simp only [e2, if_false, e1, e3]
  rfl
theorem reduced_small {k : Nat} (h : k < 1114112) : pyHashByItsType.reduced (Int.ofNat k) = (Sem.pure (Int.ofNat k) : Sem Int) := by
  have e : (Int.ofNat k) = (k : Int) := rfl
  unfold pyHashByItsType.reduced
  have h1 : (decide (-(2 ^ 63 : Int) ≤ Int.ofNat k) && decide (Int.ofNat k < 2 ^ 63)) = true := by
    rw [e]
    simp only [Bool.and_eq_true, decide_eq_true_eq]
    omega
  rw [if_pos h1]
  have e2 : ((Int.ofNat k) == -1) = false := by
    rw [e]
    simp only [beq_eq_false_iff_ne, ne_eq]
    omega
  rw [e2]; rfl
theorem r_hash {p : Program} {w : World} {b : List Stmt} {env : Env} {k : Nat} {t : Tok} {s : Shared} {pos : Pos} (h : k < 1114112) : R p w b env (pyHash (.int (Int.ofNat k) t)) s pos 5 (Int.ofNat k) { s with toks := s.toks + 1 } pos := by
  show R p w b env (pyHashByItsType _) _ _ _ _ _ _
  unfold pyHashByItsType
  rw [spec_hash]
  refine r_bind (n := 5) (m := 0) (x := callSpecialIfBoundUnlessNone? (.int (Int.ofNat k) t) "__hash__" _) (a := some (.int (red (Int.ofNat k)) s.toks)) (s₁ := { s with toks := s.toks + 1 }) (p₁ := pos) (fun K H gd lv N r hr => ?_) ?_
  · obtain ⟨heap, gens, drawn, toks, os⟩ := s
    exact seg_go (call_go w p b env _ _ _ K H gd lv heap gens drawn toks os pos) hr
  · show R p w b env (pyHashByItsType.reduced (red (Int.ofNat k))) _ _ _ _ _ _
    rw [red_small h, reduced_small h]
    exact r_pure
end Mine
end
section
open PySem PySem.W PyProof.Rows
namespace Mine
section
variable {p : Program} {w : World} {b : List Stmt} {env : Env}
noncomputable abbrev dObj (es : Array DictEntry) (n : Nat) : Obj := { cls := .type "dict", data := .dict es n }
theorem places_none {es : Array DictEntry} {h : Int} (hn : ∀ x ∈ es.toList, x.hash ≠ h) : placesWithHash es.size (fun i => es[i]?.map (·.hash)) h = [] := by
  unfold placesWithHash
  rw [List.filter_eq_nil_iff]
  intro i hi
  have hi : i < es.size := List.mem_range.mp hi
  simp only [Array.getElem?_eq_getElem hi, Option.map_some, beq_iff_eq, Option.some.injEq]
  exact hn _ (by simp)
theorem r_entries {D : Addr} {part : Option Value} {es : Array DictEntry} {n : Nat} {s : Shared} {pos : Pos} (e : s.heap.get? D = some (dObj es n)) : R p w b env (dictEntries D part) s pos 1 es s pos :=
  r_bind (n := 1) (m := 0) (r_load e) r_pure
theorem r_epoch {D : Addr} {part : Option Value} {es : Array DictEntry} {n : Nat} {s : Shared} {pos : Pos} (e : s.heap.get? D = some (dObj es n)) : R p w b env (dictEpoch D part) s pos 1 n s pos :=
  r_bind (n := 1) (m := 0) (r_load e) r_pure
theorem r_find {D : Addr} {es : Array DictEntry} {n : Nat} {s : Shared} {pos : Pos} {k h : Int} {t : Tok} (e : s.heap.get? D = some (dObj es n)) (hn : ∀ x ∈ es.toList, x.hash ≠ h) : R p w b env (dictFind D (.int k t) h) s pos 1 none s pos := by
  unfold dictFind
  refine r_holding ?_
  refine r_bind (n := 1) (m := 0) (r_entries e) ?_
  rw [places_none hn]
  exact r_pure
theorem r_push {D : Addr} {part : Option Value} {es : Array DictEntry} {n : Nat} {s : Shared} {pos : Pos} {x : DictEntry} (hD : Nat.ble 11 D = true) (e : s.heap.get? D = some (dObj es n)) (hs : es.size ≤ 10000) :
    R p w b env (updateDictKeys D (·.push x) part) s pos 3 () { s with heap := s.heap.update D (Obj.mapDictKeys (·.push x)) } pos := by
  unfold updateDictKeys
  refine r_bind (n := 1) (m := 2) (r_load e) ?_
  refine r_bind (n := 1) (m := 1) (r_update hD e) ?_
  unfold lookBehind
  refine r_bind (n := 1) (m := 0) (r_load (Heap.get?_update_self _ e rfl)) ?_
  have hz : (Obj.mapDictKeys (fun y => y.push x) (dObj es n)).data.pastItsLine = none := by
    show (if (es.push x).size > sizeLine + 1 then some "dict:memory" else none) = none
    rw [if_neg]
    rw [Array.size_push]
    show ¬ es.size + 1 > 2 ^ 24 + 1
    omega
  rw [hz]
  exact r_pure
theorem r_put {D : Addr} {es : Array DictEntry} {n : Nat} {s : Shared} {pos : Pos} {k h : Int} {t : Tok} {v : Value} (hD : Nat.ble 11 D = true) (e : s.heap.get? D = some (dObj es n)) (hn : ∀ x ∈ es.toList, x.hash ≠ h) (hs : es.size ≤ 10000) :
    R p w b env (dictPut D h (.int k t) v) s pos 4 () { s with heap := s.heap.update D (Obj.mapDictKeys (·.push ⟨h, .int k t, v⟩)) } pos := by
  unfold dictPut
  exact r_bind (n := 1) (m := 3) (r_find e hn) (r_push hD e hs)
theorem r_set {D : Addr} {es : Array DictEntry} {n : Nat} {s : Shared} {pos : Pos} {k : Nat} {t : Tok} {v : Value} (hk : k < 1114112) (hD : Nat.ble 11 D = true) (e : s.heap.get? D = some (dObj es n)) (hn : ∀ x ∈ es.toList, x.hash ≠ Int.ofNat k) (hs : es.size ≤ 10000) :
    R p w b env (dictSet D (.int (Int.ofNat k) t) v) s pos 10 () { s with heap := s.heap.update D (Obj.mapDictKeys (·.push ⟨Int.ofNat k, .int (Int.ofNat k) t, v⟩)), toks := s.toks + 1 } pos := by
  unfold dictSet
  refine r_holding ?_
  refine r_bind (n := 5) (m := 5) (r_hash hk) ?_
  unfold dictSetHashed
  refine r_holding ?_
  refine r_bind (n := 1) (m := 4) (r_find e hn) ?_
  refine r_bind (n := 1) (m := 3) r_rule ?_
  exact r_push (s := { s with toks := s.toks + 1 }) hD e hs
end
end Mine
end
section
open PySem PySem.W PyProof.Rows
namespace Mine
theorem upd_const {h : Heap} {D : Addr} {o : Obj} {f : Obj → Obj} (e : h.get? D = some o) : h.update D f = h.update D (fun _ => f o) := by
  obtain ⟨objs, l⟩ := h
  have e1 : objs[D]? = some o := by
    unfold Heap.get? at e
    dsimp only at e
    cases q : objs[D]? with
    | none => rw [q] at e; cases e
    | some o' =>
      rw [q] at e
      split at e
      · cases e
      · rename_i z; first | (cases e; rfl) | simpa using e
  show Heap.mk (objs.modify D f) l = Heap.mk (objs.modify D fun _ => f o) l
  congr 1
  apply Array.ext_getElem?
  intro i
  simp only [Array.getElem?_modify]
  split
  · rename_i z; subst z; rw [e1]; rfl
  · rfl
theorem upd_upd {h : Heap} {D : Addr} {a c : Obj} : (h.update D (fun _ => a)).update D (fun _ => c) = h.update D (fun _ => c) := by
  obtain ⟨objs, l⟩ := h
  show Heap.mk ((objs.modify D fun _ => a).modify D fun _ => c) l = Heap.mk (objs.modify D fun _ => c) l
  congr 1
  apply Array.ext_getElem?
  intro i
  simp only [Array.getElem?_modify]
  split
  · simp only [Option.map_map]; rfl
  · rfl
section
variable {p : Program} {w : World} {b : List Stmt} {env : Env}
noncomputable abbrev Ent := Nat × Str × Pos
noncomputable def kS (k : Nat) : Sem Value := mkInt (Int.ofNat k)
noncomputable def vS (v : Str) (q : Pos) : Sem Value := do let x ← mkText v; standAt q; pure x
noncomputable def pS (e : Ent) : Sem Value × Sem Value := (kS e.1, vS e.2.1 e.2.2)
noncomputable def ents (T : Nat) : List Ent → List DictEntry
  | [] => []
  | e :: r => ⟨Int.ofNat e.1, .int (Int.ofNat e.1) T, .str e.2.1 (T + 1)⟩ :: ents (T + 3) r
noncomputable def lastPos (pos : Pos) : List Ent → Pos
  | [] => pos
  | e :: r => lastPos e.2.2 r
noncomputable def Asc (lo : Int) : List Ent → Prop
  | [] => True
  | e :: r => lo < Int.ofNat e.1 ∧ e.1 < 1114112 ∧ Asc (Int.ofNat e.1) r
noncomputable abbrev onD (s : Shared) (D : Addr) (es : Array DictEntry) (n : Nat) (tk : Nat) : Shared := { s with heap := s.heap.update D (fun _ => dObj es n), toks := tk }
theorem r_entry {D : Addr} {es : Array DictEntry} {n : Nat} {s : Shared} {pos : Pos} {e : Ent} (hD : Nat.ble 11 D = true) (h : s.heap.get? D = some (dObj es n)) (hk : e.1 < 1114112) (hn : ∀ x ∈ es.toList, x.hash < Int.ofNat e.1) (hs : es.size ≤ 10000) :
    R p w b env (do let kv ← (pS e).1; let vv ← holding [kv] (pS e).2; holding [kv, vv] (dictSet D kv vv); pure (ForInStep.yield PUnit.unit)) s pos 13 (ForInStep.yield PUnit.unit) (onD s D (es.push ⟨Int.ofNat e.1, .int (Int.ofNat e.1) s.toks, .str e.2.1 (s.toks + 1)⟩) (n + 1) (s.toks + 3)) e.2.2 := by
  refine r_bind (n := 1) (m := 12) (r_bind (n := 1) (m := 0) r_fresh r_pure) ?_
  refine r_bind (n := 2) (m := 10) (r_holding (r_bind (n := 1) (m := 1) (r_bind (n := 1) (m := 0) r_fresh r_pure) (r_bind (n := 1) (m := 0) r_standAt r_pure))) ?_
  have hh := r_set (p := p) (w := w) (b := b) (env := env) (t := s.toks) (v := .str e.2.1 (s.toks + 1)) (pos := e.2.2) (s := { s with toks := s.toks + 1 + 1 }) hk hD h (fun x hx q => by have := hn x hx; rw [q] at this; exact absurd this (Int.lt_irrefl _)) hs
  refine r_bind (n := 10) (m := 0) (a := ()) (r_holding ?_) r_pure
  have e2 := upd_const (f := Obj.mapDictKeys (·.push ⟨Int.ofNat e.1, .int (Int.ofNat e.1) s.toks, .str e.2.1 (s.toks + 1)⟩)) h
  dsimp only at hh
  rw [e2] at hh
  exact hh
end
end Mine
namespace Mine
section
variable {p : Program} {w : World} {b : List Stmt} {env : Env}
theorem onD_get {s : Shared} {D : Addr} {o : Obj} {es : Array DictEntry} {n : Nat} {tk : Nat} (h : s.heap.get? D = some o) : (onD s D es n tk).heap.get? D = some (dObj es n) := Heap.get?_update_self _ h rfl
theorem onD_onD {s : Shared} {D : Addr} {es es' : Array DictEntry} {n n' tk tk' : Nat} : onD (onD s D es n tk) D es' n' tk' = onD s D es' n' tk' := by
  show Shared.mk ((s.heap.update D fun _ => dObj es n).update D fun _ => dObj es' n') _ _ _ _ = _
  rw [upd_upd]
theorem r_chunk {D : Addr} {o : Obj} {s : Shared} {f : Sem Value × Sem Value → PUnit → Sem (ForInStep PUnit)} (hD : Nat.ble 11 D = true) (h : s.heap.get? D = some o)
    (hf : ∀ x, f x () = (do let kv ← x.1; let vv ← holding [kv] x.2; holding [kv, vv] (dictSet D kv vv); pure (ForInStep.yield PUnit.unit))) :
    ∀ (c : List Ent) (es : Array DictEntry) (n tk : Nat) (pos : Pos) (lo : Int), (∀ x ∈ es.toList, x.hash ≤ lo) → Asc lo c → es.size + c.length ≤ 10000 →
      R p w b env (forIn (c.map pS) PUnit.unit f : Sem PUnit) (onD s D es n tk) pos (13 * c.length) () (onD s D (es ++ (ents tk c).toArray) (n + c.length) (tk + 3 * c.length)) (lastPos pos c)
  | [], es, n, tk, pos, lo, _, _, _ => by
    have e : es ++ (ents tk []).toArray = es := by simp [ents]
    rw [e]
    exact r_pure
  | e :: c, es, n, tk, pos, lo, hl, ha, hz => by
    obtain ⟨h1, h2, h3⟩ := ha
    have E := r_entry (p := p) (w := w) (b := b) (env := env) (s := onD s D es n tk) (pos := pos) (e := e) hD (onD_get h) h2 (fun x hx => Int.lt_of_le_of_lt (hl x hx) h1) (by simp at hz; omega)
    rw [onD_onD] at E
    have ih := r_chunk hD h hf c (es.push ⟨Int.ofNat e.1, .int (Int.ofNat e.1) tk, .str e.2.1 (tk + 1)⟩) (n + 1) (tk + 3) e.2.2 (Int.ofNat e.1) (fun x hx => by
      rw [Array.toList_push] at hx
      rcases List.mem_append.mp hx with hx | hx
      · exact Int.le_of_lt (Int.lt_of_le_of_lt (hl x hx) h1)
      · rw [List.mem_singleton.mp hx]; exact Int.le_refl _) h3 (by simp at hz ⊢; omega)
    have e1 : es ++ (ents tk (e :: c)).toArray = es.push ⟨Int.ofNat e.1, .int (Int.ofNat e.1) tk, .str e.2.1 (tk + 1)⟩ ++ (ents (tk + 3) c).toArray := by
      apply Array.toList_inj.mp
      simp [ents]
    rw [List.map_cons, List.forIn_cons, hf, e1, show n + (e :: c).length = n + 1 + c.length by simp; omega, show tk + 3 * (e :: c).length = tk + 3 + 3 * c.length by simp; omega, show 13 * (e :: c).length = 13 + 13 * c.length by simp; omega]
    exact r_bind E ih
end
end Mine
end
section
open PySem PySem.W PyProof.Rows
namespace Mine
section
variable {p : Program} {w : World} {b : List Stmt} {env : Env}
theorem push_get {h : Heap} {o : Obj} (hf : o.isFreed = false) : (h.push o).get? h.objs.size = some o := Heap.get?_push_size _ hf
theorem upd_same {h : Heap} {D : Addr} {o : Obj} (e : h.get? D = some o) : h.update D (fun _ => o) = h := by
  have z := upd_const (f := id) e
  rw [show h.update D (fun _ => o) = h.update D id from z.symm]
  obtain ⟨objs, l⟩ := h
  show Heap.mk (objs.modify D id) l = Heap.mk objs l
  congr 1
  apply Array.ext_getElem?
  intro i
  simp only [Array.getElem?_modify]
  split <;> simp
theorem onD_same {s : Shared} {D : Addr} {es : Array DictEntry} {n : Nat} (e : s.heap.get? D = some (dObj es n)) : onD s D es n s.toks = s := by
  obtain ⟨heap, gens, drawn, toks, os⟩ := s
  show Shared.mk (heap.update D fun _ => dObj es n) gens drawn toks os = _
  rw [upd_same e]
theorem r_sub {c : List Ent} {s : Shared} {pos : Pos} (hs : Nat.ble 11 s.heap.objs.size = true) (hc : 15 < c.length) (hz : c.length ≤ 100) {lo : Int} (ha : Asc lo c) :
    R p w b env (subDict (c.map pS)) s pos (2 + 13 * c.length) s.heap.objs.size (onD { s with heap := s.heap.push (dObj #[] 0) } s.heap.objs.size (ents s.toks c).toArray c.length (s.toks + 3 * c.length)) (lastPos pos c) := by
  unfold subDict
  rw [show 2 + 13 * c.length = 1 + ((1 + (13 * c.length + 0)) + 0) by omega]
  refine r_bind (n := 1) r_alloc ?_
  have L := r_chunk (p := p) (w := w) (b := b) (env := env) (f := fun x _ => match x with | (k, v) => do let kv ← k; let vv ← holding [kv] v; holding [kv, vv] (dictSet s.heap.objs.size kv vv); pure (ForInStep.yield PUnit.unit)) (D := s.heap.objs.size) (o := dObj #[] 0) (s := { s with heap := s.heap.push (dObj #[] 0) }) hs (Heap.get?_push_size _ rfl) (fun _ => rfl) c #[] 0 s.toks pos lo (fun x hx => by simp at hx) ha (by simp; omega)
  have e0 : onD { s with heap := s.heap.push (dObj #[] 0) } s.heap.objs.size #[] 0 s.toks = { s with heap := s.heap.push (dObj #[] 0) } := onD_same (s := { s with heap := s.heap.push (dObj #[] 0) }) (Heap.get?_push_size _ rfl)
  rw [e0, Array.empty_append, Nat.zero_add] at L
  refine r_bind (n := 1 + (13 * c.length + 0)) (m := 0) (a := ()) (r_holding ?_) r_pure
  rw [if_neg (by rw [List.length_map]; omega)]
  exact r_bind (n := 1) (a := ()) r_rule (r_bind (a := ()) L r_pure)
end
end Mine
end
section
open PySem PySem.W PyProof.Rows
namespace Mine
section
variable {p : Program} {w : World} {b : List Stmt} {env : Env}
theorem sub_dict : isSubtype (.type "dict") (.type "dict") = (Sem.pure true : Sem Bool) := by kernel_rfl
theorem iter_dict : typeLookup (.type "dict") "__iter__" = (Sem.pure (some (.builtin "dict.__iter__")) : Sem (Option Value)) := by kernel_rfl
theorem r_type {D : Addr} {es : Array DictEntry} {n : Nat} {s : Shared} {pos : Pos} (e : s.heap.get? D = some (dObj es n)) : R p w b env (typeOf (.ref D)) s pos 1 (.type "dict") s pos :=
  r_bind (n := 1) (m := 0) (r_load e) r_pure
theorem r_inst {D : Addr} {es : Array DictEntry} {n : Nat} {s : Shared} {pos : Pos} (e : s.heap.get? D = some (dObj es n)) : R p w b env (isInstance (.ref D) (.type "dict")) s pos 1 true s pos := by
  unfold isInstance
  refine r_bind (n := 1) (m := 0) (r_type e) ?_
  rw [sub_dict]
  exact r_pure
theorem r_iter {D : Addr} {es : Array DictEntry} {n : Nat} {s : Shared} {pos : Pos} (e : s.heap.get? D = some (dObj es n)) : R p w b env (specialOf (.ref D) "__iter__") s pos 1 (some (.builtin "dict.__iter__")) s pos := by
  unfold specialOf
  refine r_bind (n := 1) (m := 0) (r_type e) ?_
  rw [iter_dict]
  exact r_pure
end
end Mine
end
section
open PySem PySem.W PyProof.Rows
namespace Mine
noncomputable def AscD (lo : Int) : List DictEntry → Prop
  | [] => True
  | e :: r => lo < e.hash ∧ (∃ k t v T, e.key = .int k t ∧ e.hash = k ∧ e.val = .str v T) ∧ AscD e.hash r
section
variable {p : Program} {w : World} {b : List Stmt} {env : Env}
theorem onD_other {s : Shared} {D A : Addr} {o : Obj} {es : Array DictEntry} {n tk : Nat} (hne : A ≠ D) (h : s.heap.get? A = some o) : (onD s D es n tk).heap.get? A = some o :=
  (Heap.get?_update_ne _ _ _ _ hne).trans h
theorem r_loop {f : Nat → PUnit → Sem (ForInStep PUnit)} {D : Addr} {s : Shared} {tk : Nat} {EA : Array DictEntry} {pos : Pos}
    (hf : ∀ (i : Nat) (x : DictEntry) (es : Array DictEntry) (n : Nat), EA[i]? = some x → (∃ k t v T, x.key = .int k t ∧ x.hash = k ∧ x.val = .str v T) → (∀ y ∈ es.toList, y.hash < x.hash) → es.size ≤ 10000 →
      R p w b env (f i ()) (onD s D es n tk) pos 6 (ForInStep.yield PUnit.unit) (onD s D (es.push x) (n + 1) tk) pos) :
    ∀ (r : List DictEntry) (j : Nat) (es : Array DictEntry) (n : Nat) (lo : Int), EA.toList.drop j = r → (∀ y ∈ es.toList, y.hash ≤ lo) → AscD lo r → es.size + r.length ≤ 10000 →
      R p w b env (forIn (List.range' j r.length) PUnit.unit f : Sem PUnit) (onD s D es n tk) pos (6 * r.length) () (onD s D (es ++ r.toArray) (n + r.length) tk) pos
  | [], j, es, n, lo, _, _, _, _ => by
    have e : es ++ ([] : List DictEntry).toArray = es := by simp
    rw [e]
    exact r_pure
  | x :: r, j, es, n, lo, hd, hl, ha, hz => by
    obtain ⟨h1, h2, h3⟩ := ha
    have hx : EA[j]? = some x := by
      rw [← Array.getElem?_toList, ← List.head?_drop, hd]; rfl
    have E := hf j x es n hx h2 (fun y hy => Int.lt_of_le_of_lt (hl y hy) h1) (by simp at hz; omega)
    have hd' : EA.toList.drop (j + 1) = r := by
      rw [← List.tail_drop, hd]; rfl
    have ih := r_loop hf r (j + 1) (es.push x) (n + 1) x.hash hd' (fun y hy => by
      rw [Array.toList_push] at hy
      rcases List.mem_append.mp hy with hy | hy
      · exact Int.le_of_lt (Int.lt_of_le_of_lt (hl y hy) h1)
      · rw [List.mem_singleton.mp hy]; exact Int.le_refl _) h3 (by simp at hz ⊢; omega)
    have e1 : es ++ (x :: r).toArray = es.push x ++ r.toArray := by
      apply Array.toList_inj.mp
      simp
    rw [List.length_cons, List.range'_succ, List.forIn_cons, e1, show n + (r.length + 1) = n + 1 + r.length by omega, show 6 * (r.length + 1) = 6 + 6 * r.length by omega]
    exact r_bind E ih
end
end Mine
end
section
open PySem PySem.W PyProof.Rows
namespace Mine
section
variable {p : Program} {w : World} {b : List Stmt} {env : Env}
theorem iter_eq : ((some (Value.builtin "dict.__iter__") : Option Value) == some (.builtin "dict.__iter__")) = true := by kernel_rfl
theorem r_merge {D A : Addr} {es EA : Array DictEntry} {n nA : Nat} {s : Shared} {pos : Pos} {lo : Int} (hD : Nat.ble 11 D = true) (hs : (A == sysModules) = false) (hne : A ≠ D) (eD : s.heap.get? D = some (dObj es n)) (eA : s.heap.get? A = some (dObj EA nA)) (he : es.isEmpty = false)
    (hl : ∀ y ∈ es.toList, y.hash ≤ lo) (ha : AscD lo EA.toList) (hz : es.size + EA.size ≤ 10000) :
    R p w b env (mergeMapping D (.ref A) false) s pos (5 + 6 * EA.size) () (onD s D (es ++ EA) (n + EA.size) s.toks) pos := by
  unfold mergeMapping
  rw [show 5 + 6 * EA.size = 1 + (1 + (0 + (1 + (1 + (1 + (6 * EA.size + 0)))))) by omega]
  refine r_bind (n := 1) (r_inst eA) ?_
  dsimp only
  rw [if_pos rfl]
  refine r_bind (n := 1) (r_iter eA) ?_
  rw [iter_eq]
  refine r_bind (n := 0) r_pure ?_
  dsimp only
  rw [hs, if_neg Bool.false_ne_true]
  refine r_bind (n := 1) (r_entries eD) ?_
  rw [he, if_neg Bool.false_ne_true]
  refine r_bind (n := 1) (r_entries eA) ?_
  refine r_bind (n := 1) (r_epoch eA) ?_
  have e0 : onD s D es n s.toks = s := onD_same eD
  refine r_bind (n := 6 * EA.size) (a := ()) (s₁ := onD s D (es ++ EA) (n + EA.size) s.toks) (p₁ := pos) ?_ r_pure
  rw [List.range_eq_range']
  have L := fun f hf => r_loop (p := p) (w := w) (b := b) (env := env) (f := f) (D := D) (s := s) (tk := s.toks) (EA := EA) (pos := pos) hf EA.toList 0 es n lo rfl hl ha (by simpa using hz)
  rw [e0] at L
  simp only [Array.length_toList, Array.toArray_toList] at L
  refine L _ ?_
  intro i x es' n' hx ht hl' hz'
  obtain ⟨k, t, v, T, hk, hh, hv⟩ := ht
  have gA : (onD s D es' n' s.toks).heap.get? A = some (dObj EA nA) := onD_other hne eA
  have gD : (onD s D es' n' s.toks).heap.get? D = some (dObj es' n') := onD_get eD
  refine r_bind (n := 1) (m := 5) (r_entries gA) ?_
  rw [hx]
  dsimp only
  refine r_bind (n := 4) (m := 1) (a := ()) (s₁ := onD s D (es'.push x) (n' + 1) s.toks) (p₁ := pos) (r_holding ?_) ?_
  · rw [if_neg Bool.false_ne_true]
    have P := r_put (p := p) (w := w) (b := b) (env := env) (pos := pos) (k := k) (h := x.hash) (t := t) (v := x.val) hD gD (fun y hy q => by have := hl' y hy; rw [q] at this; exact absurd this (Int.lt_irrefl _)) hz'
    rw [← hk] at P
    have e2 := upd_const (f := Obj.mapDictKeys (·.push ⟨x.hash, x.key, x.val⟩)) gD
    dsimp only at P
    dsimp only at e2
    rw [e2, upd_upd] at P
    exact P
  · refine r_bind (n := 1) (m := 0) (r_epoch (es := EA) (n := nA) (onD_other hne eA)) ?_
    rw [show (nA != nA) = false by simp, if_neg Bool.false_ne_true]
    exact r_pure
end
end Mine
end
section
open PySem PySem.W PyProof.Rows
namespace Mine
noncomputable def vals (T : Nat) : List Ent → List (Value × Value)
  | [] => []
  | e :: r => (.int (Int.ofNat e.1) T, .str e.2.1 (T + 1)) :: vals (T + 2) r
noncomputable def ents2 (T : Nat) : List Ent → List DictEntry
  | [] => []
  | e :: r => ⟨Int.ofNat e.1, .int (Int.ofNat e.1) T, .str e.2.1 (T + 1)⟩ :: ents2 (T + 2) r
section
variable {p : Program} {w : World} {b : List Stmt} {env : Env}
theorem r_pairs : ∀ (c : List Ent) (s : Shared) (pos : Pos), R p w b env (evalPairs (c.map pS)) s pos (3 * c.length) (vals s.toks c) { s with toks := s.toks + 2 * c.length } (lastPos pos c)
  | [], s, pos => r_pure
  | e :: c, s, pos => by
    have ih := r_pairs c { s with toks := s.toks + 1 + 1 } e.2.2
    rw [List.map_cons, show 3 * (e :: c).length = 1 + (2 + (3 * c.length + 0)) by simp; omega]
    unfold evalPairs
    refine r_bind (n := 1) (r_bind (n := 1) (m := 0) r_fresh r_pure) ?_
    refine r_bind (n := 2) (r_holding (r_bind (n := 1) (m := 1) (r_bind (n := 1) (m := 0) r_fresh r_pure) (r_bind (n := 1) (m := 0) r_standAt r_pure))) ?_
    refine r_bind (n := 3 * c.length) (a := vals (s.toks + 2) c) (s₁ := { s with toks := s.toks + 2 * (e :: c).length }) (p₁ := lastPos e.2.2 c) (r_holding ?_) r_pure
    rw [show s.toks + 2 * (e :: c).length = s.toks + 1 + 1 + 2 * c.length by simp; omega]
    exact ih
theorem r_sets {D : Addr} {o : Obj} {s : Shared} {pos : Pos} {f : Value × Value → PUnit → Sem (ForInStep PUnit)} (hD : Nat.ble 11 D = true) (h : s.heap.get? D = some o)
    (hf : ∀ x, f x () = (do dictSet D x.1 x.2; pure (ForInStep.yield PUnit.unit))) :
    ∀ (c : List Ent) (T : Nat) (es : Array DictEntry) (n tk : Nat) (lo : Int), (∀ x ∈ es.toList, x.hash ≤ lo) → Asc lo c → es.size + c.length ≤ 10000 →
      R p w b env (forIn (vals T c) PUnit.unit f : Sem PUnit) (onD s D es n tk) pos (10 * c.length) () (onD s D (es ++ (ents2 T c).toArray) (n + c.length) (tk + c.length)) pos
  | [], T, es, n, tk, lo, _, _, _ => by
    have e : es ++ (ents2 T []).toArray = es := by simp [ents2]
    rw [e]
    exact r_pure
  | e :: c, T, es, n, tk, lo, hl, ha, hz => by
    obtain ⟨h1, h2, h3⟩ := ha
    have gD : (onD s D es n tk).heap.get? D = some (dObj es n) := onD_get h
    have E : R p w b env (do dictSet D (.int (Int.ofNat e.1) T) (.str e.2.1 (T + 1)); pure (ForInStep.yield PUnit.unit)) (onD s D es n tk) pos (10 + 0) (ForInStep.yield PUnit.unit) (onD s D (es.push ⟨Int.ofNat e.1, .int (Int.ofNat e.1) T, .str e.2.1 (T + 1)⟩) (n + 1) (tk + 1)) pos := by
      refine r_bind (a := ()) ?_ r_pure
      have hh := r_set (p := p) (w := w) (b := b) (env := env) (t := T) (v := .str e.2.1 (T + 1)) (pos := pos) h2 hD gD (fun x hx q => by have := Int.lt_of_le_of_lt (hl x hx) h1; rw [q] at this; exact absurd this (Int.lt_irrefl _)) (by simp at hz; omega)
      have e2 := upd_const (f := Obj.mapDictKeys (·.push ⟨Int.ofNat e.1, .int (Int.ofNat e.1) T, .str e.2.1 (T + 1)⟩)) gD
      dsimp only at hh
      dsimp only at e2
      rw [e2, upd_upd] at hh
      exact hh
    have ih := r_sets (pos := pos) hD h hf c (T + 2) (es.push ⟨Int.ofNat e.1, .int (Int.ofNat e.1) T, .str e.2.1 (T + 1)⟩) (n + 1) (tk + 1) (Int.ofNat e.1) (fun x hx => by
      rw [Array.toList_push] at hx
      rcases List.mem_append.mp hx with hx | hx
      · exact Int.le_of_lt (Int.lt_of_le_of_lt (hl x hx) h1)
      · rw [List.mem_singleton.mp hx]; exact Int.le_refl _) h3 (by simp at hz ⊢; omega)
    have e1 : es ++ (ents2 T (e :: c)).toArray = es.push ⟨Int.ofNat e.1, .int (Int.ofNat e.1) T, .str e.2.1 (T + 1)⟩ ++ (ents2 (T + 2) c).toArray := by
      apply Array.toList_inj.mp
      simp [ents2]
    rw [show vals T (e :: c) = (.int (Int.ofNat e.1) T, .str e.2.1 (T + 1)) :: vals (T + 2) c from rfl, List.forIn_cons, hf, e1, show n + (e :: c).length = n + 1 + c.length by simp; omega, show tk + (e :: c).length = tk + 1 + c.length by simp; omega, show 10 * (e :: c).length = (10 + 0) + 10 * c.length by simp; omega]
    exact r_bind E ih
theorem r_sub2 {c : List Ent} {s : Shared} {pos : Pos} (hs : Nat.ble 11 s.heap.objs.size = true) (hc : c.length ≤ 15) {lo : Int} (ha : Asc lo c) :
    R p w b env (subDict (c.map pS)) s pos (1 + 13 * c.length) s.heap.objs.size (onD { s with heap := s.heap.push (dObj #[] 0) } s.heap.objs.size (ents2 s.toks c).toArray c.length (s.toks + 3 * c.length)) (lastPos pos c) := by
  unfold subDict
  rw [show 1 + 13 * c.length = 1 + ((3 * c.length + (10 * c.length + 0)) + 0) by omega]
  refine r_bind (n := 1) r_alloc ?_
  refine r_bind (n := 3 * c.length + (10 * c.length + 0)) (m := 0) (a := ()) (r_holding ?_) r_pure
  rw [if_pos (by rw [List.length_map]; omega)]
  refine r_bind (n := 3 * c.length) (r_pairs c { s with heap := s.heap.push (dObj #[] 0) } pos) ?_
  have g0 : ({ s with heap := s.heap.push (dObj #[] 0), toks := s.toks + 2 * c.length } : Shared).heap.get? s.heap.objs.size = some (dObj #[] 0) := Heap.get?_push_size _ rfl
  have L := r_sets (p := p) (w := w) (b := b) (env := env) (pos := lastPos pos c) (f := fun x _ => match x with | (k, v) => do dictSet s.heap.objs.size k v; pure (ForInStep.yield PUnit.unit)) (D := s.heap.objs.size) (o := dObj #[] 0) (s := { s with heap := s.heap.push (dObj #[] 0), toks := s.toks + 2 * c.length }) hs g0 (fun _ => rfl) c s.toks #[] 0 (s.toks + 2 * c.length) lo (fun x hx => by simp at hx) ha (by simp; omega)
  rw [onD_same g0, Array.empty_append, Nat.zero_add, show s.toks + 2 * c.length + c.length = s.toks + 3 * c.length by omega] at L
  refine r_holding ?_
  exact r_bind (a := ()) L r_pure
end
end Mine
end
section
open PySem PySem.W PyProof.Rows
namespace Mine
theorem push_upd {h : Heap} {x o : Obj} : (h.push x).update h.objs.size (fun _ => o) = h.push o := by
  obtain ⟨objs, l⟩ := h
  show Heap.mk ((objs.push x).modify objs.size fun _ => o) l = Heap.mk (objs.push o) l
  congr 1
  apply Array.ext_getElem?
  intro i
  simp only [Array.getElem?_modify, Array.getElem?_push]
  by_cases q : i = objs.size
  · subst q; simp
  · rw [if_neg q, if_neg (fun z => q z.symm), if_neg q]
theorem lt_of_get {h : Heap} {D : Nat} {o : Obj} (e : h.get? D = some o) : D < h.objs.size := by
  obtain ⟨objs, l⟩ := h
  by_cases q : D < objs.size
  · exact q
  · exfalso
    have z : objs[D]? = none := Array.getElem?_eq_none (by omega)
    unfold Heap.get? at e
    dsimp only at e
    rw [z] at e
    cases e
theorem upd_push {h : Heap} {D : Nat} {f : Obj → Obj} {o : Obj} (hd : D < h.objs.size) : (h.update D f).push o = (h.push o).update D f := by
  obtain ⟨objs, l⟩ := h
  replace hd : D < objs.size := hd
  show Heap.mk ((objs.modify D f).push o) l = Heap.mk ((objs.push o).modify D f) l
  congr 1
  apply Array.ext_getElem?
  intro i
  simp only [Array.getElem?_modify, Array.getElem?_push, Array.size_modify]
  by_cases q : i = objs.size
  · subst q
    rw [if_pos rfl, if_pos rfl, if_neg (by omega)]
  · rw [if_neg q, if_neg q]
noncomputable def pushes (h : Heap) : List Obj → Heap
  | [] => h
  | o :: r => pushes (h.push o) r
theorem pushes_upd {D : Nat} {f : Obj → Obj} : ∀ (l : List Obj) (h : Heap), D < h.objs.size → pushes (h.update D f) l = (pushes h l).update D f
  | [], h, _ => rfl
  | o :: r, h, hd => by
    show pushes ((h.update D f).push o) r = (pushes (h.push o) r).update D f
    rw [upd_push hd]
    refine pushes_upd r (h.push o) ?_
    obtain ⟨objs, l⟩ := h
    show D < (objs.push o).size
    rw [Array.size_push]
    replace hd : D < objs.size := hd
    omega
noncomputable def lastKey (lo : Int) : List Ent → Int
  | [] => lo
  | e :: r => lastKey (Int.ofNat e.1) r
theorem ents_len : ∀ (c : List Ent) (T : Nat), (ents T c).length = c.length
  | [], _ => rfl
  | _ :: c, T => congrArg (· + 1) (ents_len c (T + 3))
theorem ents2_len : ∀ (c : List Ent) (T : Nat), (ents2 T c).length = c.length
  | [], _ => rfl
  | _ :: c, T => congrArg (· + 1) (ents2_len c (T + 2))
theorem ents_asc : ∀ (c : List Ent) (T : Nat) (lo : Int), Asc lo c → AscD lo (ents T c)
  | [], _, _, _ => trivial
  | e :: c, T, lo, h => ⟨h.1, ⟨_, _, _, _, rfl, rfl, rfl⟩, ents_asc c (T + 3) _ h.2.2⟩
theorem ents2_asc : ∀ (c : List Ent) (T : Nat) (lo : Int), Asc lo c → AscD lo (ents2 T c)
  | [], _, _, _ => trivial
  | e :: c, T, lo, h => ⟨h.1, ⟨_, _, _, _, rfl, rfl, rfl⟩, ents2_asc c (T + 2) _ h.2.2⟩
theorem lastKey_ge : ∀ (c : List Ent) (lo : Int), Asc lo c → lo ≤ lastKey lo c
  | [], _, _ => Int.le_refl _
  | e :: c, lo, h => Int.le_trans (Int.le_of_lt h.1) (lastKey_ge c _ h.2.2)
theorem ents_le (c : List Ent) : ∀ (T : Nat) (lo : Int), Asc lo c → ∀ y, y ∈ ents T c → y.hash ≤ lastKey lo c := by
  induction c with
  | nil => intro T lo _ y hy; exact absurd hy List.not_mem_nil
  | cons e c ih =>
    intro T lo h y hy
    rcases List.mem_cons.mp hy with hy | hy
    · rw [hy]; exact lastKey_ge c _ h.2.2
    · exact ih (T + 3) _ h.2.2 y hy
section
variable {p : Program} {w : World} {b : List Stmt} {env : Env}
noncomputable def it (e : Ent) : Option (Sem Value) × Sem Value := (some (kS e.1), vS e.2.1 e.2.2)
noncomputable def flushD (run : List (Sem Value × Sem Value)) (main : Option Addr) : Sem (Option Addr) :=
  if run.isEmpty = true then pure main
  else match main with
    | none => do
      let d ← subDict run
      pure (some d)
    | some d => do
      let sub ← holding [Value.ref d] (subDict run)
      (holding [Value.ref d, Value.ref sub] (mergeMapping d (Value.ref sub) false)).onRaise fun x => do
        let _ ← holding [Value.ref d, x] (runValue (Code.builtin "proto.let_go" { }))
        pure ()
      pure (some d)
theorem sub_eq {s : Shared} {x : Obj} {es : Array DictEntry} {n tk : Nat} : onD { s with heap := s.heap.push x } s.heap.objs.size es n tk = { s with heap := s.heap.push (dObj es n), toks := tk } := by
  show Shared.mk ((s.heap.push x).update s.heap.objs.size fun _ => dObj es n) _ _ _ _ = _
  rw [push_upd]
theorem ne_nil {c : List Ent} (h : 0 < c.length) : (c.map pS).isEmpty = false := by
  cases c with
  | nil => cases h
  | cons => rfl
theorem r_flush1 {c : List Ent} {s s' : Shared} {pos pos' : Pos} {m : Nat} {a : Addr} (hc : 0 < c.length) (h : R p w b env (subDict (c.map pS)) s pos m a s' pos') :
    R p w b env (flushD (c.map pS) none) s pos (m + 0) (some a) s' pos' := by
  unfold flushD
  rw [ne_nil hc, if_neg Bool.false_ne_true]
  exact r_bind h r_pure
theorem r_flush {c : List Ent} {s : Shared} {pos pos' : Pos} {m tk : Nat} {E : List DictEntry} {D : Nat} {es : Array DictEntry} {n : Nat} {lo : Int} (hc : 0 < c.length) (hE : E.length = c.length)
    (h : R p w b env (subDict (c.map pS)) s pos m s.heap.objs.size (onD { s with heap := s.heap.push (dObj #[] 0) } s.heap.objs.size E.toArray c.length tk) pos')
    (hD : Nat.ble 11 D = true) (eD : s.heap.get? D = some (dObj es n)) (he : es.isEmpty = false) (hl : ∀ y ∈ es.toList, y.hash ≤ lo) (ha : AscD lo E) (hz : es.size + c.length ≤ 10000) :
    R p w b env (flushD (c.map pS) (some D)) s pos (m + ((5 + 6 * c.length) + 0)) (some D) (onD { s with heap := s.heap.push (dObj E.toArray c.length) } D (es ++ E.toArray) (n + c.length) tk) pos' := by
  have hd := lt_of_get eD
  unfold flushD
  rw [ne_nil hc, if_neg Bool.false_ne_true]
  rw [sub_eq] at h
  refine r_bind (r_holding h) ?_
  refine r_bind (a := ()) (r_onRaise (r_holding ?_)) r_pure
  have hsz : (E.toArray).size = c.length := by simp [hE]
  have M := r_merge (p := p) (w := w) (b := b) (env := env) (A := s.heap.objs.size) (EA := E.toArray) (nA := c.length) (s := { s with heap := s.heap.push (dObj E.toArray c.length), toks := tk }) (pos := pos') (lo := lo) hD
    (by
      have q11 : 11 ≤ D := Nat.le_of_ble_eq_true hD
      have q1 : (s.heap.objs.size : Nat) ≠ 1 := by omega
      exact beq_false_of_ne q1)
    (Nat.ne_of_gt hd) (by rw [Heap.get?_push_ne _ _ _ (Nat.ne_of_lt hd)]; exact eD) (Heap.get?_push_size _ rfl) he hl (by simpa using ha) (by rw [hsz]; exact hz)
  rw [hsz] at M
  exact M
end
end Mine
end
section
open PySem PySem.W PyProof.Rows
namespace Mine
noncomputable abbrev LS := Option Addr × List (Sem Value × Sem Value)
noncomputable def FItem (F : Option (Sem Value) × Sem Value → LS → Sem (ForInStep LS)) : Prop :=
  ∀ (e : Ent) (main : Option Addr) (run : List (Sem Value × Sem Value)), F (it e) (main, run) = if ((run ++ [pS e]).length == 17) = true then (do let m ← flushD (run ++ [pS e]) main; pure (ForInStep.yield (m, []))) else pure (ForInStep.yield (main, run ++ [pS e]))
theorem few {F : Option (Sem Value) × Sem Value → LS → Sem (ForInStep LS)} (hF : FItem F) (rest : List (Option (Sem Value) × Sem Value)) (main : Option Addr) :
    ∀ (c : List Ent) (run : List (Sem Value × Sem Value)), run.length + c.length < 17 → (forIn (c.map it ++ rest) (main, run) F : Sem LS) = forIn rest (main, run ++ c.map pS) F
  | [], run, _ => by simp
  | e :: c, run, h => by
    have ih := few hF rest main c (run ++ [pS e]) (by simp at h ⊢; omega)
    rw [List.map_cons, List.cons_append, List.forIn_cons, hF, if_neg (by simp at h ⊢; omega)]
    refine Eq.trans ?_ (ih.trans (by rw [List.append_assoc]; rfl))
    rfl
section
variable {p : Program} {w : World} {b : List Stmt} {env : Env}
theorem full {F : Option (Sem Value) × Sem Value → LS → Sem (ForInStep LS)} (hF : FItem F) {rest : List (Option (Sem Value) × Sem Value)} {main m : Option Addr} {c : List Ent} {s s₁ s₂ : Shared} {pos p₁ p₂ : Pos} {n k : Nat} {z : LS} (hc : c.length = 17)
    (h1 : R p w b env (flushD (c.map pS) main) s pos n m s₁ p₁) (h2 : R p w b env (forIn rest (m, []) F : Sem LS) s₁ p₁ k z s₂ p₂) :
    R p w b env (forIn (c.map it ++ rest) (main, []) F : Sem LS) s pos (n + 0 + k) z s₂ p₂ := by
  have hne : c ≠ [] := by intro q; rw [q] at hc; cases hc
  have hl : c.dropLast.length = 16 := by rw [List.length_dropLast, hc]
  have he := List.dropLast_concat_getLast hne
  have e1 : c.map it ++ rest = c.dropLast.map it ++ (it (c.getLast hne) :: rest) := by
    conv => lhs; rw [← he]
    simp
  have e2 : [] ++ c.dropLast.map pS ++ [pS (c.getLast hne)] = c.map pS := by
    conv => rhs; rw [← he]
    simp
  rw [e1, few hF _ _ c.dropLast [] (by rw [hl]; decide), List.forIn_cons, hF, e2, if_pos (by rw [List.length_map, hc]; rfl)]
  exact r_bind (r_bind h1 r_pure) h2
noncomputable def mainE (T : Nat) : List (List Ent) → List DictEntry
  | [] => []
  | c :: cs => ents T c ++ mainE (T + 51) cs
noncomputable def subsO (T : Nat) : List (List Ent) → List Obj
  | [] => []
  | c :: cs => dObj (ents T c).toArray 17 :: subsO (T + 51) cs
noncomputable def posC (pos : Pos) : List (List Ent) → Pos
  | [] => pos
  | c :: cs => posC (lastPos pos c) cs
noncomputable def keyC (lo : Int) : List (List Ent) → Int
  | [] => lo
  | c :: cs => keyC (lastKey lo c) cs
noncomputable def AscC (lo : Int) : List (List Ent) → Prop
  | [] => True
  | c :: cs => c.length = 17 ∧ Asc lo c ∧ AscC (lastKey lo c) cs
theorem onD_upd {s : Shared} {D : Nat} {L : List Obj} {x : Obj} {es es' : Array DictEntry} {n n' tk tk' : Nat} (hd : D < (s.heap.push x).objs.size) :
    onD { onD { s with heap := s.heap.push x } D es n tk with heap := pushes (onD { s with heap := s.heap.push x } D es n tk).heap L } D es' n' tk' = onD { s with heap := pushes (s.heap.push x) L } D es' n' tk' := by
  show Shared.mk ((pushes ((s.heap.push x).update D fun _ => dObj es n) L).update D fun _ => dObj es' n') _ _ _ _ = _
  rw [pushes_upd L _ hd, upd_upd]
theorem chunks {F : Option (Sem Value) × Sem Value → LS → Sem (ForInStep LS)} (hF : FItem F) {D : Nat} (hD : Nat.ble 11 D = true) {last : List Ent} (hL : last.length < 17) :
    ∀ (cs : List (List Ent)) (s : Shared) (es : Array DictEntry) (n : Nat) (pos : Pos) (lo : Int), s.heap.get? D = some (dObj es n) → es.isEmpty = false → (∀ y ∈ es.toList, y.hash ≤ lo) → AscC lo cs → es.size + 17 * cs.length ≤ 10000 →
      R p w b env (forIn (cs.flatMap (·.map it) ++ last.map it) (some D, []) F : Sem LS) s pos (330 * cs.length) (some D, last.map pS) (onD { s with heap := pushes s.heap (subsO s.toks cs) } D (es ++ (mainE s.toks cs).toArray) (n + 17 * cs.length) (s.toks + 51 * cs.length)) (posC pos cs)
        ∧ (∀ y ∈ (es ++ (mainE s.toks cs).toArray).toList, y.hash ≤ keyC lo cs) ∧ (es ++ (mainE s.toks cs).toArray).isEmpty = false
  | [], s, es, n, pos, lo, e, he, hl, _, _ => by
    have e0 : es ++ (mainE s.toks []).toArray = es := by simp [mainE]
    rw [e0]
    refine ⟨?_, hl, he⟩
    have e1 := few hF [] (some D) last [] (by simpa using hL)
    rw [List.append_nil, List.nil_append] at e1
    rw [List.flatMap_nil, List.nil_append, e1]
    have e2 : onD { s with heap := pushes s.heap (subsO s.toks []) } D es (n + 17 * ([] : List (List Ent)).length) (s.toks + 51 * ([] : List (List Ent)).length) = s := onD_same e
    rw [e2]
    exact r_pure
  | c :: cs, s, es, n, pos, lo, e, he, hl, ha, hz => by
    obtain ⟨hc, h1, h2⟩ := ha
    have hd := lt_of_get e
    have hz' : es.size + c.length ≤ 10000 := by simp at hz; omega
    have SB := r_sub (p := p) (w := w) (b := b) (env := env) (c := c) (s := s) (pos := pos) (Nat.ble_eq_true_of_le (by have q : 11 ≤ D := Nat.le_of_ble_eq_true hD; omega)) (by omega) (by omega) h1
    have FL := r_flush (by omega) (ents_len c s.toks) SB hD e he hl (ents_asc c s.toks lo h1) hz'
    rw [hc] at FL
    have g1 : (onD { s with heap := s.heap.push (dObj (ents s.toks c).toArray 17) } D (es ++ (ents s.toks c).toArray) (n + 17) (s.toks + 3 * 17)).heap.get? D = some (dObj (es ++ (ents s.toks c).toArray) (n + 17)) :=
      onD_get (s := { s with heap := s.heap.push (dObj (ents s.toks c).toArray 17) }) (by rw [show (s.heap.push (dObj (ents s.toks c).toArray 17)).get? D = s.heap.get? D from Heap.get?_push_ne _ _ _ (Nat.ne_of_lt hd)]; exact e)
    have ih := chunks hF hD hL cs _ (es ++ (ents s.toks c).toArray) (n + 17) (pos := lastPos pos c) (lo := lastKey lo c) g1 (by
        have q0 : es.size ≠ 0 := by simpa [Array.isEmpty] using he
        simp only [Array.isEmpty, Array.size_append, decide_eq_false_iff_not]; omega)
      (fun y hy => by
        rw [Array.toList_append] at hy
        rcases List.mem_append.mp hy with hy | hy
        · exact Int.le_trans (hl y hy) (lastKey_ge c lo h1)
        · exact ents_le c _ lo h1 y hy) h2 (by simp [ents_len, hc] at hz ⊢; omega)
    rw [onD_upd (by
      have : (s.heap.push (dObj (ents s.toks c).toArray 17)).objs.size = s.heap.objs.size + 1 := by
        cases hh : s.heap; show Array.size (Array.push _ _) = _; rw [Array.size_push]
      rw [this]; omega)] at ih
    obtain ⟨i1, i2, i3⟩ := ih
    have e1 : es ++ (mainE s.toks (c :: cs)).toArray = es ++ (ents s.toks c).toArray ++ (mainE (s.toks + 51) cs).toArray := by
      apply Array.toList_inj.mp
      simp [mainE]
    rw [e1]
    refine ⟨?_, i2, i3⟩
    rw [List.flatMap_cons, List.append_assoc, show 330 * (c :: cs).length = (2 + 13 * 17 + (5 + 6 * 17 + 0)) + 0 + 330 * cs.length by simp; omega, show n + 17 * (c :: cs).length = n + 17 + 17 * cs.length by simp; omega, show s.toks + 51 * (c :: cs).length = s.toks + 51 + 51 * cs.length by simp; omega]
    exact full hF hc FL i1
end
end Mine
end
section
open PySem PySem.W PyProof.Rows
namespace Mine
theorem pushes_app : ∀ (a c : List Obj) (h : Heap), pushes h (a ++ c) = pushes (pushes h a) c
  | [], _, _ => rfl
  | o :: a, c, h => pushes_app a c (h.push o)
theorem size_push (h : Heap) (o : Obj) : (h.push o).objs.size = h.objs.size + 1 := by
  cases h; show Array.size (Array.push _ _) = _; rw [Array.size_push]
theorem pushes_get {D : Nat} : ∀ (l : List Obj) (h : Heap), D < h.objs.size → (pushes h l).get? D = h.get? D
  | [], _, _ => rfl
  | o :: l, h, hd => by
    refine (pushes_get l (h.push o) (by rw [size_push]; omega)).trans ?_
    exact Heap.get?_push_ne _ _ _ (Nat.ne_of_lt hd)
theorem pushes_size : ∀ (l : List Obj) (h : Heap), h.objs.size ≤ (pushes h l).objs.size
  | [], _ => Nat.le_refl _
  | o :: l, h => Nat.le_trans (by rw [size_push]; omega) (pushes_size l (h.push o))
theorem mainE_len : ∀ (cs : List (List Ent)) (T : Nat) (lo : Int), AscC lo cs → (mainE T cs).length = 17 * cs.length
  | [], _, _, _ => rfl
  | c :: cs, T, lo, h => by
    show (ents T c ++ mainE (T + 51) cs).length = _
    rw [List.length_append, ents_len, h.1, mainE_len cs (T + 51) _ h.2.2, List.length_cons]
    omega
noncomputable def dispO (T : Nat) (c0 : List Ent) (cs : List (List Ent)) (last : List Ent) : List Obj :=
  dObj ((ents T c0).toArray ++ (mainE (T + 51) cs).toArray ++ (ents2 (T + 51 + 51 * cs.length) last).toArray) (17 + 17 * cs.length + last.length)
    :: (subsO (T + 51) cs ++ [dObj (ents2 (T + 51 + 51 * cs.length) last).toArray last.length])
section
variable {p : Program} {w : World} {b : List Stmt} {env : Env}
theorem r_disp {c0 last : List Ent} {cs : List (List Ent)} {s : Shared} {pos : Pos} (hs : Nat.ble 11 s.heap.objs.size = true) (hc : AscC (-1) (c0 :: cs)) (hl : Asc (keyC (-1) (c0 :: cs)) last) (h0 : 0 < last.length) (h15 : last.length ≤ 15) (hz : cs.length ≤ 100) :
    R p w b env (dictDisplay ((c0 :: cs).flatMap (·.map it) ++ last.map it)) s pos (223 + 330 * cs.length + (6 + 19 * last.length)) (.ref s.heap.objs.size)
      { s with heap := pushes s.heap (dispO s.toks c0 cs last), toks := s.toks + 51 + 51 * cs.length + 3 * last.length } (lastPos (posC pos (c0 :: cs)) last) := by
  obtain ⟨hc0, ha, hc⟩ := hc
  have SB := r_sub (p := p) (w := w) (b := b) (env := env) (c := c0) (s := s) (pos := pos) hs (by omega) (by omega) ha
  rw [sub_eq, hc0] at SB
  have F1 := r_flush1 (by omega) SB
  have g1 : ({ s with heap := s.heap.push (dObj (ents s.toks c0).toArray 17), toks := s.toks + 3 * 17 } : Shared).heap.get? s.heap.objs.size = some (dObj (ents s.toks c0).toArray 17) := Heap.get?_push_size _ rfl
  have hF : ∀ F, FItem F → _ := fun F hF => chunks (p := p) (w := w) (b := b) (env := env) (F := F) (D := s.heap.objs.size) (last := last) hF hs (by omega) cs _ (ents s.toks c0).toArray 17 (lastPos pos c0) (lastKey (-1) c0) g1
    (by
      have := ents_len c0 s.toks
      simp only [Array.isEmpty, List.size_toArray, decide_eq_false_iff_not]; omega)
    (fun y hy => ents_le c0 s.toks (-1) ha y (by simpa using hy)) hc (by simp [ents_len, hc0]; omega)
  have hd : s.heap.objs.size < (s.heap.push (dObj (ents s.toks c0).toArray 17)).objs.size := by rw [size_push]; omega
  rw [List.flatMap_cons, List.append_assoc]
  have hS : onD { s with heap := pushes (s.heap.push (dObj (ents s.toks c0).toArray 17)) (subsO (s.toks + 51) cs), toks := s.toks + 51 } s.heap.objs.size ((ents s.toks c0).toArray ++ (mainE (s.toks + 51) cs).toArray) (17 + 17 * cs.length) (s.toks + 51 + 51 * cs.length)
      = { s with heap := pushes (s.heap.push (dObj ((ents s.toks c0).toArray ++ (mainE (s.toks + 51) cs).toArray) (17 + 17 * cs.length))) (subsO (s.toks + 51) cs), toks := s.toks + 51 + 51 * cs.length } := by
    show Shared.mk ((pushes _ _).update _ _) _ _ _ _ = _
    rw [← pushes_upd _ _ hd, push_upd]
  have hd2 : s.heap.objs.size < (s.heap.push (dObj ((ents s.toks c0).toArray ++ (mainE (s.toks + 51) cs).toArray) (17 + 17 * cs.length))).objs.size := by rw [size_push]; omega
  have g2 : (pushes (s.heap.push (dObj ((ents s.toks c0).toArray ++ (mainE (s.toks + 51) cs).toArray) (17 + 17 * cs.length))) (subsO (s.toks + 51) cs)).get? s.heap.objs.size = some (dObj ((ents s.toks c0).toArray ++ (mainE (s.toks + 51) cs).toArray) (17 + 17 * cs.length)) :=
    (pushes_get _ _ hd2).trans (Heap.get?_push_size _ rfl)
  unfold dictDisplay
  dsimp only
  refine r_bind (n := 223 + 330 * cs.length) (a := (some s.heap.objs.size, last.map pS)) (s₁ := { s with heap := pushes (s.heap.push (dObj ((ents s.toks c0).toArray ++ (mainE (s.toks + 51) cs).toArray) (17 + 17 * cs.length))) (subsO (s.toks + 51) cs), toks := s.toks + 51 + 51 * cs.length }) (p₁ := posC (lastPos pos c0) cs) ?_ ?_
  · rw [← hS]
    exact full (n := 2 + 13 * 17 + 0) (k := 330 * cs.length) (fun e main run => rfl) hc0 F1 (hF _ (fun e main run => rfl)).1
  · obtain ⟨-, hl2, he2⟩ := hF (fun x st => match x.1 with | some k => if ((st.2 ++ [(k, x.2)]).length == 17) = true then (do let m ← flushD (st.2 ++ [(k, x.2)]) st.1; pure (ForInStep.yield (m, []))) else pure (ForInStep.yield (st.1, st.2 ++ [(k, x.2)])) | none => pure (ForInStep.yield st)) (fun e main run => rfl)
    have SL := r_sub2 (p := p) (w := w) (b := b) (env := env) (c := last) (s := { s with heap := pushes (s.heap.push (dObj ((ents s.toks c0).toArray ++ (mainE (s.toks + 51) cs).toArray) (17 + 17 * cs.length))) (subsO (s.toks + 51) cs), toks := s.toks + 51 + 51 * cs.length }) (pos := posC (lastPos pos c0) cs)
      (Nat.ble_eq_true_of_le (Nat.le_trans (Nat.le_trans (Nat.le_of_ble_eq_true hs) (Nat.le_of_lt hd2)) (pushes_size _ _))) h15 hl
    have FL := r_flush (D := s.heap.objs.size) h0 (ents2_len last _) SL hs g2 he2 hl2 (ents2_asc last _ _ hl) (by simp [ents_len, hc0, mainE_len cs _ _ hc]; omega)
    have hfin : onD { s with heap := (pushes (s.heap.push (dObj ((ents s.toks c0).toArray ++ (mainE (s.toks + 51) cs).toArray) (17 + 17 * cs.length))) (subsO (s.toks + 51) cs)).push (dObj (ents2 (s.toks + 51 + 51 * cs.length) last).toArray last.length), toks := s.toks + 51 + 51 * cs.length } s.heap.objs.size ((ents s.toks c0).toArray ++ (mainE (s.toks + 51) cs).toArray ++ (ents2 (s.toks + 51 + 51 * cs.length) last).toArray) (17 + 17 * cs.length + last.length) (s.toks + 51 + 51 * cs.length + 3 * last.length)
        = { s with heap := pushes s.heap (dispO s.toks c0 cs last), toks := s.toks + 51 + 51 * cs.length + 3 * last.length } := by
      show Shared.mk ((pushes (pushes _ _) [_]).update _ _) _ _ _ _ = _
      rw [← pushes_app, ← pushes_upd _ _ hd2, push_upd]
      rfl
    dsimp only at FL hfin
    rw [hfin] at FL
    rw [show 6 + 19 * last.length = 1 + 13 * last.length + (5 + 6 * last.length + 0) by omega]
    exact r_bind (a := some s.heap.objs.size) (m := 0) FL r_pure
end
end Mine
end
section
open PySem PySem.W PyProof.Rows
set_option maxRecDepth 100000
namespace Mine
noncomputable abbrev dq : Pos := ⟨82, 16, 82, 8704⟩
noncomputable def c_0 : List Ent := [(181, Str.ofString "\u03bc", dq), (223, Str.ofString "ss", dq), (304, Str.ofString "i\u0307", dq), (329, Str.ofString "\u02bcn", dq), (383, Str.ofString "s", dq), (496, Str.ofString "j\u030c", dq), (837, Str.ofString "\u03b9", dq), (890, Str.ofString "\u0020\u03b9", dq), (912, Str.ofString "\u03b9\u0308\u0301", dq), (944, Str.ofString "\u03c5\u0308\u0301", dq), (962, Str.ofString "\u03c3", dq), (976, Str.ofString "\u03b2", dq), (977, Str.ofString "\u03b8", dq), (978, Str.ofString "\u03c5", dq), (979, Str.ofString "\u03cd", dq), (980, Str.ofString "\u03cb", dq), (981, Str.ofString "\u03c6", dq)]
noncomputable def c_1 : List Ent := [(982, Str.ofString "\u03c0", dq), (1008, Str.ofString "\u03ba", dq), (1009, Str.ofString "\u03c1", dq), (1010, Str.ofString "\u03c3", dq), (1013, Str.ofString "\u03b5", dq), (1415, Str.ofString "\u0565\u0582", dq), (7830, Str.ofString "h\u0331", dq), (7831, Str.ofString "t\u0308", dq), (7832, Str.ofString "w\u030a", dq), (7833, Str.ofString "y\u030a", dq), (7834, Str.ofString "a\u02be", dq), (7835, Str.ofString "\u1e61", dq), (8016, Str.ofString "\u03c5\u0313", dq), (8018, Str.ofString "\u03c5\u0313\u0300", dq), (8020, Str.ofString "\u03c5\u0313\u0301", dq), (8022, Str.ofString "\u03c5\u0313\u0342", dq), (8064, Str.ofString "\u1f00\u03b9", dq)]
noncomputable def c_2 : List Ent := [(8065, Str.ofString "\u1f01\u03b9", dq), (8066, Str.ofString "\u1f02\u03b9", dq), (8067, Str.ofString "\u1f03\u03b9", dq), (8068, Str.ofString "\u1f04\u03b9", dq), (8069, Str.ofString "\u1f05\u03b9", dq), (8070, Str.ofString "\u1f06\u03b9", dq), (8071, Str.ofString "\u1f07\u03b9", dq), (8072, Str.ofString "\u1f00\u03b9", dq), (8073, Str.ofString "\u1f01\u03b9", dq), (8074, Str.ofString "\u1f02\u03b9", dq), (8075, Str.ofString "\u1f03\u03b9", dq), (8076, Str.ofString "\u1f04\u03b9", dq), (8077, Str.ofString "\u1f05\u03b9", dq), (8078, Str.ofString "\u1f06\u03b9", dq), (8079, Str.ofString "\u1f07\u03b9", dq), (8080, Str.ofString "\u1f20\u03b9", dq), (8081, Str.ofString "\u1f21\u03b9", dq)]
noncomputable def c_3 : List Ent := [(8082, Str.ofString "\u1f22\u03b9", dq), (8083, Str.ofString "\u1f23\u03b9", dq), (8084, Str.ofString "\u1f24\u03b9", dq), (8085, Str.ofString "\u1f25\u03b9", dq), (8086, Str.ofString "\u1f26\u03b9", dq), (8087, Str.ofString "\u1f27\u03b9", dq), (8088, Str.ofString "\u1f20\u03b9", dq), (8089, Str.ofString "\u1f21\u03b9", dq), (8090, Str.ofString "\u1f22\u03b9", dq), (8091, Str.ofString "\u1f23\u03b9", dq), (8092, Str.ofString "\u1f24\u03b9", dq), (8093, Str.ofString "\u1f25\u03b9", dq), (8094, Str.ofString "\u1f26\u03b9", dq), (8095, Str.ofString "\u1f27\u03b9", dq), (8096, Str.ofString "\u1f60\u03b9", dq), (8097, Str.ofString "\u1f61\u03b9", dq), (8098, Str.ofString "\u1f62\u03b9", dq)]
noncomputable def c_4 : List Ent := [(8099, Str.ofString "\u1f63\u03b9", dq), (8100, Str.ofString "\u1f64\u03b9", dq), (8101, Str.ofString "\u1f65\u03b9", dq), (8102, Str.ofString "\u1f66\u03b9", dq), (8103, Str.ofString "\u1f67\u03b9", dq), (8104, Str.ofString "\u1f60\u03b9", dq), (8105, Str.ofString "\u1f61\u03b9", dq), (8106, Str.ofString "\u1f62\u03b9", dq), (8107, Str.ofString "\u1f63\u03b9", dq), (8108, Str.ofString "\u1f64\u03b9", dq), (8109, Str.ofString "\u1f65\u03b9", dq), (8110, Str.ofString "\u1f66\u03b9", dq), (8111, Str.ofString "\u1f67\u03b9", dq), (8114, Str.ofString "\u1f70\u03b9", dq), (8115, Str.ofString "\u03b1\u03b9", dq), (8116, Str.ofString "\u03ac\u03b9", dq), (8118, Str.ofString "\u03b1\u0342", dq)]
noncomputable def c_5 : List Ent := [(8119, Str.ofString "\u03b1\u0342\u03b9", dq), (8124, Str.ofString "\u03b1\u03b9", dq), (8126, Str.ofString "\u03b9", dq), (8130, Str.ofString "\u1f74\u03b9", dq), (8131, Str.ofString "\u03b7\u03b9", dq), (8132, Str.ofString "\u03ae\u03b9", dq), (8134, Str.ofString "\u03b7\u0342", dq), (8135, Str.ofString "\u03b7\u0342\u03b9", dq), (8140, Str.ofString "\u03b7\u03b9", dq), (8146, Str.ofString "\u03b9\u0308\u0300", dq), (8147, Str.ofString "\u03b9\u0308\u0301", dq), (8150, Str.ofString "\u03b9\u0342", dq), (8151, Str.ofString "\u03b9\u0308\u0342", dq), (8162, Str.ofString "\u03c5\u0308\u0300", dq), (8163, Str.ofString "\u03c5\u0308\u0301", dq), (8164, Str.ofString "\u03c1\u0313", dq), (8166, Str.ofString "\u03c5\u0342", dq)]
noncomputable def c_6 : List Ent := [(8167, Str.ofString "\u03c5\u0308\u0342", dq), (8178, Str.ofString "\u1f7c\u03b9", dq), (8179, Str.ofString "\u03c9\u03b9", dq), (8180, Str.ofString "\u03ce\u03b9", dq), (8182, Str.ofString "\u03c9\u0342", dq), (8183, Str.ofString "\u03c9\u0342\u03b9", dq), (8188, Str.ofString "\u03c9\u03b9", dq), (8360, Str.ofString "rs", dq), (8450, Str.ofString "c", dq), (8451, Str.ofString "\u00b0c", dq), (8455, Str.ofString "\u025b", dq), (8457, Str.ofString "\u00b0f", dq), (8459, Str.ofString "h", dq), (8460, Str.ofString "h", dq), (8461, Str.ofString "h", dq), (8464, Str.ofString "i", dq), (8465, Str.ofString "i", dq)]
noncomputable def c_7 : List Ent := [(8466, Str.ofString "l", dq), (8469, Str.ofString "n", dq), (8470, Str.ofString "no", dq), (8473, Str.ofString "p", dq), (8474, Str.ofString "q", dq), (8475, Str.ofString "r", dq), (8476, Str.ofString "r", dq), (8477, Str.ofString "r", dq), (8480, Str.ofString "sm", dq), (8481, Str.ofString "tel", dq), (8482, Str.ofString "tm", dq), (8484, Str.ofString "z", dq), (8488, Str.ofString "z", dq), (8492, Str.ofString "b", dq), (8493, Str.ofString "c", dq), (8496, Str.ofString "e", dq), (8497, Str.ofString "f", dq)]
noncomputable def c_8 : List Ent := [(8499, Str.ofString "m", dq), (8510, Str.ofString "\u03b3", dq), (8511, Str.ofString "\u03c0", dq), (8517, Str.ofString "d", dq), (13169, Str.ofString "hpa", dq), (13171, Str.ofString "au", dq), (13173, Str.ofString "ov", dq), (13184, Str.ofString "pa", dq), (13185, Str.ofString "na", dq), (13186, Str.ofString "\u03bca", dq), (13187, Str.ofString "ma", dq), (13188, Str.ofString "ka", dq), (13189, Str.ofString "kb", dq), (13190, Str.ofString "mb", dq), (13191, Str.ofString "gb", dq), (13194, Str.ofString "pf", dq), (13195, Str.ofString "nf", dq)]
noncomputable def c_9 : List Ent := [(13196, Str.ofString "\u03bcf", dq), (13200, Str.ofString "hz", dq), (13201, Str.ofString "khz", dq), (13202, Str.ofString "mhz", dq), (13203, Str.ofString "ghz", dq), (13204, Str.ofString "thz", dq), (13225, Str.ofString "pa", dq), (13226, Str.ofString "kpa", dq), (13227, Str.ofString "mpa", dq), (13228, Str.ofString "gpa", dq), (13236, Str.ofString "pv", dq), (13237, Str.ofString "nv", dq), (13238, Str.ofString "\u03bcv", dq), (13239, Str.ofString "mv", dq), (13240, Str.ofString "kv", dq), (13241, Str.ofString "mv", dq), (13242, Str.ofString "pw", dq)]
noncomputable def c_10 : List Ent := [(13243, Str.ofString "nw", dq), (13244, Str.ofString "\u03bcw", dq), (13245, Str.ofString "mw", dq), (13246, Str.ofString "kw", dq), (13247, Str.ofString "mw", dq), (13248, Str.ofString "k\u03c9", dq), (13249, Str.ofString "m\u03c9", dq), (13251, Str.ofString "bq", dq), (13254, Str.ofString "c\u2215kg", dq), (13255, Str.ofString "co\u002e", dq), (13256, Str.ofString "db", dq), (13257, Str.ofString "gy", dq), (13259, Str.ofString "hp", dq), (13261, Str.ofString "kk", dq), (13262, Str.ofString "km", dq), (13271, Str.ofString "ph", dq), (13273, Str.ofString "ppm", dq)]
noncomputable def c_11 : List Ent := [(13274, Str.ofString "pr", dq), (13276, Str.ofString "sv", dq), (13277, Str.ofString "wb", dq), (64256, Str.ofString "ff", dq), (64257, Str.ofString "fi", dq), (64258, Str.ofString "fl", dq), (64259, Str.ofString "ffi", dq), (64260, Str.ofString "ffl", dq), (64261, Str.ofString "st", dq), (64262, Str.ofString "st", dq), (64275, Str.ofString "\u0574\u0576", dq), (64276, Str.ofString "\u0574\u0565", dq), (64277, Str.ofString "\u0574\u056b", dq), (64278, Str.ofString "\u057e\u0576", dq), (64279, Str.ofString "\u0574\u056d", dq), (119808, Str.ofString "a", dq), (119809, Str.ofString "b", dq)]
noncomputable def c_12 : List Ent := [(119810, Str.ofString "c", dq), (119811, Str.ofString "d", dq), (119812, Str.ofString "e", dq), (119813, Str.ofString "f", dq), (119814, Str.ofString "g", dq), (119815, Str.ofString "h", dq), (119816, Str.ofString "i", dq), (119817, Str.ofString "j", dq), (119818, Str.ofString "k", dq), (119819, Str.ofString "l", dq), (119820, Str.ofString "m", dq), (119821, Str.ofString "n", dq), (119822, Str.ofString "o", dq), (119823, Str.ofString "p", dq), (119824, Str.ofString "q", dq), (119825, Str.ofString "r", dq), (119826, Str.ofString "s", dq)]
noncomputable def c_13 : List Ent := [(119827, Str.ofString "t", dq), (119828, Str.ofString "u", dq), (119829, Str.ofString "v", dq), (119830, Str.ofString "w", dq), (119831, Str.ofString "x", dq), (119832, Str.ofString "y", dq), (119833, Str.ofString "z", dq), (119860, Str.ofString "a", dq), (119861, Str.ofString "b", dq), (119862, Str.ofString "c", dq), (119863, Str.ofString "d", dq), (119864, Str.ofString "e", dq), (119865, Str.ofString "f", dq), (119866, Str.ofString "g", dq), (119867, Str.ofString "h", dq), (119868, Str.ofString "i", dq), (119869, Str.ofString "j", dq)]
noncomputable def c_14 : List Ent := [(119870, Str.ofString "k", dq), (119871, Str.ofString "l", dq), (119872, Str.ofString "m", dq), (119873, Str.ofString "n", dq), (119874, Str.ofString "o", dq), (119875, Str.ofString "p", dq), (119876, Str.ofString "q", dq), (119877, Str.ofString "r", dq), (119878, Str.ofString "s", dq), (119879, Str.ofString "t", dq), (119880, Str.ofString "u", dq), (119881, Str.ofString "v", dq), (119882, Str.ofString "w", dq), (119883, Str.ofString "x", dq), (119884, Str.ofString "y", dq), (119885, Str.ofString "z", dq), (119912, Str.ofString "a", dq)]
noncomputable def c_15 : List Ent := [(119913, Str.ofString "b", dq), (119914, Str.ofString "c", dq), (119915, Str.ofString "d", dq), (119916, Str.ofString "e", dq), (119917, Str.ofString "f", dq), (119918, Str.ofString "g", dq), (119919, Str.ofString "h", dq), (119920, Str.ofString "i", dq), (119921, Str.ofString "j", dq), (119922, Str.ofString "k", dq), (119923, Str.ofString "l", dq), (119924, Str.ofString "m", dq), (119925, Str.ofString "n", dq), (119926, Str.ofString "o", dq), (119927, Str.ofString "p", dq), (119928, Str.ofString "q", dq), (119929, Str.ofString "r", dq)]
noncomputable def c_16 : List Ent := [(119930, Str.ofString "s", dq), (119931, Str.ofString "t", dq), (119932, Str.ofString "u", dq), (119933, Str.ofString "v", dq), (119934, Str.ofString "w", dq), (119935, Str.ofString "x", dq), (119936, Str.ofString "y", dq), (119937, Str.ofString "z", dq), (119964, Str.ofString "a", dq), (119966, Str.ofString "c", dq), (119967, Str.ofString "d", dq), (119970, Str.ofString "g", dq), (119973, Str.ofString "j", dq), (119974, Str.ofString "k", dq), (119977, Str.ofString "n", dq), (119978, Str.ofString "o", dq), (119979, Str.ofString "p", dq)]
noncomputable def c_17 : List Ent := [(119980, Str.ofString "q", dq), (119982, Str.ofString "s", dq), (119983, Str.ofString "t", dq), (119984, Str.ofString "u", dq), (119985, Str.ofString "v", dq), (119986, Str.ofString "w", dq), (119987, Str.ofString "x", dq), (119988, Str.ofString "y", dq), (119989, Str.ofString "z", dq), (120016, Str.ofString "a", dq), (120017, Str.ofString "b", dq), (120018, Str.ofString "c", dq), (120019, Str.ofString "d", dq), (120020, Str.ofString "e", dq), (120021, Str.ofString "f", dq), (120022, Str.ofString "g", dq), (120023, Str.ofString "h", dq)]
noncomputable def c_18 : List Ent := [(120024, Str.ofString "i", dq), (120025, Str.ofString "j", dq), (120026, Str.ofString "k", dq), (120027, Str.ofString "l", dq), (120028, Str.ofString "m", dq), (120029, Str.ofString "n", dq), (120030, Str.ofString "o", dq), (120031, Str.ofString "p", dq), (120032, Str.ofString "q", dq), (120033, Str.ofString "r", dq), (120034, Str.ofString "s", dq), (120035, Str.ofString "t", dq), (120036, Str.ofString "u", dq), (120037, Str.ofString "v", dq), (120038, Str.ofString "w", dq), (120039, Str.ofString "x", dq), (120040, Str.ofString "y", dq)]
noncomputable def c_19 : List Ent := [(120041, Str.ofString "z", dq), (120068, Str.ofString "a", dq), (120069, Str.ofString "b", dq), (120071, Str.ofString "d", dq), (120072, Str.ofString "e", dq), (120073, Str.ofString "f", dq), (120074, Str.ofString "g", dq), (120077, Str.ofString "j", dq), (120078, Str.ofString "k", dq), (120079, Str.ofString "l", dq), (120080, Str.ofString "m", dq), (120081, Str.ofString "n", dq), (120082, Str.ofString "o", dq), (120083, Str.ofString "p", dq), (120084, Str.ofString "q", dq), (120086, Str.ofString "s", dq), (120087, Str.ofString "t", dq)]
noncomputable def c_20 : List Ent := [(120088, Str.ofString "u", dq), (120089, Str.ofString "v", dq), (120090, Str.ofString "w", dq), (120091, Str.ofString "x", dq), (120092, Str.ofString "y", dq), (120120, Str.ofString "a", dq), (120121, Str.ofString "b", dq), (120123, Str.ofString "d", dq), (120124, Str.ofString "e", dq), (120125, Str.ofString "f", dq), (120126, Str.ofString "g", dq), (120128, Str.ofString "i", dq), (120129, Str.ofString "j", dq), (120130, Str.ofString "k", dq), (120131, Str.ofString "l", dq), (120132, Str.ofString "m", dq), (120134, Str.ofString "o", dq)]
noncomputable def c_21 : List Ent := [(120138, Str.ofString "s", dq), (120139, Str.ofString "t", dq), (120140, Str.ofString "u", dq), (120141, Str.ofString "v", dq), (120142, Str.ofString "w", dq), (120143, Str.ofString "x", dq), (120144, Str.ofString "y", dq), (120172, Str.ofString "a", dq), (120173, Str.ofString "b", dq), (120174, Str.ofString "c", dq), (120175, Str.ofString "d", dq), (120176, Str.ofString "e", dq), (120177, Str.ofString "f", dq), (120178, Str.ofString "g", dq), (120179, Str.ofString "h", dq), (120180, Str.ofString "i", dq), (120181, Str.ofString "j", dq)]
noncomputable def c_22 : List Ent := [(120182, Str.ofString "k", dq), (120183, Str.ofString "l", dq), (120184, Str.ofString "m", dq), (120185, Str.ofString "n", dq), (120186, Str.ofString "o", dq), (120187, Str.ofString "p", dq), (120188, Str.ofString "q", dq), (120189, Str.ofString "r", dq), (120190, Str.ofString "s", dq), (120191, Str.ofString "t", dq), (120192, Str.ofString "u", dq), (120193, Str.ofString "v", dq), (120194, Str.ofString "w", dq), (120195, Str.ofString "x", dq), (120196, Str.ofString "y", dq), (120197, Str.ofString "z", dq), (120224, Str.ofString "a", dq)]
noncomputable def c_23 : List Ent := [(120225, Str.ofString "b", dq), (120226, Str.ofString "c", dq), (120227, Str.ofString "d", dq), (120228, Str.ofString "e", dq), (120229, Str.ofString "f", dq), (120230, Str.ofString "g", dq), (120231, Str.ofString "h", dq), (120232, Str.ofString "i", dq), (120233, Str.ofString "j", dq), (120234, Str.ofString "k", dq), (120235, Str.ofString "l", dq), (120236, Str.ofString "m", dq), (120237, Str.ofString "n", dq), (120238, Str.ofString "o", dq), (120239, Str.ofString "p", dq), (120240, Str.ofString "q", dq), (120241, Str.ofString "r", dq)]
noncomputable def c_24 : List Ent := [(120242, Str.ofString "s", dq), (120243, Str.ofString "t", dq), (120244, Str.ofString "u", dq), (120245, Str.ofString "v", dq), (120246, Str.ofString "w", dq), (120247, Str.ofString "x", dq), (120248, Str.ofString "y", dq), (120249, Str.ofString "z", dq), (120276, Str.ofString "a", dq), (120277, Str.ofString "b", dq), (120278, Str.ofString "c", dq), (120279, Str.ofString "d", dq), (120280, Str.ofString "e", dq), (120281, Str.ofString "f", dq), (120282, Str.ofString "g", dq), (120283, Str.ofString "h", dq), (120284, Str.ofString "i", dq)]
noncomputable def c_25 : List Ent := [(120285, Str.ofString "j", dq), (120286, Str.ofString "k", dq), (120287, Str.ofString "l", dq), (120288, Str.ofString "m", dq), (120289, Str.ofString "n", dq), (120290, Str.ofString "o", dq), (120291, Str.ofString "p", dq), (120292, Str.ofString "q", dq), (120293, Str.ofString "r", dq), (120294, Str.ofString "s", dq), (120295, Str.ofString "t", dq), (120296, Str.ofString "u", dq), (120297, Str.ofString "v", dq), (120298, Str.ofString "w", dq), (120299, Str.ofString "x", dq), (120300, Str.ofString "y", dq), (120301, Str.ofString "z", dq)]
noncomputable def c_26 : List Ent := [(120328, Str.ofString "a", dq), (120329, Str.ofString "b", dq), (120330, Str.ofString "c", dq), (120331, Str.ofString "d", dq), (120332, Str.ofString "e", dq), (120333, Str.ofString "f", dq), (120334, Str.ofString "g", dq), (120335, Str.ofString "h", dq), (120336, Str.ofString "i", dq), (120337, Str.ofString "j", dq), (120338, Str.ofString "k", dq), (120339, Str.ofString "l", dq), (120340, Str.ofString "m", dq), (120341, Str.ofString "n", dq), (120342, Str.ofString "o", dq), (120343, Str.ofString "p", dq), (120344, Str.ofString "q", dq)]
noncomputable def c_27 : List Ent := [(120345, Str.ofString "r", dq), (120346, Str.ofString "s", dq), (120347, Str.ofString "t", dq), (120348, Str.ofString "u", dq), (120349, Str.ofString "v", dq), (120350, Str.ofString "w", dq), (120351, Str.ofString "x", dq), (120352, Str.ofString "y", dq), (120353, Str.ofString "z", dq), (120380, Str.ofString "a", dq), (120381, Str.ofString "b", dq), (120382, Str.ofString "c", dq), (120383, Str.ofString "d", dq), (120384, Str.ofString "e", dq), (120385, Str.ofString "f", dq), (120386, Str.ofString "g", dq), (120387, Str.ofString "h", dq)]
noncomputable def c_28 : List Ent := [(120388, Str.ofString "i", dq), (120389, Str.ofString "j", dq), (120390, Str.ofString "k", dq), (120391, Str.ofString "l", dq), (120392, Str.ofString "m", dq), (120393, Str.ofString "n", dq), (120394, Str.ofString "o", dq), (120395, Str.ofString "p", dq), (120396, Str.ofString "q", dq), (120397, Str.ofString "r", dq), (120398, Str.ofString "s", dq), (120399, Str.ofString "t", dq), (120400, Str.ofString "u", dq), (120401, Str.ofString "v", dq), (120402, Str.ofString "w", dq), (120403, Str.ofString "x", dq), (120404, Str.ofString "y", dq)]
noncomputable def c_29 : List Ent := [(120405, Str.ofString "z", dq), (120432, Str.ofString "a", dq), (120433, Str.ofString "b", dq), (120434, Str.ofString "c", dq), (120435, Str.ofString "d", dq), (120436, Str.ofString "e", dq), (120437, Str.ofString "f", dq), (120438, Str.ofString "g", dq), (120439, Str.ofString "h", dq), (120440, Str.ofString "i", dq), (120441, Str.ofString "j", dq), (120442, Str.ofString "k", dq), (120443, Str.ofString "l", dq), (120444, Str.ofString "m", dq), (120445, Str.ofString "n", dq), (120446, Str.ofString "o", dq), (120447, Str.ofString "p", dq)]
noncomputable def c_30 : List Ent := [(120448, Str.ofString "q", dq), (120449, Str.ofString "r", dq), (120450, Str.ofString "s", dq), (120451, Str.ofString "t", dq), (120452, Str.ofString "u", dq), (120453, Str.ofString "v", dq), (120454, Str.ofString "w", dq), (120455, Str.ofString "x", dq), (120456, Str.ofString "y", dq), (120457, Str.ofString "z", dq), (120488, Str.ofString "\u03b1", dq), (120489, Str.ofString "\u03b2", dq), (120490, Str.ofString "\u03b3", dq), (120491, Str.ofString "\u03b4", dq), (120492, Str.ofString "\u03b5", dq), (120493, Str.ofString "\u03b6", dq), (120494, Str.ofString "\u03b7", dq)]
noncomputable def c_31 : List Ent := [(120495, Str.ofString "\u03b8", dq), (120496, Str.ofString "\u03b9", dq), (120497, Str.ofString "\u03ba", dq), (120498, Str.ofString "\u03bb", dq), (120499, Str.ofString "\u03bc", dq), (120500, Str.ofString "\u03bd", dq), (120501, Str.ofString "\u03be", dq), (120502, Str.ofString "\u03bf", dq), (120503, Str.ofString "\u03c0", dq), (120504, Str.ofString "\u03c1", dq), (120505, Str.ofString "\u03b8", dq), (120506, Str.ofString "\u03c3", dq), (120507, Str.ofString "\u03c4", dq), (120508, Str.ofString "\u03c5", dq), (120509, Str.ofString "\u03c6", dq), (120510, Str.ofString "\u03c7", dq), (120511, Str.ofString "\u03c8", dq)]
noncomputable def c_32 : List Ent := [(120512, Str.ofString "\u03c9", dq), (120531, Str.ofString "\u03c3", dq), (120546, Str.ofString "\u03b1", dq), (120547, Str.ofString "\u03b2", dq), (120548, Str.ofString "\u03b3", dq), (120549, Str.ofString "\u03b4", dq), (120550, Str.ofString "\u03b5", dq), (120551, Str.ofString "\u03b6", dq), (120552, Str.ofString "\u03b7", dq), (120553, Str.ofString "\u03b8", dq), (120554, Str.ofString "\u03b9", dq), (120555, Str.ofString "\u03ba", dq), (120556, Str.ofString "\u03bb", dq), (120557, Str.ofString "\u03bc", dq), (120558, Str.ofString "\u03bd", dq), (120559, Str.ofString "\u03be", dq), (120560, Str.ofString "\u03bf", dq)]
noncomputable def c_33 : List Ent := [(120561, Str.ofString "\u03c0", dq), (120562, Str.ofString "\u03c1", dq), (120563, Str.ofString "\u03b8", dq), (120564, Str.ofString "\u03c3", dq), (120565, Str.ofString "\u03c4", dq), (120566, Str.ofString "\u03c5", dq), (120567, Str.ofString "\u03c6", dq), (120568, Str.ofString "\u03c7", dq), (120569, Str.ofString "\u03c8", dq), (120570, Str.ofString "\u03c9", dq), (120589, Str.ofString "\u03c3", dq), (120604, Str.ofString "\u03b1", dq), (120605, Str.ofString "\u03b2", dq), (120606, Str.ofString "\u03b3", dq), (120607, Str.ofString "\u03b4", dq), (120608, Str.ofString "\u03b5", dq), (120609, Str.ofString "\u03b6", dq)]
noncomputable def c_34 : List Ent := [(120610, Str.ofString "\u03b7", dq), (120611, Str.ofString "\u03b8", dq), (120612, Str.ofString "\u03b9", dq), (120613, Str.ofString "\u03ba", dq), (120614, Str.ofString "\u03bb", dq), (120615, Str.ofString "\u03bc", dq), (120616, Str.ofString "\u03bd", dq), (120617, Str.ofString "\u03be", dq), (120618, Str.ofString "\u03bf", dq), (120619, Str.ofString "\u03c0", dq), (120620, Str.ofString "\u03c1", dq), (120621, Str.ofString "\u03b8", dq), (120622, Str.ofString "\u03c3", dq), (120623, Str.ofString "\u03c4", dq), (120624, Str.ofString "\u03c5", dq), (120625, Str.ofString "\u03c6", dq), (120626, Str.ofString "\u03c7", dq)]
noncomputable def c_35 : List Ent := [(120627, Str.ofString "\u03c8", dq), (120628, Str.ofString "\u03c9", dq), (120647, Str.ofString "\u03c3", dq), (120662, Str.ofString "\u03b1", dq), (120663, Str.ofString "\u03b2", dq), (120664, Str.ofString "\u03b3", dq), (120665, Str.ofString "\u03b4", dq), (120666, Str.ofString "\u03b5", dq), (120667, Str.ofString "\u03b6", dq), (120668, Str.ofString "\u03b7", dq), (120669, Str.ofString "\u03b8", dq), (120670, Str.ofString "\u03b9", dq), (120671, Str.ofString "\u03ba", dq), (120672, Str.ofString "\u03bb", dq), (120673, Str.ofString "\u03bc", dq), (120674, Str.ofString "\u03bd", dq), (120675, Str.ofString "\u03be", dq)]
noncomputable def c_36 : List Ent := [(120676, Str.ofString "\u03bf", dq), (120677, Str.ofString "\u03c0", dq), (120678, Str.ofString "\u03c1", dq), (120679, Str.ofString "\u03b8", dq), (120680, Str.ofString "\u03c3", dq), (120681, Str.ofString "\u03c4", dq), (120682, Str.ofString "\u03c5", dq), (120683, Str.ofString "\u03c6", dq), (120684, Str.ofString "\u03c7", dq), (120685, Str.ofString "\u03c8", dq), (120686, Str.ofString "\u03c9", dq), (120705, Str.ofString "\u03c3", dq), (120720, Str.ofString "\u03b1", dq), (120721, Str.ofString "\u03b2", dq), (120722, Str.ofString "\u03b3", dq), (120723, Str.ofString "\u03b4", dq), (120724, Str.ofString "\u03b5", dq)]
noncomputable def c_37 : List Ent := [(120725, Str.ofString "\u03b6", dq), (120726, Str.ofString "\u03b7", dq), (120727, Str.ofString "\u03b8", dq), (120728, Str.ofString "\u03b9", dq), (120729, Str.ofString "\u03ba", dq), (120730, Str.ofString "\u03bb", dq), (120731, Str.ofString "\u03bc", dq), (120732, Str.ofString "\u03bd", dq), (120733, Str.ofString "\u03be", dq), (120734, Str.ofString "\u03bf", dq), (120735, Str.ofString "\u03c0", dq), (120736, Str.ofString "\u03c1", dq), (120737, Str.ofString "\u03b8", dq), (120738, Str.ofString "\u03c3", dq), (120739, Str.ofString "\u03c4", dq), (120740, Str.ofString "\u03c5", dq), (120741, Str.ofString "\u03c6", dq)]
noncomputable def c_38 : List Ent := [(120742, Str.ofString "\u03c7", dq), (120743, Str.ofString "\u03c8", dq), (120744, Str.ofString "\u03c9", dq), (120763, Str.ofString "\u03c3", dq)]
noncomputable def cs_all : List (List Ent) := [c_1, c_2, c_3, c_4, c_5, c_6, c_7, c_8, c_9, c_10, c_11, c_12, c_13, c_14, c_15, c_16, c_17, c_18, c_19, c_20, c_21, c_22, c_23, c_24, c_25, c_26, c_27, c_28, c_29, c_30, c_31, c_32, c_33, c_34, c_35, c_36, c_37]
noncomputable def d21_142 (P : Params) : Obj := b3O
theorem b3_eq : b3es = ents 405 c_0 ++ mainE 456 cs_all ++ ents2 2343 c_38 := by kernel_rfl
noncomputable def d21_143 (P : Params) : Obj := dObj (ents 456 c_1).toArray 17
noncomputable def d21_144 (P : Params) : Obj := dObj (ents 507 c_2).toArray 17
noncomputable def d21_145 (P : Params) : Obj := dObj (ents 558 c_3).toArray 17
noncomputable def d21_146 (P : Params) : Obj := dObj (ents 609 c_4).toArray 17
noncomputable def d21_147 (P : Params) : Obj := dObj (ents 660 c_5).toArray 17
noncomputable def d21_148 (P : Params) : Obj := dObj (ents 711 c_6).toArray 17
noncomputable def d21_149 (P : Params) : Obj := dObj (ents 762 c_7).toArray 17
noncomputable def d21_150 (P : Params) : Obj := dObj (ents 813 c_8).toArray 17
noncomputable def d21_151 (P : Params) : Obj := dObj (ents 864 c_9).toArray 17
noncomputable def d21_152 (P : Params) : Obj := dObj (ents 915 c_10).toArray 17
noncomputable def d21_153 (P : Params) : Obj := dObj (ents 966 c_11).toArray 17
noncomputable def d21_154 (P : Params) : Obj := dObj (ents 1017 c_12).toArray 17
noncomputable def d21_155 (P : Params) : Obj := dObj (ents 1068 c_13).toArray 17
noncomputable def d21_156 (P : Params) : Obj := dObj (ents 1119 c_14).toArray 17
noncomputable def d21_157 (P : Params) : Obj := dObj (ents 1170 c_15).toArray 17
noncomputable def d21_158 (P : Params) : Obj := dObj (ents 1221 c_16).toArray 17
noncomputable def d21_159 (P : Params) : Obj := dObj (ents 1272 c_17).toArray 17
noncomputable def d21_160 (P : Params) : Obj := dObj (ents 1323 c_18).toArray 17
noncomputable def d21_161 (P : Params) : Obj := dObj (ents 1374 c_19).toArray 17
noncomputable def d21_162 (P : Params) : Obj := dObj (ents 1425 c_20).toArray 17
noncomputable def d21_163 (P : Params) : Obj := dObj (ents 1476 c_21).toArray 17
noncomputable def d21_164 (P : Params) : Obj := dObj (ents 1527 c_22).toArray 17
noncomputable def d21_165 (P : Params) : Obj := dObj (ents 1578 c_23).toArray 17
noncomputable def d21_166 (P : Params) : Obj := dObj (ents 1629 c_24).toArray 17
noncomputable def d21_167 (P : Params) : Obj := dObj (ents 1680 c_25).toArray 17
noncomputable def d21_168 (P : Params) : Obj := dObj (ents 1731 c_26).toArray 17
noncomputable def d21_169 (P : Params) : Obj := dObj (ents 1782 c_27).toArray 17
noncomputable def d21_170 (P : Params) : Obj := dObj (ents 1833 c_28).toArray 17
noncomputable def d21_171 (P : Params) : Obj := dObj (ents 1884 c_29).toArray 17
noncomputable def d21_172 (P : Params) : Obj := dObj (ents 1935 c_30).toArray 17
noncomputable def d21_173 (P : Params) : Obj := dObj (ents 1986 c_31).toArray 17
noncomputable def d21_174 (P : Params) : Obj := dObj (ents 2037 c_32).toArray 17
noncomputable def d21_175 (P : Params) : Obj := dObj (ents 2088 c_33).toArray 17
noncomputable def d21_176 (P : Params) : Obj := dObj (ents 2139 c_34).toArray 17
noncomputable def d21_177 (P : Params) : Obj := dObj (ents 2190 c_35).toArray 17
noncomputable def d21_178 (P : Params) : Obj := dObj (ents 2241 c_36).toArray 17
noncomputable def d21_179 (P : Params) : Obj := dObj (ents 2292 c_37).toArray 17
noncomputable def d21_180 (P : Params) : Obj := dObj (ents2 2343 c_38).toArray 4
theorem disp_eq : dispO 405 c_0 cs_all c_38 = b3O :: (subsO 456 cs_all ++ [dObj (ents2 2343 c_38).toArray 4]) := by
  have e : (ents 405 c_0).toArray ++ (mainE 456 cs_all).toArray ++ (ents2 2343 c_38).toArray = b3es.toArray := by
    rw [b3_eq]; simp
  show dObj ((ents 405 c_0).toArray ++ (mainE 456 cs_all).toArray ++ (ents2 2343 c_38).toArray) _ :: _ = _
  rw [e]
  rfl
noncomputable def toEnts (q : Pos) : List (Option PySem.Expr) → List PySem.Expr → List Ent
  | some (.Constant (.int (.ofNat k)) _ _) :: ks, .Constant (.str s) _ _ :: vs => (k, s, q) :: toEnts q ks vs
  | _, _ => []
noncomputable def okEnts : List (Option PySem.Expr) → List PySem.Expr → Bool
  | some (.Constant (.int (.ofNat k)) _ _) :: ks, .Constant (.str s) _ _ :: vs => okEnts ks vs
  | [], [] => true
  | _, _ => false
theorem items_eq {env : Env} {q : Pos} : ∀ (ks : List (Option PySem.Expr)) (vs : List PySem.Expr), okEnts ks vs = true →
    (evalEachOpt ks env).zip ((evalEach vs env).map fun v => do let x ← v; standAt q; pure x) = (toEnts q ks vs).map it
  | [], [], _ => rfl
  | [], v :: vs, h => by cases h
  | k :: ks, [], h => by
    rcases k with _ | e
    · cases h
    · cases e <;> try cases h
      rename_i c a d
      cases c <;> try cases h
      rename_i i; cases i <;> cases h
  | k :: ks, v :: vs, h => by
    rcases k with _ | e
    · cases h
    · cases e <;> try cases h
      rename_i c a d
      cases c <;> try cases h
      rename_i i
      cases i <;> try cases h
      cases v <;> try cases h
      rename_i k0 c1 a1 d1
      cases c1 <;> try cases h
      have ih := items_eq (env := env) (q := q) ks vs h
      show (_, _) :: ((evalEachOpt ks env).zip ((evalEach vs env).map _)) = _ :: (toEnts q ks vs).map it
      rw [ih]
      rfl
noncomputable def st21 : Stmt := (PySem.Challenge.pw_wr0048_01.main.body.drop 21).headD (.Pass ⟨0,0,0,0⟩)
noncomputable def ksOf : Stmt → List (Option PySem.Expr) | .Assign _ (.Dict ks _ _) _ => ks | _ => []
noncomputable def vsOf : Stmt → List PySem.Expr | .Assign _ (.Dict _ vs _) _ => vs | _ => []
theorem st21_eq : st21 = .Assign [.Name (Str.ofString "b3_exceptions") ⟨82, 0, 82, 13⟩] (.Dict (ksOf st21) (vsOf st21) dq) ⟨82, 0, 82, 8704⟩ := by kernel_rfl
theorem ok21 : okEnts (ksOf st21) (vsOf st21) = true := by kernel_rfl
theorem ents21 : toEnts dq (ksOf st21) (vsOf st21) = (c_0 :: cs_all).flatMap id ++ c_38 := by kernel_rfl
end Mine
end
section
open PySem PySem.W PyProof.Rows
set_option maxRecDepth 100000
namespace Mine
noncomputable abbrev B0 : List Stmt := PySem.Challenge.pw_wr0048_01.main.body
noncomputable def st20 : Stmt := (B0.drop 20).headD (.Pass ⟨0,0,0,0⟩)
noncomputable abbrev fq : List Frame := [topFrame ⟨0, 0, 0, 0⟩]
noncomputable abbrev St (t : BT) (n : Nat) (tk : Nat) (os : OsState) : SharedT := { tree := t, n := n, life := {}, gens := #[], drawn := {}, toks := tk, os := os }
noncomputable def P20 (w : World) : Prop := ∀ (p : Program) (b : List Stmt) (os : OsState),
  segRunT treeTable p w 11 (some (.ref 6)) 1 30 (St (tree19 w.params) 135 398 os) (pieceOf st20 hd.env_1 (.body b hd.env_1) ⟨79, 0, 79, 6⟩ fq) = some (.next, St (tree20 w.params) 142 405 os, .body b hd.env_1, ⟨80, 0, 81, 30⟩)
theorem p20 (w : World) : P20 w := by
  intro p b os
  kernel_rfl
end Mine
end
section
open PySem PySem.W PyProof.Rows
set_option maxRecDepth 100000
namespace Mine
noncomputable def st19 : Stmt := (B0.drop 19).headD (.Pass ⟨0,0,0,0⟩)
noncomputable abbrev qRun := @Fast.tw10110043849684766642
noncomputable abbrev qTab := Fast.tw14364793385576792824
theorem qRun_eq : @segRunT = qRun := Fast.te10110043849684766642
theorem qTab_eq : treeTable = qTab := Fast.te14364793385576792824
noncomputable def P19h (w : World) : Prop := ∀ (p : Program) (b : List Stmt) (os : OsState),
  qRun qTab p w 11 (some (.ref 6)) 1 999 (St (hd.tree_123 w.params) 124 338 os) (pieceOf st19 hd.env_1 (.body b hd.env_1) ⟨78, 0, 78, 8⟩ fq) = some (.next, St (tree19 w.params) 135 398 os, .body b hd.env_1, ⟨79, 0, 79, 6⟩)
noncomputable def P19a (w : World) : Prop := P19h (w.withFollow "set-order" false)
noncomputable def P19b (w : World) : Prop := P19h (w.withFollow "set-order" true)
theorem p19q (w : World) : P19h w := by
  refine byRow2 "set-order" (P := P19h) (fun w => ?_) (fun w => ?_) w
  · refine byRow2 "special-get-raises" (P := P19a) (fun w => ?_) (fun w => ?_) w
    · intro p b os; kernel_rfl
    · intro p b os; kernel_rfl
  · refine byRow2 "special-get-raises" (P := P19b) (fun w => ?_) (fun w => ?_) w
    · intro p b os; kernel_rfl
    · intro p b os; kernel_rfl
theorem p19 (w : World) (p : Program) (b : List Stmt) (os : OsState) : segRunT treeTable p w 11 (some (.ref 6)) 1 999 (St (hd.tree_123 w.params) 124 338 os) (pieceOf st19 hd.env_1 (.body b hd.env_1) ⟨78, 0, 78, 8⟩ fq) = some (.next, St (tree19 w.params) 135 398 os, .body b hd.env_1, ⟨79, 0, 79, 6⟩) := by
  rw [qRun_eq, qTab_eq]
  exact p19q w p b os
end Mine
end
section
open PySem PySem.W PyProof.Rows
set_option maxRecDepth 100000
namespace Mine
noncomputable def tree21 (P : Params) : BT := (.node (boot_o_0 P) (.node (boot_o_1 P) (.node (o21_3 P) (.node (boot_o_7 P) (.node (hd.o_8 P) (.node (hd.o_28 P) (.node (hd.o_60 P) (.node (o19_127 P) .nil .nil) .nil) (.node (hd.o_95 P) (.node (d21_159 P) .nil .nil) .nil)) (.node (hd.o_44 P) (.node (hd.o_79 P) (.node (d21_143 P) .nil .nil) .nil) (.node (hd.o_111 P) (.node (d21_175 P) .nil .nil) .nil))) (.node (hd.o_16 P) (.node (hd.o_36 P) (.node (hd.o_68 P) (.node (o20_135 P) .nil .nil) .nil) (.node (hd.o_103 P) (.node (d21_167 P) .nil .nil) .nil)) (.node (hd.o_52 P) (.node (hd.o_87 P) (.node (d21_151 P) .nil .nil) .nil) (.node (hd.o_119 P) .nil .nil)))) (.node (hd.o_1 P) (.node (hd.o_12 P) (.node (hd.o_32 P) (.node (hd.o_64 P) (.node (o19_131 P) .nil .nil) .nil) (.node (hd.o_99 P) (.node (d21_163 P) .nil .nil) .nil)) (.node (hd.o_48 P) (.node (hd.o_83 P) (.node (d21_147 P) .nil .nil) .nil) (.node (hd.o_115 P) (.node (d21_179 P) .nil .nil) .nil))) (.node (hd.o_20 P) (.node (hd.o_40 P) (.node (hd.o_75 P) (.node (o20_139 P) .nil .nil) .nil) (.node (hd.o_107 P) (.node (d21_171 P) .nil .nil) .nil)) (.node (hd.o_56 P) (.node (hd.o_91 P) (.node (d21_155 P) .nil .nil) .nil) (.node (hd.o_123 P) .nil .nil))))) (.node (boot_o_5 P) (.node (boot_o_9 P) (.node (hd.o_10 P) (.node (hd.o_30 P) (.node (hd.o_62 P) (.node (o19_129 P) .nil .nil) .nil) (.node (hd.o_97 P) (.node (d21_161 P) .nil .nil) .nil)) (.node (hd.o_46 P) (.node (hd.o_81 P) (.node (d21_145 P) .nil .nil) .nil) (.node (hd.o_113 P) (.node (d21_177 P) .nil .nil) .nil))) (.node (hd.o_18 P) (.node (hd.o_38 P) (.node (hd.o_70 P) (.node (o20_137 P) .nil .nil) .nil) (.node (hd.o_105 P) (.node (d21_169 P) .nil .nil) .nil)) (.node (hd.o_54 P) (.node (hd.o_89 P) (.node (d21_153 P) .nil .nil) .nil) (.node (hd.o_121 P) .nil .nil)))) (.node (hd.o_3 P) (.node (hd.o_14 P) (.node (hd.o_34 P) (.node (hd.o_66 P) (.node (o19_133 P) .nil .nil) .nil) (.node (hd.o_101 P) (.node (d21_165 P) .nil .nil) .nil)) (.node (hd.o_50 P) (.node (hd.o_85 P) (.node (d21_149 P) .nil .nil) .nil) (.node (hd.o_117 P) .nil .nil))) (.node (hd.o_26 P) (.node (hd.o_42 P) (.node (hd.o_77 P) (.node (o20_141 P) .nil .nil) .nil) (.node (hd.o_109 P) (.node (d21_173 P) .nil .nil) .nil)) (.node (hd.o_58 P) (.node (hd.o_93 P) (.node (d21_157 P) .nil .nil) .nil) (.node (o19_125 P) .nil .nil)))))) (.node (hd.o_5 P) (.node (boot_o_4 P) (.node (boot_o_8 P) (.node (hd.o_9 P) (.node (hd.o_29 P) (.node (hd.o_61 P) (.node (o19_128 P) .nil .nil) .nil) (.node (hd.o_96 P) (.node (d21_160 P) .nil .nil) .nil)) (.node (hd.o_45 P) (.node (hd.o_80 P) (.node (d21_144 P) .nil .nil) .nil) (.node (hd.o_112 P) (.node (d21_176 P) .nil .nil) .nil))) (.node (hd.o_24 P) (.node (hd.o_37 P) (.node (hd.o_69 P) (.node (o20_136 P) .nil .nil) .nil) (.node (hd.o_104 P) (.node (d21_168 P) .nil .nil) .nil)) (.node (hd.o_53 P) (.node (hd.o_88 P) (.node (d21_152 P) .nil .nil) .nil) (.node (hd.o_120 P) .nil .nil)))) (.node (o20_12 P) (.node (hd.o_13 P) (.node (hd.o_33 P) (.node (hd.o_65 P) (.node (o19_132 P) .nil .nil) .nil) (.node (hd.o_100 P) (.node (d21_164 P) .nil .nil) .nil)) (.node (hd.o_49 P) (.node (hd.o_84 P) (.node (d21_148 P) .nil .nil) .nil) (.node (hd.o_116 P) (.node (d21_180 P) .nil .nil) .nil))) (.node (hd.o_25 P) (.node (hd.o_41 P) (.node (hd.o_76 P) (.node (o20_140 P) .nil .nil) .nil) (.node (hd.o_108 P) (.node (d21_172 P) .nil .nil) .nil)) (.node (hd.o_57 P) (.node (hd.o_92 P) (.node (d21_156 P) .nil .nil) .nil) (.node (o19_124 P) .nil .nil))))) (.node (boot_o_6 P) (.node (boot_o_10 P) (.node (hd.o_11 P) (.node (hd.o_31 P) (.node (hd.o_63 P) (.node (o19_130 P) .nil .nil) .nil) (.node (hd.o_98 P) (.node (d21_162 P) .nil .nil) .nil)) (.node (hd.o_47 P) (.node (hd.o_82 P) (.node (d21_146 P) .nil .nil) .nil) (.node (hd.o_114 P) (.node (d21_178 P) .nil .nil) .nil))) (.node (hd.o_19 P) (.node (hd.o_39 P) (.node (hd.o_71 P) (.node (o20_138 P) .nil .nil) .nil) (.node (hd.o_106 P) (.node (d21_170 P) .nil .nil) .nil)) (.node (hd.o_55 P) (.node (hd.o_90 P) (.node (d21_154 P) .nil .nil) .nil) (.node (hd.o_122 P) .nil .nil)))) (.node (hd.o_4 P) (.node (hd.o_15 P) (.node (hd.o_35 P) (.node (hd.o_67 P) (.node (o19_134 P) .nil .nil) .nil) (.node (hd.o_102 P) (.node (d21_166 P) .nil .nil) .nil)) (.node (hd.o_51 P) (.node (hd.o_86 P) (.node (d21_150 P) .nil .nil) .nil) (.node (hd.o_118 P) .nil .nil))) (.node (hd.o_27 P) (.node (hd.o_43 P) (.node (hd.o_78 P) (.node (d21_142 P) .nil .nil) .nil) (.node (hd.o_110 P) (.node (d21_174 P) .nil .nil) .nil)) (.node (hd.o_59 P) (.node (hd.o_94 P) (.node (d21_158 P) .nil .nil) .nil) (.node (o19_126 P) .nil .nil)))))))
noncomputable def tree21a (P : Params) : BT := (.node (boot_o_0 P) (.node (boot_o_1 P) (.node (o20_3 P) (.node (boot_o_7 P) (.node (hd.o_8 P) (.node (hd.o_28 P) (.node (hd.o_60 P) (.node (o19_127 P) .nil .nil) .nil) (.node (hd.o_95 P) (.node (d21_159 P) .nil .nil) .nil)) (.node (hd.o_44 P) (.node (hd.o_79 P) (.node (d21_143 P) .nil .nil) .nil) (.node (hd.o_111 P) (.node (d21_175 P) .nil .nil) .nil))) (.node (hd.o_16 P) (.node (hd.o_36 P) (.node (hd.o_68 P) (.node (o20_135 P) .nil .nil) .nil) (.node (hd.o_103 P) (.node (d21_167 P) .nil .nil) .nil)) (.node (hd.o_52 P) (.node (hd.o_87 P) (.node (d21_151 P) .nil .nil) .nil) (.node (hd.o_119 P) .nil .nil)))) (.node (hd.o_1 P) (.node (hd.o_12 P) (.node (hd.o_32 P) (.node (hd.o_64 P) (.node (o19_131 P) .nil .nil) .nil) (.node (hd.o_99 P) (.node (d21_163 P) .nil .nil) .nil)) (.node (hd.o_48 P) (.node (hd.o_83 P) (.node (d21_147 P) .nil .nil) .nil) (.node (hd.o_115 P) (.node (d21_179 P) .nil .nil) .nil))) (.node (hd.o_20 P) (.node (hd.o_40 P) (.node (hd.o_75 P) (.node (o20_139 P) .nil .nil) .nil) (.node (hd.o_107 P) (.node (d21_171 P) .nil .nil) .nil)) (.node (hd.o_56 P) (.node (hd.o_91 P) (.node (d21_155 P) .nil .nil) .nil) (.node (hd.o_123 P) .nil .nil))))) (.node (boot_o_5 P) (.node (boot_o_9 P) (.node (hd.o_10 P) (.node (hd.o_30 P) (.node (hd.o_62 P) (.node (o19_129 P) .nil .nil) .nil) (.node (hd.o_97 P) (.node (d21_161 P) .nil .nil) .nil)) (.node (hd.o_46 P) (.node (hd.o_81 P) (.node (d21_145 P) .nil .nil) .nil) (.node (hd.o_113 P) (.node (d21_177 P) .nil .nil) .nil))) (.node (hd.o_18 P) (.node (hd.o_38 P) (.node (hd.o_70 P) (.node (o20_137 P) .nil .nil) .nil) (.node (hd.o_105 P) (.node (d21_169 P) .nil .nil) .nil)) (.node (hd.o_54 P) (.node (hd.o_89 P) (.node (d21_153 P) .nil .nil) .nil) (.node (hd.o_121 P) .nil .nil)))) (.node (hd.o_3 P) (.node (hd.o_14 P) (.node (hd.o_34 P) (.node (hd.o_66 P) (.node (o19_133 P) .nil .nil) .nil) (.node (hd.o_101 P) (.node (d21_165 P) .nil .nil) .nil)) (.node (hd.o_50 P) (.node (hd.o_85 P) (.node (d21_149 P) .nil .nil) .nil) (.node (hd.o_117 P) .nil .nil))) (.node (hd.o_26 P) (.node (hd.o_42 P) (.node (hd.o_77 P) (.node (o20_141 P) .nil .nil) .nil) (.node (hd.o_109 P) (.node (d21_173 P) .nil .nil) .nil)) (.node (hd.o_58 P) (.node (hd.o_93 P) (.node (d21_157 P) .nil .nil) .nil) (.node (o19_125 P) .nil .nil)))))) (.node (hd.o_5 P) (.node (boot_o_4 P) (.node (boot_o_8 P) (.node (hd.o_9 P) (.node (hd.o_29 P) (.node (hd.o_61 P) (.node (o19_128 P) .nil .nil) .nil) (.node (hd.o_96 P) (.node (d21_160 P) .nil .nil) .nil)) (.node (hd.o_45 P) (.node (hd.o_80 P) (.node (d21_144 P) .nil .nil) .nil) (.node (hd.o_112 P) (.node (d21_176 P) .nil .nil) .nil))) (.node (hd.o_24 P) (.node (hd.o_37 P) (.node (hd.o_69 P) (.node (o20_136 P) .nil .nil) .nil) (.node (hd.o_104 P) (.node (d21_168 P) .nil .nil) .nil)) (.node (hd.o_53 P) (.node (hd.o_88 P) (.node (d21_152 P) .nil .nil) .nil) (.node (hd.o_120 P) .nil .nil)))) (.node (o20_12 P) (.node (hd.o_13 P) (.node (hd.o_33 P) (.node (hd.o_65 P) (.node (o19_132 P) .nil .nil) .nil) (.node (hd.o_100 P) (.node (d21_164 P) .nil .nil) .nil)) (.node (hd.o_49 P) (.node (hd.o_84 P) (.node (d21_148 P) .nil .nil) .nil) (.node (hd.o_116 P) (.node (d21_180 P) .nil .nil) .nil))) (.node (hd.o_25 P) (.node (hd.o_41 P) (.node (hd.o_76 P) (.node (o20_140 P) .nil .nil) .nil) (.node (hd.o_108 P) (.node (d21_172 P) .nil .nil) .nil)) (.node (hd.o_57 P) (.node (hd.o_92 P) (.node (d21_156 P) .nil .nil) .nil) (.node (o19_124 P) .nil .nil))))) (.node (boot_o_6 P) (.node (boot_o_10 P) (.node (hd.o_11 P) (.node (hd.o_31 P) (.node (hd.o_63 P) (.node (o19_130 P) .nil .nil) .nil) (.node (hd.o_98 P) (.node (d21_162 P) .nil .nil) .nil)) (.node (hd.o_47 P) (.node (hd.o_82 P) (.node (d21_146 P) .nil .nil) .nil) (.node (hd.o_114 P) (.node (d21_178 P) .nil .nil) .nil))) (.node (hd.o_19 P) (.node (hd.o_39 P) (.node (hd.o_71 P) (.node (o20_138 P) .nil .nil) .nil) (.node (hd.o_106 P) (.node (d21_170 P) .nil .nil) .nil)) (.node (hd.o_55 P) (.node (hd.o_90 P) (.node (d21_154 P) .nil .nil) .nil) (.node (hd.o_122 P) .nil .nil)))) (.node (hd.o_4 P) (.node (hd.o_15 P) (.node (hd.o_35 P) (.node (hd.o_67 P) (.node (o19_134 P) .nil .nil) .nil) (.node (hd.o_102 P) (.node (d21_166 P) .nil .nil) .nil)) (.node (hd.o_51 P) (.node (hd.o_86 P) (.node (d21_150 P) .nil .nil) .nil) (.node (hd.o_118 P) .nil .nil))) (.node (hd.o_27 P) (.node (hd.o_43 P) (.node (hd.o_78 P) (.node (d21_142 P) .nil .nil) .nil) (.node (hd.o_110 P) (.node (d21_174 P) .nil .nil) .nil)) (.node (hd.o_59 P) (.node (hd.o_94 P) (.node (d21_158 P) .nil .nil) .nil) (.node (o19_126 P) .nil .nil)))))))

noncomputable def insAll (t : BT) (n : Nat) : List Obj → BT
  | [] => t
  | o :: r => insAll (t.ins n o) (n + 1) r
noncomputable def okIns (t : BT) (n : Nat) : List Obj → Bool
  | [] => true
  | o :: r => ((t.ins n o).get n).isSome && okIns (t.ins n o) (n + 1) r
theorem pushes_tree {life : Life} : ∀ (L : List Obj) (t : BT) (n : Nat), okIns t n L = true → pushes (absHeap t n life) L = absHeap (insAll t n L) (n + L.length) life
  | [], t, n, _ => rfl
  | o :: r, t, n, h => by
    have h : (((t.ins n o).get n).isSome && okIns (t.ins n o) (n + 1) r) = true := h
    obtain ⟨h1, h2⟩ := Bool.and_eq_true_iff.mp h
    show pushes ((absHeap t n life).push o) r = absHeap (insAll (t.ins n o) (n + 1) r) (n + (r.length + 1)) life
    rw [← absHeap_ins h1, pushes_tree r (t.ins n o) (n + 1) h2, show n + 1 + r.length = n + (r.length + 1) by omega]
noncomputable def ascB (lo : Int) : List Ent → Bool
  | [] => true
  | e :: r => decide (lo < Int.ofNat e.1) && (Nat.blt e.1 1114112 && ascB (Int.ofNat e.1) r)
theorem asc_of : ∀ (c : List Ent) (lo : Int), ascB lo c = true → Asc lo c
  | [], _, _ => trivial
  | e :: r, lo, h => by
    obtain ⟨h1, h2⟩ := Bool.and_eq_true_iff.mp h
    obtain ⟨h2, h3⟩ := Bool.and_eq_true_iff.mp h2
    exact ⟨of_decide_eq_true h1, Nat.le_of_ble_eq_true h2, asc_of r _ h3⟩
noncomputable def ascCB (lo : Int) : List (List Ent) → Bool
  | [] => true
  | c :: cs => Nat.beq c.length 17 && (ascB lo c && ascCB (lastKey lo c) cs)
theorem ascC_of : ∀ (cs : List (List Ent)) (lo : Int), ascCB lo cs = true → AscC lo cs
  | [], _, _ => trivial
  | c :: cs, lo, h => by
    obtain ⟨h1, h2⟩ := Bool.and_eq_true_iff.mp h
    obtain ⟨h2, h3⟩ := Bool.and_eq_true_iff.mp h2
    exact ⟨Nat.eq_of_beq_eq_true h1, asc_of c _ h2, ascC_of cs _ h3⟩
theorem asc21 : ascCB (-1) (c_0 :: cs_all) = true := by kernel_rfl
theorem asc21b : ascB (keyC (-1) (c_0 :: cs_all)) c_38 = true := by kernel_rfl
theorem pos21 (pos : Pos) : lastPos (posC pos (c_0 :: cs_all)) c_38 = dq := by kernel_rfl
noncomputable abbrev dictsO : List Obj := b3O :: (subsO 456 cs_all ++ [dObj (ents2 2343 c_38).toArray 4])
theorem ins21' (P : Params) : okIns (tree20 P) 142 dictsO = true := by kernel_rfl
theorem tree21' (P : Params) : insAll (tree20 P) 142 dictsO = tree21a P := by kernel_rfl
theorem ins21 (P : Params) : okIns (tree20 P) 142 (dispO 405 c_0 cs_all c_38) = true := by rw [disp_eq]; exact ins21' P
theorem tree21_eq (P : Params) : insAll (tree20 P) 142 (dispO 405 c_0 cs_all c_38) = tree21a P := by rw [disp_eq]; exact tree21' P
theorem len21 : (dispO 405 c_0 cs_all c_38).length = 39 := by rw [disp_eq]; kernel_rfl
end Mine
end
section
open PySem PySem.W PyProof.Rows
set_option maxRecDepth 100000
namespace Mine
section
variable {p : Program} {w : World} {b : List Stmt} {os : OsState}
theorem items21 : (evalEachOpt (ksOf st21) hd.env_1).zip ((evalEach (vsOf st21) hd.env_1).map fun v => do let x ← v; standAt dq; pure x) = (c_0 :: cs_all).flatMap (·.map it) ++ c_38.map it := by
  rw [items_eq _ _ ok21, ents21, List.map_append, List.map_flatMap]
  rfl
theorem disp21 {pos : Pos} : R p w b hd.env_1 (dictDisplay ((c_0 :: cs_all).flatMap (·.map it) ++ c_38.map it)) (St (tree20 w.params) 142 405 os).abs pos (223 + 330 * 37 + (6 + 19 * 4)) (.ref 142) (St (tree21a w.params) 181 2355 os).abs dq := by
  have hsz : (St (tree20 w.params) 142 405 os).abs.heap.objs.size = 142 := absHeap_size ..
  have D := r_disp (p := p) (w := w) (b := b) (env := hd.env_1) (c0 := c_0) (cs := cs_all) (last := c_38) (s := (St (tree20 w.params) 142 405 os).abs) (pos := pos) (by rw [hsz]; rfl) (ascC_of _ _ asc21) (asc_of _ _ asc21b) (by decide) (by decide) (by decide)
  rw [hsz, pos21] at D
  have e : ({ (St (tree20 w.params) 142 405 os).abs with heap := pushes (St (tree20 w.params) 142 405 os).abs.heap (dispO (St (tree20 w.params) 142 405 os).abs.toks c_0 cs_all c_38), toks := (St (tree20 w.params) 142 405 os).abs.toks + 51 + 51 * cs_all.length + 3 * c_38.length } : Shared) = (St (tree21a w.params) 181 2355 os).abs := by
    show Shared.mk (pushes (absHeap (tree20 w.params) 142 {}) (dispO 405 c_0 cs_all c_38)) _ _ _ _ = _
    rw [pushes_tree _ _ _ (ins21 w.params), tree21_eq]
    rfl
  rw [e] at D
  exact D
end
end Mine
end
section
open PySem PySem.W PyProof.Rows
set_option maxRecDepth 100000
namespace Mine
noncomputable def tail21 (v : Value) : Sem Flow := do
  standAt ⟨82, 0, 82, 13⟩
  bindName hd.env_1 (Str.ofString "b3_exceptions") v
  pure .next
noncomputable def P21t (w : World) : Prop := ∀ (p : Program) (b : List Stmt) (os : OsState) (K : Flow → Sem Fin) (H : Value → Sem Fin) (gd : Bool → Bool) (lv : List Value → List Value) (pos : Pos),
  segGoT treeTable p w 11 (some (.ref 6)) 1 7 (St (tree21a w.params) 181 2355 os) ⟨(tail21 (.ref 142)).wrap K H gd lv, .body b hd.env_1, pos, fr0⟩ = some (St (tree21 w.params) 181 2356 os, ⟨K .next, .body b hd.env_1, ⟨82, 0, 82, 13⟩, fr0⟩)
theorem p21t (w : World) : P21t w := by
  intro p b os K H gd lv pos
  kernel_rfl
section
variable {p : Program} {w : World} {b : List Stmt} {os : OsState}
theorem r_tail21 {pos : Pos} : R p w b hd.env_1 (tail21 (.ref 142)) (St (tree21a w.params) 181 2355 os).abs pos 7 .next (St (tree21 w.params) 181 2356 os).abs ⟨82, 0, 82, 13⟩ :=
  fun K H gd lv N r h => seg_go (segGo_of (p21t w p b os K H gd lv pos)) h
theorem exec21 : exec st21 hd.env_1 = (do
    standAt ⟨82, 0, 82, 8704⟩
    let v ← (do standAt dq; dictDisplay ((c_0 :: cs_all).flatMap (·.map it) ++ c_38.map it))
    tail21 v) := by
  rw [st21_eq]
  rw [exec_Assign_Name _ _ _ _ _ rfl]
  rw [← items21]
  rfl
theorem r_exec21 {pos : Pos} : R p w b hd.env_1 (exec st21 hd.env_1) (St (tree20 w.params) 142 405 os).abs pos 12524 .next (St (tree21 w.params) 181 2356 os).abs ⟨82, 0, 82, 13⟩ := by
  rw [exec21]
  exact r_bind (n := 1) (m := 12523) r_standAt (r_bind (n := 12516) (m := 7) (r_bind (n := 1) (m := 12515) r_standAt disp21) r_tail21)
theorem p21 (pos : Pos) : segRun treeTable p w 11 (some (.ref 6)) 1 12525 (St (tree20 w.params) 142 405 os).abs (pieceOf st21 hd.env_1 (.body b hd.env_1) pos fq) = some (.next, (St (tree21 w.params) 181 2356 os).abs, .body b hd.env_1, ⟨82, 0, 82, 13⟩) :=
  r_exec21 doneF deadEnd id id 1 _ rfl
end
end Mine
end
section
open PySem PySem.W PyProof.Rows
set_option maxRecDepth 100000
namespace Mine
noncomputable def tree26 (P : Params) : BT := (.node (boot_o_0 P) (.node (boot_o_1 P) (.node (o26_3 P) (.node (boot_o_7 P) (.node (hd.o_8 P) (.node (hd.o_28 P) (.node (hd.o_60 P) (.node (o19_127 P) .nil .nil) (.node (o24_191 P) .nil .nil)) (.node (hd.o_95 P) (.node (d21_159 P) .nil .nil) .nil)) (.node (hd.o_44 P) (.node (hd.o_79 P) (.node (d21_143 P) .nil .nil) .nil) (.node (hd.o_111 P) (.node (d21_175 P) .nil .nil) .nil))) (.node (hd.o_16 P) (.node (hd.o_36 P) (.node (hd.o_68 P) (.node (o20_135 P) .nil .nil) (.node (o25_199 P) .nil .nil)) (.node (hd.o_103 P) (.node (d21_167 P) .nil .nil) .nil)) (.node (hd.o_52 P) (.node (hd.o_87 P) (.node (d21_151 P) .nil .nil) .nil) (.node (hd.o_119 P) (.node (o22_183 P) .nil .nil) .nil)))) (.node (hd.o_1 P) (.node (hd.o_12 P) (.node (hd.o_32 P) (.node (hd.o_64 P) (.node (o19_131 P) .nil .nil) (.node (o25_195 P) .nil .nil)) (.node (hd.o_99 P) (.node (d21_163 P) .nil .nil) .nil)) (.node (hd.o_48 P) (.node (hd.o_83 P) (.node (d21_147 P) .nil .nil) .nil) (.node (hd.o_115 P) (.node (d21_179 P) .nil .nil) .nil))) (.node (hd.o_20 P) (.node (hd.o_40 P) (.node (hd.o_75 P) (.node (o20_139 P) .nil .nil) (.node (o26_203 P) .nil .nil)) (.node (hd.o_107 P) (.node (d21_171 P) .nil .nil) .nil)) (.node (hd.o_56 P) (.node (hd.o_91 P) (.node (d21_155 P) .nil .nil) .nil) (.node (hd.o_123 P) (.node (o22_187 P) .nil .nil) .nil))))) (.node (boot_o_5 P) (.node (boot_o_9 P) (.node (hd.o_10 P) (.node (hd.o_30 P) (.node (hd.o_62 P) (.node (o19_129 P) .nil .nil) (.node (o24_193 P) .nil .nil)) (.node (hd.o_97 P) (.node (d21_161 P) .nil .nil) .nil)) (.node (hd.o_46 P) (.node (hd.o_81 P) (.node (d21_145 P) .nil .nil) .nil) (.node (hd.o_113 P) (.node (d21_177 P) .nil .nil) .nil))) (.node (hd.o_18 P) (.node (hd.o_38 P) (.node (hd.o_70 P) (.node (o20_137 P) .nil .nil) (.node (o25_201 P) .nil .nil)) (.node (hd.o_105 P) (.node (d21_169 P) .nil .nil) .nil)) (.node (hd.o_54 P) (.node (hd.o_89 P) (.node (d21_153 P) .nil .nil) .nil) (.node (hd.o_121 P) (.node (o22_185 P) .nil .nil) .nil)))) (.node (hd.o_3 P) (.node (hd.o_14 P) (.node (hd.o_34 P) (.node (hd.o_66 P) (.node (o19_133 P) .nil .nil) (.node (o25_197 P) .nil .nil)) (.node (hd.o_101 P) (.node (d21_165 P) .nil .nil) .nil)) (.node (hd.o_50 P) (.node (hd.o_85 P) (.node (d21_149 P) .nil .nil) .nil) (.node (hd.o_117 P) (.node (o22_181 P) .nil .nil) .nil))) (.node (hd.o_26 P) (.node (hd.o_42 P) (.node (hd.o_77 P) (.node (o20_141 P) .nil .nil) (.node (o26_205 P) .nil .nil)) (.node (hd.o_109 P) (.node (d21_173 P) .nil .nil) .nil)) (.node (hd.o_58 P) (.node (hd.o_93 P) (.node (d21_157 P) .nil .nil) .nil) (.node (o19_125 P) (.node (o24_189 P) .nil .nil) .nil)))))) (.node (hd.o_5 P) (.node (boot_o_4 P) (.node (boot_o_8 P) (.node (hd.o_9 P) (.node (hd.o_29 P) (.node (hd.o_61 P) (.node (o19_128 P) .nil .nil) (.node (o24_192 P) .nil .nil)) (.node (hd.o_96 P) (.node (d21_160 P) .nil .nil) .nil)) (.node (hd.o_45 P) (.node (hd.o_80 P) (.node (d21_144 P) .nil .nil) .nil) (.node (hd.o_112 P) (.node (d21_176 P) .nil .nil) .nil))) (.node (hd.o_24 P) (.node (hd.o_37 P) (.node (hd.o_69 P) (.node (o20_136 P) .nil .nil) (.node (o25_200 P) .nil .nil)) (.node (hd.o_104 P) (.node (d21_168 P) .nil .nil) .nil)) (.node (hd.o_53 P) (.node (hd.o_88 P) (.node (d21_152 P) .nil .nil) .nil) (.node (hd.o_120 P) (.node (o22_184 P) .nil .nil) .nil)))) (.node (o26_12 P) (.node (hd.o_13 P) (.node (hd.o_33 P) (.node (hd.o_65 P) (.node (o19_132 P) .nil .nil) (.node (o25_196 P) .nil .nil)) (.node (hd.o_100 P) (.node (d21_164 P) .nil .nil) .nil)) (.node (hd.o_49 P) (.node (hd.o_84 P) (.node (d21_148 P) .nil .nil) .nil) (.node (hd.o_116 P) (.node (d21_180 P) .nil .nil) .nil))) (.node (hd.o_25 P) (.node (hd.o_41 P) (.node (hd.o_76 P) (.node (o20_140 P) .nil .nil) (.node (o26_204 P) .nil .nil)) (.node (hd.o_108 P) (.node (d21_172 P) .nil .nil) .nil)) (.node (hd.o_57 P) (.node (hd.o_92 P) (.node (d21_156 P) .nil .nil) .nil) (.node (o19_124 P) (.node (o24_188 P) .nil .nil) .nil))))) (.node (boot_o_6 P) (.node (boot_o_10 P) (.node (hd.o_11 P) (.node (hd.o_31 P) (.node (hd.o_63 P) (.node (o19_130 P) .nil .nil) (.node (o24_194 P) .nil .nil)) (.node (hd.o_98 P) (.node (d21_162 P) .nil .nil) .nil)) (.node (hd.o_47 P) (.node (hd.o_82 P) (.node (d21_146 P) .nil .nil) .nil) (.node (hd.o_114 P) (.node (d21_178 P) .nil .nil) .nil))) (.node (hd.o_19 P) (.node (hd.o_39 P) (.node (hd.o_71 P) (.node (o20_138 P) .nil .nil) (.node (o26_202 P) .nil .nil)) (.node (hd.o_106 P) (.node (d21_170 P) .nil .nil) .nil)) (.node (hd.o_55 P) (.node (hd.o_90 P) (.node (d21_154 P) .nil .nil) .nil) (.node (hd.o_122 P) (.node (o22_186 P) .nil .nil) .nil)))) (.node (hd.o_4 P) (.node (hd.o_15 P) (.node (hd.o_35 P) (.node (hd.o_67 P) (.node (o19_134 P) .nil .nil) (.node (o25_198 P) .nil .nil)) (.node (hd.o_102 P) (.node (d21_166 P) .nil .nil) .nil)) (.node (hd.o_51 P) (.node (hd.o_86 P) (.node (d21_150 P) .nil .nil) .nil) (.node (hd.o_118 P) (.node (o22_182 P) .nil .nil) .nil))) (.node (hd.o_27 P) (.node (hd.o_43 P) (.node (hd.o_78 P) (.node (d21_142 P) .nil .nil) (.node (o26_206 P) .nil .nil)) (.node (hd.o_110 P) (.node (d21_174 P) .nil .nil) .nil)) (.node (hd.o_59 P) (.node (hd.o_94 P) (.node (d21_158 P) .nil .nil) .nil) (.node (o19_126 P) (.node (o24_190 P) .nil .nil) .nil)))))))

noncomputable def P22 (w : World) : Prop := ∀ (p : Program) (b : List Stmt) (os : OsState),
  segRunT treeTable p w 11 (some (.ref 6)) 1 128 (St (tree21 w.params) 181 2356 os) (piecesOf (B0.drop 22) hd.env_1 (.body b hd.env_1) ⟨82, 0, 82, 13⟩ fq) = some (.next, St (tree26 w.params) 207 2390 os, .body b hd.env_1, ⟨103, 0, 144, 15⟩)
theorem p22 (w : World) : P22 w := by
  intro p b os
  kernel_rfl
end Mine
end
section
open PySem PySem.W PyProof.Rows
set_option maxRecDepth 100000
namespace Mine
noncomputable abbrev pg : Program := PySem.Challenge.pw_wr0048_01
noncomputable abbrev bE : List Stmt := behindTheImports pg
noncomputable abbrev cE : Code := .body bE hd.env_1
noncomputable abbrev p0 : Pos := ⟨0, 0, 0, 0⟩
theorem bE_eq : bE = hd.sts_4 ++ (hd.sts_22 ++ (hd.sts_73 ++ (st19 :: (st20 :: (st21 :: (B0.drop 22 ++ [])))))) := by kernel_rfl
noncomputable def PPre (w : World) : Prop := ∀ os : OsState, topGo treeTable pg w 11 (some (.ref 6)) 12 ⟨boot_heap w.params, #[], boot_drawn, boot_toks, os⟩ (topStub pg) = some ((St (hd.tree_4 w.params) 15 187 os).abs, ⟨denote treeTable cE, cE, p0, fq⟩)
theorem pre_ (w : World) : PPre w := by intro os; kernel_rfl
noncomputable def PBlk (w : World) : Prop := ∀ os : OsState, segRun treeTable pg w 11 (some (.ref 6)) 1 1 (St (hd.tree_4 w.params) 15 187 os).abs (blockOf bE hd.env_1 cE p0 fq) = some (.next, (St (hd.tree_4 w.params) 15 187 os).abs, cE, p0)
theorem blk_ (w : World) : PBlk w := by intro os; kernel_rfl
noncomputable def PFin (w : World) : Prop := ∀ os : OsState, topRun treeTable pg w 11 (some (.ref 6)) 2 (St (tree26 w.params) 207 2390 os).abs ⟨doneF .next, cE, ⟨103, 0, 144, 15⟩, fq⟩ = some (St (tree26 w.params) 207 2390 os).abs
theorem fin_ (w : World) : PFin w := by intro os; kernel_rfl
theorem run_ (w : World) (os : OsState) : topRun treeTable pg w 11 (some (.ref 6)) (12 + (1 + (206 + (398 + (222 + (999 + (30 + (12525 + (128 + 2))))))))) ⟨boot_heap w.params, #[], boot_drawn, boot_toks, os⟩ (topStub pg) = some (St (tree26 w.params) 207 2390 os).abs := by
  refine go_top (pre_ w os) ?_
  refine piece_block (blk_ w os) ?_
  refine Eq.trans (congrArg (fun l => topRun treeTable pg w 11 (some (.ref 6)) _ _ (restOf l hd.env_1 cE p0 fq)) bE_eq) ?_
  refine hd.chain _ _ w os _ _ _ ?_
  refine piece_cons (segRun_of (p19 w _ _ os)) ?_
  refine piece_cons (segRun_of (p20 w _ _ os)) ?_
  refine piece_cons (p21 _) ?_
  refine piece_app (segRun_of (p22 w _ _ os)) ?_
  exact piece_nil (fin_ w os)
end Mine
end
section
open PySem PySem.W PyProof.Rows
set_option maxRecDepth 100000
namespace Mine
noncomputable abbrev H1 (P : Params) : Heap := absHeap (tree26 P) 207 {}
noncomputable abbrev S1 (w : World) (os : OsState) : Shared := ⟨H1 w.params, #[], {}, 2390, os⟩
noncomputable abbrev S2 (w : World) (os : OsState) : Shared := { S1 w os with gens := #[] }
noncomputable abbrev lz : List Str := ["b1_set", "b3_exceptions"]
noncomputable abbrev mods : List Str := importedModules pg.main.body
theorem lA1 (w : World) (os : OsState) : staticsOk mods (boot_heap w.params) (H1 w.params) = true := by kernel_rfl
theorem lA2 (w : World) (os : OsState) : namesBound pg (H1 w.params) = true := by kernel_rfl
theorem lA3 (w : World) (os : OsState) : (gensDone (S1 w os) && laidKept (boot_heap w.params) (H1 w.params)) = true := by kernel_rfl
theorem lB1 (w : World) (os : OsState) : seen ((recsOf vq).map (·.name)) (ownsOf vq) [] (S2 w os) = expectedOf vq := by kernel_rfl
theorem lB2 (w : World) (os : OsState) : (S1 w os).heap.bltView = bltViewBooted := by kernel_rfl
theorem lB3 (w : World) (os : OsState) : (S1 w os).heap.keysOk (looseW vq lz) ((recsOf vq).map (·.name)) ((litsOf vq).map (·.1)) ((clssOf vq (looseW vq lz)).map (·.name)) = true := by kernel_rfl
end Mine
end
section
open PySem PySem.W PyProof.Rows
set_option maxRecDepth 100000
namespace Mine
theorem lC1 (w : World) (os : OsState) : tabsOk vq (S1 w os) = true := by kernel_rfl
theorem lC2 (w : World) (os : OsState) : pinSeenD vq (drecsOf vq) (S1 w os) = pinGoodD (drecsOf vq) := by kernel_rfl
theorem lC3 (w : World) (os : OsState) : plainSeenE vq (looseW vq lz) (S1 w os) = plainGoodE vq (looseW vq lz) := by kernel_rfl
theorem lC4 (w : World) (os : OsState) : plainSeenD vq lz (S1 w os) = plainGoodD vq lz := by kernel_rfl
theorem lC5 (w : World) (os : OsState) : wideSeen vq (S1 w os) = wideGood vq := by kernel_rfl
theorem lC6 (w : World) (os : OsState) : clsSeenW vq lz (S1 w os) = clsGoodW vq lz := by kernel_rfl
end Mine
end
section
open PySem PySem.W PyProof.Rows
set_option maxRecDepth 100000
namespace Mine
noncomputable def toD : List Ent → List (PyData × PyData)
  | [] => []
  | e :: r => (.int (Int.ofNat e.1), .str e.2.1) :: toD r
theorem no_key : ∀ (c : List Ent) (lo : Int), Asc lo c → hasIntKey lo (toD c) = false ∧ ∀ k, k ≤ lo → hasIntKey k (toD c) = false
  | [], _, _ => ⟨rfl, fun _ _ => rfl⟩
  | e :: r, lo, h => by
    have ih := no_key r _ h.2.2
    have z : ∀ k, k ≤ lo → hasIntKey k (toD (e :: r)) = false := fun k hk => by
      show ((Int.ofNat e.1 == k) || hasIntKey k (toD r)) = false
      have h1 := h.1
      rw [ih.2 k (by omega), Bool.or_false, beq_eq_false_iff_ne]
      omega
    exact ⟨z lo (Int.le_refl _), z⟩
theorem apart_of : ∀ (c : List Ent) (lo : Int), Asc lo c → keysApartInt (toD c) = true
  | [], _, _ => rfl
  | e :: r, lo, h => by
    show (!hasIntKey (Int.ofNat e.1) (toD r) && keysApartInt (toD r)) = true
    rw [(no_key r _ h.2.2).1, apart_of r _ h.2.2]
    rfl
theorem tabIntOk_of {h : Heap} {x : Str} {D : List (PyData × PyData)} {a : Addr} {es : Array DictEntry} {n : Nat} (h1 : h.nsMap mainGlobals x = some (.ref a)) (h2 : h.get? a = some (dObj es n)) (h3 : entriesAreInt es.toList D = true) (h4 : keysApartInt D = true) (h5 : (a != sysModules) = true) : h.tabIntOk x D = true := by
  unfold Heap.tabIntOk
  rw [h1]
  dsimp only
  rw [h2]
  dsimp only
  rw [h3, h4, h5]
  rfl
noncomputable def all21 : List Ent := (c_0 :: cs_all).flatMap id ++ c_38
theorem asc_all : ascB (-1) all21 = true := by kernel_rfl
noncomputable abbrev x3 : Str := Str.ofString "b3_exceptions"
theorem tab3a (w : World) : (H1 w.params).nsMap mainGlobals x3 = some (.ref 142) := by kernel_rfl
theorem tab3b (w : World) : (H1 w.params).get? 142 = some (dObj b3es.toArray 650) := by kernel_rfl
theorem hash_small {k : Nat} (h : k < 1114112) : hashInt (Int.ofNat k) = Int.ofNat k := red_small h
theorem ent_app : ∀ (a : List DictEntry) (c : List (PyData × PyData)) (b : List DictEntry) (d : List (PyData × PyData)), entriesAreInt a c = true → entriesAreInt b d = true → entriesAreInt (a ++ b) (c ++ d) = true
  | [], [], _, _, _, h => h
  | [], x :: c, _, _, h, _ => by cases x; cases h
  | e :: a, [], _, _, h, _ => by cases h
  | e :: a, (x, v) :: c, b, d, h, h2 => by
    cases x with
    | int k =>
      have h : ((match e.key with | .int i _ => i == k | _ => false) && (e.hash == hashInt k) && flatIs e.val v && entriesAreInt a c) = true := h
      obtain ⟨h0, h1⟩ := Bool.and_eq_true_iff.mp h
      show ((match e.key with | .int i _ => i == k | _ => false) && (e.hash == hashInt k) && flatIs e.val v && entriesAreInt (a ++ b) (c ++ d)) = true
      rw [h0, ent_app a c b d h1 h2]
      rfl
    | _ => cases h
theorem ent_one {k : Nat} {T : Nat} {v : Str} (h : k < 1114112) : ((Int.ofNat k == Int.ofNat k) && (Int.ofNat k == hashInt (Int.ofNat k)) && flatIs (.str v T) (.str v)) = true := by
  rw [hash_small h]
  simp [flatIs]
theorem ent_ents : ∀ (c : List Ent) (T : Nat) (lo : Int), Asc lo c → entriesAreInt (ents T c) (toD c) = true
  | [], _, _, _ => rfl
  | e :: c, T, lo, h => by
    show ((Int.ofNat e.1 == Int.ofNat e.1) && (Int.ofNat e.1 == hashInt (Int.ofNat e.1)) && flatIs (.str e.2.1 (T + 1)) (.str e.2.1) && entriesAreInt (ents (T + 3) c) (toD c)) = true
    rw [ent_one h.2.1, ent_ents c _ _ h.2.2]
    rfl
theorem ent_ents2 : ∀ (c : List Ent) (T : Nat) (lo : Int), Asc lo c → entriesAreInt (ents2 T c) (toD c) = true
  | [], _, _, _ => rfl
  | e :: c, T, lo, h => by
    show ((Int.ofNat e.1 == Int.ofNat e.1) && (Int.ofNat e.1 == hashInt (Int.ofNat e.1)) && flatIs (.str e.2.1 (T + 1)) (.str e.2.1) && entriesAreInt (ents2 (T + 2) c) (toD c)) = true
    rw [ent_one h.2.1, ent_ents2 c _ _ h.2.2]
    rfl
theorem toD_app : ∀ (a c : List Ent), toD (a ++ c) = toD a ++ toD c
  | [], _ => rfl
  | e :: a, c => congrArg (_ :: ·) (toD_app a c)
theorem ent_main : ∀ (cs : List (List Ent)) (T : Nat) (lo : Int), AscC lo cs → entriesAreInt (mainE T cs) (toD (cs.flatMap id)) = true
  | [], _, _, _ => rfl
  | c :: cs, T, lo, h => by
    rw [List.flatMap_cons, toD_app]
    exact ent_app _ _ _ _ (ent_ents c T lo h.2.1) (ent_main cs (T + 51) _ h.2.2)
theorem tab3c : entriesAreInt b3es.toArray.toList (toD all21) = true := by
  have h := ascC_of _ _ asc21
  have e : b3es.toArray.toList = mainE 405 (c_0 :: cs_all) ++ ents2 2343 c_38 := by
    rw [b3_eq]; rfl
  rw [e, all21, toD_app]
  exact ent_app _ _ _ _ (ent_main _ _ _ h) (ent_ents2 _ _ _ (asc_of _ _ asc21b))
theorem tab3 (w : World) : (H1 w.params).tabIntOk x3 (toD all21) = true :=
  tabIntOk_of (tab3a w) (tab3b w) tab3c (apart_of _ _ (asc_of _ _ asc_all)) rfl
theorem names3 : valNames vq = [Str.ofString "ELLIPSIS_MARKER", Str.ofString "b1_set", x3] := by kernel_rfl
theorem n1 : tupIntsOf vq (Str.ofString "ELLIPSIS_MARKER") = none ∧ tupStrsOf vq (Str.ofString "ELLIPSIS_MARKER") = none ∧ tabIntOf vq (Str.ofString "ELLIPSIS_MARKER") = none := ⟨by kernel_rfl, by kernel_rfl, by kernel_rfl⟩
theorem n2 : tupIntsOf vq (Str.ofString "b1_set") = none ∧ tupStrsOf vq (Str.ofString "b1_set") = none ∧ tabIntOf vq (Str.ofString "b1_set") = none := ⟨by kernel_rfl, by kernel_rfl, by kernel_rfl⟩
theorem n3 : tupIntsOf vq x3 = none ∧ tupStrsOf vq x3 = none ∧ tabIntOf vq x3 = some (toD all21) := ⟨by kernel_rfl, by kernel_rfl, by kernel_rfl⟩
theorem tabs_ok (w : World) : tablesOk vq (H1 w.params) = true := by
  unfold tablesOk
  rw [names3]
  simp only [List.all_cons, List.all_nil, n1.1, n1.2.1, n1.2.2, n2.1, n2.2.1, n2.2.2, n3.1, n3.2.1, n3.2.2, tab3 w, Bool.and_true]
end Mine
end
section
open PySem PySem.W PyProof.Rows
set_option maxRecDepth 100000
namespace Mine
theorem lB4b (w : World) (os : OsState) : ((S1 w os).heap.isNs mainGlobals && (S1 w os).heap.isNs builtinsNs) = true := by kernel_rfl
theorem lB5 (w : World) (os : OsState) : (xlAt vq [] (S1 w os) && recOk [] (S1 w os)) = true := by kernel_rfl
theorem lB4a (w : World) (os : OsState) : (S1 w os).heap.accountedOkI mods = true := by kernel_rfl
theorem lB6 (w : World) (os : OsState) : (!leftWithCleanup (S1 w os).gens) = true := by kernel_rfl
noncomputable abbrev kh := kHook Mine.K Mine.KAs (fun _ => by kernel_rfl)
theorem lY (w : World) (os : OsState) : Hook.obs (kHook Mine.K Mine.KAs (fun _ => by kernel_rfl)) (S1 w os) = Hook.val (kHook Mine.K Mine.KAs (fun _ => by kernel_rfl)) w := by kernel_rfl
theorem size_ (w : World) : ((boot_heap w.params).isNs mainGlobals && (#[] : Array GenState).size == 0, (boot_heap w.params).objs.size, (boot_heap w.params).nsMap mainGlobals "__annotations__") = (true, 11, some (.ref 6)) := by kernel_rfl
theorem open1 : opening pg = plainProg pg.main.scope.names := by rfl
theorem open2 (s : Shared) : fenceModules? pg s = some s := by rfl
end Mine
end
section
open PySem PySem.W PyProof.Rows
set_option maxRecDepth 100000
namespace Mine
theorem looks_ (w : World) : (fun os => ((staticsOk (importedModules pg.main.body) (boot_heap w.params) (H1 w.params) && namesBound pg (H1 w.params) && gensDone ⟨H1 w.params, #[], {}, 2390, os⟩ && laidKept (boot_heap w.params) (H1 w.params)),
    openSeen vq ["b1_set", "b3_exceptions"] (importedModules pg.main.body) (fun s => xlAt vq [] s && recOk [] s) true ⟨H1 w.params, #[], {}, 2390, os⟩, Hook.obs (kHook Mine.K Mine.KAs (fun _ => by kernel_rfl)) ⟨H1 w.params, #[], {}, 2390, os⟩)) = fun _ => (true, openGood vq ["b1_set", "b3_exceptions"], Hook.val (kHook Mine.K Mine.KAs (fun _ => by kernel_rfl)) w) := by
  funext os
  refine looks_pair ?_ (looks_pair ?_ (lY w os))
  · have h3 := Bool.and_eq_true_iff.mp (lA3 w os)
    rw [lA1 w os, lA2 w os, h3.1, h3.2]
    rfl
  · refine looks_pair (lB1 w os) (looks_pair (lB2 w os) (looks_pair ?_ (looks_pair (lC1 w os) (looks_pair (lC2 w os) (looks_pair (lC3 w os) (looks_pair (lC4 w os) (looks_pair (lC5 w os) (lC6 w os))))))))
    have hb := Bool.and_eq_true_iff.mp (lB4b w os)
    have h5 := lB5 w os
    have h4 := tabs_ok w
    have h3 := lB3 w os
    have h4a := lB4a w os
    have h6 : ((S1 w os).gens.size == 0) = true := rfl
    show (Heap.keysOk _ _ _ _ _ && Heap.accountedOkI _ _ && Heap.isNs _ _ && Heap.isNs _ _ && tablesOk vq (H1 w.params) && (xlAt vq [] (S1 w os) && recOk [] (S1 w os)) && ((S1 w os).gens.size == 0)) = true
    rw [h3, h4a, hb.1, hb.2, h4, h5, h6]
    rfl
theorem hl_ : LeftO PySem.Challenge.pw_wr0048_01 vq ["b1_set", "b3_exceptions"] (fun s => xlAt vq [] s && recOk [] s) (Hook.obs (kHook Mine.K Mine.KAs (fun _ => by kernel_rfl))) (Hook.val (kHook Mine.K Mine.KAs (fun _ => by kernel_rfl))) 29128 :=
  LeftO.of_pieces (H₀ := boot_heap) (H₁ := H1) (gs₀ := #[]) (gs₁ := #[]) (d₀ := boot_drawn) (d₁ := {}) (k₀ := boot_toks) (k₁ := 2390) (m₀ := 11) (ann := some (.ref 6))
    (M := (12 + (1 + (206 + (398 + (222 + (999 + (30 + (12525 + (128 + 2)))))))))) (boot_open open1 (by decide) open2) size_ run_ (by decide) looks_
end Mine
end
section
open PySem PySem.W PyProof.Rows
namespace Mine
set_option maxRecDepth 100000 in
set_option maxHeartbeats 8000000 in
theorem base : PySem.Challenge.rw_wr0048_01.Holds := by
  w_on
  o_law
  refine holds_open (q := vq) (loose := ["b1_set", "b3_exceptions"]) (Xt := fun s => xlAt vq [] s && recOk [] s) (XP := XL vq []) (Yf := Hook.obs (kHook Mine.K Mine.KAs (fun _ => by kernel_rfl))) (Ya := Hook.val (kHook Mine.K Mine.KAs (fun _ => by kernel_rfl))) (YP := Hook.says (kHook Mine.K Mine.KAs (fun _ => by kernel_rfl))) (N := 29128) ?hl (Hook.of (kHook Mine.K Mine.KAs (fun _ => by kernel_rfl))) (Hook.keeps (kHook Mine.K Mine.KAs (fun _ => by kernel_rfl))) (fun s e => xl_of s (Bool.and_eq_true_iff.mp e).1) XL.keeps (by rfl) (by rfl) (by rfl) (fun s e => recFacts_of (Bool.and_eq_true_iff.mp e).2) (by rfl) (by first | assumption | decide +kernel) (by decide +kernel) ⟨rfl, rfl, rfl, rfl, rfl, by decide +kernel⟩ ?hw ?hc
  case hl => exact hl_
  case hw => w_witness2
  case hc => 
    w_strict (
      k_go0
      rename Below _ _ _ _ => K0
      rename Top _ _ _ _ _ _ => T
      rename Frag.In _ _ => KX
      rename IntsAre _ _ => hI
      rename Fr _ _ _ _ => F
      rename News _ _ _ _ => N
      rename Heap.IsList _ _ _ => hL
      rename ¬ _ < _ => hlen
      rename (_ = #[]) => hg
      refine law_walk _ _ _ _ _ _ _ _ _ _ _ K0 KX T (by passes_own) ?hQ _ _ _ _ _ ⟨⟨_, _, rfl⟩, F, _, _, _, N, by assumption, by assumption, by assumption⟩ ⟨_, _, _, rfl, hL, hI, by omega⟩
      rintro s m vk vw vn ⟨⟨h', tk', rfl⟩, F', ok, ow, on, N', _, _, _⟩
      clear N F
      k_steps)
end Mine
end
set_option maxRecDepth 100000 in
set_option maxHeartbeats 8000000 in
theorem PySem.Challenge.cw_wr0048_01_holds : PySem.Challenge.rw_wr0048_01.Holds := by
  exact Mine.base
