import PyProof.Rows.All
import Wide.All
import OpenK.AllK
import Wide.FinOn
import KE.BytesMake
import KE.KRevIter
import PyProof.Rows.SetFrom
import KE.KMulAny
import KE.KIntText
import PySem.Challenge.RW_nq0020_01
open PySem PySem.W PyProof.Rows
set_option Elab.async false
set_option maxRecDepth 100000
set_option maxHeartbeats 8000000
set_option linter.unusedVariables false

/-! # Hd -/
namespace Mine
noncomputable def stmtAt (k : Nat) : Stmt := PySem.Challenge.pw_nq0020_01.main.body.getD k (.Pass ⟨0, 0, 0, 0⟩)
noncomputable def methAt (k : Nat) : Stmt := match stmtAt 9 with
  | .ClassDef _ _ _ body .. => body.getD k (.Pass ⟨0, 0, 0, 0⟩)
  | s => s
noncomputable def fnO (s : Stmt) (q : Str) (dV kV pm : Value) (cd : Addr) : Obj := match s with
  | .FunctionDef name params body _ _ _ scope .. => { cls := .type "function", data := .func { name := name, qualname := q, params := params, body := .stmts body, scope := scope, globals := 3, closure := [], defaults := dV, kwdefaults := kV, pyModule := pm, code := .ref cd } }
  | _ => { cls := .none, data := .plain }
noncomputable def KP (P : Params) : Frag := [
  (3, { cls := Value.type "dict", data := Data.dict #[{ hash := PyData.keyHash P (Str.ofString "__name__"), key := Value.str (Str.ofString "__name__") 165, val := Value.str (Str.ofString "law_nq0020_01") 339 }, { hash := PyData.keyHash P (Str.ofString "__doc__"), key := Value.str (Str.ofString "__doc__") 166, val := Value.none }, { hash := PyData.keyHash P (Str.ofString "__package__"), key := Value.str (Str.ofString "__package__") 167, val := Value.none }, { hash := PyData.keyHash P (Str.ofString "__loader__"), key := Value.str (Str.ofString "__loader__") 168, val := Value.builtin "__main__.__loader__#opaque" }, { hash := PyData.keyHash P (Str.ofString "__spec__"), key := Value.str (Str.ofString "__spec__") 169, val := Value.none }, { hash := PyData.keyHash P (Str.ofString "__annotations__"), key := Value.str (Str.ofString "__annotations__") 170, val := Value.ref 6 }, { hash := PyData.keyHash P (Str.ofString "__builtins__"), key := Value.str (Str.ofString "__builtins__") 171, val := Value.ref 4 }, { hash := PyData.keyHash P (Str.ofString "__file__"), key := Value.str (Str.ofString "__file__") 173, val := Value.str (Str.ofString "/claim/cut.py") 172 }, { hash := PyData.keyHash P (Str.ofString "__cached__"), key := Value.str (Str.ofString "__cached__") 174, val := Value.none }, { hash := PyData.keyHash P (Str.ofString "_wall"), key := Value.str (Str.ofString "_wall") 193, val := Value.ref 21 }, { hash := PyData.keyHash P (Str.ofString "sep"), key := Value.str (Str.ofString "sep") 195, val := Value.str (Str.ofString "/") 194 }, { hash := PyData.keyHash P (Str.ofString "_kind"), key := Value.str (Str.ofString "_kind") 206, val := Value.ref 28 }, { hash := PyData.keyHash P (Str.ofString "_c_path"), key := Value.str (Str.ofString "_c_path") 219, val := Value.ref 35 }, { hash := PyData.keyHash P (Str.ofString "_splitroot"), key := Value.str (Str.ofString "_splitroot") 228, val := Value.ref 42 }, { hash := PyData.keyHash P (Str.ofString "_normpath"), key := Value.str (Str.ofString "_normpath") 243, val := Value.ref 49 }, { hash := PyData.keyHash P (Str.ofString "normpath"), key := Value.str (Str.ofString "normpath") 251, val := Value.ref 56 }, { hash := PyData.keyHash P (Str.ofString "_Ignore"), key := Value.str (Str.ofString "_Ignore") 293, val := Value.ref 79 }, { hash := PyData.keyHash P (Str.ofString "_buffer"), key := Value.str (Str.ofString "_buffer") 303, val := Value.ref 90 }, { hash := PyData.keyHash P (Str.ofString "_truth"), key := Value.str (Str.ofString "_truth") 311, val := Value.ref 97 }, { hash := PyData.keyHash P (Str.ofString "_B64"), key := Value.str (Str.ofString "_B64") 313, val := Value.bytes #[65, 66, 67, 68, 69, 70, 71, 72, 73, 74, 75, 76, 77, 78, 79, 80, 81, 82, 83, 84, 85, 86, 87, 88, 89, 90, 97, 98, 99, 100, 101, 102, 103, 104, 105, 106, 107, 108, 109, 110, 111, 112, 113, 114, 115, 116, 117, 118, 119, 120, 121, 122, 48, 49, 50, 51, 52, 53, 54, 55, 56, 57, 43, 47] 312 }, { hash := PyData.keyHash P (Str.ofString "b2a_base64"), key := Value.str (Str.ofString "b2a_base64") 327, val := Value.ref 105 }, { hash := PyData.keyHash P (Str.ofString "b64encode"), key := Value.str (Str.ofString "b64encode") 338, val := Value.ref 113 }, { hash := PyData.keyHash P (Str.ofString "_law_bits"), key := Value.str (Str.ofString "_law_bits") 346, val := Value.ref 118 }, { hash := PyData.keyHash P (Str.ofString "_law_sixes"), key := Value.str (Str.ofString "_law_sixes") 352, val := Value.ref 123 }, { hash := PyData.keyHash P (Str.ofString "_law_parts"), key := Value.str (Str.ofString "_law_parts") 360, val := Value.ref 130 }, { hash := PyData.keyHash P (Str.ofString "_law_mods"), key := Value.str (Str.ofString "_law_mods") 372, val := Value.ref 137 }, { hash := PyData.keyHash P (Str.ofString "_law_kept"), key := Value.str (Str.ofString "_law_kept") 387, val := Value.ref 144 }, { hash := PyData.keyHash P (Str.ofString "_law_file"), key := Value.str (Str.ofString "_law_file") 396, val := Value.ref 151 }, { hash := PyData.keyHash P (Str.ofString "_law_made"), key := Value.str (Str.ofString "_law_made") 402, val := Value.ref 156 }, { hash := PyData.keyHash P (Str.ofString "_law_run"), key := Value.str (Str.ofString "_law_run") 408, val := Value.ref 161 }, { hash := PyData.keyHash P (Str.ofString "law"), key := Value.str (Str.ofString "law") 414, val := Value.ref 166 }] 31 }),
  (64, { cls := Value.type "tuple", data := Data.seq #[Value.none, Value.none] }),
  (68, { cls := Value.type "code", data := Data.fields #[Value.str (Str.ofString "__init__") 266, Value.str (Str.ofString "_Ignore.__init__") 267, Value.str (Str.ofString "/claim/cut.py") 268, Value.int 71 0, Value.int 3 0, Value.int 0 0, Value.int 0 0, Value.int 3 0, Value.ref 65, Value.bool true, Value.int 181 0, Value.ref 66, Value.none, Value.none, Value.none, Value.ref 67, Value.int 269 0, Value.int 71 0, Value.str (Str.ofString "/claim/cut.py") 270] }),
  (69, fnO (methAt 0) (Str.ofString "_Ignore.__init__") (Value.ref 64) (Value.none) (Value.str (Str.ofString "cpy313.trace") 252) 68),
  (75, { cls := Value.type "code", data := Data.fields #[Value.str (Str.ofString "names") 272, Value.str (Str.ofString "_Ignore.names") 273, Value.str (Str.ofString "/claim/cut.py") 274, Value.int 76 0, Value.int 3 0, Value.int 0 0, Value.int 0 0, Value.int 3 0, Value.ref 70, Value.bool true, Value.int 181 0, Value.ref 71, Value.none, Value.ref 72, Value.ref 73, Value.ref 74, Value.int 280 0, Value.int 76 0, Value.str (Str.ofString "/claim/cut.py") 281] }),
  (76, fnO (methAt 1) (Str.ofString "_Ignore.names") (Value.none) (Value.none) (Value.str (Str.ofString "cpy313.trace") 252) 75),
  (78, { cls := Value.type "dict", data := Data.dict #[{ hash := PyData.keyHash P (Str.ofString "__module__"), key := Value.str (Str.ofString "__module__") 261, val := Value.str (Str.ofString "cpy313.trace") 252 }, { hash := PyData.keyHash P (Str.ofString "__firstlineno__"), key := Value.str (Str.ofString "__firstlineno__") 265, val := Value.int 69 264 }, { hash := PyData.keyHash P (Str.ofString "__init__"), key := Value.str (Str.ofString "__init__") 271, val := Value.ref 69 }, { hash := PyData.keyHash P (Str.ofString "names"), key := Value.str (Str.ofString "names") 282, val := Value.ref 76 }, { hash := PyData.keyHash P (Str.ofString "__static_attributes__"), key := Value.str (Str.ofString "__static_attributes__") 286, val := Value.ref 77 }, { hash := PyData.keyHash P (Str.ofString "__dict__"), key := Value.str (Str.ofString "__dict__") 288, val := Value.ref 80 }, { hash := PyData.keyHash P (Str.ofString "__weakref__"), key := Value.str (Str.ofString "__weakref__") 290, val := Value.ref 81 }, { hash := PyData.keyHash P (Str.ofString "__doc__"), key := Value.str (Str.ofString "__doc__") 291, val := Value.none }] 4 }),
  (79, { cls := Value.type "type", data := Data.cls { name := Str.ofString "_Ignore", bases := [Value.type "object"], mro := [Value.ref 79, Value.type "object"], ns := 78, qualname := Str.ofString "_Ignore" }, slots := #[none, none, some (Value.str (Str.ofString "_Ignore") 254), some (Value.str (Str.ofString "_Ignore") 262), some (Value.builtin "object.__new__"), some (Value.bool true)] }),
  (89, { cls := Value.type "code", data := Data.fields #[Value.str (Str.ofString "_buffer") 296, Value.str (Str.ofString "_buffer") 297, Value.str (Str.ofString "/claim/cut.py") 298, Value.int 96 0, Value.int 1 0, Value.int 0 0, Value.int 0 0, Value.int 3 0, Value.ref 84, Value.bool true, Value.int 181 0, Value.ref 85, Value.none, Value.ref 86, Value.ref 87, Value.ref 88, Value.int 301 0, Value.int 96 0, Value.str (Str.ofString "/claim/cut.py") 302] }),
  (90, fnO (stmtAt 11) (Str.ofString "_buffer") (Value.none) (Value.none) (Value.str (Str.ofString "binascii") 294) 89),
  (96, { cls := Value.type "code", data := Data.fields #[Value.str (Str.ofString "_truth") 304, Value.str (Str.ofString "_truth") 305, Value.str (Str.ofString "/claim/cut.py") 306, Value.int 103 0, Value.int 1 0, Value.int 0 0, Value.int 0 0, Value.int 3 0, Value.ref 91, Value.bool true, Value.int 181 0, Value.ref 92, Value.none, Value.ref 93, Value.ref 94, Value.ref 95, Value.int 309 0, Value.int 103 0, Value.str (Str.ofString "/claim/cut.py") 310] }),
  (97, fnO (stmtAt 12) (Str.ofString "_truth") (Value.none) (Value.none) (Value.str (Str.ofString "binascii") 294) 96),
  (98, { cls := Value.type "dict", data := Data.dict #[{ hash := PyData.keyHash P (Str.ofString "newline"), key := Value.str (Str.ofString "newline") 314, val := Value.bool true }] 1 }),
  (104, { cls := Value.type "code", data := Data.fields #[Value.str (Str.ofString "b2a_base64") 315, Value.str (Str.ofString "b2a_base64") 316, Value.str (Str.ofString "/claim/cut.py") 317, Value.int 109 0, Value.int 1 0, Value.int 1 0, Value.int 1 0, Value.int 3 0, Value.ref 99, Value.bool true, Value.int 181 0, Value.ref 100, Value.none, Value.ref 101, Value.ref 102, Value.ref 103, Value.int 325 0, Value.int 109 0, Value.str (Str.ofString "/claim/cut.py") 326] }),
  (105, fnO (stmtAt 14) (Str.ofString "b2a_base64") (Value.none) (Value.ref 98) (Value.str (Str.ofString "binascii") 294) 104),
  (106, { cls := Value.type "tuple", data := Data.seq #[Value.none] }),
  (112, { cls := Value.type "code", data := Data.fields #[Value.str (Str.ofString "b64encode") 330, Value.str (Str.ofString "b64encode") 331, Value.str (Str.ofString "/claim/cut.py") 332, Value.int 132 0, Value.int 2 0, Value.int 0 0, Value.int 0 0, Value.int 3 0, Value.ref 107, Value.bool true, Value.int 181 0, Value.ref 108, Value.none, Value.ref 109, Value.ref 110, Value.ref 111, Value.int 336 0, Value.int 132 0, Value.str (Str.ofString "/claim/cut.py") 337] }),
  (113, fnO (stmtAt 16) (Str.ofString "b64encode") (Value.ref 106) (Value.none) (Value.str (Str.ofString "cpy313.base64") 328) 112),
  (117, { cls := Value.type "code", data := Data.fields #[Value.str (Str.ofString "_law_bits") 341, Value.str (Str.ofString "_law_bits") 342, Value.str (Str.ofString "/claim/cut.py") 343, Value.int 139 0, Value.int 1 0, Value.int 0 0, Value.int 0 0, Value.int 3 0, Value.ref 114, Value.bool true, Value.int 181 0, Value.ref 115, Value.none, Value.none, Value.none, Value.ref 116, Value.int 344 0, Value.int 139 0, Value.str (Str.ofString "/claim/cut.py") 345] }),
  (118, fnO (stmtAt 18) (Str.ofString "_law_bits") (Value.none) (Value.none) (Value.str (Str.ofString "law_nq0020_01") 339) 117),
  (122, { cls := Value.type "code", data := Data.fields #[Value.str (Str.ofString "_law_sixes") 347, Value.str (Str.ofString "_law_sixes") 348, Value.str (Str.ofString "/claim/cut.py") 349, Value.int 141 0, Value.int 1 0, Value.int 0 0, Value.int 0 0, Value.int 3 0, Value.ref 119, Value.bool true, Value.int 181 0, Value.ref 120, Value.none, Value.none, Value.none, Value.ref 121, Value.int 350 0, Value.int 141 0, Value.str (Str.ofString "/claim/cut.py") 351] }),
  (123, fnO (stmtAt 19) (Str.ofString "_law_sixes") (Value.none) (Value.none) (Value.str (Str.ofString "law_nq0020_01") 339) 122),
  (129, { cls := Value.type "code", data := Data.fields #[Value.str (Str.ofString "_law_parts") 353, Value.str (Str.ofString "_law_parts") 354, Value.str (Str.ofString "/claim/cut.py") 355, Value.int 144 0, Value.int 2 0, Value.int 0 0, Value.int 0 0, Value.int 3 0, Value.ref 124, Value.bool true, Value.int 181 0, Value.ref 125, Value.none, Value.ref 126, Value.ref 127, Value.ref 128, Value.int 358 0, Value.int 144 0, Value.str (Str.ofString "/claim/cut.py") 359] }),
  (130, fnO (stmtAt 20) (Str.ofString "_law_parts") (Value.none) (Value.none) (Value.str (Str.ofString "law_nq0020_01") 339) 129),
  (136, { cls := Value.type "code", data := Data.fields #[Value.str (Str.ofString "_law_mods") 361, Value.str (Str.ofString "_law_mods") 362, Value.str (Str.ofString "/claim/cut.py") 363, Value.int 146 0, Value.int 2 0, Value.int 0 0, Value.int 0 0, Value.int 3 0, Value.ref 131, Value.bool true, Value.int 181 0, Value.ref 132, Value.none, Value.ref 133, Value.ref 134, Value.ref 135, Value.int 370 0, Value.int 146 0, Value.str (Str.ofString "/claim/cut.py") 371] }),
  (137, fnO (stmtAt 21) (Str.ofString "_law_mods") (Value.none) (Value.none) (Value.str (Str.ofString "law_nq0020_01") 339) 136),
  (143, { cls := Value.type "code", data := Data.fields #[Value.str (Str.ofString "_law_kept") 373, Value.str (Str.ofString "_law_kept") 374, Value.str (Str.ofString "/claim/cut.py") 375, Value.int 155 0, Value.int 4 0, Value.int 0 0, Value.int 0 0, Value.int 3 0, Value.ref 138, Value.bool true, Value.int 181 0, Value.ref 139, Value.none, Value.ref 140, Value.ref 141, Value.ref 142, Value.int 385 0, Value.int 155 0, Value.str (Str.ofString "/claim/cut.py") 386] }),
  (144, fnO (stmtAt 22) (Str.ofString "_law_kept") (Value.none) (Value.none) (Value.str (Str.ofString "law_nq0020_01") 339) 143),
  (150, { cls := Value.type "code", data := Data.fields #[Value.str (Str.ofString "_law_file") 388, Value.str (Str.ofString "_law_file") 389, Value.str (Str.ofString "/claim/cut.py") 390, Value.int 165 0, Value.int 3 0, Value.int 0 0, Value.int 0 0, Value.int 3 0, Value.ref 145, Value.bool true, Value.int 181 0, Value.ref 146, Value.none, Value.ref 147, Value.ref 148, Value.ref 149, Value.int 394 0, Value.int 165 0, Value.str (Str.ofString "/claim/cut.py") 395] }),
  (151, fnO (stmtAt 23) (Str.ofString "_law_file") (Value.none) (Value.none) (Value.str (Str.ofString "law_nq0020_01") 339) 150),
  (155, { cls := Value.type "code", data := Data.fields #[Value.str (Str.ofString "_law_made") 397, Value.str (Str.ofString "_law_made") 398, Value.str (Str.ofString "/claim/cut.py") 399, Value.int 169 0, Value.int 2 0, Value.int 0 0, Value.int 0 0, Value.int 3 0, Value.ref 152, Value.bool true, Value.int 181 0, Value.ref 153, Value.none, Value.none, Value.none, Value.ref 154, Value.int 400 0, Value.int 169 0, Value.str (Str.ofString "/claim/cut.py") 401] }),
  (156, fnO (stmtAt 24) (Str.ofString "_law_made") (Value.none) (Value.none) (Value.str (Str.ofString "law_nq0020_01") 339) 155),
  (160, { cls := Value.type "code", data := Data.fields #[Value.str (Str.ofString "_law_run") 403, Value.str (Str.ofString "_law_run") 404, Value.str (Str.ofString "/claim/cut.py") 405, Value.int 174 0, Value.int 4 0, Value.int 0 0, Value.int 0 0, Value.int 3 0, Value.ref 157, Value.bool true, Value.int 181 0, Value.ref 158, Value.none, Value.none, Value.none, Value.ref 159, Value.int 406 0, Value.int 174 0, Value.str (Str.ofString "/claim/cut.py") 407] }),
  (161, fnO (stmtAt 25) (Str.ofString "_law_run") (Value.none) (Value.none) (Value.str (Str.ofString "law_nq0020_01") 339) 160),
  (165, { cls := Value.type "code", data := Data.fields #[Value.str (Str.ofString "law") 409, Value.str (Str.ofString "law") 410, Value.str (Str.ofString "/claim/cut.py") 411, Value.int 177 0, Value.int 1 0, Value.int 0 0, Value.int 0 0, Value.int 3 0, Value.ref 162, Value.bool true, Value.int 181 0, Value.ref 163, Value.none, Value.none, Value.none, Value.ref 164, Value.int 412 0, Value.int 177 0, Value.str (Str.ofString "/claim/cut.py") 413] }),
  (166, fnO (stmtAt 26) (Str.ofString "law") (Value.none) (Value.none) (Value.str (Str.ofString "law_nq0020_01") 339) 165)]
theorem KP_keys (P : Params) : ([3, 64, 68, 69, 75, 76, 78, 79, 89, 90, 96, 97, 98, 104, 105, 106, 112, 113, 117, 118, 122, 123, 129, 130, 136, 137, 143, 144, 150, 151, 155, 156, 160, 161, 165, 166] : List Addr) = (KP P).map (·.1) := by kernel_rfl
namespace Top
noncomputable def fnB (s : Stmt) (q : Str) : Obj := match s with
  | .FunctionDef name params body _ _ _ scope .. => { cls := .none, data := .func { name := name, qualname := q, params := params, body := .stmts body, scope := scope, globals := 0, closure := [], defaults := .none, kwdefaults := .none } }
  | _ => { cls := .none, data := .plain }
noncomputable def ob3s92 (P : Params) : Obj := Obj.mk (Value.type "dict") none (Data.dict #[DictEntry.mk (PyData.keyHash P (Str.ofString "__name__")) (Value.str (Str.ofString "__name__") 165) (Value.str (Str.ofString "cpy313.trace") 252), DictEntry.mk (PyData.keyHash P (Str.ofString "__doc__")) (Value.str (Str.ofString "__doc__") 166) Value.none, DictEntry.mk (PyData.keyHash P (Str.ofString "__package__")) (Value.str (Str.ofString "__package__") 167) Value.none, DictEntry.mk (PyData.keyHash P (Str.ofString "__loader__")) (Value.str (Str.ofString "__loader__") 168) (Value.builtin "__main__.__loader__#opaque"), DictEntry.mk (PyData.keyHash P (Str.ofString "__spec__")) (Value.str (Str.ofString "__spec__") 169) Value.none, DictEntry.mk (PyData.keyHash P (Str.ofString "__annotations__")) (Value.str (Str.ofString "__annotations__") 170) (Value.ref 6), DictEntry.mk (PyData.keyHash P (Str.ofString "__builtins__")) (Value.str (Str.ofString "__builtins__") 171) (Value.ref 4), DictEntry.mk (PyData.keyHash P (Str.ofString "__file__")) (Value.str (Str.ofString "__file__") 173) (Value.str (Str.ofString "/claim/cut.py") 172), DictEntry.mk (PyData.keyHash P (Str.ofString "__cached__")) (Value.str (Str.ofString "__cached__") 174) Value.none, DictEntry.mk (PyData.keyHash P (Str.ofString "_wall")) (Value.str (Str.ofString "_wall") 193) (Value.ref 21), DictEntry.mk (PyData.keyHash P (Str.ofString "sep")) (Value.str (Str.ofString "sep") 195) (Value.str (Str.ofString "/") 194), DictEntry.mk (PyData.keyHash P (Str.ofString "_kind")) (Value.str (Str.ofString "_kind") 206) (Value.ref 28), DictEntry.mk (PyData.keyHash P (Str.ofString "_c_path")) (Value.str (Str.ofString "_c_path") 219) (Value.ref 35), DictEntry.mk (PyData.keyHash P (Str.ofString "_splitroot")) (Value.str (Str.ofString "_splitroot") 228) (Value.ref 42), DictEntry.mk (PyData.keyHash P (Str.ofString "_normpath")) (Value.str (Str.ofString "_normpath") 243) (Value.ref 49), DictEntry.mk (PyData.keyHash P (Str.ofString "normpath")) (Value.str (Str.ofString "normpath") 251) (Value.ref 56)] 16) #[]
noncomputable def ob3s143 (P : Params) : Obj := Obj.mk (Value.type "dict") none (Data.dict #[DictEntry.mk (PyData.keyHash P (Str.ofString "__name__")) (Value.str (Str.ofString "__name__") 165) (Value.str (Str.ofString "cpy313.base64") 328), DictEntry.mk (PyData.keyHash P (Str.ofString "__doc__")) (Value.str (Str.ofString "__doc__") 166) Value.none, DictEntry.mk (PyData.keyHash P (Str.ofString "__package__")) (Value.str (Str.ofString "__package__") 167) Value.none, DictEntry.mk (PyData.keyHash P (Str.ofString "__loader__")) (Value.str (Str.ofString "__loader__") 168) (Value.builtin "__main__.__loader__#opaque"), DictEntry.mk (PyData.keyHash P (Str.ofString "__spec__")) (Value.str (Str.ofString "__spec__") 169) Value.none, DictEntry.mk (PyData.keyHash P (Str.ofString "__annotations__")) (Value.str (Str.ofString "__annotations__") 170) (Value.ref 6), DictEntry.mk (PyData.keyHash P (Str.ofString "__builtins__")) (Value.str (Str.ofString "__builtins__") 171) (Value.ref 4), DictEntry.mk (PyData.keyHash P (Str.ofString "__file__")) (Value.str (Str.ofString "__file__") 173) (Value.str (Str.ofString "/claim/cut.py") 172), DictEntry.mk (PyData.keyHash P (Str.ofString "__cached__")) (Value.str (Str.ofString "__cached__") 174) Value.none, DictEntry.mk (PyData.keyHash P (Str.ofString "_wall")) (Value.str (Str.ofString "_wall") 193) (Value.ref 21), DictEntry.mk (PyData.keyHash P (Str.ofString "sep")) (Value.str (Str.ofString "sep") 195) (Value.str (Str.ofString "/") 194), DictEntry.mk (PyData.keyHash P (Str.ofString "_kind")) (Value.str (Str.ofString "_kind") 206) (Value.ref 28), DictEntry.mk (PyData.keyHash P (Str.ofString "_c_path")) (Value.str (Str.ofString "_c_path") 219) (Value.ref 35), DictEntry.mk (PyData.keyHash P (Str.ofString "_splitroot")) (Value.str (Str.ofString "_splitroot") 228) (Value.ref 42), DictEntry.mk (PyData.keyHash P (Str.ofString "_normpath")) (Value.str (Str.ofString "_normpath") 243) (Value.ref 49), DictEntry.mk (PyData.keyHash P (Str.ofString "normpath")) (Value.str (Str.ofString "normpath") 251) (Value.ref 56), DictEntry.mk (PyData.keyHash P (Str.ofString "_Ignore")) (Value.str (Str.ofString "_Ignore") 293) (Value.ref 79), DictEntry.mk (PyData.keyHash P (Str.ofString "_buffer")) (Value.str (Str.ofString "_buffer") 303) (Value.ref 90), DictEntry.mk (PyData.keyHash P (Str.ofString "_truth")) (Value.str (Str.ofString "_truth") 311) (Value.ref 97), DictEntry.mk (PyData.keyHash P (Str.ofString "_B64")) (Value.str (Str.ofString "_B64") 313) (Value.bytes #[65, 66, 67, 68, 69, 70, 71, 72, 73, 74, 75, 76, 77, 78, 79, 80, 81, 82, 83, 84, 85, 86, 87, 88, 89, 90, 97, 98, 99, 100, 101, 102, 103, 104, 105, 106, 107, 108, 109, 110, 111, 112, 113, 114, 115, 116, 117, 118, 119, 120, 121, 122, 48, 49, 50, 51, 52, 53, 54, 55, 56, 57, 43, 47] 312), DictEntry.mk (PyData.keyHash P (Str.ofString "b2a_base64")) (Value.str (Str.ofString "b2a_base64") 327) (Value.ref 105)] 21) #[]
noncomputable def ob3 (P : Params) : Obj := Obj.mk (Value.type "dict") none (Data.dict #[DictEntry.mk (PyData.keyHash P (Str.ofString "__name__")) (Value.str (Str.ofString "__name__") 165) (Value.str (Str.ofString "law_nq0020_01") 339), DictEntry.mk (PyData.keyHash P (Str.ofString "__doc__")) (Value.str (Str.ofString "__doc__") 166) Value.none, DictEntry.mk (PyData.keyHash P (Str.ofString "__package__")) (Value.str (Str.ofString "__package__") 167) Value.none, DictEntry.mk (PyData.keyHash P (Str.ofString "__loader__")) (Value.str (Str.ofString "__loader__") 168) (Value.builtin "__main__.__loader__#opaque"), DictEntry.mk (PyData.keyHash P (Str.ofString "__spec__")) (Value.str (Str.ofString "__spec__") 169) Value.none, DictEntry.mk (PyData.keyHash P (Str.ofString "__annotations__")) (Value.str (Str.ofString "__annotations__") 170) (Value.ref 6), DictEntry.mk (PyData.keyHash P (Str.ofString "__builtins__")) (Value.str (Str.ofString "__builtins__") 171) (Value.ref 4), DictEntry.mk (PyData.keyHash P (Str.ofString "__file__")) (Value.str (Str.ofString "__file__") 173) (Value.str (Str.ofString "/claim/cut.py") 172), DictEntry.mk (PyData.keyHash P (Str.ofString "__cached__")) (Value.str (Str.ofString "__cached__") 174) Value.none, DictEntry.mk (PyData.keyHash P (Str.ofString "_wall")) (Value.str (Str.ofString "_wall") 193) (Value.ref 21), DictEntry.mk (PyData.keyHash P (Str.ofString "sep")) (Value.str (Str.ofString "sep") 195) (Value.str (Str.ofString "/") 194), DictEntry.mk (PyData.keyHash P (Str.ofString "_kind")) (Value.str (Str.ofString "_kind") 206) (Value.ref 28), DictEntry.mk (PyData.keyHash P (Str.ofString "_c_path")) (Value.str (Str.ofString "_c_path") 219) (Value.ref 35), DictEntry.mk (PyData.keyHash P (Str.ofString "_splitroot")) (Value.str (Str.ofString "_splitroot") 228) (Value.ref 42), DictEntry.mk (PyData.keyHash P (Str.ofString "_normpath")) (Value.str (Str.ofString "_normpath") 243) (Value.ref 49), DictEntry.mk (PyData.keyHash P (Str.ofString "normpath")) (Value.str (Str.ofString "normpath") 251) (Value.ref 56), DictEntry.mk (PyData.keyHash P (Str.ofString "_Ignore")) (Value.str (Str.ofString "_Ignore") 293) (Value.ref 79), DictEntry.mk (PyData.keyHash P (Str.ofString "_buffer")) (Value.str (Str.ofString "_buffer") 303) (Value.ref 90), DictEntry.mk (PyData.keyHash P (Str.ofString "_truth")) (Value.str (Str.ofString "_truth") 311) (Value.ref 97), DictEntry.mk (PyData.keyHash P (Str.ofString "_B64")) (Value.str (Str.ofString "_B64") 313) (Value.bytes #[65, 66, 67, 68, 69, 70, 71, 72, 73, 74, 75, 76, 77, 78, 79, 80, 81, 82, 83, 84, 85, 86, 87, 88, 89, 90, 97, 98, 99, 100, 101, 102, 103, 104, 105, 106, 107, 108, 109, 110, 111, 112, 113, 114, 115, 116, 117, 118, 119, 120, 121, 122, 48, 49, 50, 51, 52, 53, 54, 55, 56, 57, 43, 47] 312), DictEntry.mk (PyData.keyHash P (Str.ofString "b2a_base64")) (Value.str (Str.ofString "b2a_base64") 327) (Value.ref 105), DictEntry.mk (PyData.keyHash P (Str.ofString "b64encode")) (Value.str (Str.ofString "b64encode") 338) (Value.ref 113), DictEntry.mk (PyData.keyHash P (Str.ofString "_law_bits")) (Value.str (Str.ofString "_law_bits") 346) (Value.ref 118), DictEntry.mk (PyData.keyHash P (Str.ofString "_law_sixes")) (Value.str (Str.ofString "_law_sixes") 352) (Value.ref 123), DictEntry.mk (PyData.keyHash P (Str.ofString "_law_parts")) (Value.str (Str.ofString "_law_parts") 360) (Value.ref 130), DictEntry.mk (PyData.keyHash P (Str.ofString "_law_mods")) (Value.str (Str.ofString "_law_mods") 372) (Value.ref 137), DictEntry.mk (PyData.keyHash P (Str.ofString "_law_kept")) (Value.str (Str.ofString "_law_kept") 387) (Value.ref 144), DictEntry.mk (PyData.keyHash P (Str.ofString "_law_file")) (Value.str (Str.ofString "_law_file") 396) (Value.ref 151), DictEntry.mk (PyData.keyHash P (Str.ofString "_law_made")) (Value.str (Str.ofString "_law_made") 402) (Value.ref 156), DictEntry.mk (PyData.keyHash P (Str.ofString "_law_run")) (Value.str (Str.ofString "_law_run") 408) (Value.ref 161), DictEntry.mk (PyData.keyHash P (Str.ofString "law")) (Value.str (Str.ofString "law") 414) (Value.ref 166)] 31) #[]
noncomputable def ob11 : Obj := Obj.mk (Value.type "tuple") none (Data.seq #[]) #[]
noncomputable def ob12s47 : Obj := Obj.mk Value.none none (Data.fields #[]) #[]
noncomputable def ob12s92 : Obj := Obj.mk Value.none none (Data.fields #[Value.int 1 0, Value.int 0 0, Value.ref 20, Value.int 6 0, Value.int 0 0, Value.ref 27, Value.int 27 0, Value.int 0 0, Value.ref 34, Value.int 38 0, Value.int 0 0, Value.ref 41, Value.int 47 0, Value.int 0 0, Value.ref 48, Value.int 66 0, Value.int 0 0, Value.ref 55]) #[]
noncomputable def ob12s143 : Obj := Obj.mk Value.none none (Data.fields #[Value.int 1 0, Value.int 0 0, Value.ref 20, Value.int 6 0, Value.int 0 0, Value.ref 27, Value.int 27 0, Value.int 0 0, Value.ref 34, Value.int 38 0, Value.int 0 0, Value.ref 41, Value.int 47 0, Value.int 0 0, Value.ref 48, Value.int 66 0, Value.int 0 0, Value.ref 55, Value.int 69 0, Value.int 0 0, Value.ref 62, Value.int 96 0, Value.int 0 0, Value.ref 89, Value.int 103 0, Value.int 0 0, Value.ref 96, Value.int 109 0, Value.int 0 0, Value.ref 104]) #[]
noncomputable def ob12 : Obj := Obj.mk Value.none none (Data.fields #[Value.int 1 0, Value.int 0 0, Value.ref 20, Value.int 6 0, Value.int 0 0, Value.ref 27, Value.int 27 0, Value.int 0 0, Value.ref 34, Value.int 38 0, Value.int 0 0, Value.ref 41, Value.int 47 0, Value.int 0 0, Value.ref 48, Value.int 66 0, Value.int 0 0, Value.ref 55, Value.int 69 0, Value.int 0 0, Value.ref 62, Value.int 96 0, Value.int 0 0, Value.ref 89, Value.int 103 0, Value.int 0 0, Value.ref 96, Value.int 109 0, Value.int 0 0, Value.ref 104, Value.int 132 0, Value.int 0 0, Value.ref 112, Value.int 139 0, Value.int 0 0, Value.ref 117, Value.int 141 0, Value.int 0 0, Value.ref 122, Value.int 144 0, Value.int 0 0, Value.ref 129, Value.int 146 0, Value.int 0 0, Value.ref 136, Value.int 155 0, Value.int 0 0, Value.ref 143, Value.int 165 0, Value.int 0 0, Value.ref 150, Value.int 169 0, Value.int 0 0, Value.ref 155, Value.int 174 0, Value.int 0 0, Value.ref 160, Value.int 177 0, Value.int 0 0, Value.ref 165]) #[]
noncomputable def ob13 : Obj := Obj.mk (Value.type "code") none (Data.fields #[Value.str (Str.ofString "<module>") 182, Value.str (Str.ofString "<module>") 183, Value.str (Str.ofString "/claim/cut.py") 184, Value.int 1 0, Value.int 0 0, Value.int 0 0, Value.int 0 0, Value.int 0 0, Value.ref 11, Value.bool false, Value.int 181 0, Value.ref 12, Value.none, Value.none, Value.none, Value.none, Value.int 185 0, Value.int 1 0, Value.str (Str.ofString "/claim/cut.py") 186]) #[]
noncomputable def ob14 : Obj := Obj.mk (Value.type "frame") none Data.plain #[some (Value.ref 13), some (Value.ref 3), some (Value.ref 3), none, some (Value.str (Str.ofString "__main__") 164), none, some (Value.ref 0)]
noncomputable def ob17 : Obj := Obj.mk (Value.type "tuple") none (Data.seq #[Value.str (Str.ofString "k") 190]) #[]
noncomputable def ob19 : Obj := fnB (stmtAt 0) (Str.ofString "_wall")
noncomputable def ob20 : Obj := Obj.mk (Value.type "code") none (Data.fields #[Value.str (Str.ofString "_wall") 187, Value.str (Str.ofString "_wall") 188, Value.str (Str.ofString "/claim/cut.py") 189, Value.int 1 0, Value.int 1 0, Value.int 0 0, Value.int 0 0, Value.int 3 0, Value.ref 15, Value.bool true, Value.int 181 0, Value.ref 16, Value.none, Value.ref 17, Value.ref 18, Value.ref 19, Value.int 191 0, Value.int 1 0, Value.str (Str.ofString "/claim/cut.py") 192]) #[]
noncomputable def ob21 : Obj := fnO (stmtAt 0) (Str.ofString "_wall") Value.none Value.none (Value.str (Str.ofString "__main__") 164) 20
noncomputable def ob24 : Obj := Obj.mk (Value.type "tuple") none (Data.seq #[Value.str (Str.ofString "name") 201, Value.str (Str.ofString "x") 202, Value.str (Str.ofString "t") 203]) #[]
noncomputable def ob26 : Obj := fnB (stmtAt 3) (Str.ofString "_kind")
noncomputable def ob27 : Obj := Obj.mk (Value.type "code") none (Data.fields #[Value.str (Str.ofString "_kind") 198, Value.str (Str.ofString "_kind") 199, Value.str (Str.ofString "/claim/cut.py") 200, Value.int 6 0, Value.int 2 0, Value.int 0 0, Value.int 0 0, Value.int 3 0, Value.ref 22, Value.bool true, Value.int 181 0, Value.ref 23, Value.none, Value.ref 24, Value.ref 25, Value.ref 26, Value.int 204 0, Value.int 6 0, Value.str (Str.ofString "/claim/cut.py") 205]) #[]
noncomputable def ob28 : Obj := fnO (stmtAt 3) (Str.ofString "_kind") Value.none Value.none (Value.str (Str.ofString "os.path") 196) 27
noncomputable def ob31 : Obj := Obj.mk (Value.type "tuple") none (Data.seq #[Value.str (Str.ofString "name") 210, Value.str (Str.ofString "cname") 211, Value.str (Str.ofString "argname") 212, Value.str (Str.ofString "args") 213, Value.str (Str.ofString "kwargs") 214, Value.str (Str.ofString "x") 215, Value.str (Str.ofString "k") 216]) #[]
noncomputable def ob33 : Obj := fnB (stmtAt 4) (Str.ofString "_c_path")
noncomputable def ob34 : Obj := Obj.mk (Value.type "code") none (Data.fields #[Value.str (Str.ofString "_c_path") 207, Value.str (Str.ofString "_c_path") 208, Value.str (Str.ofString "/claim/cut.py") 209, Value.int 27 0, Value.int 5 0, Value.int 0 0, Value.int 0 0, Value.int 3 0, Value.ref 29, Value.bool true, Value.int 181 0, Value.ref 30, Value.none, Value.ref 31, Value.ref 32, Value.ref 33, Value.int 217 0, Value.int 27 0, Value.str (Str.ofString "/claim/cut.py") 218]) #[]
noncomputable def ob35 : Obj := fnO (stmtAt 4) (Str.ofString "_c_path") Value.none Value.none (Value.str (Str.ofString "os.path") 196) 34
noncomputable def ob38 : Obj := Obj.mk (Value.type "tuple") none (Data.seq #[Value.str (Str.ofString "p") 223, Value.str (Str.ofString "sep") 224, Value.str (Str.ofString "empty") 225]) #[]
noncomputable def ob40 : Obj := fnB (stmtAt 5) (Str.ofString "_splitroot")
noncomputable def ob41 : Obj := Obj.mk (Value.type "code") none (Data.fields #[Value.str (Str.ofString "_splitroot") 220, Value.str (Str.ofString "_splitroot") 221, Value.str (Str.ofString "/claim/cut.py") 222, Value.int 38 0, Value.int 1 0, Value.int 0 0, Value.int 0 0, Value.int 3 0, Value.ref 36, Value.bool true, Value.int 181 0, Value.ref 37, Value.none, Value.ref 38, Value.ref 39, Value.ref 40, Value.int 226 0, Value.int 38 0, Value.str (Str.ofString "/claim/cut.py") 227]) #[]
noncomputable def ob42 : Obj := fnO (stmtAt 5) (Str.ofString "_splitroot") Value.none Value.none (Value.str (Str.ofString "os.path") 196) 41
noncomputable def ob45 : Obj := Obj.mk (Value.type "tuple") none (Data.seq #[Value.str (Str.ofString "path") 232, Value.str (Str.ofString "sep") 233, Value.str (Str.ofString "dot") 234, Value.str (Str.ofString "dotdot") 235, Value.str (Str.ofString "_") 236, Value.str (Str.ofString "initial_slashes") 237, Value.str (Str.ofString "comps") 238, Value.str (Str.ofString "new_comps") 239, Value.str (Str.ofString "comp") 240]) #[]
noncomputable def ob47 : Obj := fnB (stmtAt 6) (Str.ofString "_normpath")
noncomputable def ob48 : Obj := Obj.mk (Value.type "code") none (Data.fields #[Value.str (Str.ofString "_normpath") 229, Value.str (Str.ofString "_normpath") 230, Value.str (Str.ofString "/claim/cut.py") 231, Value.int 47 0, Value.int 1 0, Value.int 0 0, Value.int 0 0, Value.int 3 0, Value.ref 43, Value.bool true, Value.int 181 0, Value.ref 44, Value.none, Value.ref 45, Value.ref 46, Value.ref 47, Value.int 241 0, Value.int 47 0, Value.str (Str.ofString "/claim/cut.py") 242]) #[]
noncomputable def ob49 : Obj := fnO (stmtAt 6) (Str.ofString "_normpath") Value.none Value.none (Value.str (Str.ofString "os.path") 196) 48
noncomputable def ob52 : Obj := Obj.mk (Value.type "tuple") none (Data.seq #[Value.str (Str.ofString "args") 247, Value.str (Str.ofString "kwargs") 248]) #[]
noncomputable def ob54 : Obj := fnB (stmtAt 7) (Str.ofString "normpath")
noncomputable def ob55 : Obj := Obj.mk (Value.type "code") none (Data.fields #[Value.str (Str.ofString "normpath") 244, Value.str (Str.ofString "normpath") 245, Value.str (Str.ofString "/claim/cut.py") 246, Value.int 66 0, Value.int 0 0, Value.int 0 0, Value.int 0 0, Value.int 15 0, Value.ref 50, Value.bool true, Value.int 181 0, Value.ref 51, Value.none, Value.ref 52, Value.ref 53, Value.ref 54, Value.int 249 0, Value.int 66 0, Value.str (Str.ofString "/claim/cut.py") 250]) #[]
noncomputable def ob56 : Obj := fnO (stmtAt 7) (Str.ofString "normpath") Value.none Value.none (Value.str (Str.ofString "os.path") 196) 55
noncomputable def ob58 : Obj := Obj.mk (Value.type "builtin_function_or_method") none (Data.fields #[Value.builtin "type.__prepare__", Value.type "type"]) #[]
noncomputable def ob59 (P : Params) : Obj := Obj.mk (Value.type "dict") none (Data.dict #[DictEntry.mk (PyData.keyHash P (Str.ofString "__module__")) (Value.str (Str.ofString "__module__") 261) (Value.str (Str.ofString "cpy313.trace") 252), DictEntry.mk (PyData.keyHash P (Str.ofString "__qualname__")) (Value.str (Str.ofString "__qualname__") 263) (Value.str (Str.ofString "_Ignore") 262), DictEntry.mk (PyData.keyHash P (Str.ofString "__firstlineno__")) (Value.str (Str.ofString "__firstlineno__") 265) (Value.int 69 264), DictEntry.mk (PyData.keyHash P (Str.ofString "__init__")) (Value.str (Str.ofString "__init__") 271) (Value.ref 69), DictEntry.mk (PyData.keyHash P (Str.ofString "names")) (Value.str (Str.ofString "names") 282) (Value.ref 76), DictEntry.mk (PyData.keyHash P (Str.ofString "__static_attributes__")) (Value.str (Str.ofString "__static_attributes__") 286) (Value.ref 77)] 6) #[]
noncomputable def ob61 : Obj := Obj.mk Value.none none (Data.fields #[Value.int 71 0, Value.int 4 0, Value.ref 68, Value.int 76 0, Value.int 4 0, Value.ref 75]) #[]
noncomputable def ob62 : Obj := Obj.mk (Value.type "code") none (Data.fields #[Value.str (Str.ofString "_Ignore") 256, Value.str (Str.ofString "_Ignore") 257, Value.str (Str.ofString "/claim/cut.py") 258, Value.int 69 0, Value.int 0 0, Value.int 0 0, Value.int 0 0, Value.int 0 0, Value.ref 60, Value.bool false, Value.int 181 0, Value.ref 61, Value.none, Value.none, Value.none, Value.none, Value.int 259 0, Value.int 69 0, Value.str (Str.ofString "/claim/cut.py") 260]) #[]
noncomputable def ob63 : Obj := Obj.mk (Value.type "frame") none Data.plain #[some (Value.ref 62), some (Value.ref 3), some (Value.ref 59), none, some (Value.str (Str.ofString "cpy313.trace") 252), none, some (Value.ref 0)]
noncomputable def ob64 : Obj := Obj.mk (Value.type "tuple") none (Data.seq #[Value.none, Value.none]) #[]
noncomputable def ob67 : Obj := fnB (methAt 0) (Str.ofString "_Ignore.__init__")
noncomputable def ob68 : Obj := Obj.mk (Value.type "code") none (Data.fields #[Value.str (Str.ofString "__init__") 266, Value.str (Str.ofString "_Ignore.__init__") 267, Value.str (Str.ofString "/claim/cut.py") 268, Value.int 71 0, Value.int 3 0, Value.int 0 0, Value.int 0 0, Value.int 3 0, Value.ref 65, Value.bool true, Value.int 181 0, Value.ref 66, Value.none, Value.none, Value.none, Value.ref 67, Value.int 269 0, Value.int 71 0, Value.str (Str.ofString "/claim/cut.py") 270]) #[]
noncomputable def ob69 : Obj := fnO (methAt 0) (Str.ofString "_Ignore.__init__") (Value.ref 64) Value.none (Value.str (Str.ofString "cpy313.trace") 252) 68
noncomputable def ob72 : Obj := Obj.mk (Value.type "tuple") none (Data.seq #[Value.str (Str.ofString "self") 275, Value.str (Str.ofString "filename") 276, Value.str (Str.ofString "modulename") 277, Value.str (Str.ofString "mod") 278, Value.str (Str.ofString "d") 279]) #[]
noncomputable def ob74 : Obj := fnB (methAt 1) (Str.ofString "_Ignore.names")
noncomputable def ob75 : Obj := Obj.mk (Value.type "code") none (Data.fields #[Value.str (Str.ofString "names") 272, Value.str (Str.ofString "_Ignore.names") 273, Value.str (Str.ofString "/claim/cut.py") 274, Value.int 76 0, Value.int 3 0, Value.int 0 0, Value.int 0 0, Value.int 3 0, Value.ref 70, Value.bool true, Value.int 181 0, Value.ref 71, Value.none, Value.ref 72, Value.ref 73, Value.ref 74, Value.int 280 0, Value.int 76 0, Value.str (Str.ofString "/claim/cut.py") 281]) #[]
noncomputable def ob76 : Obj := fnO (methAt 1) (Str.ofString "_Ignore.names") Value.none Value.none (Value.str (Str.ofString "cpy313.trace") 252) 75
noncomputable def ob77 : Obj := Obj.mk (Value.type "tuple") none (Data.seq #[Value.str (Str.ofString "_dirs") 283, Value.str (Str.ofString "_ignore") 284, Value.str (Str.ofString "_mods") 285]) #[]
noncomputable def ob78 (P : Params) : Obj := Obj.mk (Value.type "dict") none (Data.dict #[DictEntry.mk (PyData.keyHash P (Str.ofString "__module__")) (Value.str (Str.ofString "__module__") 261) (Value.str (Str.ofString "cpy313.trace") 252), DictEntry.mk (PyData.keyHash P (Str.ofString "__firstlineno__")) (Value.str (Str.ofString "__firstlineno__") 265) (Value.int 69 264), DictEntry.mk (PyData.keyHash P (Str.ofString "__init__")) (Value.str (Str.ofString "__init__") 271) (Value.ref 69), DictEntry.mk (PyData.keyHash P (Str.ofString "names")) (Value.str (Str.ofString "names") 282) (Value.ref 76), DictEntry.mk (PyData.keyHash P (Str.ofString "__static_attributes__")) (Value.str (Str.ofString "__static_attributes__") 286) (Value.ref 77), DictEntry.mk (PyData.keyHash P (Str.ofString "__dict__")) (Value.str (Str.ofString "__dict__") 288) (Value.ref 80), DictEntry.mk (PyData.keyHash P (Str.ofString "__weakref__")) (Value.str (Str.ofString "__weakref__") 290) (Value.ref 81), DictEntry.mk (PyData.keyHash P (Str.ofString "__doc__")) (Value.str (Str.ofString "__doc__") 291) Value.none] 4) #[]
noncomputable def ob79 : Obj := Obj.mk (Value.type "type") none (Data.cls (ClassData.mk (Str.ofString "_Ignore") [Value.type "object"] [Value.ref 79, Value.type "object"] 78 (Str.ofString "_Ignore") true [] [] false none false)) #[none, none, some (Value.str (Str.ofString "_Ignore") 254), some (Value.str (Str.ofString "_Ignore") 262), some (Value.builtin "object.__new__"), some (Value.bool true)]
noncomputable def ob80 : Obj := Obj.mk (Value.type "getset_descriptor") none (Data.fields #[Value.str (Str.ofString "__dict__") 287, Value.ref 79, Value.builtin "function.__dict__", Value.builtin "function.__dict__#set"]) #[]
noncomputable def ob81 : Obj := Obj.mk (Value.type "getset_descriptor") none (Data.fields #[Value.str (Str.ofString "__weakref__") 289, Value.ref 79, Value.builtin "ExceptionGroup.__weakref__", Value.none]) #[]
noncomputable def ob82 : Obj := Obj.mk (Value.type "super") none (Data.fields #[Value.ref 79, Value.ref 79, Value.ref 79]) #[]
noncomputable def ob83 : Obj := Obj.mk (Value.type "builtin_function_or_method") none (Data.fields #[Value.builtin "object.__init_subclass__", Value.ref 79]) #[]
noncomputable def ob86 : Obj := Obj.mk (Value.type "tuple") none (Data.seq #[Value.str (Str.ofString "data") 299, Value.str (Str.ofString "t") 300]) #[]
noncomputable def ob88 : Obj := fnB (stmtAt 11) (Str.ofString "_buffer")
noncomputable def ob89 : Obj := Obj.mk (Value.type "code") none (Data.fields #[Value.str (Str.ofString "_buffer") 296, Value.str (Str.ofString "_buffer") 297, Value.str (Str.ofString "/claim/cut.py") 298, Value.int 96 0, Value.int 1 0, Value.int 0 0, Value.int 0 0, Value.int 3 0, Value.ref 84, Value.bool true, Value.int 181 0, Value.ref 85, Value.none, Value.ref 86, Value.ref 87, Value.ref 88, Value.int 301 0, Value.int 96 0, Value.str (Str.ofString "/claim/cut.py") 302]) #[]
noncomputable def ob90 : Obj := fnO (stmtAt 11) (Str.ofString "_buffer") Value.none Value.none (Value.str (Str.ofString "binascii") 294) 89
noncomputable def ob93 : Obj := Obj.mk (Value.type "tuple") none (Data.seq #[Value.str (Str.ofString "x") 307, Value.str (Str.ofString "t") 308]) #[]
noncomputable def ob95 : Obj := fnB (stmtAt 12) (Str.ofString "_truth")
noncomputable def ob96 : Obj := Obj.mk (Value.type "code") none (Data.fields #[Value.str (Str.ofString "_truth") 304, Value.str (Str.ofString "_truth") 305, Value.str (Str.ofString "/claim/cut.py") 306, Value.int 103 0, Value.int 1 0, Value.int 0 0, Value.int 0 0, Value.int 3 0, Value.ref 91, Value.bool true, Value.int 181 0, Value.ref 92, Value.none, Value.ref 93, Value.ref 94, Value.ref 95, Value.int 309 0, Value.int 103 0, Value.str (Str.ofString "/claim/cut.py") 310]) #[]
noncomputable def ob97 : Obj := fnO (stmtAt 12) (Str.ofString "_truth") Value.none Value.none (Value.str (Str.ofString "binascii") 294) 96
noncomputable def ob98 (P : Params) : Obj := Obj.mk (Value.type "dict") none (Data.dict #[DictEntry.mk (PyData.keyHash P (Str.ofString "newline")) (Value.str (Str.ofString "newline") 314) (Value.bool true)] 1) #[]
noncomputable def ob101 : Obj := Obj.mk (Value.type "tuple") none (Data.seq #[Value.str (Str.ofString "data") 318, Value.str (Str.ofString "newline") 319, Value.str (Str.ofString "bin_data") 320, Value.str (Str.ofString "out") 321, Value.str (Str.ofString "leftbits") 322, Value.str (Str.ofString "leftchar") 323, Value.str (Str.ofString "b") 324]) #[]
noncomputable def ob103 : Obj := fnB (stmtAt 14) (Str.ofString "b2a_base64")
noncomputable def ob104 : Obj := Obj.mk (Value.type "code") none (Data.fields #[Value.str (Str.ofString "b2a_base64") 315, Value.str (Str.ofString "b2a_base64") 316, Value.str (Str.ofString "/claim/cut.py") 317, Value.int 109 0, Value.int 1 0, Value.int 1 0, Value.int 1 0, Value.int 3 0, Value.ref 99, Value.bool true, Value.int 181 0, Value.ref 100, Value.none, Value.ref 101, Value.ref 102, Value.ref 103, Value.int 325 0, Value.int 109 0, Value.str (Str.ofString "/claim/cut.py") 326]) #[]
noncomputable def ob105 : Obj := fnO (stmtAt 14) (Str.ofString "b2a_base64") Value.none (Value.ref 98) (Value.str (Str.ofString "binascii") 294) 104
noncomputable def ob106 : Obj := Obj.mk (Value.type "tuple") none (Data.seq #[Value.none]) #[]
noncomputable def ob109 : Obj := Obj.mk (Value.type "tuple") none (Data.seq #[Value.str (Str.ofString "s") 333, Value.str (Str.ofString "altchars") 334, Value.str (Str.ofString "encoded") 335]) #[]
noncomputable def ob111 : Obj := fnB (stmtAt 16) (Str.ofString "b64encode")
noncomputable def ob112 : Obj := Obj.mk (Value.type "code") none (Data.fields #[Value.str (Str.ofString "b64encode") 330, Value.str (Str.ofString "b64encode") 331, Value.str (Str.ofString "/claim/cut.py") 332, Value.int 132 0, Value.int 2 0, Value.int 0 0, Value.int 0 0, Value.int 3 0, Value.ref 107, Value.bool true, Value.int 181 0, Value.ref 108, Value.none, Value.ref 109, Value.ref 110, Value.ref 111, Value.int 336 0, Value.int 132 0, Value.str (Str.ofString "/claim/cut.py") 337]) #[]
noncomputable def ob113 : Obj := fnO (stmtAt 16) (Str.ofString "b64encode") (Value.ref 106) Value.none (Value.str (Str.ofString "cpy313.base64") 328) 112
noncomputable def ob116 : Obj := fnB (stmtAt 18) (Str.ofString "_law_bits")
noncomputable def ob117 : Obj := Obj.mk (Value.type "code") none (Data.fields #[Value.str (Str.ofString "_law_bits") 341, Value.str (Str.ofString "_law_bits") 342, Value.str (Str.ofString "/claim/cut.py") 343, Value.int 139 0, Value.int 1 0, Value.int 0 0, Value.int 0 0, Value.int 3 0, Value.ref 114, Value.bool true, Value.int 181 0, Value.ref 115, Value.none, Value.none, Value.none, Value.ref 116, Value.int 344 0, Value.int 139 0, Value.str (Str.ofString "/claim/cut.py") 345]) #[]
noncomputable def ob118 : Obj := fnO (stmtAt 18) (Str.ofString "_law_bits") Value.none Value.none (Value.str (Str.ofString "law_nq0020_01") 339) 117
noncomputable def ob121 : Obj := fnB (stmtAt 19) (Str.ofString "_law_sixes")
noncomputable def ob122 : Obj := Obj.mk (Value.type "code") none (Data.fields #[Value.str (Str.ofString "_law_sixes") 347, Value.str (Str.ofString "_law_sixes") 348, Value.str (Str.ofString "/claim/cut.py") 349, Value.int 141 0, Value.int 1 0, Value.int 0 0, Value.int 0 0, Value.int 3 0, Value.ref 119, Value.bool true, Value.int 181 0, Value.ref 120, Value.none, Value.none, Value.none, Value.ref 121, Value.int 350 0, Value.int 141 0, Value.str (Str.ofString "/claim/cut.py") 351]) #[]
noncomputable def ob123 : Obj := fnO (stmtAt 19) (Str.ofString "_law_sixes") Value.none Value.none (Value.str (Str.ofString "law_nq0020_01") 339) 122
noncomputable def ob126 : Obj := Obj.mk (Value.type "tuple") none (Data.seq #[Value.str (Str.ofString "i") 356, Value.str (Str.ofString "signs") 357]) #[]
noncomputable def ob128 : Obj := fnB (stmtAt 20) (Str.ofString "_law_parts")
noncomputable def ob129 : Obj := Obj.mk (Value.type "code") none (Data.fields #[Value.str (Str.ofString "_law_parts") 353, Value.str (Str.ofString "_law_parts") 354, Value.str (Str.ofString "/claim/cut.py") 355, Value.int 144 0, Value.int 2 0, Value.int 0 0, Value.int 0 0, Value.int 3 0, Value.ref 124, Value.bool true, Value.int 181 0, Value.ref 125, Value.none, Value.ref 126, Value.ref 127, Value.ref 128, Value.int 358 0, Value.int 144 0, Value.str (Str.ofString "/claim/cut.py") 359]) #[]
noncomputable def ob130 : Obj := fnO (stmtAt 20) (Str.ofString "_law_parts") Value.none Value.none (Value.str (Str.ofString "law_nq0020_01") 339) 129
noncomputable def ob133 : Obj := Obj.mk (Value.type "tuple") none (Data.seq #[Value.str (Str.ofString "numbers") 364, Value.str (Str.ofString "signs") 365, Value.str (Str.ofString "mods") 366, Value.str (Str.ofString "size") 367, Value.str (Str.ofString "n") 368, Value.str (Str.ofString "q") 369]) #[]
noncomputable def ob135 : Obj := fnB (stmtAt 21) (Str.ofString "_law_mods")
noncomputable def ob136 : Obj := Obj.mk (Value.type "code") none (Data.fields #[Value.str (Str.ofString "_law_mods") 361, Value.str (Str.ofString "_law_mods") 362, Value.str (Str.ofString "/claim/cut.py") 363, Value.int 146 0, Value.int 2 0, Value.int 0 0, Value.int 0 0, Value.int 3 0, Value.ref 131, Value.bool true, Value.int 181 0, Value.ref 132, Value.none, Value.ref 133, Value.ref 134, Value.ref 135, Value.int 370 0, Value.int 146 0, Value.str (Str.ofString "/claim/cut.py") 371]) #[]
noncomputable def ob137 : Obj := fnO (stmtAt 21) (Str.ofString "_law_mods") Value.none Value.none (Value.str (Str.ofString "law_nq0020_01") 339) 136
noncomputable def ob140 : Obj := Obj.mk (Value.type "tuple") none (Data.seq #[Value.str (Str.ofString "bits") 376, Value.str (Str.ofString "signs") 377, Value.str (Str.ofString "mods") 378, Value.str (Str.ofString "early") 379, Value.str (Str.ofString "kept") 380, Value.str (Str.ofString "bit") 381, Value.str (Str.ofString "i") 382, Value.str (Str.ofString "parts") 383, Value.str (Str.ofString "mod") 384]) #[]
noncomputable def ob142 : Obj := fnB (stmtAt 22) (Str.ofString "_law_kept")
noncomputable def ob143 : Obj := Obj.mk (Value.type "code") none (Data.fields #[Value.str (Str.ofString "_law_kept") 373, Value.str (Str.ofString "_law_kept") 374, Value.str (Str.ofString "/claim/cut.py") 375, Value.int 155 0, Value.int 4 0, Value.int 0 0, Value.int 0 0, Value.int 3 0, Value.ref 138, Value.bool true, Value.int 181 0, Value.ref 139, Value.none, Value.ref 140, Value.ref 141, Value.ref 142, Value.int 385 0, Value.int 155 0, Value.str (Str.ofString "/claim/cut.py") 386]) #[]
noncomputable def ob144 : Obj := fnO (stmtAt 22) (Str.ofString "_law_kept") Value.none Value.none (Value.str (Str.ofString "law_nq0020_01") 339) 143
noncomputable def ob147 : Obj := Obj.mk (Value.type "tuple") none (Data.seq #[Value.str (Str.ofString "home") 391, Value.str (Str.ofString "bit") 392, Value.str (Str.ofString "i") 393]) #[]
noncomputable def ob149 : Obj := fnB (stmtAt 23) (Str.ofString "_law_file")
noncomputable def ob150 : Obj := Obj.mk (Value.type "code") none (Data.fields #[Value.str (Str.ofString "_law_file") 388, Value.str (Str.ofString "_law_file") 389, Value.str (Str.ofString "/claim/cut.py") 390, Value.int 165 0, Value.int 3 0, Value.int 0 0, Value.int 0 0, Value.int 3 0, Value.ref 145, Value.bool true, Value.int 181 0, Value.ref 146, Value.none, Value.ref 147, Value.ref 148, Value.ref 149, Value.int 394 0, Value.int 165 0, Value.str (Str.ofString "/claim/cut.py") 395]) #[]
noncomputable def ob151 : Obj := fnO (stmtAt 23) (Str.ofString "_law_file") Value.none Value.none (Value.str (Str.ofString "law_nq0020_01") 339) 150
noncomputable def ob154 : Obj := fnB (stmtAt 24) (Str.ofString "_law_made")
noncomputable def ob155 : Obj := Obj.mk (Value.type "code") none (Data.fields #[Value.str (Str.ofString "_law_made") 397, Value.str (Str.ofString "_law_made") 398, Value.str (Str.ofString "/claim/cut.py") 399, Value.int 169 0, Value.int 2 0, Value.int 0 0, Value.int 0 0, Value.int 3 0, Value.ref 152, Value.bool true, Value.int 181 0, Value.ref 153, Value.none, Value.none, Value.none, Value.ref 154, Value.int 400 0, Value.int 169 0, Value.str (Str.ofString "/claim/cut.py") 401]) #[]
noncomputable def ob156 : Obj := fnO (stmtAt 24) (Str.ofString "_law_made") Value.none Value.none (Value.str (Str.ofString "law_nq0020_01") 339) 155
noncomputable def ob159 : Obj := fnB (stmtAt 25) (Str.ofString "_law_run")
noncomputable def ob160 : Obj := Obj.mk (Value.type "code") none (Data.fields #[Value.str (Str.ofString "_law_run") 403, Value.str (Str.ofString "_law_run") 404, Value.str (Str.ofString "/claim/cut.py") 405, Value.int 174 0, Value.int 4 0, Value.int 0 0, Value.int 0 0, Value.int 3 0, Value.ref 157, Value.bool true, Value.int 181 0, Value.ref 158, Value.none, Value.none, Value.none, Value.ref 159, Value.int 406 0, Value.int 174 0, Value.str (Str.ofString "/claim/cut.py") 407]) #[]
noncomputable def ob161 : Obj := fnO (stmtAt 25) (Str.ofString "_law_run") Value.none Value.none (Value.str (Str.ofString "law_nq0020_01") 339) 160
noncomputable def ob164 : Obj := fnB (stmtAt 26) (Str.ofString "law")
noncomputable def ob165 : Obj := Obj.mk (Value.type "code") none (Data.fields #[Value.str (Str.ofString "law") 409, Value.str (Str.ofString "law") 410, Value.str (Str.ofString "/claim/cut.py") 411, Value.int 177 0, Value.int 1 0, Value.int 0 0, Value.int 0 0, Value.int 3 0, Value.ref 162, Value.bool true, Value.int 181 0, Value.ref 163, Value.none, Value.none, Value.none, Value.ref 164, Value.int 412 0, Value.int 177 0, Value.str (Str.ofString "/claim/cut.py") 413]) #[]
noncomputable def ob166 : Obj := fnO (stmtAt 26) (Str.ofString "law") Value.none Value.none (Value.str (Str.ofString "law_nq0020_01") 339) 165
noncomputable def hT0 (P : Params) : BT := .node (boot_o_0 P) (.node (boot_o_1 P) (.node (boot_o_3 P) (.node (boot_o_7 P) .nil .nil) (.node ob11 .nil .nil)) (.node (boot_o_5 P) (.node (boot_o_9 P) .nil .nil) (.node ob13 .nil .nil))) (.node (boot_o_2 P) (.node (boot_o_4 P) (.node (boot_o_8 P) .nil .nil) (.node ob12s47 .nil .nil)) (.node (boot_o_6 P) (.node (boot_o_10 P) .nil .nil) (.node ob14 .nil .nil)))
noncomputable def hT1 (P : Params) : BT := .node (boot_o_0 P) (.node (boot_o_1 P) (.node (ob3s92 P) (.node (boot_o_7 P) (.node ob11 (.node ob31 .nil .nil) (.node ob47 .nil .nil)) (.node ob12s47 (.node ob11 .nil .nil) (.node ob55 .nil .nil))) (.node ob11 (.node ob19 (.node ob35 .nil .nil) (.node ob12s47 .nil .nil)) (.node ob27 (.node ob11 .nil .nil) .nil))) (.node (boot_o_5 P) (.node (boot_o_9 P) (.node ob17 (.node ob33 .nil .nil) (.node ob49 .nil .nil)) (.node ob11 (.node ob41 .nil .nil) .nil)) (.node ob13 (.node ob21 (.node ob12s47 .nil .nil) (.node ob11 .nil .nil)) (.node ob11 (.node ob45 .nil .nil) .nil)))) (.node (boot_o_2 P) (.node (boot_o_4 P) (.node (boot_o_8 P) (.node ob12s47 (.node ob11 .nil .nil) (.node ob48 .nil .nil)) (.node ob24 (.node ob40 .nil .nil) (.node ob56 .nil .nil))) (.node ob12s92 (.node ob20 (.node ob11 .nil .nil) (.node ob52 .nil .nil)) (.node ob28 (.node ob12s47 .nil .nil) .nil))) (.node (boot_o_6 P) (.node (boot_o_10 P) (.node ob11 (.node ob34 .nil .nil) (.node ob11 .nil .nil)) (.node ob26 (.node ob42 .nil .nil) .nil)) (.node ob14 (.node ob11 (.node ob38 .nil .nil) (.node ob54 .nil .nil)) (.node ob12s47 (.node ob11 .nil .nil) .nil))))
noncomputable def hT2 (P : Params) : BT := .node (boot_o_0 P) (.node (boot_o_1 P) (.node (ob3s143 P) (.node (boot_o_7 P) (.node ob11 (.node ob31 (.node ob63 .nil .nil) (.node ob95 .nil .nil)) (.node ob47 (.node ob79 .nil .nil) .nil)) (.node ob12s47 (.node ob11 (.node ob12s47 .nil .nil) (.node ob103 .nil .nil)) (.node ob55 (.node ob11 .nil .nil) .nil))) (.node ob11 (.node ob19 (.node ob35 (.node ob67 .nil .nil) (.node ob11 .nil .nil)) (.node ob12s47 (.node ob83 .nil .nil) .nil)) (.node ob27 (.node ob11 (.node ob75 .nil .nil) .nil) (.node (ob59 P) (.node ob11 .nil .nil) .nil)))) (.node (boot_o_5 P) (.node (boot_o_9 P) (.node ob17 (.node ob33 (.node ob11 .nil .nil) (.node ob97 .nil .nil)) (.node ob49 (.node ob81 .nil .nil) .nil)) (.node ob11 (.node ob41 (.node ob11 .nil .nil) (.node ob105 .nil .nil)) (.node ob11 (.node ob89 .nil .nil) .nil))) (.node ob13 (.node ob21 (.node ob12s47 (.node ob69 .nil .nil) (.node ob101 .nil .nil)) (.node ob11 (.node ob12s47 .nil .nil) .nil)) (.node ob11 (.node ob45 (.node ob77 .nil .nil) .nil) (.node ob61 (.node ob93 .nil .nil) .nil))))) (.node (boot_o_2 P) (.node (boot_o_4 P) (.node (boot_o_8 P) (.node ob12s47 (.node ob11 (.node ob64 .nil .nil) (.node ob96 .nil .nil)) (.node ob48 (.node ob80 .nil .nil) .nil)) (.node ob24 (.node ob40 (.node ob72 .nil .nil) (.node ob104 .nil .nil)) (.node ob56 (.node ob88 .nil .nil) .nil))) (.node ob12s143 (.node ob20 (.node ob11 (.node ob68 .nil .nil) (.node ob12s47 .nil .nil)) (.node ob52 (.node ob11 .nil .nil) .nil)) (.node ob28 (.node ob12s47 (.node ob76 .nil .nil) .nil) (.node ob11 (.node ob12s47 .nil .nil) .nil)))) (.node (boot_o_6 P) (.node (boot_o_10 P) (.node ob11 (.node ob34 (.node ob12s47 .nil .nil) (.node (ob98 P) .nil .nil)) (.node ob11 (.node ob82 .nil .nil) .nil)) (.node ob26 (.node ob42 (.node ob74 .nil .nil) .nil) (.node ob58 (.node ob90 .nil .nil) .nil))) (.node ob14 (.node ob11 (.node ob38 (.node ob11 .nil .nil) (.node ob11 .nil .nil)) (.node ob54 (.node ob86 .nil .nil) .nil)) (.node ob12s47 (.node ob11 (.node (ob78 P) .nil .nil) .nil) (.node ob62 (.node ob11 .nil .nil) .nil)))))
noncomputable def hT3 (P : Params) : BT := .node (boot_o_0 P) (.node (boot_o_1 P) (.node (ob3 P) (.node (boot_o_7 P) (.node ob11 (.node ob31 (.node ob63 (.node ob11 .nil .nil) .nil) (.node ob95 (.node ob159 .nil .nil) .nil)) (.node ob47 (.node ob79 (.node ob143 .nil .nil) .nil) (.node ob111 .nil .nil))) (.node ob12s47 (.node ob11 (.node ob12s47 (.node ob135 .nil .nil) .nil) (.node ob103 .nil .nil)) (.node ob55 (.node ob11 (.node ob151 .nil .nil) .nil) (.node ob11 .nil .nil)))) (.node ob11 (.node ob19 (.node ob35 (.node ob67 (.node ob11 .nil .nil) .nil) (.node ob11 (.node ob12s47 .nil .nil) .nil)) (.node ob12s47 (.node ob83 (.node ob147 .nil .nil) .nil) (.node ob12s47 .nil .nil))) (.node ob27 (.node ob11 (.node ob75 (.node ob12s47 .nil .nil) .nil) (.node ob11 .nil .nil)) (.node (ob59 P) (.node ob11 (.node ob155 .nil .nil) .nil) (.node ob123 .nil .nil))))) (.node (boot_o_5 P) (.node (boot_o_9 P) (.node ob17 (.node ob33 (.node ob11 (.node ob129 .nil .nil) .nil) (.node ob97 (.node ob161 .nil .nil) .nil)) (.node ob49 (.node ob81 (.node ob11 .nil .nil) .nil) (.node ob113 .nil .nil))) (.node ob11 (.node ob41 (.node ob11 (.node ob137 .nil .nil) .nil) (.node ob105 .nil .nil)) (.node ob11 (.node ob89 (.node ob12s47 .nil .nil) .nil) (.node ob121 .nil .nil)))) (.node ob13 (.node ob21 (.node ob12s47 (.node ob69 (.node ob133 .nil .nil) .nil) (.node ob101 (.node ob165 .nil .nil) .nil)) (.node ob11 (.node ob12s47 (.node ob149 .nil .nil) .nil) (.node ob117 .nil .nil))) (.node ob11 (.node ob45 (.node ob77 (.node ob11 .nil .nil) .nil) (.node ob109 .nil .nil)) (.node ob61 (.node ob93 (.node ob11 .nil .nil) .nil) (.node ob12s47 .nil .nil)))))) (.node (boot_o_2 P) (.node (boot_o_4 P) (.node (boot_o_8 P) (.node ob12s47 (.node ob11 (.node ob64 (.node ob128 .nil .nil) .nil) (.node ob96 (.node ob160 .nil .nil) .nil)) (.node ob48 (.node ob80 (.node ob144 .nil .nil) .nil) (.node ob112 .nil .nil))) (.node ob24 (.node ob40 (.node ob72 (.node ob136 .nil .nil) .nil) (.node ob104 .nil .nil)) (.node ob56 (.node ob88 (.node ob11 .nil .nil) .nil) (.node ob12s47 .nil .nil)))) (.node ob12 (.node ob20 (.node ob11 (.node ob68 (.node ob12s47 .nil .nil) .nil) (.node ob12s47 (.node ob164 .nil .nil) .nil)) (.node ob52 (.node ob11 (.node ob11 .nil .nil) .nil) (.node ob116 .nil .nil))) (.node ob28 (.node ob12s47 (.node ob76 (.node ob140 .nil .nil) .nil) (.node ob12s47 .nil .nil)) (.node ob11 (.node ob12s47 (.node ob156 .nil .nil) .nil) (.node ob11 .nil .nil))))) (.node (boot_o_6 P) (.node (boot_o_10 P) (.node ob11 (.node ob34 (.node ob12s47 (.node ob130 .nil .nil) .nil) (.node (ob98 P) (.node ob11 .nil .nil) .nil)) (.node ob11 (.node ob82 (.node ob12s47 .nil .nil) .nil) (.node ob11 .nil .nil))) (.node ob26 (.node ob42 (.node ob74 (.node ob11 .nil .nil) .nil) (.node ob106 .nil .nil)) (.node ob58 (.node ob90 (.node ob154 .nil .nil) .nil) (.node ob122 .nil .nil)))) (.node ob14 (.node ob11 (.node ob38 (.node ob11 (.node ob11 .nil .nil) .nil) (.node ob11 (.node ob166 .nil .nil) .nil)) (.node ob54 (.node ob86 (.node ob150 .nil .nil) .nil) (.node ob118 .nil .nil))) (.node ob12s47 (.node ob11 (.node (ob78 P) (.node ob142 .nil .nil) .nil) (.node ob11 .nil .nil)) (.node ob62 (.node ob11 (.node ob12s47 .nil .nil) .nil) (.node ob126 .nil .nil))))))
noncomputable def hH0 (P : Params) : Heap := ⟨#[boot_o_0 P, boot_o_1 P, boot_o_2 P, boot_o_3 P, boot_o_4 P, boot_o_5 P, boot_o_6 P, boot_o_7 P, boot_o_8 P, boot_o_9 P, boot_o_10 P, ob11, ob12s47, ob13, ob14], {}⟩
noncomputable def hH1 (P : Params) : Heap := ⟨#[boot_o_0 P, boot_o_1 P, boot_o_2 P, ob3 P, boot_o_4 P, boot_o_5 P, boot_o_6 P, boot_o_7 P, boot_o_8 P, boot_o_9 P, boot_o_10 P, ob11, ob12, ob13, ob14, ob11, ob12s47, ob17, ob11, ob19, ob20, ob21, ob11, ob12s47, ob24, ob11, ob26, ob27, ob28, ob11, ob12s47, ob31, ob11, ob33, ob34, ob35, ob11, ob12s47, ob38, ob11, ob40, ob41, ob42, ob11, ob12s47, ob45, ob11, ob47, ob48, ob49, ob11, ob12s47, ob52, ob11, ob54, ob55, ob56, ob11, ob58, ob59 P, ob11, ob61, ob62, ob63, ob64, ob11, ob12s47, ob67, ob68, ob69, ob11, ob12s47, ob72, ob11, ob74, ob75, ob76, ob77, ob78 P, ob79, ob80, ob81, ob82, ob83, ob11, ob12s47, ob86, ob11, ob88, ob89, ob90, ob11, ob12s47, ob93, ob11, ob95, ob96, ob97, ob98 P, ob11, ob12s47, ob101, ob11, ob103, ob104, ob105, ob106, ob11, ob12s47, ob109, ob11, ob111, ob112, ob113, ob11, ob12s47, ob116, ob117, ob118, ob11, ob12s47, ob121, ob122, ob123, ob11, ob12s47, ob126, ob11, ob128, ob129, ob130, ob11, ob12s47, ob133, ob11, ob135, ob136, ob137, ob11, ob12s47, ob140, ob11, ob142, ob143, ob144, ob11, ob12s47, ob147, ob11, ob149, ob150, ob151, ob11, ob12s47, ob154, ob155, ob156, ob11, ob12s47, ob159, ob160, ob161, ob11, ob12s47, ob164, ob165, ob166], {}⟩
abbrev hdRow : RowW := (PySem.Challenge.rw_nq0020_01.row).toRowW
noncomputable abbrev hp : Program := RowW.prog hdRow
noncomputable def hEnv : Env := { scope := hp.main.scope, locals := mainNs, globals := mainNs, cells := [], code := .ref 13, frame := some 14 }
noncomputable def cut (a n : Nat) : List Stmt := ((behindTheImports hp).drop a).take n
noncomputable abbrev bB : Code := .body (behindTheImports hp) hEnv
noncomputable abbrev sB (s : List Stmt) (p : Pos) : Thread := piecesOf s hEnv bB p [topFrame ⟨0, 0, 0, 0⟩]
noncomputable abbrev stT (t : BT) (n k : Nat) (os : OsState) : SharedT := ⟨t, n, {}, #[], {}, k, os⟩
theorem cuts : behindTheImports hp = cut 0 9 ++ (cut 9 7 ++ (cut 16 11 ++ [])) := by kernel_rfl
theorem hdOpen (w : World) : (fencedOpening treeTable hp w 1938).map (fun s => (s.heap, s.gens, s.drawn, s.toks)) = some (boot_heap w.params, #[], boot_drawn, boot_toks) := boot_open (by kernel_rfl) (by decide) (fun s => by kernel_rfl) w
theorem hdSize (w : World) : ((boot_heap w.params).isNs mainGlobals && (#[] : Array GenState).size == 0, (boot_heap w.params).objs.size, (boot_heap w.params).nsMap mainGlobals "__annotations__") = (true, 11, some (.ref 6)) := by kernel_rfl
theorem hdPre (w : World) : (fun os => topGo treeTable hp w 11 (some (.ref 6)) 12 ⟨boot_heap w.params, #[], boot_drawn, boot_toks, os⟩ (topStub hp)) = fun os => some (⟨hH0 w.params, #[], {}, 187, os⟩, ⟨denote treeTable bB, bB, ⟨0, 0, 0, 0⟩, [topFrame ⟨0, 0, 0, 0⟩]⟩) := by kernel_rfl
theorem hdBlock (w : World) : (fun os => segRun treeTable hp w 11 (some (.ref 6)) 1 1 ⟨hH0 w.params, #[], {}, 187, os⟩ (blockOf (behindTheImports hp) hEnv bB ⟨0, 0, 0, 0⟩ [topFrame ⟨0, 0, 0, 0⟩])) = fun os => some (.next, (stT (hT0 w.params) 15 187 os).abs, bB, ⟨0, 0, 0, 0⟩) := by kernel_rfl
theorem hdRun1 (w : World) : (fun os => segRunT treeTable hp w 11 (some (.ref 6)) 1 221 (stT (hT0 w.params) 15 187 os) (sB (cut 0 9) ⟨0, 0, 0, 0⟩)) = fun os => some (.next, stT (hT1 w.params) 57 254 os, bB, ⟨68, 0, 68, 8⟩) := by
  first
  | (rw [PySem.W.Fast.te10110043849684766642, PySem.W.Fast.te14364793385576792824]; kernel_rfl)
  | kernel_rfl
theorem hdRun2 (w : World) : (fun os => segRunT treeTable hp w 11 (some (.ref 6)) 1 384 (stT (hT1 w.params) 57 254 os) (sB (cut 9 7) ⟨68, 0, 68, 8⟩)) = fun os => some (.next, stT (hT2 w.params) 106 330 os, bB, ⟨131, 0, 131, 8⟩) := by
  first
  | (rw [PySem.W.Fast.te10110043849684766642, PySem.W.Fast.te14364793385576792824]; kernel_rfl)
  | kernel_rfl
theorem hdRun3 (w : World) : (fun os => segRunT treeTable hp w 11 (some (.ref 6)) 1 304 (stT (hT2 w.params) 106 330 os) (sB (cut 16 11) ⟨131, 0, 131, 8⟩)) = fun os => some (.next, stT (hT3 w.params) 167 415 os, bB, ⟨177, 0, 194, 64⟩) := by
  first
  | (rw [PySem.W.Fast.te10110043849684766642, PySem.W.Fast.te14364793385576792824]; kernel_rfl)
  | kernel_rfl
theorem hdEnd (w : World) : (fun os => topRun treeTable hp w 11 (some (.ref 6)) 2 (stT (hT3 w.params) 167 415 os).abs ⟨doneF .next, bB, ⟨177, 0, 194, 64⟩, [topFrame ⟨0, 0, 0, 0⟩]⟩) = fun os => some ⟨hH1 w.params, #[], {}, 415, os⟩ := by kernel_rfl
theorem hdRun (w : World) (os : OsState) : topRun treeTable hp w 11 (some (.ref 6)) (12 + (1 + (221 + (384 + (304 + 2))))) ⟨boot_heap w.params, #[], boot_drawn, boot_toks, os⟩ (topStub hp) = some ⟨hH1 w.params, #[], {}, 415, os⟩ := by
  refine go_top (congrFun (hdPre w) os) ?_
  refine piece_block (congrFun (hdBlock w) os) ?_
  rw [cuts]
  refine piece_app (segRun_of (congrFun (hdRun1 w) os)) ?_
  refine piece_app (segRun_of (congrFun (hdRun2 w) os)) ?_
  refine piece_app (segRun_of (congrFun (hdRun3 w) os)) ?_
  exact congrFun (hdEnd w) os
noncomputable def hdView : Program := { PySem.Challenge.pw_nq0020_01 with main := { PySem.Challenge.pw_nq0020_01.main with body := [0, 1, 3, 4, 5, 6, 7, 9, 11, 12, 13, 18, 19, 20, 21, 22, 23, 24, 25, 26].map stmtAt } }
noncomputable abbrev hdLoose : List Str := [Str.ofString "b2a_base64", Str.ofString "b64encode"]
noncomputable abbrev hdHook : Hook := kHook KP [3, 64, 68, 69, 75, 76, 78, 79, 89, 90, 96, 97, 98, 104, 105, 106, 112, 113, 117, 118, 122, 123, 129, 130, 136, 137, 143, 144, 150, 151, 155, 156, 160, 161, 165, 166] (fun P => KP_keys P)
noncomputable abbrev hdXt : Shared → Bool := fun s => xlAt hdView [] s && recOk (RowW.records hdRow) s
noncomputable abbrev hS (w : World) (os : OsState) : Shared := ⟨hH1 w.params, #[], {}, 415, os⟩
theorem hdL0 (w : World) (os : OsState) : (staticsOk (importedModules hp.main.body) (boot_heap w.params) (hH1 w.params) && namesBound hp (hH1 w.params) && gensDone (hS w os) && laidKept (boot_heap w.params) (hH1 w.params)) = true := by kernel_rfl
theorem hdL1 (w : World) (os : OsState) : seen ((recsOf hdView).map (·.name)) (ownsOf hdView) [] { hS w os with gens := #[] } = expectedOf hdView := by kernel_rfl
theorem hdL2 (w : World) (os : OsState) : (hS w os).heap.bltView = bltViewBooted := by kernel_rfl
theorem hdL3 (w : World) (os : OsState) : ((hS w os).heap.keysOk (looseW hdView hdLoose) ((recsOf hdView).map (·.name)) ((litsOf hdView).map (·.1)) ((clssOf hdView (looseW hdView hdLoose)).map (·.name)) && (hS w os).heap.accountedOkI (importedModules hp.main.body) && (hS w os).heap.isNs mainGlobals && (hS w os).heap.isNs builtinsNs && tablesOk hdView (hS w os).heap && hdXt (hS w os) && (if true then (hS w os).gens.size == 0 else !leftWithCleanup (hS w os).gens)) = true := by kernel_rfl
theorem hdL4 (w : World) (os : OsState) : tabsOk hdView (hS w os) = true := by kernel_rfl
theorem hdL5 (w : World) (os : OsState) : pinSeenD hdView (drecsOf hdView) (hS w os) = pinGoodD (drecsOf hdView) := by kernel_rfl
theorem hdL6 (w : World) (os : OsState) : plainSeenE hdView (looseW hdView hdLoose) (hS w os) = plainGoodE hdView (looseW hdView hdLoose) := by kernel_rfl
theorem hdL7 (w : World) (os : OsState) : plainSeenD hdView hdLoose (hS w os) = plainGoodD hdView hdLoose := by kernel_rfl
theorem hdL8 (w : World) (os : OsState) : wideSeen hdView (hS w os) = wideGood hdView := by kernel_rfl
theorem hdL9 (w : World) (os : OsState) : clsSeenW hdView hdLoose (hS w os) = clsGoodW hdView hdLoose := by kernel_rfl
theorem hdY (w : World) (os : OsState) : Hook.obs hdHook (hS w os) = Hook.val hdHook w := by kernel_rfl
theorem hdLooks (w : World) : (fun os => ((staticsOk (importedModules hp.main.body) (boot_heap w.params) (hH1 w.params) && namesBound hp (hH1 w.params) && gensDone (hS w os) && laidKept (boot_heap w.params) (hH1 w.params)), openSeen hdView hdLoose (importedModules hp.main.body) hdXt true (hS w os), Hook.obs hdHook (hS w os))) = fun _ => (true, openGood hdView hdLoose, Hook.val hdHook w) := funext fun os =>
  looks_pair (hdL0 w os) (looks_pair (looks_pair (hdL1 w os) (looks_pair (hdL2 w os) (looks_pair (hdL3 w os) (looks_pair (hdL4 w os) (looks_pair (hdL5 w os) (looks_pair (hdL6 w os) (looks_pair (hdL7 w os) (looks_pair (hdL8 w os) (hdL9 w os))))))))) (hdY w os))
theorem hdLeft : LeftO hp hdView hdLoose hdXt (Hook.obs hdHook) (Hook.val hdHook) 1938 := LeftO.of_pieces hdOpen hdSize hdRun (by decide) hdLooks
noncomputable abbrev hq : Program := PySem.Challenge.rw_nq0020_01.row.prog
theorem road_app (lk : Look) : ∀ a b : List Stmt, noRoadLSs lk (a ++ b) = (noRoadLSs lk a && noRoadLSs lk b)
  | [], b => by rw [List.nil_append]; unfold noRoadLSs; rw [Bool.true_and]
  | s :: a, b => by
    rw [List.cons_append]
    show (noRoadLS lk s && noRoadLSs lk (a ++ b)) = ((noRoadLS lk s && noRoadLSs lk a) && noRoadLSs lk b)
    rw [road_app lk a b, Bool.and_assoc]
noncomputable def hcut (a n : Nat) : List Stmt := (hq.main.body.drop a).take n
theorem said_cuts : hq.main.body = hcut 0 9 ++ (hcut 9 8 ++ (hcut 17 9 ++ hcut 26 1)) := by kernel_rfl
noncomputable abbrev sLook : Look := { strict := !(importedModules hq.main.body).all cThrough.contains, foot := none, bare := (["vars", "dir", "locals"] : List Str).filter (readsOut hq hq.main.body) }
theorem said_strict : (importedModules hq.main.body).all cThrough.contains = true := by kernel_rfl
theorem said_bare : (["vars", "dir", "locals"] : List Str).filter (readsOut hq hq.main.body) = [] := by kernel_rfl
noncomputable abbrev pLook : Look := { strict := false, foot := none, bare := [] }
theorem said_look : sLook = pLook := by unfold sLook; rw [said_strict, said_bare]; rfl
theorem road1 : noRoadLSs pLook (hcut 0 9) = true := by kernel_rfl
theorem road2 : noRoadLSs pLook (hcut 9 8) = true := by kernel_rfl
theorem road3 : noRoadLSs pLook (hcut 17 9) = true := by kernel_rfl
theorem road4 : noRoadLSs pLook (hcut 26 1) = true := by kernel_rfl
theorem said_road : noRoadLSs sLook hq.main.body = true := by
  rw [said_look, said_cuts, road_app, road_app, road_app]
  exact look_both road1 (look_both road2 (look_both road3 road4))
theorem said_names : namesResolve hq = true := by
  first
  | (rw [PySem.W.Fast.te8377067652309620493]; kernel_rfl)
  | kernel_rfl
theorem said_row : PySem.Challenge.rw_nq0020_01.row.wellSaid = true := by
  unfold OpenRow.wellSaid OpenRow.partSaid looksOpen
  with_reducible repeat' apply look_both
  all_goals first | with_reducible exact said_road | with_reducible exact said_names | decide +kernel
theorem law_said : PySem.Challenge.rw_nq0020_01.wellSaid = true := by
  unfold OpenLaw.wellSaid
  with_reducible repeat' apply look_both
  · exact said_row
  all_goals decide +kernel
theorem hdDef : ∃ d kwd, defOf hdView hdRow.name = some (d, kwd) ∧ hdRow.prog.theDef hdRow.name = some (d.params, d.body, d.scope) ∧ kwWritten? d.params.kwonlyargs d.params.kw_defaults = some kwd ∧ d.name = Str.ofString "law" := by
  have h : (defOf hdView hdRow.name).isSome = true := by kernel_rfl
  exact ⟨((defOf hdView hdRow.name).get h).1, ((defOf hdView hdRow.name).get h).2, (Option.some_get h).symm, by kernel_rfl, by kernel_rfl, by kernel_rfl⟩
theorem hdFits : (chainsOk hdView && opensWell hdRow.prog && (frees hdRow && hdRow.within.isEmpty)) = true := by decide +kernel
theorem hdTables : hdRow.prog.tablesWhole = true := by decide +kernel
theorem hdWit : hdRow.promised := by w_witness2
theorem hd (walk : ∀ d kwd, d.name = Str.ofString "law" → WalkO hdView hdLoose (XL hdView []) (Hook.says hdHook) hdRow d kwd fun f vs => PySem.call f vs) : PySem.Challenge.rw_nq0020_01.Holds := by
  obtain ⟨d, kwd, h1, h2, h3, h4⟩ := hdDef
  refine holds_law law_said fun said => ?_
  exact holds_open (q := hdView) (loose := hdLoose) (Xt := hdXt) (XP := XL hdView []) (Yf := Hook.obs hdHook) (Ya := Hook.val hdHook) (YP := Hook.says hdHook) (N := 1938) hdLeft (Hook.of hdHook) (Hook.keeps hdHook) (fun s e => xl_of s (Bool.and_eq_true_iff.mp e).1) XL.keeps h1 h2 h3 (fun s e => recFacts_of (Bool.and_eq_true_iff.mp e).2) (by rfl) said hdFits ⟨rfl, rfl, rfl, rfl, rfl, hdTables⟩ hdWit (walk d kwd h4)
end Top
end Mine

/-! # NqBase -/
namespace Mine
theorem lt_dep0 {d a r : Nat} (h : d + a < r) : d < r := Nat.lt_of_le_of_lt (Nat.le_add_right _ _) h
theorem lt_dep {d a b r : Nat} (h : d + a < r) (k : b ≤ a) : d + b < r := Nat.lt_of_le_of_lt (Nat.add_le_add_left k _) h
theorem lt_dep1 {d d' a b j r : Nat} (h : d + a < r) (e : d' = d + j) (k : j + b ≤ a) : d' + b < r := by subst e; rw [Nat.add_assoc]; exact lt_dep h k
theorem lt_dep1z {d d' a j r : Nat} (h : d + a < r) (e : d' = d + j) (k : j ≤ a) : d' < r := by subst e; exact lt_dep h k
theorem mk_le {x m k c : Nat} (h : x = m * k) (hk : k ≤ 2) (hc : m * 2 ≤ c) : x ≤ c := by subst h; exact Nat.le_trans (Nat.mul_le_mul_left _ hk) hc
theorem mk_lt {x m k c : Nat} (h : x = m * k) (hk : k ≤ 2) (hc : m * 2 < c) : x < c := by subst h; exact Nat.lt_of_le_of_lt (Nat.mul_le_mul_left _ hk) hc
theorem mk_pos {x m k : Nat} (h : x = m * k) (hk : 0 < k) (hm : 0 < m) : 0 < x := by subst h; exact Nat.mul_pos hm hk
theorem mk_mod {x m k n : Nat} (h : x = m * k) (hm : m % n = 0) : x % n = 0 := by subst h; rw [Nat.mul_mod, hm, Nat.zero_mul, Nat.zero_mod]
theorem mk_six {x y k : Nat} (h : x = 24 * k) (h' : y = 4 * k) : x = 6 * y := by subst h h'; rw [← Nat.mul_assoc]

/-! ## part of a heap -/
noncomputable def Sub (g h : Heap) : Prop := ∀ b o, g.get? b = some o → h.get? b = some o
theorem Sub.refl (h : Heap) : Sub h h := fun _ _ e => e
theorem Sub.trans {a b c : Heap} (x : Sub a b) (y : Sub b c) : Sub a c := fun p o e => y p o (x p o e)

open Classical in
noncomputable def cut (h : Heap) (p : Addr → Prop) : Heap := { h with objs := h.objs.mapIdx fun i o => if p i then o else { o with data := .freed } }
open Classical in
theorem cut_get (h : Heap) (p : Addr → Prop) (b : Addr) : (cut h p).get? b = if p b then h.get? b else none := by
  unfold cut Heap.get?
  simp only [Array.getElem?_mapIdx]
  cases e : h.objs[b]? with
  | none => simp
  | some o =>
    obtain ⟨c, d, dt, sl⟩ := o
    by_cases hp : p b
    · simp [hp]
    · simp [hp]
theorem cut_some {h : Heap} {p : Addr → Prop} {b : Addr} {o : Obj} : (cut h p).get? b = some o ↔ p b ∧ h.get? b = some o := by
  rw [cut_get]
  by_cases hp : p b <;> simp [hp]
theorem cut_none {h : Heap} {p : Addr → Prop} {b : Addr} (hp : ¬ p b) : (cut h p).get? b = none := by
  rw [cut_get]; simp [hp]

theorem ext_none {h : Heap} {a : Addr} (e : ∀ o, h.get? a ≠ some o) : h.get? a = none := by
  cases q : h.get? a with
  | none => rfl
  | some o => exact absurd q (e o)
theorem get_size (h : Heap) : h.get? h.objs.size = none := ext_none fun _ e => Nat.lt_irrefl _ (Heap.lt_size e)
theorem none_of_le {h : Heap} {a : Addr} (e : h.objs.size ≤ a) : h.get? a = none := ext_none fun _ q => absurd (Heap.lt_size q) (Nat.not_lt.mpr e)

/-- what a step does: the heap and the ground, ahead and behind; `D` may be changed -/
structure Go (D : List Addr) (h : Heap) (os : OsState) (gs : Array GenState) (g : Heap) (h' : Heap) (os' : OsState) (gs' : Array GenState) (g' : Heap) : Prop where
  keep : ∀ b o, b ∉ D → h.get? b = some o → h'.get? b = some o
  live : ∀ b o, h.get? b = some o → ∃ o', h'.get? b = some o'
  up : Sub g g'
  sub : Sub g' h'
  off : ∀ x o, h.get? x = some o → g.get? x = none → g'.get? x = none
  os : os' = os
  gs : gs' = gs
noncomputable abbrev GoS (D : List Addr) (s : Shared) (g : Heap) (s' : Shared) (g' : Heap) : Prop := Go D s.heap s.os s.gens g s'.heap s'.os s'.gens g'

theorem Go.refl {D : List Addr} {h : Heap} {os : OsState} {gs : Array GenState} {g : Heap} (x : Sub g h) : Go D h os gs g h os gs g :=
  ⟨fun _ _ _ e => e, fun _ o e => ⟨o, e⟩, Sub.refl _, x, fun _ _ _ e => e, rfl, rfl⟩
theorem Go.trans {D : List Addr} {h h₁ h₂ g g₁ g₂ : Heap} {os os₁ os₂ : OsState} {gs gs₁ gs₂ : Array GenState} (x : Go D h os gs g h₁ os₁ gs₁ g₁) (y : Go D h₁ os₁ gs₁ g₁ h₂ os₂ gs₂ g₂) : Go D h os gs g h₂ os₂ gs₂ g₂ := by
  refine ⟨fun b o hb e => y.keep b o hb (x.keep b o hb e), fun b o e => let ⟨o', e'⟩ := x.live b o e; y.live b o' e', x.up.trans y.up, y.sub, fun b o e n => ?_, y.os.trans x.os, y.gs.trans x.gs⟩
  obtain ⟨o', e'⟩ := x.live b o e
  exact y.off b o' e' (x.off b o e n)
theorem Go.mono {D D' : List Addr} {h h₁ g g₁ : Heap} {os os₁ : OsState} {gs gs₁ : Array GenState} (x : Go D h os gs g h₁ os₁ gs₁ g₁) (hD : ∀ d ∈ D, d ∈ D') : Go D' h os gs g h₁ os₁ gs₁ g₁ :=
  ⟨fun b o hb e => x.keep b o (fun hm => hb (hD b hm)) e, x.live, x.up, x.sub, x.off, x.os, x.gs⟩
theorem Go.mono0 {D' : List Addr} {h h₁ g g₁ : Heap} {os os₁ : OsState} {gs gs₁ : Array GenState} (x : Go [] h os gs g h₁ os₁ gs₁ g₁) : Go D' h os gs g h₁ os₁ gs₁ g₁ := x.mono fun _ h => by cases h
theorem Go.keep0 {h h₁ g g₁ : Heap} {os os₁ : OsState} {gs gs₁ : Array GenState} (x : Go [] h os gs g h₁ os₁ gs₁ g₁) : Sub h h₁ := fun b o e => x.keep b o (by simp) e

/-- the ground may take in what the heap holds, but what stood before and was hidden -/
theorem Go.adds {D : List Addr} {h h' g g' : Heap} {os os' : OsState} {gs gs' : Array GenState} (x : Go D h os gs g h' os' gs' g') (p : Addr → Prop) (hp : ∀ b o, p b → h.get? b = some o → g.get? b = some o) :
    ∃ g'', Go D h os gs g h' os' gs' g'' ∧ Sub g' g'' ∧ (∀ b o, p b → h'.get? b = some o → g''.get? b = some o) ∧ (∀ b, ¬ p b → g'.get? b = none → g''.get? b = none) := by
  have up : Sub g' (cut h' fun b => p b ∨ (g'.get? b).isSome) := fun b o e => cut_some.mpr ⟨.inr (by rw [e]; rfl), x.sub b o e⟩
  refine ⟨cut h' fun b => p b ∨ (g'.get? b).isSome, ⟨x.keep, x.live, x.up.trans up, fun b o e => (cut_some.mp e).2, fun b o e n => ?_, x.os, x.gs⟩, up, fun b o hb e => cut_some.mpr ⟨.inl hb, e⟩, fun b hb n => cut_none ?_⟩
  · refine cut_none ?_
    rintro (hb | hb)
    · have := hp b o hb e; rw [n] at this; cases this
    · rw [x.off b o e n] at hb; cases hb
  · rintro (h | h)
    · exact hb h
    · rw [n] at h; cases h

/-! ## the frame -/
structure Ent where
  h : Heap
  os : OsState
  gs : Array GenState
  g : Heap
noncomputable abbrev Ent.of (s : Shared) (g : Heap) : Ent := ⟨s.heap, s.os, s.gens, g⟩

noncomputable def FrameAt (env : Env) (x : Addr) : Prop := x = env.locals ∨ ∃ n, env.cells.lookup n = some x

structure Vars (env : Env) (ρ : Str → Option Value) (h : Heap) : Prop where
  loc : ∃ m, h.Ns env.locals m ∧ ∀ x v, env.kindOf x = some .local → ρ x = some v → m x = some v
  cell : ∀ n c, env.cells.lookup n = some c → ∃ cv, h.IsCell c cv ∧ ∀ v, ρ n = some v → cv = some v

theorem Vars.keeps {env : Env} {ρ : Str → Option Value} {h h' : Heap} (V : Vars env ρ h) (k : ∀ b o, FrameAt env b → h.get? b = some o → h'.get? b = some o) : Vars env ρ h' := by
  obtain ⟨⟨m, hn, hm⟩, hc⟩ := V
  refine ⟨⟨m, hn.at' fun o e => k _ o (.inl rfl) e, hm⟩, fun n c hx => ?_⟩
  obtain ⟨cv, ⟨o, ho, hd⟩, r⟩ := hc n c hx
  exact ⟨cv, ⟨o, k c o (.inr ⟨n, hx⟩) ho, hd⟩, r⟩

theorem Vars.at {env : Env} {ρ : Str → Option Value} {h : Heap} (V : Vars env ρ h) {x : Addr} (hx : FrameAt env x) : ∃ o, h.get? x = some o := by
  rcases hx with rfl | ⟨n, hx⟩
  · obtain ⟨m, ⟨o, es, ep, ho, _⟩, _⟩ := V.loc; exact ⟨o, ho⟩
  · obtain ⟨cv, ⟨o, ho, _⟩, _⟩ := V.cell n x hx; exact ⟨o, ho⟩

structure Fm (D : List Addr) (e : Ent) (env : Env) (ρ : Str → Option Value) (h : Heap) (os : OsState) (gs : Array GenState) (g : Heap) : Prop where
  go : Go D e.h e.os e.gs e.g h os gs g
  vars : Vars env ρ h
  fresh : e.h.get? env.locals = none
  hid : ∀ x, FrameAt env x → g.get? x = none
noncomputable abbrev FmS (D : List Addr) (e : Ent) (env : Env) (ρ : Str → Option Value) (s : Shared) (g : Heap) : Prop := Fm D e env ρ s.heap s.os s.gens g

/-- the cells are the call's own too -/
structure CellsNew (e : Ent) (env : Env) : Prop where
  fresh : ∀ n c, env.cells.lookup n = some c → e.h.get? c = none
  apart : ∀ n n' c, env.cells.lookup n = some c → env.cells.lookup n' = some c → n = n'

theorem Fm.sub {D : List Addr} {e : Ent} {env : Env} {ρ : Str → Option Value} {h g : Heap} {os : OsState} {gs : Array GenState} (F : Fm D e env ρ h os gs g) : Sub g h := F.go.sub

/-- one step of another's, seen from the frame -/
theorem Fm.stepD {D D₁ : List Addr} {e : Ent} {env : Env} {ρ : Str → Option Value} {h g h' g' : Heap} {os os' : OsState} {gs gs' : Array GenState} (F : Fm D e env ρ h os gs g) (G : Go D₁ h os gs g h' os' gs' g')
    (hD : ∀ x ∈ D₁, (x ∈ D ∨ e.h.get? x = none) ∧ ¬ FrameAt env x) : Fm D e env ρ h' os' gs' g' := by
  have hk : ∀ b o, FrameAt env b → h.get? b = some o → h'.get? b = some o := fun b o hb q => G.keep b o (fun hm => (hD b hm).2 hb) q
  refine ⟨⟨fun b o hb q => ?_, fun b o q => let ⟨o', e'⟩ := F.go.live b o q; G.live b o' e', F.go.up.trans G.up, G.sub, fun b o q n => ?_, G.os.trans F.go.os, G.gs.trans F.go.gs⟩, F.vars.keeps hk, F.fresh, fun x hx => ?_⟩
  · refine G.keep b o (fun hm => ?_) (F.go.keep b o hb q)
    rcases (hD b hm).1 with h1 | h1
    · exact hb h1
    · rw [h1] at q; cases q
  · obtain ⟨o', e'⟩ := F.go.live b o q; exact G.off b o' e' (F.go.off b o q n)
  · obtain ⟨o, q⟩ := F.vars.at hx; exact G.off x o q (F.hid x hx)
theorem Fm.step {D : List Addr} {e : Ent} {env : Env} {ρ : Str → Option Value} {h g h' g' : Heap} {os os' : OsState} {gs gs' : Array GenState} (F : Fm D e env ρ h os gs g) (G : Go [] h os gs g h' os' gs' g') : Fm D e env ρ h' os' gs' g' :=
  F.stepD G (fun _ hx => by cases hx)

noncomputable def upd (ρ : Str → Option Value) (x : Str) (v : Value) : Str → Option Value := fun y => if y = x then some v else ρ y

section
variable {M : Model} {A : Around} {E : Value → Shared → Prop} {s : Shared} {D : List Addr} {e : Ent} {env : Env} {ρ : Str → Option Value} {g : Heap} {x : Str} {pos : Pos} {v : Value}

theorem nm_local {Q : Value → Shared → Prop} (F : FmS D e env ρ s g) (hv : ρ x = some v) (h : Q v s)
    (hk : env.scope.kind = .function := by rfl) (hl : env.kindOf x = some .local := by rfl) (hd : (x == ("__debug__" : Str)) = false := by decide) : wpAny M A (eval (.Name x pos) env) Q E s := by
  obtain ⟨m, hn, hm⟩ := F.vars.loc
  exact wpAny_Name (wpAny_loadName_local hk hl hn (hm x v hl hv) h) hd
theorem nm_cell {c : Addr} {Q : Value → Shared → Prop} (F : FmS D e env ρ s g) (hv : ρ x = some v) (h : Q v s) (hc : env.cells.lookup x = some c := by rfl)
    (hk : env.scope.kind = .function := by rfl) (hl : env.kindOf x = some .cell := by rfl) (hd : (x == ("__debug__" : Str)) = false := by decide) : wpAny M A (eval (.Name x pos) env) Q E s := by
  obtain ⟨cv, hcv, r⟩ := F.vars.cell x c hc
  rw [r v hv] at hcv
  exact wpAny_Name (wpAny_loadName_cell hk hl hc hcv h) hd

theorem Fm.store {h' : Heap} {m : Str → Option Value} (F : FmS D e env ρ s g) (hl : env.cells.lookup x = none) (hn : h'.Ns env.locals m) (hm : ∀ y w, env.kindOf y = some .local → upd ρ x v y = some w → m y = some w) (hs : Heap.SameBut env.locals s.heap h') :
    Fm D e env (upd ρ x v) h' s.os s.gens g := by
  refine ⟨⟨fun b o hb q => (hs.2 b fun z => ?_).trans (F.go.keep b o hb q), fun b o q => ?_, F.go.up, fun b o q => (hs.2 b fun z => ?_).trans (F.go.sub b o q), F.go.off, F.go.os, F.go.gs⟩, ⟨⟨m, hn, hm⟩, fun n c hx => ?_⟩, F.fresh, F.hid⟩
  · rw [z, F.fresh] at q; cases q
  · obtain ⟨o', q'⟩ := F.go.live b o q
    exact ⟨o', (hs.2 b fun z => by rw [z, F.fresh] at q; cases q).trans q'⟩
  · rw [z, F.hid _ (.inl rfl)] at q; cases q
  · obtain ⟨cv, ⟨o, ho, hd⟩, r⟩ := F.vars.cell n c hx
    obtain ⟨m₀, ⟨oL, es, ep, hL, hLd, _⟩, _⟩ := F.vars.loc
    have hne : c ≠ env.locals := fun z => by rw [z, hL] at ho; cases ho; rw [hLd] at hd; cases hd
    refine ⟨cv, ⟨o, (hs.2 c hne).trans ho, hd⟩, fun w hw => r w ?_⟩
    unfold upd at hw
    split at hw
    · rename_i q; rw [q, hl] at hx; cases hx
    · exact hw

theorem st_local {Q : Unit → Shared → Prop} (F : FmS D e env ρ s g) (h : ∀ s', FmS D e env (upd ρ x v) s' g → (∀ b o, b ≠ env.locals → s.heap.get? b = some o → s'.heap.get? b = some o) → Q () s')
    (hk : env.scope.kind = .function := by rfl) (hl : env.kindOf x = some .local := by rfl) (hc : env.cells.lookup x = none := by rfl) : wpAny M A (storeName env x v) Q E s := by
  obtain ⟨m, hn, hm⟩ := F.vars.loc
  refine wpAny_storeName_local hl hn (fun h' hn' hs => h _ (Fm.store (s := s) (m := fun y => if y = x then some v else m y) F hc hn' (fun y w hy hw => ?_) hs) ?_) (by rw [hk]; rfl)
  · unfold upd at hw
    split
    · rename_i q; rw [if_pos q] at hw; exact hw
    · rename_i q; rw [if_neg q] at hw; exact hm y w hy hw
  · exact fun b o hb q => (hs.2 b hb).trans q

theorem st_cell {c : Addr} {Q : Unit → Shared → Prop} (F : FmS D e env ρ s g) (C : CellsNew e env) (h : ∀ s', FmS D e env (upd ρ x v) s' g → (∀ b o, b ≠ c → s.heap.get? b = some o → s'.heap.get? b = some o) → Q () s') (hc : env.cells.lookup x = some c := by rfl)
    (hk : env.scope.kind = .function := by rfl) (hl : env.kindOf x = some .cell := by rfl) : wpAny M A (storeName env x v) Q E s := by
  obtain ⟨cv, hcv, r⟩ := F.vars.cell x c hc
  refine wpAny_storeName_cell hk hl hc hcv fun h' hv hs => h _ ?_ fun b o hb q => (hs.2 b hb).trans q
  obtain ⟨oc, hoc, hdc⟩ := hcv
  refine ⟨⟨fun b o hb q => (hs.2 b fun z => ?_).trans (F.go.keep b o hb q), fun b o q => ?_, F.go.up, fun b o q => (hs.2 b fun z => ?_).trans (F.go.sub b o q), F.go.off, F.go.os, F.go.gs⟩, ⟨?_, fun n c' hx => ?_⟩, F.fresh, F.hid⟩
  · rw [z, C.fresh _ _ hc] at q; cases q
  · obtain ⟨o', q'⟩ := F.go.live b o q
    exact ⟨o', (hs.2 b fun z => by rw [z, C.fresh _ _ hc] at q; cases q).trans q'⟩
  · rw [z, F.hid _ (.inr ⟨_, hc⟩)] at q; cases q
  · obtain ⟨m, hn, hmm⟩ := F.vars.loc
    have hne : env.locals ≠ c := fun z => by
      obtain ⟨oL, es, ep, hL, hLd, _⟩ := hn
      rw [z, hoc] at hL; cases hL; rw [hLd] at hdc; cases hdc
    refine ⟨m, hn.sameBut hs hne, fun y w hy hw => ?_⟩
    unfold upd at hw
    split at hw
    · rename_i q; rw [q, hl] at hy; cases hy
    · exact hmm y w hy hw
  · by_cases q : c' = c
    · subst q
      refine ⟨some v, hv, fun w hw => ?_⟩
      have hnx := C.apart _ _ _ hx hc
      subst hnx
      unfold upd at hw
      rw [if_pos rfl] at hw
      exact hw
    · obtain ⟨cv', ⟨o, ho, hd⟩, r'⟩ := F.vars.cell n c' hx
      refine ⟨cv', ⟨o, (hs.2 c' q).trans ho, hd⟩, fun w hw => r' w ?_⟩
      unfold upd at hw
      split at hw
      · rename_i z; rw [z, hc] at hx; exact absurd (Option.some.inj hx).symm q
      · exact hw

theorem Fm.notFrame {h : Heap} {os : OsState} {gs : Array GenState} {a : Addr} {o : Obj} (F : Fm D e env ρ h os gs g) (ho : h.get? a = some o) (h1 : ∀ es ep, o.data ≠ .dict es ep) (h2 : ∀ c, o.data ≠ .cell c) : ¬ FrameAt env a := by
  rintro (rfl | ⟨n, hx⟩)
  · obtain ⟨m, ⟨oL, es, ep, hL, hLd, _⟩, _⟩ := F.vars.loc
    rw [ho] at hL; cases hL; exact h1 _ _ hLd
  · obtain ⟨cv, ⟨oc, hoc, hdc⟩, _⟩ := F.vars.cell n a hx
    rw [ho] at hoc; cases hoc; exact h2 _ hdc
end

/-! ## into a def -/
theorem bindL_lookup (k : Str → Option NameKind) (x : Str) (hx : k x = some .local) : ∀ (bs : List (Str × Value)) (m : Str → Option Value), bindL k bs m x = (bs.reverse.lookup x).or (m x)
  | [], m => by simp [bindL]
  | (n, v) :: r, m => by
    rw [bindL, bindL_lookup k x hx r, List.reverse_cons, List.lookup_append]
    by_cases h : x = n
    · subst h; simp [hx, Option.or_assoc]
    · have hb : (x == n) = false := beq_eq_false_iff_ne.mpr h
      by_cases hn : k n = some .local <;> simp [hn, h, hb, List.lookup]
theorem bindC_lookup (k : Str → Option NameKind) (x : Str) (hx : k x ≠ some .local) : ∀ (bs : List (Str × Value)) (m : Str → Option Value), bindC k bs m x = (bs.reverse.lookup x).or (m x)
  | [], m => by simp [bindC]
  | (n, v) :: r, m => by
    rw [bindC, bindC_lookup k x hx r, List.reverse_cons, List.lookup_append]
    by_cases h : x = n
    · subst h; simp [hx, Option.or_assoc]
    · have hb : (x == n) = false := beq_eq_false_iff_ne.mpr h
      by_cases hn : k n = some .local <;> simp [hn, h, hb, List.lookup]

theorem cellsFrom_mem : ∀ (names : List (Str × NameKind)) (n : Nat) (acc : List (Str × Addr)) (x : Str) (c : Addr), (x, c) ∈ cellsFrom n names acc → (x, NameKind.cell) ∈ names ∨ (x, c) ∈ acc
  | [], _, _, _, _, h => .inr h
  | (y, k) :: r, n, acc, x, c, h => by
    unfold cellsFrom at h
    by_cases hk : (k == .cell) = true
    · rw [if_pos hk] at h
      rcases cellsFrom_mem r _ _ x c h with h | h
      · exact .inl (.tail _ h)
      · rcases List.mem_cons.mp h with h | h
        · cases h; rw [beq_iff_eq.mp hk]; exact .inl (.head _)
        · exact .inr h
    · rw [if_neg hk] at h
      exact (cellsFrom_mem r _ _ x c h).imp (.tail _) id

section
variable {prog : Program} {w : World} {A : Around} {R : Result → Shared → Prop} {s : Shared} {g : Heap} {D : List Addr}
theorem enter {f : Addr} {o : Obj} {fd : FuncData} {body : List Stmt} {args : Args} {binds : List (Str × Value)} (hA : A.depth < recursionLimit) (hg : Sub g s.heap) (ho : g.get? f = some o) (hd : o.data = .func fd)
    (hlim : g.NoLimit) (hcd : g.CodeRec fd.code fd.qualname) (hbody : fd.body = .stmts body) (hbind : BindsTo s fd args binds) (hclo : fd.closure = [])
    (hkind : (binds.all fun y => fd.scope.names.lookup y.1 == some .local || fd.scope.names.lookup y.1 == some .cell) = true)
    (hcells : ∀ x ∈ fd.scope.names, x.2 = .cell → fd.scope.names.lookup x.1 = some .cell)
    (h : ∀ L s₁, FmS D (Ent.of s g) (callEnvC fd L f) (fun y => binds.reverse.lookup y) s₁ g → CellsNew (Ent.of s g) (callEnvC fd L f) → Sub s.heap s₁.heap →
      wpAny (model prog w) (A.deeper (callEnvC fd L f)) (execs body (callEnvC fd L f)) (fun fl s' => R (.ok (.ret (match fl with | .ret v => v | _ => .none))) s') (fun _ _ => False) s₁)
    (hco : fd.scope.isCoroutine = false := by rfl) (hgen : fd.scope.isGenerator = false := by rfl) (hk : fd.scope.kind = .function := by rfl) : codeAny (model prog w) A (.call (.ref f) args) R s := by
  refine codeAny_call_function hA (hg _ _ ho) hd hco hgen hbody (hcd.keeps hg) (hbind _ _ _ _ ?_)
  rw [hclo]
  refine wpAny_newFunctionEnv_cells hk (kindsX hkind _) fun env he s' x => ?_
  subst he
  refine ⟨(hlim.keeps hg).keeps x.toInCall.keep, codeAny_func ?_⟩
  obtain ⟨h₁, tk, rfl, _⟩ := x.done
  have hcm : ∀ n c, (callEnvC fd s.heap.objs.size f).cells.lookup n = some c → (callEnvC fd s.heap.objs.size f).kindOf n = some .cell := fun n c hm => by
    rcases cellsFrom_mem _ _ _ _ _ (mem_of_lookup hm) with h | h
    · exact hcells _ h rfl
    · cases h
  have hfresh : ∀ n c, (callEnvC fd s.heap.objs.size f).cells.lookup n = some c → s.heap.get? c = none := fun n c hm => none_of_le (Nat.le_of_lt (x.above n c (mem_of_lookup hm)))
  have hap : ∀ n n' c, (callEnvC fd s.heap.objs.size f).cells.lookup n = some c → (callEnvC fd s.heap.objs.size f).cells.lookup n' = some c → n = n' := fun n n' c h1 h2 => by
    have key : ∀ l : List (Str × Addr), l.Pairwise (fun x y => x.2 ≠ y.2) → (n, c) ∈ l → (n', c) ∈ l → n = n' := by
      intro l
      induction l with
      | nil => intro _ h; cases h
      | cons a r ih =>
        intro hp h1 h2
        rw [List.pairwise_cons] at hp
        rcases List.mem_cons.mp h1 with e1 | h1 <;> rcases List.mem_cons.mp h2 with e2 | h2
        · rw [← e1] at e2; cases e2; rfl
        · exact absurd (by rw [← e1]) (hp.1 _ h2)
        · exact absurd (by rw [← e2]) (hp.1 _ h1)
        · exact ih hp.2 h1 h2
    exact key _ x.apart (mem_of_lookup h1) (mem_of_lookup h2)
  refine wpAny_mono (h s.heap.objs.size _ ⟨⟨fun b o _ e => x.toInCall.keep b o e, fun b o e => ⟨o, x.toInCall.keep b o e⟩, Sub.refl _, hg.trans x.toInCall.keep, fun _ _ _ n => n, rfl, rfl⟩, ⟨⟨_, x.toInCall.ns, fun y v hy hv => ?_⟩, fun n c hm => ?_⟩, get_size _, ?_⟩ ⟨hfresh, hap⟩ x.toInCall.keep) (fun _ _ z => z) fun _ _ z => z.elim
  · have hv' : binds.reverse.lookup y = some v := hv
    refine (bindL_lookup _ _ hy binds _).trans ?_
    rw [hv']; rfl
  · refine ⟨_, x.cell n c hm, fun v hv => ?_⟩
    have hv' : binds.reverse.lookup n = some v := hv
    refine (bindC_lookup _ _ (fun z => ?_) binds _).trans ?_
    · have := (hcm n c hm).symm.trans z; cases this
    · rw [hv']; rfl
  · rintro y (rfl | ⟨n, hm⟩)
    · exact ext_none fun o q => absurd (hg _ _ q) (by rw [show s.heap.get? (callEnvC fd s.heap.objs.size f).locals = none from get_size _]; simp)
    · exact ext_none fun o q => absurd (hg _ _ q) (by rw [hfresh n y hm]; simp)
end

end Mine

/-! # NqFn -/
namespace Mine
section

noncomputable abbrev KK (P : Params) : Frag := KP P

structure FnLit (a : Addr) where
  fd : FuncData
  at_ : ∀ P, (KK P).lookup a = some ⟨.type "function", none, .func fd, #[]⟩
  code : ∀ P, codeIn (KK P) fd.code fd.qualname = true
  clo : fd.closure = []
  cells : ∀ x ∈ fd.scope.names, x.2 = .cell → fd.scope.names.lookup x.1 = some .cell

noncomputable def qInit : { fd : FuncData // ∀ P, (KK P).lookup 69 = some ⟨.type "function", none, .func fd, #[]⟩ } := ⟨_, fun _ => rfl⟩
noncomputable def fInit : FnLit 69 := ⟨qInit.1, qInit.2, fun _ => by kernel_rfl, rfl, by decide +kernel⟩
noncomputable def qNames : { fd : FuncData // ∀ P, (KK P).lookup 76 = some ⟨.type "function", none, .func fd, #[]⟩ } := ⟨_, fun _ => rfl⟩
noncomputable def fNames : FnLit 76 := ⟨qNames.1, qNames.2, fun _ => by kernel_rfl, rfl, by decide +kernel⟩
noncomputable def qBuffer : { fd : FuncData // ∀ P, (KK P).lookup 90 = some ⟨.type "function", none, .func fd, #[]⟩ } := ⟨_, fun _ => rfl⟩
noncomputable def fBuffer : FnLit 90 := ⟨qBuffer.1, qBuffer.2, fun _ => by kernel_rfl, rfl, by decide +kernel⟩
noncomputable def qTruth : { fd : FuncData // ∀ P, (KK P).lookup 97 = some ⟨.type "function", none, .func fd, #[]⟩ } := ⟨_, fun _ => rfl⟩
noncomputable def fTruth : FnLit 97 := ⟨qTruth.1, qTruth.2, fun _ => by kernel_rfl, rfl, by decide +kernel⟩
noncomputable def qB2a : { fd : FuncData // ∀ P, (KK P).lookup 105 = some ⟨.type "function", none, .func fd, #[]⟩ } := ⟨_, fun _ => rfl⟩
noncomputable def fB2a : FnLit 105 := ⟨qB2a.1, qB2a.2, fun _ => by kernel_rfl, rfl, by decide +kernel⟩
noncomputable def qB64 : { fd : FuncData // ∀ P, (KK P).lookup 113 = some ⟨.type "function", none, .func fd, #[]⟩ } := ⟨_, fun _ => rfl⟩
noncomputable def fB64 : FnLit 113 := ⟨qB64.1, qB64.2, fun _ => by kernel_rfl, rfl, by decide +kernel⟩
noncomputable def qBits : { fd : FuncData // ∀ P, (KK P).lookup 118 = some ⟨.type "function", none, .func fd, #[]⟩ } := ⟨_, fun _ => rfl⟩
noncomputable def fBits : FnLit 118 := ⟨qBits.1, qBits.2, fun _ => by kernel_rfl, rfl, by decide +kernel⟩
noncomputable def qSixes : { fd : FuncData // ∀ P, (KK P).lookup 123 = some ⟨.type "function", none, .func fd, #[]⟩ } := ⟨_, fun _ => rfl⟩
noncomputable def fSixes : FnLit 123 := ⟨qSixes.1, qSixes.2, fun _ => by kernel_rfl, rfl, by decide +kernel⟩
noncomputable def qParts : { fd : FuncData // ∀ P, (KK P).lookup 130 = some ⟨.type "function", none, .func fd, #[]⟩ } := ⟨_, fun _ => rfl⟩
noncomputable def fParts : FnLit 130 := ⟨qParts.1, qParts.2, fun _ => by kernel_rfl, rfl, by decide +kernel⟩
noncomputable def qMods : { fd : FuncData // ∀ P, (KK P).lookup 137 = some ⟨.type "function", none, .func fd, #[]⟩ } := ⟨_, fun _ => rfl⟩
noncomputable def fMods : FnLit 137 := ⟨qMods.1, qMods.2, fun _ => by kernel_rfl, rfl, by decide +kernel⟩
noncomputable def qKept : { fd : FuncData // ∀ P, (KK P).lookup 144 = some ⟨.type "function", none, .func fd, #[]⟩ } := ⟨_, fun _ => rfl⟩
noncomputable def fKept : FnLit 144 := ⟨qKept.1, qKept.2, fun _ => by kernel_rfl, rfl, by decide +kernel⟩
noncomputable def qFile : { fd : FuncData // ∀ P, (KK P).lookup 151 = some ⟨.type "function", none, .func fd, #[]⟩ } := ⟨_, fun _ => rfl⟩
noncomputable def fFile : FnLit 151 := ⟨qFile.1, qFile.2, fun _ => by kernel_rfl, rfl, by decide +kernel⟩
noncomputable def qMade : { fd : FuncData // ∀ P, (KK P).lookup 156 = some ⟨.type "function", none, .func fd, #[]⟩ } := ⟨_, fun _ => rfl⟩
noncomputable def fMade : FnLit 156 := ⟨qMade.1, qMade.2, fun _ => by kernel_rfl, rfl, by decide +kernel⟩
noncomputable def qRun : { fd : FuncData // ∀ P, (KK P).lookup 161 = some ⟨.type "function", none, .func fd, #[]⟩ } := ⟨_, fun _ => rfl⟩
noncomputable def fRun : FnLit 161 := ⟨qRun.1, qRun.2, fun _ => by kernel_rfl, rfl, by decide +kernel⟩
noncomputable def qLaw : { fd : FuncData // ∀ P, (KK P).lookup 166 = some ⟨.type "function", none, .func fd, #[]⟩ } := ⟨_, fun _ => rfl⟩
noncomputable def fLaw : FnLit 166 := ⟨qLaw.1, qLaw.2, fun _ => by kernel_rfl, rfl, by decide +kernel⟩
theorem gBuffer (P : Params) : nsIn (KK P) mainGlobals "_buffer" = some (some (.ref 90)) := by kernel_rfl
theorem gTruth (P : Params) : nsIn (KK P) mainGlobals "_truth" = some (some (.ref 97)) := by kernel_rfl
theorem gB2a (P : Params) : nsIn (KK P) mainGlobals "b2a_base64" = some (some (.ref 105)) := by kernel_rfl
theorem gB64 (P : Params) : nsIn (KK P) mainGlobals "b64encode" = some (some (.ref 113)) := by kernel_rfl
theorem gBits (P : Params) : nsIn (KK P) mainGlobals "_law_bits" = some (some (.ref 118)) := by kernel_rfl
theorem gSixes (P : Params) : nsIn (KK P) mainGlobals "_law_sixes" = some (some (.ref 123)) := by kernel_rfl
theorem gParts (P : Params) : nsIn (KK P) mainGlobals "_law_parts" = some (some (.ref 130)) := by kernel_rfl
theorem gMods (P : Params) : nsIn (KK P) mainGlobals "_law_mods" = some (some (.ref 137)) := by kernel_rfl
theorem gKept (P : Params) : nsIn (KK P) mainGlobals "_law_kept" = some (some (.ref 144)) := by kernel_rfl
theorem gFile (P : Params) : nsIn (KK P) mainGlobals "_law_file" = some (some (.ref 151)) := by kernel_rfl
theorem gMade (P : Params) : nsIn (KK P) mainGlobals "_law_made" = some (some (.ref 156)) := by kernel_rfl
theorem gRun (P : Params) : nsIn (KK P) mainGlobals "_law_run" = some (some (.ref 161)) := by kernel_rfl
theorem gLaw (P : Params) : nsIn (KK P) mainGlobals "law" = some (some (.ref 166)) := by kernel_rfl
theorem gIgnore (P : Params) : nsIn (KK P) mainGlobals "_Ignore" = some (some (.ref 79)) := by kernel_rfl
theorem gSep (P : Params) : ∃ t, nsIn (KK P) mainGlobals "sep" = some (some (.str "/" t)) := ⟨_, rfl⟩
theorem nStr (P : Params) : nsIn (KK P) mainGlobals "str" = some none := by kernel_rfl
theorem bStr : bootBuiltins "str" = some (.type "str") := by kernel_rfl
theorem nInt (P : Params) : nsIn (KK P) mainGlobals "int" = some none := by kernel_rfl
theorem bInt : bootBuiltins "int" = some (.type "int") := by kernel_rfl
theorem nList (P : Params) : nsIn (KK P) mainGlobals "list" = some none := by kernel_rfl
theorem bList : bootBuiltins "list" = some (.type "list") := by kernel_rfl
theorem nRange (P : Params) : nsIn (KK P) mainGlobals "range" = some none := by kernel_rfl
theorem bRange : bootBuiltins "range" = some (.type "range") := by kernel_rfl
theorem nBytes (P : Params) : nsIn (KK P) mainGlobals "bytes" = some none := by kernel_rfl
theorem bBytes : bootBuiltins "bytes" = some (.type "bytes") := by kernel_rfl
theorem nReversed (P : Params) : nsIn (KK P) mainGlobals "reversed" = some none := by kernel_rfl
theorem bReversed : bootBuiltins "reversed" = some (.type "reversed") := by kernel_rfl
theorem nSet (P : Params) : nsIn (KK P) mainGlobals "set" = some none := by kernel_rfl
theorem bSet : bootBuiltins "set" = some (.type "set") := by kernel_rfl
theorem nType (P : Params) : nsIn (KK P) mainGlobals "type" = some none := by kernel_rfl
theorem bType : bootBuiltins "type" = some (.type "type") := by kernel_rfl
theorem nLen (P : Params) : nsIn (KK P) mainGlobals "len" = some none := by kernel_rfl
theorem bLen : bootBuiltins "len" = some (.builtin "len") := by kernel_rfl

/-- what stands under every call -/
structure Bs (w : World) (g : Heap) : Prop where
  K : (KK w.params).In g
  glob : ∃ mg, g.Ns mainGlobals mg
  blt : ∃ mb, g.Ns builtinsNs mb ∧ ∀ x : Str, x ≠ "__name__" → mb x = bootBuiltins x
  lim : g.NoLimit
theorem Bs.keeps {w : World} {g g' : Heap} (B : Bs w g) (k : Sub g g') : Bs w g' :=
  ⟨B.K.keeps k, let ⟨mg, h⟩ := B.glob; ⟨mg, h.keeps k⟩, let ⟨mb, h, e⟩ := B.blt; ⟨mb, h.keeps k, e⟩, B.lim.keeps k⟩

section
variable {w : World} {M : Model} {A : Around} {E : Value → Shared → Prop} {s : Shared} {D : List Addr} {e : Ent} {env : Env} {ρ : Str → Option Value} {g : Heap} {x : Str} {pos : Pos} {v : Value} {Q : Value → Shared → Prop}
theorem nm_glob (F : FmS D e env ρ s g) (B : Bs w g) (he : nsIn (KK w.params) mainGlobals x = some (some v)) (h : Q v s)
    (hg : env.globals = mainGlobals := by rfl) (hk : env.scope.kind = .function := by rfl) (hx : env.kindOf x = some .globalImplicit := by rfl) (hd : (x == ("__debug__" : Str)) = false := by decide) :
    wpAny M A (eval (.Name x pos) env) Q E s := by
  obtain ⟨mg, G⟩ := B.glob
  exact PySem.Calls.Name_function_global hk hx (PySem.Calls.loadGlobal_global (env := env) (by rw [hg]; exact G.keeps F.sub) (mg_of B.K G he) h) hd
theorem nm_blt (F : FmS D e env ρ s g) (B : Bs w g) (he : nsIn (KK w.params) mainGlobals x = some none) (hv : bootBuiltins x = some v) (h : Q v s)
    (hn : x ≠ "__name__" := by decide) (hg : env.globals = mainGlobals := by rfl) (hb : env.builtins = builtinsNs := by rfl) (hk : env.scope.kind = .function := by rfl) (hx : env.kindOf x = some .globalImplicit := by rfl) (hd : (x == ("__debug__" : Str)) = false := by decide) :
    wpAny M A (eval (.Name x pos) env) Q E s := by
  obtain ⟨mg, G⟩ := B.glob
  obtain ⟨mb, Hb, eb⟩ := B.blt
  exact PySem.Calls.Name_function_global hk hx (PySem.Calls.loadGlobal_builtin (env := env) (by rw [hg]; exact G.keeps F.sub) (mg_none_of B.K G he) (by rw [hb]; exact Hb.keeps F.sub) ((eb x hn).trans hv) h) hd
end

section
variable {prog : Program} {w : World} {A : Around} {E : Value → Shared → Prop} {s : Shared} {g : Heap}
/-- a call of one of the text's defs -/
theorem callFn {f : Addr} (fl : FnLit f) {D : List Addr} {body : List Stmt} {args : List Value} {kw : List (Str × Value)} {binds : List (Str × Value)} {Q : Value → Shared → Prop} (hA : A.depth < recursionLimit) (hg : Sub g s.heap) (B : Bs w g)
    (hbody : fl.fd.body = .stmts body) (hbind : BindsTo s fl.fd ⟨args, kw⟩ binds)
    (hkind : (binds.all fun y => fl.fd.scope.names.lookup y.1 == some .local || fl.fd.scope.names.lookup y.1 == some .cell) = true)
    (h : ∀ L s₁ A', A'.handled = A.handled → A'.depth = A.depth + 1 → A'.units = A.units + 3 → FmS D (Ent.of s g) (callEnvC fl.fd L f) (fun y => binds.reverse.lookup y) s₁ g → CellsNew (Ent.of s g) (callEnvC fl.fd L f) → Sub s.heap s₁.heap →
      wpAny (model prog w) A' (execs body (callEnvC fl.fd L f)) (fun fl s' => Q (match fl with | .ret v => v | _ => .none) s') (fun _ _ => False) s₁)
    (hco : fl.fd.scope.isCoroutine = false := by rfl) (hgen : fl.fd.scope.isGenerator = false := by rfl) (hk : fl.fd.scope.kind = .function := by rfl) : wpAny (model prog w) A (call (.ref f) args kw) Q E s :=
  wpAny_call (enter hA hg (B.K _ _ (fl.at_ _)) rfl B.lim (codeRec_of B.K (fl.code _)) hbody hbind fl.clo hkind fl.cells (fun L s₁ F C k => h L s₁ _ rfl rfl rfl F C k) hco hgen hk)
end

end
end Mine

/-! # NqRules -/
namespace Mine

/-! ## data -/
inductive Dt where
  | none
  | bool (b : Bool)
  | int (i : Int)
  | str (x : Str)
  | list (l : List Dt)
  | tup (l : List Dt)

mutual
inductive Rep (g : Heap) : Dt → Value → Prop
  | none : Rep g .none .none
  | bool (b : Bool) : Rep g (.bool b) (.bool b)
  | int (i : Int) (t : Tok) : Rep g (.int i) (.int i t)
  | str (x : Str) (t : Tok) : Rep g (.str x) (.str x t)
  | list {l : List Dt} {a : Addr} {vs : List Value} : g.IsList a vs.toArray → Reps g l vs → Rep g (.list l) (.ref a)
  | tup {l : List Dt} {a : Addr} {vs : List Value} : IsTup g a vs.toArray → Reps g l vs → Rep g (.tup l) (.ref a)
inductive Reps (g : Heap) : List Dt → List Value → Prop
  | nil : Reps g [] []
  | cons {d : Dt} {v : Value} {l : List Dt} {vs : List Value} : Rep g d v → Reps g l vs → Reps g (d :: l) (v :: vs)
end

theorem isList_mono {g g' : Heap} (k : Sub g g') {a : Addr} {vs : Array Value} (x : g.IsList a vs) : g'.IsList a vs := let ⟨o, ho, r⟩ := x; ⟨o, k a o ho, r⟩
theorem isTup_mono {g g' : Heap} (k : Sub g g') {a : Addr} {vs : Array Value} (x : IsTup g a vs) : IsTup g' a vs := let ⟨o, ho, r⟩ := x; ⟨o, k a o ho, r⟩
mutual
theorem Rep.mono {g g' : Heap} (k : Sub g g') : ∀ {d : Dt} {v : Value}, Rep g d v → Rep g' d v
  | _, _, .none => .none
  | _, _, .bool b => .bool b
  | _, _, .int i t => .int i t
  | _, _, .str x t => .str x t
  | _, _, .list h r => .list (isList_mono k h) (Reps.mono k r)
  | _, _, .tup h r => .tup (isTup_mono k h) (Reps.mono k r)
theorem Reps.mono {g g' : Heap} (k : Sub g g') : ∀ {l : List Dt} {vs : List Value}, Reps g l vs → Reps g' l vs
  | _, _, .nil => .nil
  | _, _, .cons h r => .cons (Rep.mono k h) (Reps.mono k r)
end
theorem Reps.length {g : Heap} {l : List Dt} : ∀ {vs : List Value}, Reps g l vs → vs.length = l.length := by
  induction l with
  | nil => intro vs h; cases h; rfl
  | cons d l ih => intro vs h; cases h with | cons h1 h2 => exact congrArg Nat.succ (ih h2)
theorem Reps.append {g : Heap} {l l' : List Dt} : ∀ {vs vs' : List Value}, Reps g l vs → Reps g l' vs' → Reps g (l ++ l') (vs ++ vs') := by
  induction l with
  | nil => intro vs vs' h h'; cases h; exact h'
  | cons d l ih => intro vs vs' h h'; cases h with | cons h1 h2 => exact .cons h1 (ih h2 h')
theorem Reps.get {g : Heap} {l : List Dt} : ∀ {vs : List Value}, Reps g l vs → ∀ (i : Nat) (d : Dt), l[i]? = some d → ∃ v, vs[i]? = some v ∧ Rep g d v := by
  induction l with
  | nil => intro vs h i d e; cases e
  | cons a l ih =>
    intro vs h i d e
    cases h with
    | cons h1 h2 =>
      cases i with
      | zero => cases e; exact ⟨_, rfl, h1⟩
      | succ i => exact ih h2 i d e
theorem Reps.get' {g : Heap} {l : List Dt} : ∀ {vs : List Value}, Reps g l vs → ∀ (i : Nat) (v : Value), vs[i]? = some v → ∃ d, l[i]? = some d ∧ Rep g d v := by
  induction l with
  | nil => intro vs h i d e; cases h; cases e
  | cons a l ih =>
    intro vs h i d e
    cases h with
    | cons h1 h2 =>
      cases i with
      | zero => cases e; exact ⟨_, rfl, h1⟩
      | succ i => exact ih h2 i d e
theorem Reps.of_get {g : Heap} {l : List Dt} : ∀ {vs : List Value}, vs.length = l.length → (∀ (i : Nat) (d : Dt) (v : Value), l[i]? = some d → vs[i]? = some v → Rep g d v) → Reps g l vs := by
  induction l with
  | nil => intro vs h _; cases List.eq_nil_of_length_eq_zero h; exact .nil
  | cons a l ih =>
    intro vs h k
    cases vs with
    | nil => cases h
    | cons v vs => exact .cons (k 0 a v rfl rfl) (ih (Nat.succ.inj h) fun i d' v' h1 h2 => k (i + 1) d' v' h1 h2)
theorem Reps.take {g : Heap} {l : List Dt} : ∀ {vs : List Value}, Reps g l vs → ∀ n, Reps g (l.take n) (vs.take n) := by
  induction l with
  | nil => intro vs h n; cases h; cases n <;> exact .nil
  | cons a l ih =>
    intro vs h n
    cases h with
    | cons h1 h2 =>
      cases n with
      | zero => exact .nil
      | succ n => exact .cons h1 (ih h2 n)

theorem Rep.int_inv {g : Heap} {i : Int} {v : Value} (r : Rep g (.int i) v) : ∃ t, v = .int i t := by cases r with | int i t => exact ⟨t, rfl⟩
theorem Rep.str_inv {g : Heap} {x : Str} {v : Value} (r : Rep g (.str x) v) : ∃ t, v = .str x t := by cases r with | str x t => exact ⟨t, rfl⟩
theorem Rep.list_inv {g : Heap} {l : List Dt} {v : Value} (r : Rep g (.list l) v) : ∃ a vs, v = .ref a ∧ g.IsList a vs.toArray ∧ Reps g l vs := by cases r with | list h r => exact ⟨_, _, rfl, h, r⟩
theorem Rep.tup_inv {g : Heap} {l : List Dt} {v : Value} (r : Rep g (.tup l) v) : ∃ a vs, v = .ref a ∧ IsTup g a vs.toArray ∧ Reps g l vs := by cases r with | tup h r => exact ⟨_, _, rfl, h, r⟩

noncomputable abbrev texts (l : List Str) : Dt := .list (l.map .str)

/-! ## growth -/
theorem Go.more {D : List Addr} {h h' h'' g g' : Heap} {os os' : OsState} {gs gs' : Array GenState} (x : Go D h os gs g h' os' gs' g') (k : Sub h' h'') : Go D h os gs g h'' os' gs' g' :=
  ⟨fun b o hb e => k b o (x.keep b o hb e), fun b o e => let ⟨o', e'⟩ := x.live b o e; ⟨o', k b o' e'⟩, x.up, x.sub.trans k, x.off, x.os, x.gs⟩
theorem go_keeps {h h' g : Heap} {os : OsState} {gs : Array GenState} (hg : Sub g h) (k : Sub h h') : Go [] h os gs g h' os gs g := (Go.refl hg).more k
theorem go_new {h h' g : Heap} {os : OsState} {gs : Array GenState} (hg : Sub g h) (k : Sub h h') {a : Addr} {o : Obj} (hn : h.get? a = none) (ho : h'.get? a = some o) : ∃ g', Go [] h os gs g h' os gs g' ∧ g'.get? a = some o := by
  obtain ⟨g', G, _, hp, _⟩ := (go_keeps (os := os) (gs := gs) hg k).adds (· = a) (by rintro b o' rfl e; rw [hn] at e; cases e)
  exact ⟨g', G, hp a o rfl ho⟩
theorem go_push {h g : Heap} {os : OsState} {gs : Array GenState} (hg : Sub g h) (o : Obj) (hf : o.isFreed = false) : ∃ g', Go [] h os gs g (h.push o) os gs g' ∧ g'.get? h.objs.size = some o :=
  go_new hg (fun _ _ e => Heap.get?_push_of_some _ e) (get_size h) (Heap.get?_push_size _ hf)

section
variable {prog : Program} {w : World} {M : Model} {A : Around} {E : Value → Shared → Prop} {s : Shared} {g : Heap} {Q : Value → Shared → Prop}

theorem r_newList {vs : List Value} {l : List Dt} (hg : Sub g s.heap) (hr : Reps g l vs) (h : ∀ s' g' v, GoS [] s g s' g' → Rep g' (.list l) v → Q v s') (hsz : vs.length ≤ sizeLine := by exact Nat.le_of_ble_eq_true rfl) : wpAny M A (newList vs) Q E s := by
  refine wpAny_newList ?_ hsz
  obtain ⟨g', G, e⟩ := go_push (os := s.os) (gs := s.gens) hg { cls := .type "list", data := .seq vs.toArray } rfl
  exact h _ g' _ G (.list ⟨_, e, rfl, _, rfl⟩ (hr.mono G.up))
theorem r_newTuple {vs : List Value} {l : List Dt} (hg : Sub g s.heap) (hr : Reps g l vs) (h : ∀ s' g' v, GoS [] s g s' g' → Rep g' (.tup l) v → Q v s') (hsz : vs.length ≤ sizeLine := by exact Nat.le_of_ble_eq_true rfl) : wpAny M A (newTuple vs) Q E s := by
  refine wpAny_newTuple ?_ hsz
  obtain ⟨g', G, e⟩ := go_push (os := s.os) (gs := s.gens) hg { cls := .type "tuple", data := .seq vs.toArray } rfl
  exact h _ g' _ G (.tup ⟨_, e, rfl, _, rfl⟩ (hr.mono G.up))

theorem r_addLists {l l' : List Dt} {v v' : Value} (hg : Sub g s.heap) (h1 : Rep g (.list l) v) (h2 : Rep g (.list l') v') (h : ∀ s' g' v, GoS [] s g s' g' → Rep g' (.list (l ++ l')) v → Q v s') (hsz : l.length + l'.length ≤ sizeLine) :
    wpAny (model prog w) A (binaryOp .Add v v') Q E s := by
  obtain ⟨a, vs, rfl, ha, hr⟩ := h1.list_inv
  obtain ⟨b, ws, rfl, hb, hr'⟩ := h2.list_inv
  obtain ⟨⟨cls, dd, data, sl⟩, ho, hc, n, hd⟩ := isList_mono hg ha
  obtain ⟨⟨cls2, dd2, data2, sl2⟩, ho2, hc2, n2, hd2⟩ := isList_mono hg hb
  simp only at hc hd hc2 hd2
  subst hc hd hc2 hd2
  have hz : vs.length + ws.length ≤ sizeLine := by rw [hr.length, hr'.length]; exact hsz
  have e : vs.toArray ++ ws.toArray = (vs ++ ws).toArray := by simp
  refine concat_meets ⟨_, ho, rfl⟩ ⟨_, ho2, rfl⟩ noFill_list_add seq_list_add PySem.F.slot_list_add PySem.F.entry_list_add (PySem.F.args_list_add_2 _ _) (list_addW a b vs.toArray ws.toArray n n2 dd dd2 sl sl2 (by simpa using hz)) ⟨ho, ho2, ?_⟩
  rw [e]
  obtain ⟨g', G, e'⟩ := go_push (os := s.os) (gs := s.gens) hg { cls := .type "list", data := .seq (vs ++ ws).toArray } rfl
  exact h _ g' _ G (.list ⟨_, e', rfl, _, rfl⟩ ((hr.append hr').mono G.up))

theorem r_listStr {x : Str} {t : Tok} (hA : A.handled = none) (hg : Sub g s.heap) (h : ∀ s' g' v, GoS [] s g s' g' → Rep g' (texts (signs x)) v → Q v s') (hsz : x.length ≤ sizeLine) :
    wpAny (model prog w) A (call (.type "list") [.str x t]) Q E s := by
  refine call_list_str hA x t (hn := hsz) fun h' tk acc' c' hk hS' hacc => ?_
  obtain ⟨g', G, e'⟩ := go_new (os := s.os) (gs := s.gens) hg hk (get_size _) hS'
  refine h _ g' _ G (.list (vs := acc'.toList) ⟨_, e', rfl, c', by simp⟩ (Reps.of_get (by simp [hacc.1, signs]) fun i d v h1 h2 => ?_))
  obtain ⟨c, u, hc, rfl⟩ := hacc.2 i v (by simpa using h2)
  simp [signs, hc] at h1
  subst h1
  exact .str _ _

theorem keptSub (h₀ : Heap) : KeptH (Sub h₀) := fun _ ob k => fun b o e => Heap.get?_push_of_some ob (k b o e)

theorem tempStr (value : Expr) {x : Str} {t : Tok} {r : Value} : letTemporaryGo value (.str x t) r = pure () := by cases value <;> rfl
section
variable {value slice : Expr} {x : Str} {t : Tok} {i j : Int} {ui uj : Tok}
theorem r_sliceTo {lo up : Option Expr} {p : Pos} (hg : Sub g s.heap) (h : ∀ s' t', GoS [] s g s' g → Q (.str (Txt.slice x none (some j)) t') s') (hsz : x.length ≤ sizeLine) :
    wpAny (model prog w) A (subscriptTail value (.Slice lo up none p) (.str x t) (.ref s.heap.objs.size)) Q E { s with heap := s.heap.push { cls := .type "slice", data := .fields #[.none, .int j uj, .none] } } :=
  tail_of_ItemOn (ops := [.ref s.heap.objs.size, .str x t]) (SBH.sliceItem_ns (keptSub s.heap) (Sub.refl _) (fun h' t' k a => h _ t' (go_keeps hg a)) hsz) rfl (fun r => tempStr value)
theorem r_sliceFrom {lo up : Option Expr} {p : Pos} (hg : Sub g s.heap) (h : ∀ s' t', GoS [] s g s' g → Q (.str (Txt.slice x (some i) none) t') s') (hsz : x.length ≤ sizeLine) :
    wpAny (model prog w) A (subscriptTail value (.Slice lo up none p) (.str x t) (.ref s.heap.objs.size)) Q E { s with heap := s.heap.push { cls := .type "slice", data := .fields #[.int i ui, .none, .none] } } :=
  tail_of_ItemOn (ops := [.ref s.heap.objs.size, .str x t]) (SBH.sliceItem_sn (keptSub s.heap) (Sub.refl _) (fun h' t' k a => h _ t' (go_keeps hg a)) hsz) rfl (fun r => tempStr value)
theorem r_sliceIn {lo up : Option Expr} {p : Pos} (hg : Sub g s.heap) (h : ∀ s' t', GoS [] s g s' g → Q (.str (Txt.slice x (some i) (some j)) t') s') (hsz : x.length ≤ sizeLine) :
    wpAny (model prog w) A (subscriptTail value (.Slice lo up none p) (.str x t) (.ref s.heap.objs.size)) Q E { s with heap := s.heap.push { cls := .type "slice", data := .fields #[.int i ui, .int j uj, .none] } } :=
  tail_of_ItemOn (ops := [.ref s.heap.objs.size, .str x t]) (SBH.sliceItem_ss (keptSub s.heap) (Sub.refl _) (fun h' t' k a => h _ t' (go_keeps hg a)) hsz) rfl (fun r => tempStr value)
theorem r_item {l : List Dt} {d : Dt} {v : Value} (hg : Sub g s.heap) (hr : Rep g (.list l) v) (h0 : 0 ≤ i) (hi : i < 2 ^ 63) (hd : l[i.toNat]? = some d) (h : ∀ u, Rep g d u → Q u s)
    (hs : ∀ o i, subscripted slice false o i = operate [o, i] (getItem o i) := by intro _ _; rfl) :
    wpAny (model prog w) A (subscriptTail value slice v (.int i ui)) Q E s := by
  obtain ⟨a, vs, rfl, ha, hvs⟩ := hr.list_inv
  obtain ⟨u, hu, ru⟩ := hvs.get _ _ hd
  have ha' := isList_mono hg ha
  exact tail_any ha'.typeIs slot_list_getitem.lookup (wpAny_getItem_list ha' h0 hi (by simpa using hu) (h u ru)) (hs _ _)
end
end

/-! ## scalars: the state is the same but for the tokens -/
section
variable {prog : Program} {w : World} {M : Model} {A : Around} {E : Value → Shared → Prop} {s : Shared} {tk : Nat} {env : Env} {Q : Value → Shared → Prop} {a b : Int} {t u : Tok} {x y : Str}
theorem x_int {i : Int} {k pos} (h : ∀ t tk', Q (.int i t) { s with toks := tk' }) : wpAny M A (eval (.Constant (.int i) k pos) env) Q E { s with toks := tk } := wpAny_Constant_int (h _ _)
theorem x_str {i : Str} {k pos} (h : ∀ t tk', Q (.str i t) { s with toks := tk' }) : wpAny M A (eval (.Constant (.str i) k pos) env) Q E { s with toks := tk } := wpAny_Constant_str (h _ _)
theorem x_add (h : ∀ t tk', Q (.int (a + b) t) { s with toks := tk' }) : wpAny (model prog w) A (binaryOp .Add (.int a t) (.int b u)) Q E { s with toks := tk } := add_int (h _ _)
theorem x_sub (h : ∀ t tk', Q (.int (a - b) t) { s with toks := tk' }) : wpAny (model prog w) A (binaryOp .Sub (.int a t) (.int b u)) Q E { s with toks := tk } := sub_int (h _ _)
theorem x_div (hb : b ≠ 0) (hs : b.natAbs < 1073741824) (h : ∀ t tk', Q (.int (a.fdiv b) t) { s with toks := tk' }) : wpAny (model prog w) A (binaryOp .FloorDiv (.int a t) (.int b u)) Q E { s with toks := tk } :=
  floordiv_int hb (h _ _) (.inl (PyProof.noPylong_small hs))
theorem x_mod (hb : b ≠ 0) (h : ∀ t tk', Q (.int (a.fmod b) t) { s with toks := tk' }) : wpAny (model prog w) A (binaryOp .Mod (.int a t) (.int b u)) Q E { s with toks := tk } := mod_int' hb (h _ _)
theorem x_neg (h : ∀ t tk', Q (.int (-a) t) { s with toks := tk' }) : wpAny (model prog w) A (unaryOp .USub (.int a t)) Q E { s with toks := tk } := PyProof.Rows.neg_int (h _ _)
theorem x_and (h : ∀ t tk', Q (.int (Builtin.bitAnd a b) t) { s with toks := tk' }) : wpAny (model prog w) A (binaryOp .BitAnd (.int a t) (.int b u)) Q E { s with toks := tk } := and_int (h _ _)
theorem x_or (h : ∀ t tk', Q (.int (Builtin.bitOr a b) t) { s with toks := tk' }) : wpAny (model prog w) A (binaryOp .BitOr (.int a t) (.int b u)) Q E { s with toks := tk } := or_int (h _ _)
theorem x_shl (hn : 0 ≤ b) (hn2 : b ≤ 1000000) (ha : a.natAbs < 2 ^ 64) (h : ∀ t tk', Q (.int (a * 2 ^ b.toNat) t) { s with toks := tk' }) : wpAny (model prog w) A (binaryOp .LShift (.int a t) (.int b u)) Q E { s with toks := tk } := lshift_int_small hn hn2 ha (h _ _)
theorem x_shr (hn : 0 ≤ b) (h : ∀ t tk', Q (.int (a.fdiv (2 ^ b.toNat)) t) { s with toks := tk' }) : wpAny (model prog w) A (binaryOp .RShift (.int a t) (.int b u)) Q E { s with toks := tk } := rshift_int hn (h _ _)
theorem x_pow (hn : 0 ≤ b) (hsz : (Builtin.Int.intBits a : Int) * b ≤ 2 ^ 27) (h : ∀ t tk', Q (.int (a ^ b.toNat) t) { s with toks := tk' }) : wpAny (model prog w) A (binaryOp .Pow (.int a t) (.int b u)) Q E { s with toks := tk } := pow_int hn hsz (h _ _)
theorem x_cat (h : ∀ t tk', Q (.str (x ++ y) t) { s with toks := tk' }) (hsz : x.length + y.length ≤ sizeLine) : wpAny (model prog w) A (binaryOp .Add (.str x t) (.str y u)) Q E { s with toks := tk } := add_str (fun t' tk' => h t' tk') hsz
end

/-! ## calls -/
noncomputable def notStar : Expr → Bool
  | .Starred .. => false
  | _ => true
theorem starEach_cons {e : Expr} {rest : List Expr} {env : Env} (h : notStar e = true) : starEach (e :: rest) env = (false, eval e env) :: starEach rest env := by
  cases e <;> first | rfl | cases h
noncomputable def noStars (es : List Expr) : Bool := es.all notStar
theorem noStars_any {pos : Pos} {env : Env} : ∀ {es : List Expr}, noStars es = true → (backTo pos (starEach es env)).any (·.1) = false
  | [], _ => rfl
  | e :: r, h => by
    simp only [noStars, List.all_cons, Bool.and_eq_true] at h
    rw [starEach_cons h.1]
    simp only [backTo, List.map_cons, List.any_cons, Bool.false_or]
    exact noStars_any (es := r) h.2
section
variable {M : Model} {A : Around} {E : Value → Shared → Prop} {s : Shared} {env : Env} {Q : Value → Shared → Prop} {pos : Pos}
theorem sp_cons {QL : List Value → Shared → Prop} {e : Expr} {rest : List Expr} (h : wpAny M A (eval e env) (fun v s₁ => wpAny M A (spliced (backTo pos (starEach rest env))) (fun vs s₂ => QL (v :: vs) s₂) E s₁) E s)
    (he : notStar e = true := by rfl) : wpAny M A (spliced (backTo pos (starEach (e :: rest) env))) QL E s := by
  rw [starEach_cons he]; exact PySem.Calls.spliced_cons h
theorem sp_nil {QL : List Value → Shared → Prop} (h : QL [] s) : wpAny M A (spliced (backTo pos (starEach [] env))) QL E s := PySem.Calls.spliced_nil h
theorem call_name {x : Str} {p : Pos} {args : List Expr} (h : wpAny M A (eval (.Name x p) env) (fun f s₁ => wpAny M A (callWith pos f [] (backTo pos (starEach args env)) []) Q E s₁) E s) : wpAny M A (eval (.Call (.Name x p) args [] pos) env) Q E s := Call_Name rfl h
theorem cw_of {f : Value} {P : Heap → Prop} {first : List Value} {args : List (Bool × Sem Value)} (hp : args.any (·.1) = false) (hne : args ≠ [])
    (hk : ∀ h, P h → ∃ k, (k = Keeper.frame ∨ k = Keeper.machine ∨ k = Keeper.boundFrame) ∧ Looks M h (keeperOf f) k)
    (h : wpAny M A (spliced args) (fun vs s₁ => P s₁.heap ∧ wpAny M A (call f (first ++ vs)) Q E s₁) E s) : wpAny M A (callWith pos f first args []) Q E s := by
  refine callWith_of (by rw [hp]; rfl) hk ?_
  match args, hp, hne with
  | (b, t) :: rest, hp, _ =>
    simp only [List.any_cons, Bool.or_eq_false_iff] at hp
    obtain ⟨rfl, _⟩ := hp
    exact PySem.Calls.evalArgs_plain h
theorem star_plain {e : Expr} {rest : List Expr} (he : noStars (e :: rest) = true) : backTo pos (starEach (e :: rest) env) ≠ [] := by
  simp only [noStars, List.all_cons, Bool.and_eq_true] at he
  rw [starEach_cons he.1]; simp [backTo]
theorem cw_type {T : String} {first : List Value} {e : Expr} {rest : List Expr} (h : wpAny M A (spliced (backTo pos (starEach (e :: rest) env))) (fun vs s₁ => wpAny M A (call (.type T) (first ++ vs)) Q E s₁) E s)
    (he : noStars (e :: rest) = true := by rfl) : wpAny M A (callWith pos (.type T) first (backTo pos (starEach (e :: rest) env)) []) Q E s :=
  cw_of (P := fun _ => True) (noStars_any he) (star_plain he) (fun _ _ => ⟨.machine, .inr (.inl rfl), .now⟩) (wpAny_mono h (fun _ _ x => ⟨trivial, x⟩) fun _ _ x => x)
theorem cw_blt {id : String} {first : List Value} {e : Expr} {rest : List Expr} (h : wpAny M A (spliced (backTo pos (starEach (e :: rest) env))) (fun vs s₁ => wpAny M A (call (.builtin id) (first ++ vs)) Q E s₁) E s)
    (he : noStars (e :: rest) = true := by rfl) : wpAny M A (callWith pos (.builtin id) first (backTo pos (starEach (e :: rest) env)) []) Q E s :=
  cw_of (P := fun _ => True) (noStars_any he) (star_plain he) (fun _ _ => ⟨.machine, .inr (.inl rfl), .now⟩) (wpAny_mono h (fun _ _ x => ⟨trivial, x⟩) fun _ _ x => x)
theorem cw_fn {f : Addr} (fl : FnLit f) {first : List Value} {e : Expr} {rest : List Expr} {w : World} (h : wpAny M A (spliced (backTo pos (starEach (e :: rest) env))) (fun vs s₁ => Bs w s₁.heap ∧ wpAny M A (call (.ref f) (first ++ vs)) Q E s₁) E s)
    (he : noStars (e :: rest) = true := by rfl) : wpAny M A (callWith pos (.ref f) first (backTo pos (starEach (e :: rest) env)) []) Q E s :=
  cw_of (P := fun h => Bs w h) (noStars_any he) (star_plain he) (fun h B => ⟨.frame, .inl rfl, (Looks.ld (part := none) (B.K _ _ (fl.at_ _))).andThen .now⟩) h
end

end Mine

/-! # NqParts -/
namespace Mine

noncomputable def digs : List Str := [Str.ofString "0", Str.ofString "1", Str.ofString "10", Str.ofString "11", Str.ofString "100", Str.ofString "101"]
noncomputable def pParts (i : Nat) (sg : Str) : List Str := (signs sg).take (i / 6 + 1) ++ [digs.getD (i % 6) ""]

theorem slice_to {x : Str} {j : Int} (h0 : 0 ≤ j) (h1 : j ≤ x.length) : Txt.slice x none (some j) = ⟨(x.cps.toList.take j.toNat).toArray⟩ := by
  have := eq_of_beq (slice_closes_to (x := x) (j := j) ⟨h0, by simpa [Str.length] using h1⟩)
  simpa using this
theorem signs_take (x : Str) (n : Nat) : signs ⟨(x.cps.toList.take n).toArray⟩ = (signs x).take n := by
  simp [signs, List.map_take]

theorem fdivN (i k : Nat) : (i : Int).fdiv (k : Int) = ((i / k : Nat) : Int) := by rw [Int.fdiv_eq_ediv_of_nonneg _ (by (exact Int.natCast_nonneg _))]; simp
theorem fmodN (i k : Nat) : (i : Int).fmod (k : Int) = ((i % k : Nat) : Int) := by rw [Int.fmod_eq_emod_of_nonneg _ (by (exact Int.natCast_nonneg _))]; simp

section
variable {prog : Program} {w : World} {A : Around} {E : Value → Shared → Prop} {s : Shared} {g : Heap} {Q : Value → Shared → Prop}
theorem c_parts {i : Nat} {ti ts : Tok} {sg : Str} (hh : A.handled = none) (hA : A.depth < recursionLimit) (hg : Sub g s.heap) (B : Bs w g) (hi : i < 6 * sg.length) (hsz : sg.length ≤ 100)
    (h : ∀ s' g' v, GoS [] s g s' g' → Rep g' (texts (pParts i sg)) v → Q v s') : wpAny (model prog w) A (call (.ref 130) [.int i ti, .str sg ts]) Q E s := by
  refine callFn fParts (D := []) (binds := [("i", .int i ti), ("signs", .str sg ts)]) hA hg B rfl (BindsTo.of_eq rfl) rfl (fun L s₁ A' hh' _ _ F C hk => ?_)
  rw [hh] at hh'
  refine wpAny_execs_cons (wpAny_Return_some (wpAny_BinOp ?_))
  refine call_name (nm_blt F B (nList _) bList ?_)
  refine cw_type (sp_cons (Subscript_ (nm_local F rfl (wpAny_Slice (evalPart_none_step (evalPart_some_step ?_))))))
  refine wpAny_BinOp (wpAny_BinOp (nm_local F rfl (x_int fun _ _ => x_div (by decide) (by decide) fun _ _ => x_int fun _ _ => x_add fun _ _ => evalPart_none_step ?_)))
  refine' r_sliceTo F.sub (fun s₂ t₂ G₂ => ?_) ?_
  rotate_left
  · rw [sizeLine_eq]; (exact Nat.le_trans hsz (Nat.le_of_ble_eq_true rfl))
  have F₂ := F.step G₂
  have hf : ((i : Int).fdiv 6) = ((i / 6 : Nat) : Int) := fdivN i 6
  rw [hf, slice_to (by (clear hA hf; omega)) (by (clear hA hsz hf; omega))]
  refine sp_nil ?_
  refine r_listStr hh' F₂.sub (fun s₃ g₃ v₃ G₃ R₃ => ?_) ?_
  · have F₃ := F₂.step G₃
    refine List_ ?_
    refine sp_cons ?_
    refine Subscript_ ?_
    refine List_ ?_
    refine sp_cons (x_str fun _ _ => ?_)
    refine sp_cons (x_str fun _ _ => ?_)
    refine sp_cons (x_str fun _ _ => ?_)
    refine sp_cons (x_str fun _ _ => ?_)
    refine sp_cons (x_str fun _ _ => ?_)
    refine sp_cons (x_str fun _ _ => ?_)
    refine sp_nil ?_
    refine r_newList (l := [.str _, .str _, .str _, .str _, .str _, .str _]) F₃.sub (.cons (.str _ _) (.cons (.str _ _) (.cons (.str _ _) (.cons (.str _ _) (.cons (.str _ _) (.cons (.str _ _) .nil)))))) fun s₄ g₄ v₄ G₄ R₄ => ?_
    have F₄ := F₃.step G₄
    replace R₄ : Rep g₄ (texts digs) v₄ := R₄
    refine wpAny_BinOp (nm_local F₄ rfl (x_int fun _ _ => x_mod (by decide) fun _ _ => ?_))
    have hm : ((i : Int).fmod 6) = ((i % 6 : Nat) : Int) := fmodN i 6
    rw [hm]
    have hd : digs[i % 6]? = some (digs.getD (i % 6) "") := by
      have : i % 6 < digs.length := Nat.mod_lt _ (by decide)
      simp [List.getD, List.getElem?_eq_getElem this]
    refine r_item F₄.sub R₄ (by (exact Int.natCast_nonneg _)) (by (clear hA hi hsz hf; omega)) (d := .str (digs.getD (i % 6) "")) (by rw [Int.toNat_natCast, List.getElem?_map, hd]; rfl) fun u hu => ?_
    refine sp_nil ?_
    refine r_newList F₄.sub (.cons hu .nil) fun s₅ g₅ v₅ G₅ R₅ => ?_
    have F₅ := F₄.step G₅
    refine r_addLists F₅.sub (R₃.mono (G₄.up.trans G₅.up)) R₅ (fun s₆ g₆ v₆ G₆ R₆ => ?_) ?_
    · refine h _ _ _ (F₅.step G₆).go ?_
      have e : pParts i sg = signs ⟨(sg.cps.toList.take (((i / 6 : Nat) : Int) + 1).toNat).toArray⟩ ++ [digs.getD (i % 6) ""] := by
        rw [signs_take, pParts]
        congr 2
      rw [e]
      simpa [texts] using R₆
    · rw [sizeLine_eq]; simp only [List.length_map, signs_take, List.length_take, signs_length, List.length_cons, List.length_nil]; (clear hA hi hf hm; omega)
  · rw [sizeLine_eq]; simp [Str.length]; (clear hA hf; omega)
end
end Mine

/-! # NqLoops -/
namespace Mine

/-! ## a frame seen anew -/
noncomputable def hideL (env : Env) (s : Shared) (g : Heap) : Ent := ⟨cut s.heap (· ≠ env.locals), s.os, s.gens, g⟩
section
variable {D : List Addr} {e : Ent} {env : Env} {ρ ρ' : Str → Option Value} {s s' : Shared} {g g' : Heap}
theorem Fm.re (F : FmS D e env ρ s g) (D' : List Addr) : FmS D' (hideL env s g) env ρ s g :=
  ⟨⟨fun b o _ q => (cut_some.mp q).2, fun b o q => ⟨o, (cut_some.mp q).2⟩, Sub.refl _, F.sub, fun _ _ _ n => n, rfl, rfl⟩, F.vars, cut_none (by simp), F.hid⟩
theorem Fm.join (F : FmS D e env ρ s g) {D' : List Addr} (F' : FmS D' (hideL env s g) env ρ' s' g') (hD : ∀ x ∈ D', x ∈ D ∨ e.h.get? x = none) : FmS D e env ρ' s' g' := by
  have up : ∀ b o, e.h.get? b = some o → ∀ o', s.heap.get? b = some o' → (hideL env s g).h.get? b = some o' := fun b o q o' q' => cut_some.mpr ⟨fun z => (by rw [z, F.fresh] at q; cases q), q'⟩
  refine ⟨⟨fun b o hb q => ?_, fun b o q => ?_, F.go.up.trans F'.go.up, F'.go.sub, fun b o q n => ?_, F'.go.os.trans F.go.os, F'.go.gs.trans F.go.gs⟩, F'.vars, F.fresh, F'.hid⟩
  · refine F'.go.keep b o (fun hm => ?_) (up b o q o (F.go.keep b o hb q))
    rcases hD b hm with h | h
    · exact hb h
    · rw [h] at q; cases q
  · obtain ⟨o', q'⟩ := F.go.live b o q; exact F'.go.live b o' (up b o q o' q')
  · obtain ⟨o', q'⟩ := F.go.live b o q; exact F'.go.off b o' (up b o q o' q') (F.go.off b o q n)
theorem Fm.weaken (F : FmS D e env ρ s g) (h : ∀ x v, ρ' x = some v → ρ x = some v) : FmS D e env ρ' s g :=
  ⟨F.go, ⟨let ⟨m, hn, hm⟩ := F.vars.loc; ⟨m, hn, fun x v hx hv => hm x v hx (h x v hv)⟩, fun n c hc => let ⟨cv, h1, h2⟩ := F.vars.cell n c hc; ⟨cv, h1, fun v hv => h2 v (h n v hv)⟩⟩, F.fresh, F.hid⟩
end

/-! ## loops -/
noncomputable abbrev NoE : Value → Shared → Prop := fun _ _ => False
section
variable {prog : Program} {w : World} {A : Around} {R : Result → Shared → Prop} {s : Shared} {D : List Addr} {e₀ : Ent} {env : Env} {g : Heap} {I : Addr} {fp wr : List Addr} {n : Nat} {P : Nat → Value → Prop} {St : Nat → Heap → Prop}

/-- one step of the iterator, seen from the frame -/
theorem Fm.iter {ρ : Str → Option Value} {h' : Heap} {tk : Nat} (F : FmS D e₀ env ρ s g) (hw : ∀ x ∈ wr, e₀.h.get? x = none ∧ ¬ FrameAt env x) (hg : ∀ x ∈ wr, g.get? x = none) (k : ∀ b o, b ∉ wr → s.heap.get? b = some o → h'.get? b = some o) :
    FmS D e₀ env ρ { s with heap := h', toks := tk } g := by
  have nw : ∀ b o, e₀.h.get? b = some o → b ∉ wr := fun b o q hm => by rw [(hw b hm).1] at q; cases q
  exact ⟨⟨fun b o hb q => k b o (nw b o q) (F.go.keep b o hb q), fun b o q => let ⟨o', q'⟩ := F.go.live b o q; ⟨o', k b o' (nw b o q) q'⟩, F.go.up, fun b o q => k b o (fun hm => (by rw [hg b hm] at q; cases q)) (F.sub b o q), F.go.off, F.go.os, F.go.gs⟩,
    F.vars.keeps fun b o hb q => k b o (fun hm => (hw b hm).2 hb) q, F.fresh, F.hid⟩

theorem forGen {target : Expr} {body : List Stmt} (Inv : Nat → (Str → Option Value) → Heap → Heap → Prop) (Rt : Value → Heap → Heap → Prop) {ρ : Str → Option Value}
    (W : Walks prog w A I fp wr n P St) (F : FmS D e₀ env ρ s g) (hst : St 0 s.heap) (hI : Inv 0 ρ g s.heap)
    (hw : ∀ x ∈ wr, e₀.h.get? x = none ∧ ¬ FrameAt env x) (hg : ∀ x ∈ wr, g.get? x = none) (hlive : ∀ i h, St i h → ∀ x ∈ wr, ∃ o, h.get? x = some o) (hfp : ∀ x ∈ fp, x ∉ D ∧ x ≠ env.locals)
    (hInv : ∀ i ρ g (h h' : Heap), Inv i ρ g h → (∀ b o, b ∉ wr → h.get? b = some o → h'.get? b = some o) → Inv i ρ g h')
    (hown : ∀ i v s (Q : Unit → Shared → Prop), St i s.heap → Q () s → wpAny (model prog w) A (letOwnedTupleGo target (.ref I) v) Q NoE s)
    (turn : ∀ i v s g₁ e₁ ρ₁, i < n → P i v → FmS D e₁ env ρ₁ s g₁ → Sub g g₁ → Inv i ρ₁ g₁ s.heap →
      wpAny (model prog w) A (assign target env v) (fun _ s₂ => wpAny (model prog w) A (execs body env) (fun f s₃ => match f with
        | .next | .cont => ∃ g₃ ρ₃, FmS D e₁ env ρ₃ s₃ g₃ ∧ Inv (i + 1) ρ₃ g₃ s₃.heap
        | .brk => False
        | .ret v => ∃ g₃ ρ₃, FmS D e₁ env ρ₃ s₃ g₃ ∧ Rt v g₃ s₃.heap) NoE s₂) NoE s)
    (done : ∀ s' g' ρ', FmS D e₀ env ρ' s' g' → Sub g g' → Inv n ρ' g' s'.heap → R (.ok .next) s')
    (ret : ∀ v s' g' ρ', FmS D e₀ env ρ' s' g' → Sub g g' → Rt v g' s'.heap → R (.ok (.ret v)) s') :
    codeAny (model prog w) A (.forLoop target (.ref I) body [] env) R s := by
  refine codeAny_forLoop_any (fun k s' => ∃ i g' ρ', k = n - i ∧ i ≤ n ∧ FmS D e₀ env ρ' s' g' ∧ Sub g g' ∧ (∀ x ∈ wr, g'.get? x = none) ∧ St i s'.heap ∧ Inv i ρ' g' s'.heap) ?_ n ⟨0, g, ρ, rfl, Nat.zero_le _, F, Sub.refl _, hg, hst, hI⟩
  rintro k s' ⟨i, g', ρ', rfl, hi, F', hg', hw', hst', hI'⟩
  by_cases hlt : i < n
  · refine W.item i s' _ _ hlt hst' fun v h' tk hP hst₁ k₁ => ?_
    have F₁ : FmS D e₀ env ρ' { s' with heap := h', toks := tk } g' := F'.iter hw hw' k₁
    have hI₁ := hInv _ _ _ _ _ hI' k₁
    generalize hs₁ : ({ s' with heap := h', toks := tk } : Shared) = s₁ at F₁
    have e₁ : h' = s₁.heap := by rw [← hs₁]
    rw [e₁] at hst₁ hI₁
    show wpAny _ A (letOwnedTupleGo target (.ref I) v) _ _ _
    refine wpAny_mono (hown _ v s₁ _ hst₁ ?_) (fun _ _ h => h) fun _ _ h => h.elim
    refine wpAny_mono (turn i v s₁ g' (hideL env s₁ g') ρ' hlt hP (F₁.re D) hg' hI₁) (fun _ s₂ h₂ => ?_) fun _ _ h => h.elim
    refine wpAny_mono h₂ (fun f s₃ h₃ => ?_) fun _ _ h => h.elim
    have off : ∀ g₃ ρ₃, FmS D (hideL env s₁ g') env ρ₃ s₃ g₃ → ∀ x ∈ wr, g₃.get? x = none := fun g₃ ρ₃ F₃ x hx => by
      obtain ⟨o, ho⟩ := hlive _ _ hst₁ x hx
      exact F₃.go.off x o (cut_some.mpr ⟨fun z => (hw x hx).2 (.inl z), ho⟩) (hw' x hx)
    have st : ∀ g₃ ρ₃, FmS D (hideL env s₁ g') env ρ₃ s₃ g₃ → St (i + 1) s₃.heap := fun g₃ ρ₃ F₃ => W.frame _ _ _ hst₁ fun b hb o q => F₃.go.keep b o (hfp b hb).1 (cut_some.mpr ⟨(hfp b hb).2, q⟩)
    cases f with
    | next => obtain ⟨g₃, ρ₃, F₃, hI₃⟩ := h₃; exact ⟨n - (i + 1), by (clear hi; omega), i + 1, g₃, ρ₃, rfl, hlt, F₁.join F₃ (fun x hx => .inl hx), hg'.trans F₃.go.up, off _ _ F₃, st _ _ F₃, hI₃⟩
    | cont => obtain ⟨g₃, ρ₃, F₃, hI₃⟩ := h₃; exact ⟨n - (i + 1), by (clear hi; omega), i + 1, g₃, ρ₃, rfl, hlt, F₁.join F₃ (fun x hx => .inl hx), hg'.trans F₃.go.up, off _ _ F₃, st _ _ F₃, hI₃⟩
    | brk => exact h₃.elim
    | ret v => obtain ⟨g₃, ρ₃, F₃, hI₃⟩ := h₃; exact ret _ _ _ _ (F₁.join F₃ (fun x hx => .inl hx)) (hg'.trans F₃.go.up) hI₃
  · obtain rfl : i = n := by omega
    refine W.done s' _ _ hst' fun h' tk k₁ => ?_
    exact wpAny_execs_nil (done _ _ _ (F'.iter hw hw' k₁) hg' (hInv _ _ _ _ _ hI' k₁))

/-- a turn of a comprehension's clause -/
noncomputable def turnBlk (emit : Sem Unit) (target : Expr) (p : Pos) (ifs : List Expr) (c : Code) (it : Value) (env : Env) : Sem Fin := do
  standAt p
  match ← pyNext it with
  | none => pure (.done .next)
  | some v =>
    letOwnedTupleGo target it v
    assign target env v
    let mut ok := true
    for c in ifs do
      if ok then ok ← isTrue c env (eval c env)
    if ok then emit
    again c

theorem compGen {e : Expr} {d : Nat} {acc : Value} {target : Expr} {p : Pos} {ifs : List Expr} {emit : Sem Unit} (Inv : Nat → Heap → Heap → Prop) {ρ : Str → Option Value}
    (ht : compTurn e d (.ref I) acc env = turnBlk emit target p ifs (.compLoop e d (.ref I) acc env) (.ref I) env)
    (hq : (Code.compLoop e d (.ref I) acc env).quiet = true) (hf : (Code.compLoop e d (.ref I) acc env).isFrame = false) (hA : A.under (Code.compLoop e d (.ref I) acc env) = A)
    (W : Walks prog w A I fp wr n P St) (F : FmS D e₀ env ρ s g) (hst : St 0 s.heap) (hI : Inv 0 g s.heap)
    (hw : ∀ x ∈ wr, e₀.h.get? x = none ∧ ¬ FrameAt env x) (hg : ∀ x ∈ wr, g.get? x = none) (hlive : ∀ i h, St i h → ∀ x ∈ wr, ∃ o, h.get? x = some o) (hfp : ∀ x ∈ fp, x ∉ D ∧ x ≠ env.locals)
    (hInv : ∀ i g (h h' : Heap), Inv i g h → (∀ b o, b ∉ wr → h.get? b = some o → h'.get? b = some o) → Inv i g h')
    (hown : ∀ i v s (Q : Unit → Shared → Prop), St i s.heap → Q () s → wpAny (model prog w) A (letOwnedTupleGo target (.ref I) v) Q NoE s)
    (turn : ∀ i v s g₁ e₁, i < n → P i v → FmS D e₁ env ρ s g₁ → Sub g g₁ → Inv i g₁ s.heap →
      wpAny (model prog w) A (assign target env v) (fun _ s₂ => wpAny (model prog w) A (forIn ifs true fun c r => if r = true then do let ok ← isTrue c env (eval c env); pure (ForInStep.yield ok) else pure (ForInStep.yield r)) (fun ok s₃ =>
        if ok = true then wpAny (model prog w) A emit (fun _ s₄ => ∃ g₄, FmS D e₁ env ρ s₄ g₄ ∧ Inv (i + 1) g₄ s₄.heap) NoE s₃ else ∃ g₃, FmS D e₁ env ρ s₃ g₃ ∧ Inv (i + 1) g₃ s₃.heap) NoE s₂) NoE s)
    (done : ∀ s' g', FmS D e₀ env ρ s' g' → Sub g g' → Inv n g' s'.heap → R (.ok .next) s') :
    codeAny (model prog w) A (.compLoop e d (.ref I) acc env) R s := by
  refine codeAny_loop hq (fun k s' => ∃ i g', k = n - i ∧ i ≤ n ∧ FmS D e₀ env ρ s' g' ∧ Sub g g' ∧ (∀ x ∈ wr, g'.get? x = none) ∧ St i s'.heap ∧ Inv i g' s'.heap) ?_ n ⟨0, g, rfl, Nat.zero_le _, F, Sub.refl _, hg, hst, hI⟩
  rintro k s' ⟨i, g', rfl, hi, F', hg', hw', hst', hI'⟩
  rw [hA]
  show wpAny _ A (if (Code.compLoop e d (.ref I) acc env).isFrame = true then _ else (compTurn e d (.ref I) acc env).onRaise (fun x => do noteFrame x env; theTreesLotGoes x)) _ _ s'
  rw [hf]
  simp only [Bool.false_eq_true, if_false]
  refine wpAny_noted ?_
  rw [ht]
  unfold turnBlk
  refine wpAny_bind (wpAny_standAt (wpAny_bind ?_))
  by_cases hlt : i < n
  · refine W.item i s' _ _ hlt hst' fun v h' tk hP hst₁ k₁ => ?_
    have F₁ : FmS D e₀ env ρ { s' with heap := h', toks := tk } g' := F'.iter hw hw' k₁
    have hI₁ := hInv _ _ _ _ hI' k₁
    generalize hs₁ : ({ s' with heap := h', toks := tk } : Shared) = s₁ at F₁
    have e₁ : h' = s₁.heap := by rw [← hs₁]
    rw [e₁] at hst₁ hI₁
    have off : ∀ s₃ g₃, FmS D (hideL env s₁ g') env ρ s₃ g₃ → ∀ x ∈ wr, g₃.get? x = none := fun s₃ g₃ F₃ x hx => by
      obtain ⟨o, ho⟩ := hlive _ _ hst₁ x hx
      exact F₃.go.off x o (cut_some.mpr ⟨fun z => (hw x hx).2 (.inl z), ho⟩) (hw' x hx)
    have st : ∀ s₃ g₃, FmS D (hideL env s₁ g') env ρ s₃ g₃ → St (i + 1) s₃.heap := fun s₃ g₃ F₃ => W.frame _ _ _ hst₁ fun b hb o q => F₃.go.keep b o (hfp b hb).1 (cut_some.mpr ⟨(hfp b hb).2, q⟩)
    have fin : ∀ s₃, (∃ g₃, FmS D (hideL env s₁ g') env ρ s₃ g₃ ∧ Inv (i + 1) g₃ s₃.heap) → ∃ m, m < n - i ∧ ∃ i g', m = n - i ∧ i ≤ n ∧ FmS D e₀ env ρ s₃ g' ∧ Sub g g' ∧ (∀ x ∈ wr, g'.get? x = none) ∧ St i s₃.heap ∧ Inv i g' s₃.heap := by
      rintro s₃ ⟨g₃, F₃, hI₃⟩
      exact ⟨n - (i + 1), by (clear hi; omega), i + 1, g₃, rfl, hlt, F₁.join F₃ (fun x hx => .inl hx), hg'.trans F₃.go.up, off _ _ F₃, st _ _ F₃, hI₃⟩
    dsimp only
    refine wpAny_bind (wpAny_mono (hown _ v s₁ _ hst₁ ?_) (fun _ _ h => h) fun _ _ h => h.elim)
    refine wpAny_bind (wpAny_mono (turn i v s₁ g' (hideL env s₁ g') hlt hP (F₁.re D) hg' hI₁) (fun _ s₂ h₂ => ?_) fun _ _ h => h.elim)
    refine wpAny_bind (wpAny_mono h₂ (fun ok s₃ h₃ => ?_) fun _ _ h => h.elim)
    cases ok with
    | false => exact wpAny_pure ⟨rfl, fin _ h₃⟩
    | true => exact wpAny_bind (wpAny_mono h₃ (fun _ s₄ h₄ => wpAny_pure ⟨rfl, fin _ h₄⟩) fun _ _ h => h.elim)
  · obtain rfl : i = n := by omega
    refine W.done s' _ _ hst' fun h' tk k₁ => ?_
    exact wpAny_pure (done _ _ (F'.iter hw hw' k₁) hg' (hInv _ _ _ _ hI' k₁))
end

end Mine

/-! # NqComp -/
namespace Mine

theorem lts {h : Heap} {a : Addr} {o : Obj} (e : h.get? a = some o) : @LT.lt Nat _ a h.objs.size := Heap.lt_size e

/-- what a loop's source is: its iterator at `I`, made behind `s` -/
noncomputable def Src (prog : Program) (w : World) (A : Around) (target : Expr) (n : Nat) (P : Nat → Value → Prop) (s : Shared) (I : Addr) (s₂ : Shared) (g₂ : Heap) : Prop :=
  ∃ fp wr St, Walks prog w A I fp wr n P St ∧ St 0 s₂.heap ∧ (∀ x ∈ wr, s.heap.get? x = none) ∧ (∀ x ∈ wr, g₂.get? x = none) ∧ (∀ x ∈ fp, ∃ o, s₂.heap.get? x = some o) ∧ (∀ x ∈ fp, s.heap.get? x = none ∨ ∃ o, g₂.get? x = some o) ∧
    (∀ i h, St i h → ∀ x ∈ wr, ∃ o, h.get? x = some o) ∧ (∀ x ∈ wr, ∃ o, s₂.heap.get? x = some o) ∧
    ∀ i v s (Q : Unit → Shared → Prop), St i s.heap → Q () s → wpAny (model prog w) A (letOwnedTupleGo target (.ref I) v) Q NoE s

noncomputable def res (b : Nat → Bool) (dt : Nat → Dt) (n : Nat) : List Dt := (List.range n).filterMap fun i => if b i then some (dt i) else none
theorem res_succ_true {b : Nat → Bool} {dt : Nat → Dt} {n : Nat} (h : b n = true) : res b dt (n + 1) = res b dt n ++ [dt n] := by simp [res, List.range_succ, h]
theorem res_succ_false {b : Nat → Bool} {dt : Nat → Dt} {n : Nat} (h : b n = false) : res b dt (n + 1) = res b dt n := by simp [res, List.range_succ, h]
theorem res_length (b : Nat → Bool) (dt : Nat → Dt) (n : Nat) : (res b dt n).length ≤ n := by
  unfold res; exact Nat.le_trans (List.length_filterMap_le _ _) (by simp)
theorem res_all (dt : Nat → Dt) (n : Nat) : res (fun _ => true) dt n = (List.range n).map dt := by simp [res]

theorem Go.drop {D D' : List Addr} {h h₁ g g₁ : Heap} {os os₁ : OsState} {gs gs₁ : Array GenState} (x : Go D' h os gs g h₁ os₁ gs₁ g₁) (hD : ∀ d ∈ D', d ∈ D ∨ h.get? d = none) : Go D h os gs g h₁ os₁ gs₁ g₁ :=
  ⟨fun b o hb e => x.keep b o (fun hm => (hD b hm).elim hb fun z => by rw [z] at e; cases e) e, x.live, x.up, x.sub, x.off, x.os, x.gs⟩

section
variable {prog : Program} {w : World} {A : Around} {E : Value → Shared → Prop} {s : Shared} {D : List Addr} {e : Ent} {env : Env} {ρ ρc : Str → Option Value} {g : Heap} {n : Nat} {P : Heap → Nat → Value → Prop}

theorem compCoreG {elt target iter : Expr} {ifs : List Expr} {scope : Scope} {pos : Pos} {cl : List (Str × Addr)} (b : Nat → Bool) (dt : Nat → Dt) (J : Nat → Heap → Heap → Prop) {RR : Value → Addr → Result → Shared → Prop}
    (F : FmS D e env ρ s g) (hDl : ∀ x ∈ D, ∃ o, s.heap.get? x = some o) (hDg : ∀ x ∈ D, g.get? x = none) (hDF : ∀ x ∈ D, ¬ FrameAt env x)
    (hcl : ∀ x c, cl.lookup x = some c → env.cells.lookup x = some c)
    (hρ : ∀ C x v, ρc x = some v → (compEnvC scope cl C env).kindOf x ≠ some .local ∧ ρ x = some v)
    (hcell : ∀ y ∈ scope.names, y.2 ≠ .cell) (hkind : scope.kind = .function) (hn : n ≤ 1000000)
    (hJ : ∀ i g (h h' : Heap), J i g h → (∀ b ∈ D, ∀ o, h.get? b = some o → h'.get? b = some o) → J i g h')
    (hJg : ∀ i (g g' h : Heap), J i g h → Sub g g' → J i g' h)
    (src : ∀ Q : Value → Shared → Prop, (∀ I s₂ g₂, GoS D s g s₂ g₂ → Src prog w A target n (P g₂) s I s₂ g₂ → J 0 g₂ s₂.heap → Q (.ref I) s₂) → wpAny (model prog w) A (eval iter env) (fun x s₁ => wpAny (model prog w) A (pyIter x) Q E s₁) E s)
    (hPm : ∀ g g' i v, Sub g g' → P g i v → P g' i v)
    (turn : ∀ C i v s₁ g₁ e₁, i < n → P g₁ i v → FmS D e₁ (compEnvC scope cl C env) ρc s₁ g₁ → Sub g g₁ → (∀ x ∈ D, g₁.get? x = none ∧ ¬ FrameAt (compEnvC scope cl C env) x) → J i g₁ s₁.heap →
      wpAny (model prog w) A (assign target (compEnvC scope cl C env) v) (fun _ s₂ => wpAny (model prog w) A (forIn ifs true fun c r => if r = true then do let ok ← isTrue c (compEnvC scope cl C env) (eval c (compEnvC scope cl C env)); pure (ForInStep.yield ok) else pure (ForInStep.yield r)) (fun ok s₃ =>
        ok = b i ∧ (b i = true → wpAny (model prog w) A (eval elt (compEnvC scope cl C env)) (fun y s₄ => ∃ g₄, FmS D e₁ (compEnvC scope cl C env) ρc s₄ g₄ ∧ J (i + 1) g₄ s₄.heap ∧ Rep g₄ (dt i) y) NoE s₃) ∧
        (b i = false → ∃ g₃, FmS D e₁ (compEnvC scope cl C env) ρc s₃ g₃ ∧ J (i + 1) g₃ s₃.heap)) NoE s₂) NoE s₁)
    (hR : ∀ a C s' g' m, GoS D s g s' g' → s'.heap.Ns C m → s.heap.get? C = none → g'.get? C = none → C ∉ D → Rep g' (.list (res b dt n)) (.ref a) → J n g' s'.heap → RR (.ref a) C (.ok .next) s') :
    wpAny (model prog w) A (eval iter env) (fun x s₁ => wpAny (model prog w) A (pyIter x) (fun it s₂ => wpAny (model prog w) A (newList []) (fun acc s₃ =>
      wpAny (model prog w) A (newFunctionEnv scope env.globals cl [] env.qual none .none (some env)) (fun cenv s₄ =>
        codeAny (model prog w) A (.compStart (.ListComp elt [⟨target, iter, ifs, 0⟩] scope pos) 0 it acc { cenv with scope := relabel scope env }) (RR acc cenv.locals) s₄) E s₃) E s₂) E s₁) E s := by
  refine src _ fun I s₂ g₂ G₂ hsrc hJ₀ => ?_
  obtain ⟨fp, wr, St, W, hst, hwn, hwg, hfpl, hfpo, hlive, hwl, hown⟩ := hsrc
  have hfpD : ∀ x ∈ fp, x ∉ D := fun x hx hd => by
    obtain ⟨o, q⟩ := hDl x hd
    rcases hfpo x hx with h | ⟨o', q'⟩
    · rw [h] at q; cases q
    · rw [G₂.off x o q (hDg x hd)] at q'; cases q'
  refine wpAny_newList ?_ (by exact Nat.le_of_ble_eq_true rfl)
  refine wpAny_newFunctionEnv hcell (by intro x hx; cases hx) (fun h₁ hns hsb => ?_) hkind
  generalize hH : s₂.heap.push { cls := .type "list", dict := none, data := .seq ([] : List Value).toArray } = H at hns hsb ⊢
  have hC : H.objs.size = s₂.heap.objs.size + 1 := by rw [← hH, Heap.size_push]
  have up₁ : Sub s₂.heap h₁ := fun p o q => hsb.extBut p o (Nat.ne_of_lt (by have := lts q; show @LT.lt Nat _ p H.objs.size; (clear hn; omega))) (Heap.get?_push_of_some _ (hH ▸ Heap.get?_push_of_some _ q))
  have hacc : h₁.IsList s₂.heap.objs.size #[] := ⟨_, hsb.extBut _ _ (Nat.ne_of_lt (by show @LT.lt Nat _ s₂.heap.objs.size H.objs.size; (clear hn; omega))) (Heap.get?_push_of_some _ (hH ▸ Heap.get?_push_size _ rfl)), rfl, _, rfl⟩
  have old : ∀ p o, s.heap.get? p = some o → @LT.lt Nat _ p s₂.heap.objs.size := fun p o q => let ⟨_, q'⟩ := G₂.live p o q; lts q'
  have nA : s.heap.get? s₂.heap.objs.size = none := ext_none fun o q => Nat.lt_irrefl _ (old _ o q)
  have nC : s.heap.get? H.objs.size = none := ext_none fun o q => by have := old _ o q; (clear hn; omega)
  have gA : g₂.get? s₂.heap.objs.size = none := ext_none fun o q => Nat.lt_irrefl _ (lts (G₂.sub _ _ q))
  have gC : g₂.get? H.objs.size = none := ext_none fun o q => by have := lts (G₂.sub _ _ q); (clear hn; omega)
  have F₂ : FmS D e env ρ s₂ g₂ := F.stepD G₂ fun x hx => by
    refine ⟨.inl hx, hDF x hx⟩
  -- the block's frame
  generalize ha : s₂.heap.objs.size = a at *
  generalize hc : H.objs.size = C at *
  have hCD : C ∉ D := fun hx => by obtain ⟨o, q⟩ := hDl C hx; rw [nC] at q; cases q
  have haD : a ∉ D := fun hx => by obtain ⟨o, q⟩ := hDl a hx; rw [nA] at q; cases q
  have hframe : ∀ x, FrameAt (compEnvC scope cl C env) x → x = C ∨ FrameAt env x := by
    rintro x (h | ⟨m, h⟩)
    · exact .inl h
    · exact .inr (.inr ⟨m, hcl _ _ h⟩)
  let s₄ : Shared := { s₂ with heap := h₁, toks := s₂.toks + ([] : List (Str × Value)).length }
  have F₄ : FmS (a :: D) (Ent.of s g) (compEnvC scope cl C env) ρc s₄ g₂ := by
    refine ⟨⟨fun p o hp q => up₁ p o (G₂.keep p o (fun z => hp (.tail _ z)) q), fun p o q => let ⟨o', q'⟩ := G₂.live p o q; ⟨o', up₁ p o' q'⟩, G₂.up, G₂.sub.trans up₁, G₂.off, G₂.os, G₂.gs⟩, ⟨⟨_, hns, fun x v hx hv => ?_⟩, fun x c hx => ?_⟩, nC, fun x hx => ?_⟩
    · exact absurd hx (hρ C x v hv).1
    · obtain ⟨cv, ⟨o, ho, hd⟩, r⟩ := F₂.vars.cell x c (hcl _ _ hx)
      exact ⟨cv, ⟨o, up₁ c o ho, hd⟩, fun v hv => r v (hρ C x v hv).2⟩
    · rcases hframe x hx with rfl | h
      · exact gC
      · exact F₂.hid x h
  have hw : ∀ x ∈ wr, (Ent.of s g).h.get? x = none ∧ ¬ FrameAt (compEnvC scope cl C env) x := fun x hx => by
    refine ⟨hwn x hx, fun hf => ?_⟩
    rcases hframe x hf with rfl | h
    · obtain ⟨o, q⟩ := hwl _ hx; have := lts q; (clear hn haD hc hCD; omega)
    · obtain ⟨o, q⟩ := F.vars.at h; have := hwn x hx; rw [this] at q; cases q
  have hfp : ∀ x ∈ fp, x ∉ a :: D ∧ x ≠ (compEnvC scope cl C env).locals := fun x hx => by
    obtain ⟨o, q⟩ := hfpl x hx
    have hlt := lts q
    refine ⟨fun h => ?_, fun z => ?_⟩
    · rcases List.mem_cons.mp h with rfl | h
      · (clear hn hc hCD hC haD; omega)
      · exact hfpD x hx h
    · have : @Eq Nat x C := z
      have h2 : @LT.lt Nat _ x s₂.heap.objs.size := hlt
      have h3 : @Eq Nat s₂.heap.objs.size a := ha
      (clear hn hc hCD haD z h2 h3; omega)
  have nWr : ∀ x ∈ wr, x ∉ a :: D := fun x hx h => by
    rcases List.mem_cons.mp h with rfl | h
    · obtain ⟨o, q⟩ := hwl _ hx; have := lts q; (clear hn hc hCD hC haD; omega)
    · obtain ⟨o, q⟩ := hDl x h; rw [hwn x hx] at q; cases q
  let Inv : Nat → Heap → Heap → Prop := fun i g h => J i g h ∧ (∀ x ∈ D, g.get? x = none ∧ ∃ o, h.get? x = some o) ∧ g.get? a = none ∧ ∃ ys : Array Value, h.IsList a ys ∧ Reps g (res b dt i) ys.toList
  have loop : codeAny (model prog w) A (.compLoop (.ListComp elt [⟨target, iter, ifs, 0⟩] scope pos) 0 (.ref I) (.ref a) (compEnvC scope cl C env)) (RR (.ref a) C) s₄ := by
    refine compGen (emit := do let _ ← call (.builtin "list.append") [.ref a, ← eval elt (compEnvC scope cl C env)]) Inv (ρ := ρc) rfl rfl rfl (Around.under_of_weight rfl rfl) W F₄ (W.frame _ _ _ hst fun p _ o q => up₁ p o q) ?_ hw hwg hlive hfp ?_ hown ?_ ?_
    · exact ⟨hJ _ _ _ _ hJ₀ fun x hx o q => up₁ x o q, fun x hx => let ⟨o, q⟩ := hDl x hx; ⟨G₂.off x o q (hDg x hx), let ⟨o', q'⟩ := G₂.live x o q; ⟨o', up₁ x o' q'⟩⟩, gA, #[], hacc, by simpa [res] using Reps.nil⟩
    · rintro i g' h h' ⟨h1, hgD, hga, ys, h2, h3⟩ k
      exact ⟨hJ _ _ _ _ h1 fun x hx o q => k x o (fun hm => nWr x hm (.tail _ hx)) q, fun x hx => ⟨(hgD x hx).1, let ⟨o, q⟩ := (hgD x hx).2; ⟨o, k x o (fun hm => nWr x hm (.tail _ hx)) q⟩⟩, hga, ys, h2.at fun o q => k a o (fun hm => nWr a hm (.head _)) q, h3⟩
    · rintro i v s₁ g₁ e₁ hi hP F₁ hg₁ ⟨hJ₁, hgD, hga, ys, hys, hr⟩
      have F₁' := F₁.re D
      have hsz : ys.size ≤ sizeLine := by
        have h1 := hr.length
        have h2 := res_length b dt i
        rw [Array.length_toList] at h1
        rw [sizeLine_eq]; (clear ha hc hC hCD haD; omega)
      have haC : a ≠ (compEnvC scope cl C env).locals := fun z => by have : @Eq Nat a C := z; (clear hn ha hc hCD haD hi hsz z; omega)
      have accOf : ∀ s₃ g₃, FmS D (hideL (compEnvC scope cl C env) s₁ g₁) (compEnvC scope cl C env) ρc s₃ g₃ → s₃.heap.IsList a ys := fun s₃ g₃ F₃ => hys.at fun o q => F₃.go.keep a o haD (cut_some.mpr ⟨haC, q⟩)
      have dOf : ∀ s₃ g₃, FmS D (hideL (compEnvC scope cl C env) s₁ g₁) (compEnvC scope cl C env) ρc s₃ g₃ → ∀ x ∈ D, g₃.get? x = none ∧ ∃ o, s₃.heap.get? x = some o := fun s₃ g₃ F₃ x hx => by
        obtain ⟨hn, o, q⟩ := hgD x hx
        have q' : (hideL (compEnvC scope cl C env) s₁ g₁).h.get? x = some o := cut_some.mpr ⟨fun z => hCD ((show x = C from z) ▸ hx), q⟩
        exact ⟨F₃.go.off x o q' hn, F₃.go.live x o q'⟩
      refine wpAny_mono (turn C i v s₁ g₁ _ hi (hPm _ _ _ _ hg₁ hP) F₁' (G₂.up.trans hg₁) (fun x hx => ⟨(hgD x hx).1, fun hf => (hframe x hf).elim (fun z => hCD (z ▸ hx)) (hDF x hx)⟩) hJ₁) (fun _ s₂' h₂ => wpAny_mono h₂ (fun ok s₃ h₃ => ?_) fun _ _ z => z) fun _ _ z => z
      obtain ⟨rfl, ht, hf⟩ := h₃
      cases hb : b i with
      | false =>
        obtain ⟨g₃, F₃, hJ₃⟩ := hf hb
        have Fj := F₁.join F₃ fun x hx => .inl (.tail _ hx)
        simp only [Bool.false_eq_true, if_false]
        obtain ⟨oa, qa, _⟩ := id hys
        exact ⟨g₃, Fj, hJ₃, dOf _ _ F₃, F₃.go.off a oa (cut_some.mpr ⟨haC, qa⟩) hga, ys, accOf _ _ F₃, by rw [res_succ_false hb]; exact hr.mono F₃.go.up⟩
      | true =>
        simp only [if_true]
        refine wpAny_bind (wpAny_mono (ht hb) (fun y s₅ h₅ => ?_) fun _ _ z => z)
        obtain ⟨g₄, F₃, hJ₃, hR₃⟩ := h₅
        refine wpAny_bind (wpAny_list_append (accOf _ _ F₃) (fun h' hl' hs' => wpAny_pure ?_) hsz)
        have Fj := F₁.join F₃ fun x hx => .inl (.tail _ hx)
        have nG : g₄.get? a = none := by
          obtain ⟨oa, qa, _⟩ := id hys
          exact F₃.go.off a oa (cut_some.mpr ⟨haC, qa⟩) hga
        refine ⟨g₄, ?_, ?_, fun x hx => ⟨(dOf _ _ F₃ x hx).1, let ⟨o, q⟩ := (dOf _ _ F₃ x hx).2; ⟨o, (hs'.2 x fun z => haD (z ▸ hx)).trans q⟩⟩, nG, ys.push y, hl', ?_⟩
        · refine Fj.stepD (D₁ := [a]) ⟨fun p o hp q => (hs'.2 p fun z => hp (by simp [z])).trans q, fun p o q => ?_, Sub.refl _, fun p o q => (hs'.2 p fun z => ?_).trans (Fj.sub p o q), fun _ _ _ z => z, rfl, rfl⟩ ?_
          · by_cases z : p = a
            · subst z; obtain ⟨oa, qa, _⟩ := hl'; exact ⟨oa, qa⟩
            · exact ⟨o, (hs'.2 p z).trans q⟩
          · rw [z, nG] at q; cases q
          · intro x hx
            rw [List.mem_singleton] at hx; subst hx
            refine ⟨.inl (.head _), fun hf => ?_⟩
            rcases hframe x hf with z | h
            · exact haC z
            · obtain ⟨o, q⟩ := F.vars.at h; rw [nA] at q; cases q
        · exact hJ _ _ _ _ hJ₃ fun x hx o q => (hs'.2 x fun z => haD (z ▸ hx)).trans q
        · rw [res_succ_true hb, Array.toList_push]
          exact (hr.mono F₃.go.up).append (.cons hR₃ .nil)
    · rintro s' g' F' hg' ⟨hJn, _, hga, ys, hys, hr⟩
      obtain ⟨m, hm, _⟩ := F'.vars.loc
      have Gd : GoS D s g s' g' := F'.go.drop fun d hd => by
        rcases List.mem_cons.mp hd with rfl | h
        · exact .inr nA
        · exact .inl h
      obtain ⟨g'', G', u, pa, po⟩ := Gd.adds (· = a) (by rintro p o rfl q; rw [nA] at q; cases q)
      obtain ⟨oa, qa, r⟩ := hys
      have hCa : C ≠ a := by (clear hn ha hc hCD haD r; omega)
      refine hR a C s' g'' m G' hm nC (po C hCa (F'.hid C (.inl rfl))) hCD (.list (vs := ys.toList) ⟨oa, pa a oa rfl qa, by simpa using r⟩ (hr.mono u)) (hJg _ _ _ _ hJn u)
  exact codeAny_compStart_list loop (W.self 0 _ _ _ (W.frame _ _ _ hst fun p _ o q => up₁ p o q) loop)
end

end Mine

/-! # NqComp2 -/
namespace Mine
section
variable {prog : Program} {w : World} {A : Around} {E : Value → Shared → Prop} {s : Shared} {D : List Addr} {e : Ent} {env : Env} {ρ ρc : Str → Option Value} {g : Heap} {n : Nat} {P : Nat → Value → Prop}

theorem compEvalG {P : Heap → Nat → Value → Prop} {elt target iter : Expr} {ifs : List Expr} {scope : Scope} {pos : Pos} {cl : List (Str × Addr)} {Q : Value → Shared → Prop} (b : Nat → Bool) (dt : Nat → Dt) (J : Nat → Heap → Heap → Prop)
    (F : FmS D e env ρ s g) (hclos : closureFor scope env = pure cl) (hDl : ∀ x ∈ D, ∃ o, s.heap.get? x = some o) (hDg : ∀ x ∈ D, g.get? x = none) (hDF : ∀ x ∈ D, ¬ FrameAt env x)
    (hcl : ∀ x c, cl.lookup x = some c → env.cells.lookup x = some c)
    (hρ : ∀ C x v, ρc x = some v → (compEnvC scope cl C env).kindOf x ≠ some .local ∧ ρ x = some v)
    (hcell : ∀ y ∈ scope.names, y.2 ≠ .cell) (hkind : scope.kind = .function) (hnames : ∀ x ∈ scope.names, x.2 = .local → scope.names.lookup x.1 = some .local) (hn : n ≤ 1000000)
    (hJ : ∀ i g (h h' : Heap), J i g h → (∀ b ∈ D, ∀ o, h.get? b = some o → h'.get? b = some o) → J i g h')
    (hJg : ∀ i (g g' h : Heap), J i g h → Sub g g' → J i g' h)
    (src : ∀ Q : Value → Shared → Prop, (∀ I s₂ g₂, GoS D s g s₂ g₂ → Src prog w A target n (P g₂) s I s₂ g₂ → J 0 g₂ s₂.heap → Q (.ref I) s₂) → wpAny (model prog w) A (eval iter env) (fun x s₁ => wpAny (model prog w) A (pyIter x) Q E s₁) E s)
    (hPm : ∀ g g' i v, Sub g g' → P g i v → P g' i v)
    (turn : ∀ C i v s₁ g₁ e₁, i < n → P g₁ i v → FmS D e₁ (compEnvC scope cl C env) ρc s₁ g₁ → Sub g g₁ → (∀ x ∈ D, g₁.get? x = none ∧ ¬ FrameAt (compEnvC scope cl C env) x) → J i g₁ s₁.heap →
      wpAny (model prog w) A (assign target (compEnvC scope cl C env) v) (fun _ s₂ => wpAny (model prog w) A (forIn ifs true fun c r => if r = true then do let ok ← isTrue c (compEnvC scope cl C env) (eval c (compEnvC scope cl C env)); pure (ForInStep.yield ok) else pure (ForInStep.yield r)) (fun ok s₃ =>
        ok = b i ∧ (b i = true → wpAny (model prog w) A (eval elt (compEnvC scope cl C env)) (fun y s₄ => ∃ g₄, FmS D e₁ (compEnvC scope cl C env) ρc s₄ g₄ ∧ J (i + 1) g₄ s₄.heap ∧ Rep g₄ (dt i) y) NoE s₃) ∧
        (b i = false → ∃ g₃, FmS D e₁ (compEnvC scope cl C env) ρc s₃ g₃ ∧ J (i + 1) g₃ s₃.heap)) NoE s₂) NoE s₁)
    (h : ∀ s' g' v, GoS D s g s' g' → Rep g' (.list (res b dt n)) v → J n g' s'.heap → Q v s')
    (hs : ∀ x, foldedSetIterable iter env x = pure x := by intro _; rfl) :
    wpAny (model prog w) A (eval (.ListComp elt [⟨target, iter, ifs, 0⟩] scope pos) env) Q E s := by
  rw [eval_ListComp]
  refine wpAny_comprehension_free (use := none) rfl hs hclos hkind hnames ?_
  refine compCoreG (RR := fun acc C => compPost (model prog w) A E none Q acc C) b dt J F hDl hDg hDF hcl hρ hcell hkind hn hJ hJg src hPm turn ?_
  intro a C s' g' m G hm nC gC hCD hr hj
  refine ⟨m, hm, fun h' hs' => h _ g' _ ⟨fun p o hp q => (hs'.2 p fun z => ?_).trans (G.keep p o hp q), fun p o q => ?_, G.up, fun p o q => (hs'.2 p fun z => ?_).trans (G.sub p o q), G.off, G.os, G.gs⟩ hr (hJ _ _ _ _ hj fun x hx o q => (hs'.2 x fun z => hCD (z ▸ hx)).trans q)⟩
  · rw [z, nC] at q; cases q
  · obtain ⟨o', q'⟩ := G.live p o q
    exact ⟨o', (hs'.2 p fun z => by rw [z, nC] at q; cases q).trans q'⟩
  · rw [z, gC] at q; cases q


theorem compEval {elt target iter : Expr} {ifs : List Expr} {scope : Scope} {pos : Pos} {cl : List (Str × Addr)} {Q : Value → Shared → Prop} (b : Nat → Bool) (dt : Nat → Dt) (J : Nat → Heap → Heap → Prop)
    (F : FmS D e env ρ s g) (hclos : closureFor scope env = pure cl) (hDl : ∀ x ∈ D, ∃ o, s.heap.get? x = some o) (hDg : ∀ x ∈ D, g.get? x = none) (hDF : ∀ x ∈ D, ¬ FrameAt env x)
    (hcl : ∀ x c, cl.lookup x = some c → env.cells.lookup x = some c)
    (hρ : ∀ C x v, ρc x = some v → (compEnvC scope cl C env).kindOf x ≠ some .local ∧ ρ x = some v)
    (hcell : ∀ y ∈ scope.names, y.2 ≠ .cell) (hkind : scope.kind = .function) (hnames : ∀ x ∈ scope.names, x.2 = .local → scope.names.lookup x.1 = some .local) (hn : n ≤ 1000000)
    (hJ : ∀ i g (h h' : Heap), J i g h → (∀ b ∈ D, ∀ o, h.get? b = some o → h'.get? b = some o) → J i g h')
    (hJg : ∀ i (g g' h : Heap), J i g h → Sub g g' → J i g' h)
    (src : ∀ Q : Value → Shared → Prop, (∀ I s₂ g₂, GoS D s g s₂ g₂ → Src prog w A target n P s I s₂ g₂ → J 0 g₂ s₂.heap → Q (.ref I) s₂) → wpAny (model prog w) A (eval iter env) (fun x s₁ => wpAny (model prog w) A (pyIter x) Q E s₁) E s)
    (turn : ∀ C i v s₁ g₁ e₁, i < n → P i v → FmS D e₁ (compEnvC scope cl C env) ρc s₁ g₁ → Sub g g₁ → J i g₁ s₁.heap →
      wpAny (model prog w) A (assign target (compEnvC scope cl C env) v) (fun _ s₂ => wpAny (model prog w) A (forIn ifs true fun c r => if r = true then do let ok ← isTrue c (compEnvC scope cl C env) (eval c (compEnvC scope cl C env)); pure (ForInStep.yield ok) else pure (ForInStep.yield r)) (fun ok s₃ =>
        ok = b i ∧ (b i = true → wpAny (model prog w) A (eval elt (compEnvC scope cl C env)) (fun y s₄ => ∃ g₄, FmS D e₁ (compEnvC scope cl C env) ρc s₄ g₄ ∧ J (i + 1) g₄ s₄.heap ∧ Rep g₄ (dt i) y) NoE s₃) ∧
        (b i = false → ∃ g₃, FmS D e₁ (compEnvC scope cl C env) ρc s₃ g₃ ∧ J (i + 1) g₃ s₃.heap)) NoE s₂) NoE s₁)
    (h : ∀ s' g' v, GoS D s g s' g' → Rep g' (.list (res b dt n)) v → J n g' s'.heap → Q v s')
    (hs : ∀ x, foldedSetIterable iter env x = pure x := by intro _; rfl) :
    wpAny (model prog w) A (eval (.ListComp elt [⟨target, iter, ifs, 0⟩] scope pos) env) Q E s :=
  compEvalG (P := fun _ => P) b dt J F hclos hDl hDg hDF hcl hρ hcell hkind hnames hn hJ hJg src (fun _ _ _ _ _ h => h) (fun C i v s₁ g₁ e₁ hi hP F₁ hg _ hj => turn C i v s₁ g₁ e₁ hi hP F₁ hg hj) h hs

theorem compAssign {elt target iter : Expr} {ifs : List Expr} {scope : Scope} {pos spos py : Pos} {y : Str} {cl : List (Str × Addr)} {Q : Flow → Shared → Prop} (b : Nat → Bool) (dt : Nat → Dt)
    (F : FmS [] e env ρ s g) (hclos : closureFor scope env = pure cl)
    (hcl : ∀ x c, cl.lookup x = some c → env.cells.lookup x = some c)
    (hρ : ∀ C x v, ρc x = some v → (compEnvC scope cl C env).kindOf x ≠ some .local ∧ ρ x = some v)
    (hcell : ∀ y ∈ scope.names, y.2 ≠ .cell) (hkind : scope.kind = .function) (hnames : ∀ x ∈ scope.names, x.2 = .local → scope.names.lookup x.1 = some .local) (hn : n ≤ 1000000)
    (hsw : swapsWith (.ListComp elt [⟨target, iter, ifs, 0⟩] scope pos) (some (.Name y py)) spos.line env = pure true) (hk : env.scope.kind = .function) (hy : env.kindOf y = some .local) (hyc : env.cells.lookup y = none)
    (src : ∀ Q : Value → Shared → Prop, (∀ I s₂ g₂, GoS [] s g s₂ g₂ → Src prog w A target n P s I s₂ g₂ → Q (.ref I) s₂) → wpAny (model prog w) A (eval iter env) (fun x s₁ => wpAny (model prog w) A (pyIter x) Q E s₁) E s)
    (turn : ∀ C i v s₁ g₁ e₁, i < n → P i v → FmS [] e₁ (compEnvC scope cl C env) ρc s₁ g₁ → Sub g g₁ →
      wpAny (model prog w) A (assign target (compEnvC scope cl C env) v) (fun _ s₂ => wpAny (model prog w) A (forIn ifs true fun c r => if r = true then do let ok ← isTrue c (compEnvC scope cl C env) (eval c (compEnvC scope cl C env)); pure (ForInStep.yield ok) else pure (ForInStep.yield r)) (fun ok s₃ =>
        ok = b i ∧ (b i = true → wpAny (model prog w) A (eval elt (compEnvC scope cl C env)) (fun y s₄ => ∃ g₄, FmS [] e₁ (compEnvC scope cl C env) ρc s₄ g₄ ∧ Rep g₄ (dt i) y) NoE s₃) ∧
        (b i = false → ∃ g₃, FmS [] e₁ (compEnvC scope cl C env) ρc s₃ g₃)) NoE s₂) NoE s₁)
    (h : ∀ s' g' v, FmS [] e env (upd ρ y v) s' g' → Sub g g' → Rep g' (.list (res b dt n)) v → Q .next s')
    (hs : ∀ x, foldedSetIterable iter env x = pure x := by intro _; rfl) :
    wpAny (model prog w) A (exec (.Assign [.Name y py] (.ListComp elt [⟨target, iter, ifs, 0⟩] scope pos) spos) env) Q E s := by
  rw [exec_Assign_Name_used _ _ _ _ hsw]
  refine wpAny_bind (wpAny_standAt (wpAny_bind ?_))
  show wpAny _ A (do let _ ← comprehension (.ListComp elt [⟨target, iter, ifs, 0⟩] scope pos) scope env _ (newList []) false (eval iter env) (some (assign (.Name y py) env))) _ _ s
  refine wpAny_bind (wpAny_mono (wpAny_comprehension_free (use := some (assign (.Name y py) env)) (Q := fun _ s' => Q .next s') rfl hs hclos hkind hnames ?_) (fun _ s' hq => wpAny_pure (wpAny_pure hq)) fun _ _ z => z)
  refine compCoreG (D := []) (P := fun _ => P) (RR := fun acc C => compPost (model prog w) A E (some (assign (.Name y py) env)) (fun _ s' => Q .next s') acc C) b dt (fun _ _ _ => True) F (fun _ hx => by cases hx) (fun _ hx => by cases hx) (fun _ hx => by cases hx) hcl hρ hcell hkind hn (fun _ _ _ _ _ _ => trivial) (fun _ _ _ _ _ _ => trivial)
    (fun Q hQ => src Q fun I s₂ g₂ G S => hQ I s₂ g₂ G S trivial) (fun _ _ _ _ _ h => h)
    (fun C i v s₁ g₁ e₁ hi hP F₁ hg _ _ => wpAny_mono (turn C i v s₁ g₁ e₁ hi hP F₁ hg) (fun _ s₂ h₂ => wpAny_mono h₂ (fun ok s₃ h₃ => ⟨h₃.1, fun hb => wpAny_mono (h₃.2.1 hb) (fun y s₄ h₄ => let ⟨g₄, F₄, r⟩ := h₄; ⟨g₄, F₄, trivial, r⟩) fun _ _ z => z, fun hb => let ⟨g₃, F₃⟩ := h₃.2.2 hb; ⟨g₃, F₃, trivial⟩⟩) fun _ _ z => z) fun _ _ z => z) ?_
  intro a C s' g' m G hm nC gC _ hr _
  show wpAny _ A (assign (.Name y py) env (.ref a)) _ _ _
  have F' := F.step G
  refine wpAny_assign_Name (st_local F' (fun s₂ F₂ k₂ => ?_) hk hy hyc)
  have hLC : C ≠ env.locals := fun z => by
    obtain ⟨o, q⟩ := F.vars.at (x := C) (.inl z); rw [nC] at q; cases q
  obtain ⟨oc, esc, epc, hoc, rc⟩ := hm
  refine ⟨m, ⟨oc, esc, epc, k₂ C oc hLC hoc, rc⟩, fun h' hs' => h _ g' _ ?_ G.up hr⟩
  have nF : ∀ x, FrameAt env x → x ≠ C := fun x hx z => by
    obtain ⟨o, q⟩ := F.vars.at hx; rw [z, nC] at q; cases q
  have eC : e.h.get? C = none := ext_none fun o q => by
    have := F.go.keep C o (by simp) q; rw [nC] at this; cases this
  refine ⟨⟨fun p o hp q => (hs'.2 p fun z => ?_).trans (F₂.go.keep p o hp q), fun p o q => ⟨o, (hs'.2 p fun z => ?_).trans (F₂.go.keep p o (by simp) q)⟩, F₂.go.up, fun p o q => (hs'.2 p fun z => ?_).trans (F₂.go.sub p o q), F₂.go.off, F₂.go.os, F₂.go.gs⟩, F₂.vars.keeps fun p o hp q => (hs'.2 p (nF p hp)).trans q, F₂.fresh, F₂.hid⟩
  · rw [z, eC] at q; cases q
  · rw [z, eC] at q; cases q
  · rw [z, gC] at q; cases q

/-! ## sources -/
theorem own_of {target : Expr} {I : Addr} {o : Obj} {T : String} {v : Value} {Q : Unit → Shared → Prop} (ho : s.heap.get? I = some o) (hc : o.cls = .type T)
    (hT : (["enumerate", "zip", "dict_itemiterator", "dict_reverseitemiterator", "odict_iterator", "itertools.zip_longest", "itertools.pairwise"].contains T) = false) (h : Q () s) :
    wpAny (model prog w) A (letOwnedTupleGo target (.ref I) v) Q E s := by
  unfold letOwnedTupleGo
  cases target <;> first
    | exact wpAny_pure h
    | (cases v <;> first
        | exact wpAny_pure h
        | (refine wpAny_bind (wpAny_load ho ?_)
           rw [hc]
           cases o.data <;> first
             | exact wpAny_pure h
             | (simp only [hT, Bool.false_and, Bool.false_eq_true, if_false]; exact wpAny_pure h)))

theorem Src.of_go {target : Expr} {s' s₂ : Shared} {g' g₂ : Heap} {I : Addr} (G : GoS D s g s' g') (S : Src prog w A target n P s' I s₂ g₂) : Src prog w A target n P s I s₂ g₂ := by
  obtain ⟨fp, wr, St, W, h1, h2, h3, h4, h5, r⟩ := S
  have nn : ∀ x, s'.heap.get? x = none → s.heap.get? x = none := fun x hx => ext_none fun o q => (by obtain ⟨o', q'⟩ := G.live x o q; rw [hx] at q'; cases q')
  exact ⟨fp, wr, St, W, h1, fun x hx => nn x (h2 x hx), h3, h4, fun x hx => (h5 x hx).imp (nn x) id, r⟩

section
variable {Q : Value → Shared → Prop} {target : Expr}
theorem src_list {l : List Dt} {v : Value} (hh : A.handled = none) (hg : Sub g s.heap) (hr : Rep g (.list l) v)
    (h : ∀ I s₂, GoS [] s g s₂ g → Src prog w A target l.length (fun i v => ∃ d, l[i]? = some d ∧ Rep g d v) s I s₂ g → Q (.ref I) s₂) : wpAny (model prog w) A (pyIter v) Q E s := by
  obtain ⟨a, vs, rfl, ha, hvs⟩ := hr.list_inv
  have ha' := isList_mono hg ha
  have hlt : @LT.lt Nat _ a s.heap.objs.size := by obtain ⟨o, q, _⟩ := ha'; exact lts q
  have hne : a ≠ s.heap.objs.size := Nat.ne_of_lt hlt
  refine wpAny_pyIter_list ha' ?_
  have W := Walks.list (prog := prog) (w := w) hh s.heap.objs.size a hne vs.toArray
  have hlen : vs.toArray.size = l.length := by simp [hvs.length]
  rw [hlen] at W
  have up : Sub s.heap (s.heap.push { cls := .type "list_iterator", data := .fields #[.ref a, .int 0 0] }) := fun _ _ q => Heap.get?_push_of_some _ q
  have hI : (s.heap.push { cls := .type "list_iterator", data := .fields #[.ref a, .int 0 0] }).get? s.heap.objs.size = some { cls := .type "list_iterator", data := .fields #[.ref a, .int 0 0] } := Heap.get?_push_size _ rfl
  refine h _ _ (go_keeps hg up) ⟨_, _, _, W.weaken (P' := fun i v => ∃ d, l[i]? = some d ∧ Rep g d v) (fun i v hv => hvs.get' i v (by simpa using hv)), ⟨⟨_, hI, rfl, rfl⟩, isList_mono up ha'⟩, ?_, ?_, ?_, ?_, ?_, ?_, ?_⟩
  · intro x hx; rw [List.mem_singleton] at hx; subst hx; exact get_size _
  · intro x hx; rw [List.mem_singleton] at hx; subst hx; exact ext_none fun o q => Nat.lt_irrefl _ (lts (hg _ _ q))
  · intro x hx
    rcases List.mem_cons.mp hx with rfl | hx
    · exact ⟨_, hI⟩
    · rw [List.mem_singleton] at hx; subst hx; obtain ⟨o, q, _⟩ := isList_mono up ha'; exact ⟨o, q⟩
  · intro x hx
    rcases List.mem_cons.mp hx with rfl | hx
    · exact .inl (get_size _)
    · rw [List.mem_singleton] at hx; subst hx; obtain ⟨o, q, _⟩ := ha; exact .inr ⟨o, q⟩
  · rintro i h' ⟨⟨o, q, _⟩, _⟩ x hx; rw [List.mem_singleton] at hx; subst hx; exact ⟨o, q⟩
  · intro x hx; rw [List.mem_singleton] at hx; subst hx; exact ⟨_, hI⟩
  · rintro i v s' Q' ⟨⟨o, q, hc, _⟩, _⟩ hq
    exact own_of q hc (by decide) hq

/-- a source whose iterator is one new object and reads nothing else -/
theorem src_one {o : Obj} {T : String} {St : Nat → Heap → Prop} {s' : Shared} (hg : Sub g s'.heap) (up : Sub s.heap s'.heap) (W : Walks prog w A s'.heap.objs.size [s'.heap.objs.size] [s'.heap.objs.size] n P St) (hf : o.isFreed = false) (hst : St 0 (s'.heap.push o))
    (hat : ∀ i h, St i h → ∃ o, h.get? s'.heap.objs.size = some o ∧ o.cls = .type T)
    (hT : (["enumerate", "zip", "dict_itemiterator", "dict_reverseitemiterator", "odict_iterator", "itertools.zip_longest", "itertools.pairwise"].contains T) = false) {tk : Nat} :
    Src prog w A target n P s s'.heap.objs.size { s' with heap := s'.heap.push o, toks := tk } g := by
  have hI : (s'.heap.push o).get? s'.heap.objs.size = some o := Heap.get?_push_size _ hf
  have hn : s.heap.get? s'.heap.objs.size = none := ext_none fun o q => Nat.lt_irrefl _ (lts (up _ _ q))
  refine ⟨_, _, _, W, hst, ?_, ?_, ?_, ?_, ?_, ?_, ?_⟩
  · intro x hx; rw [List.mem_singleton] at hx; subst hx; exact hn
  · intro x hx; rw [List.mem_singleton] at hx; subst hx; exact ext_none fun o q => Nat.lt_irrefl _ (lts (hg _ _ q))
  · intro x hx; rw [List.mem_singleton] at hx; subst hx; exact ⟨_, hI⟩
  · intro x hx; rw [List.mem_singleton] at hx; subst hx; exact .inl hn
  · intro i h' st x hx; rw [List.mem_singleton] at hx; subst hx; obtain ⟨o, q, _⟩ := hat i h' st; exact ⟨o, q⟩
  · intro x hx; rw [List.mem_singleton] at hx; subst hx; exact ⟨_, hI⟩
  · intro i v s' Q' st hq
    obtain ⟨o, q, hc⟩ := hat i _ st
    exact own_of q hc hT hq

theorem src_rangeAt {r : Addr} {a b c : Int} {t u v : Tok} {s' : Shared} (hh : A.handled = none) (hg : Sub g s'.heap) (up : Sub s.heap s'.heap) (hr : IsRange s'.heap r a b c t u v) (hsmall : Builtin.Range.small a b c = true) (hn : Builtin.Range.rangeSize a b c = n)
    (h : ∀ I s₂, GoS [] s' g s₂ g → Src prog w A target n (fun i v => ∃ t, v = .int (a + i * c) t) s I s₂ g → Q (.ref I) s₂) : wpAny (model prog w) A (pyIter (.ref r)) Q E s' := by
  refine wpAny_pyIter_range hr hsmall ?_
  rw [hn]
  refine h _ _ (go_keeps hg fun _ _ q => Heap.get?_push_of_some _ q) (src_one (T := "range_iterator") (tk := s'.toks) hg up (Walks.range hh _ a c n) rfl ?_ ?_ (by decide))
  · have : IsRangeIter (s'.heap.push { cls := .type "range_iterator", data := .fields #[rawInt a, rawInt n, rawInt c] }) s'.heap.objs.size a n c := Heap.get?_push_size _ rfl
    simpa using this
  · intro i h' st; exact ⟨_, st, rfl⟩
theorem src_range1 {t : Tok} (hh : A.handled = none) (hg : Sub g s.heap) (hn : n < 1000000)
    (h : ∀ I s₂, GoS [] s g s₂ g → Src prog w A target n (fun i v => ∃ t, v = .int i t) s I s₂ g → Q (.ref I) s₂) : wpAny (model prog w) A (call (.type "range") [.int n t]) (fun x s₁ => wpAny (model prog w) A (pyIter x) Q E s₁) E s := by
  refine call_range_1 ?_
  have up : Sub s.heap (s.heap.push { cls := .type "range", data := .fields #[.int 0 s.toks, .int n t, .int 1 (s.toks + 1)] }) := fun _ _ q => Heap.get?_push_of_some _ q
  refine src_rangeAt (s := s) (n := n) (a := 0) (b := n) (c := 1) (target := target) hh (hg.trans up) up (IsRange.new ..) (small_one (by (clear hn; omega)) (by (clear hn; omega)) (by omega) (by omega)) (by rw [rangeSize_one]; split <;> omega) fun I s₂ G S => ?_
  refine h I s₂ ((go_keeps hg up).trans G) ?_
  obtain ⟨fp, wr, St, W, r⟩ := S
  exact ⟨fp, wr, St, W.weaken fun i v ⟨t, e⟩ => ⟨t, by simpa using e⟩, r⟩
theorem src_range3 {a b c : Int} {t u v : Tok} (hh : A.handled = none) (hg : Sub g s.heap) (hc : c ≠ 0) (hc' : c.natAbs < 1073741824) (hsmall : Builtin.Range.small a b c = true) (hn : Builtin.Range.rangeSize a b c = n)
    (h : ∀ I s₂, GoS [] s g s₂ g → Src prog w A target n (fun i v => ∃ t, v = .int (a + i * c) t) s I s₂ g → Q (.ref I) s₂) : wpAny (model prog w) A (call (.type "range") [.int a t, .int b u, .int c v]) (fun x s₁ => wpAny (model prog w) A (pyIter x) Q E s₁) E s := by
  refine call_range_3 hc ?_ (.inl (PyProof.noPylong_small hc'))
  have up : Sub s.heap (s.heap.push { cls := .type "range", data := .fields #[.int a t, .int b u, .int c v] }) := fun _ _ q => Heap.get?_push_of_some _ q
  exact src_rangeAt (s := s) (n := n) (target := target) hh (hg.trans up) up (IsRange.new ..) hsmall hn fun I s₂ G S => h I s₂ ((go_keeps hg up).trans G) S
theorem src_bytes {b : Array UInt8} {t : Tok} (hh : A.handled = none) (hg : Sub g s.heap)
    (h : ∀ I s₂, GoS [] s g s₂ g → Src prog w A target b.size (fun i v => ∃ c u, b[i]? = some c ∧ v = .int (c.toNat : Int) u) s I s₂ g → Q (.ref I) s₂) : wpAny (model prog w) A (pyIter (.bytes b t)) Q E s := by
  refine KBw.pyIter_bytes ?_
  refine h _ _ (go_keeps hg fun _ _ q => Heap.get?_push_of_some _ q) (src_one (T := "bytes_iterator") (tk := s.toks) hg (Sub.refl _) (KBw.walks hh _ b t) rfl ⟨_, Heap.get?_push_size _ rfl, rfl, rfl⟩ ?_ (by decide))
  intro i h' st; obtain ⟨o, q, hc, _⟩ := st; exact ⟨o, q, hc⟩
end
end
end Mine

/-! # NqInt -/
open PySem PySem.W PyProof.Rows PySem.Calls

namespace Mine

noncomputable def Bin (l : List Nat) : Prop := ∀ c ∈ l, c = 48 ∨ c = 49
noncomputable def binVal (l : List Nat) : Nat := l.foldl (fun acc c => acc * 2 + (c - 48)) 0

theorem bin_digits : ∀ (l : List Nat) (ds : Array Nat) (b : Bool), Bin l → l ≠ [] →
    (l.foldlM (init := (ds, b)) fun (x : Array Nat × Bool) c => if c == 95 then (if x.2 then some (x.1, false) else none) else match (int_private% "digitValue?") c with | some d => if d < 2 then some (x.1.push d, true) else none | none => none) = some (ds ++ (l.map (· - 48)).toArray, true)
  | [], _, _, _, h => absurd rfl h
  | c :: r, ds, b, hb, _ => by
    have hc := hb c (.head _)
    have hr : Bin r := fun x hx => hb x (.tail _ hx)
    have step : (if c == 95 then (if b then some (ds, false) else none) else match (int_private% "digitValue?") c with | some d => if d < 2 then some (ds.push d, true) else none | none => none) = some (ds.push (c - 48), true) := by
      rcases hc with rfl | rfl <;> rfl
    rw [List.foldlM_cons]
    show (Option.bind (if c == 95 then (if b then some (ds, false) else none) else match (int_private% "digitValue?") c with | some d => if d < 2 then some (ds.push d, true) else none | none => none) _) = _
    rw [step]
    by_cases h : r = []
    · subst h; simp
    · show List.foldlM _ _ r = _
      refine (bin_digits r (ds.push (c - 48)) true hr h).trans ?_
      simp
theorem bin_rev {l : List Nat} (hb : Bin l) : (l.reverse.dropWhile (int_private% "isBlank")).reverse = l := by
  have : l.reverse.dropWhile (int_private% "isBlank") = l.reverse := by
    cases h : l.reverse with
    | nil => rfl
    | cons c r =>
      have hc := hb c (by rw [← List.mem_reverse, h]; exact .head _)
      rcases hc with rfl | rfl <;> rfl
  rw [this, List.reverse_reverse]
theorem bin_read {l : List Nat} (hb : Bin l) (hn : l ≠ []) : (int_private% "readNumeral") 0 2 l = (int_private% "Numeral.value") (binVal l : Nat) := by
  have key : (int_private% "readNumeral") 0 2 l = match (int_private% "numeralDigits?") 2 (l.reverse.dropWhile (int_private% "isBlank")).reverse with | none => (int_private% "Numeral.invalid") | some ds => (int_private% "Numeral.value") (ds.foldl (fun acc d => acc * 2 + d) 0 : Nat) := by
    match l, hn with
    | [c], _ => rcases hb c (.head _) with rfl | rfl <;> rfl
    | c :: c' :: r, _ => rcases hb c (.head _) with rfl | rfl <;> rcases hb c' (.tail _ (.head _)) with rfl | rfl <;> rfl
  have hd : (int_private% "numeralDigits?") 2 l = some (l.map (· - 48)).toArray := by
    have := bin_digits l #[] false hb hn
    show Option.bind (List.foldlM _ _ l) _ = _
    erw [this]
    simp
  rw [key, bin_rev hb, hd]
  simp only [List.foldl_toArray', List.foldl_map, binVal]

theorem takeWhile_all {α : Type} (p : α → Bool) : ∀ (l : List α), (∀ c ∈ l, p c = true) → l.takeWhile p = l
  | [], _ => rfl
  | c :: r, h => by rw [List.takeWhile_cons, if_pos (h c (.head _)), takeWhile_all p r fun x hx => h x (.tail _ hx)]

theorem typeCall_int_2 (a b : Value) : checkTypeCall "int" ⟨[a, b], []⟩ = pure () := by
  first
  | (rw [PySem.W.Fast.te11612656972197000677]; kernel_rfl)
  | kernel_rfl
theorem newCall_int_2 (a b : Value) : checkBuiltinCall "int.__new__" ⟨[.type "int", a, b], []⟩ = pure () := by
  first
  | (rw [PySem.W.Fast.te10254737850608025244]; kernel_rfl)
  | kernel_rfl

theorem wp_text2 {M : Model} {A : Around} {E : Value → Shared → Prop} {s : Shared} {Q : Value → Shared → Prop} {v : Value} {text : List Nat} {n : Int}
    (hs : (text.takeWhile (· != 0)).length ≤ 640) (hr : (int_private% "readNumeral") 0 2 (text.takeWhile (· != 0)) = (int_private% "Numeral.value") n)
    (ha : ((text.takeWhile (· != 0)).length == text.length) = true) (h : Q (.int n s.toks) { s with toks := s.toks + 1 }) :
    wpAny M A ((int_private% "intFromText") v text 2) Q E s := by
  obtain ⟨hp, g, d, tk, os⟩ := s
  repeat (any_goals (first
    | assumption
    | (with_reducible refine wpAny_ite_true (decide_eq_true hs) ?_)
    | (with_reducible refine wpAny_ite_true (decide_eq_true ha) ?_)
    | wp_step))
  all_goals (try rw [hr])
  all_goals (try dsimp only)
  repeat (any_goals (first
    | assumption
    | (with_reducible refine wpAny_ite_true (decide_eq_true hs) ?_)
    | (with_reducible refine wpAny_ite_true (decide_eq_true ha) ?_)
    | wp_step))

structure Hide (p : Prop) : Prop where
  out : p
theorem gives_bin {x : PySem.Str} {u tb : Tok} (hl : x.length ≤ 640) (hb : Bin x.cps.toList) (hn : x.cps.toList ≠ []) : Gives (Builtin.«int.__new__» ⟨[.type "int", .str x u, .int 2 tb], []⟩) (.int (binVal x.cps.toList : Nat)) :=
  .of_wp fun M A E s Q h => by
    obtain ⟨hp, g, d, tk, os⟩ := s
    have f1 := F.conv_sub_int
    have f2 := F.madeHere_int
    have f6 : typeOf (.str x u) = pure (.type "str") := rfl
    have hall : (if x.cps.all (· < 128) then x.cps.toList else PySem.Unicode.numberText x.cps.toList) = x.cps.toList := by
      rw [if_pos]
      rw [← Array.all_toList, List.all_eq_true]
      intro c hc
      rcases hb c hc with rfl | rfl <;> decide
    have htw : x.cps.toList.takeWhile (· != 0) = x.cps.toList := by
      refine takeWhile_all _ _ fun c hc => ?_
      rcases hb c hc with rfl | rfl <;> decide
    have hs : (x.cps.toList.takeWhile (· != 0)).length ≤ 640 := by rw [htw]; simpa [Str.length] using hl
    have hr : (int_private% "readNumeral") 0 2 (x.cps.toList.takeWhile (· != 0)) = (int_private% "Numeral.value") ((binVal x.cps.toList : Nat) : Int) := by rw [htw]; exact bin_read hb hn
    have ha : ((x.cps.toList.takeWhile (· != 0)).length == x.cps.toList.length) = true := by rw [htw]; exact beq_self_eq_true _
    have hk := Hide.mk (And.intro hs (And.intro hr (And.intro ha hall)))
    clear hs hr ha hall htw hl hb hn
    repeat (any_goals (first
      | assumption
      | ((with_reducible show wpAny _ _ ((int_private% "intFromText") _ _ _) _ _ _); (try rw [hk.out.2.2.2]); refine wp_text2 hk.out.1 hk.out.2.1 hk.out.2.2.1 ?_)
      | wp_step))
    all_goals first | exact ⟨_, rfl, h⟩ | skip

section
variable {prog : Program} {w : World} {A : Around} {E : Value → Shared → Prop} {s : Shared} {Q : Value → Shared → Prop} {x : PySem.Str} {t tb : Tok} {tk : Nat}
theorem x_bin (hl : x.length ≤ 640) (hb : Bin x.cps.toList) (hn : x.cps.toList ≠ []) (h : ∀ t tk', Q (.int (binVal x.cps.toList : Nat) t) { s with toks := tk' }) : wpAny (model prog w) A (call (.type "int") [.str x t, .int 2 tb]) Q E { s with toks := tk } :=
  callType_new F.called_int F.newNe_int (typeCall_int_2 _ _) (newCall_int_2 _ _) (fun obj => F.initArgs_range_2 obj _ _) F.entry_int_new (gives_bin hl hb hn).meets (show (Made.int _).post _ _ from ⟨rfl, h _ _⟩)
end
end Mine

/-! # NqStr -/
namespace Mine

theorem Reps.pairs {g : Heap} {ss : List Str} : ∀ {vs : List Value}, Reps g (ss.map .str) vs → ∃ l : List (Str × Tok), strValues l = vs ∧ l.map (·.1) = ss := by
  induction ss with
  | nil => intro vs h; cases h; exact ⟨[], rfl, rfl⟩
  | cons x r ih =>
    intro vs h
    cases h with
    | cons h1 h2 =>
      obtain ⟨t, rfl⟩ := h1.str_inv
      obtain ⟨l, e1, e2⟩ := ih h2
      exact ⟨(x, t) :: l, by simp [strValues, ← e1], by simp [e2]⟩

section
variable {prog : Program} {w : World} {M : Model} {A : Around} {E : Value → Shared → Prop} {s : Shared} {tk : Nat} {env : Env} {g : Heap} {Q : Value → Shared → Prop} {x y : Str} {t u : Tok}
theorem x_len (h63 : x.length < 1000000) (h : ∀ t tk', Q (.int x.length t) { s with toks := tk' }) : wpAny (model prog w) A (call (.builtin "len") [.str x t]) Q E { s with toks := tk } := PyProof.Rows.len_str (by omega) (h _ _)
theorem x_lenL {l : List Dt} {v : Value} (hg : Sub g s.heap) (hr : Rep g (.list l) v) (h63 : l.length < 1000000) (h : ∀ t tk', Q (.int l.length t) { s with toks := tk' }) : wpAny (model prog w) A (call (.builtin "len") [v]) Q E { s with toks := tk } := by
  obtain ⟨a, vs, rfl, ha, hvs⟩ := hr.list_inv
  have e : vs.toArray.size = l.length := by simp [hvs.length]
  refine PySem.Calls.call_len_list (s := { s with toks := tk }) (isList_mono hg ha) (by rw [e]; omega) ?_
  rw [e]; exact h _ _
theorem x_join {ss : List Str} {v : Value} (hg : Sub g s.heap) (hr : Rep g (texts ss) v) (hok : (ss.map (·.length)).sum + ss.length * x.length ≤ 16777216) (h : ∀ t tk', Q (.str (Txt.join x ss) t) { s with toks := tk' }) :
    wpAny (model prog w) A (call (.builtin "str.join") [.str x t, v]) Q E { s with toks := tk } := by
  obtain ⟨a, vs, rfl, ha, hvs⟩ := hr.list_inv
  obtain ⟨l, h1, h2⟩ := hvs.pairs
  subst h1
  exact SC.join (s := { s with toks := tk }) (isList_mono hg ha) h2 (joinOk_of hok) fun t' k => h t' k
theorem x_item {value slice : Expr} {i : Int} (h1 : 0 ≤ i) (h2 : i < x.length) (h3 : x.length < 1000000) (h : ∀ t tk', Q (.str (Txt.item x i) t) { s with toks := tk' })
    (hs : ∀ o i, subscripted slice false o i = operate [o, i] (getItem o i) := by intro _ _; rfl) : wpAny (model prog w) A (subscriptTail value slice (.str x t) (.int i u)) Q E { s with toks := tk } :=
  item_str (by unfold fitsSsize; simp only [Bool.not_eq_true', Bool.or_eq_false_iff, decide_eq_false_iff_not]; omega) (by (clear h2; omega)) h2 (fun _ => h _ _) (hs _ _) (fun _ => tempStr value)

/-- a method of a text -/
theorem meth_str {o : Expr} {name : Str} {apos pos : Pos} {args : List Expr} {pl : Sem Bool} {id : String} (slot : Slot "str" name id) (ty : typeOf (.builtin id) = pure (.type "method_descriptor"))
    (h : wpAny M A (eval o env) (fun ov s₁ => ∃ x t, ov = .str x t ∧ wpAny M A (callWith pos (.builtin id) [.str x t] (backTo pos (starEach args env)) []) Q E s₁) E s)
    (he : eval (.Call (.Attribute o name apos) args [] pos) env = (do
      let ov ← eval o env
      standAt apos.atName
      let (f, first) ← holding [ov] (getMethod ov name pl)
      callWith pos f first (backTo pos (starEach args env)) []) := by rfl) : wpAny M A (eval (.Call (.Attribute o name apos) args [] pos) env) Q E s :=
  MethodCall_ (wpAny_mono h (fun ov s₁ ⟨x, t, e, k⟩ => by subst e; exact GM.of (.str x t) (typeIs_str _ _ _) slot ty GM.noRef k) fun _ _ z => z) he
end

theorem hrho {l : List (Str × Value)} {ρ : Str → Option Value} {env' : Env} (h : ∀ p ∈ l, env'.kindOf p.1 ≠ some .local ∧ ρ p.1 = some p.2) : ∀ x v, l.lookup x = some v → env'.kindOf x ≠ some .local ∧ ρ x = some v := fun x v e => h (x, v) (mem_of_lookup e)

theorem slice_in {x : Str} {i j : Int} (h0 : 0 ≤ i) (h1 : i ≤ j) (h2 : j ≤ x.length) : Txt.slice x (some i) (some j) = ⟨((x.cps.toList.drop i.toNat).take (j - i).toNat).toArray⟩ :=
  eq_of_beq (slice_closes (x := x) (i := i) (j := j) ⟨h0, h1, by simpa [Str.length] using h2⟩)
theorem upd_weaken {ρ : Str → Option Value} {x : Str} {w : Value} (h : ρ x = none) : ∀ y v, ρ y = some v → upd ρ x w y = some v := fun y v e => by
  unfold upd; split
  · rename_i q; rw [q, h] at e; cases e
  · exact e
theorem sum_len_le {k : Nat} : ∀ (ss : List Str), (∀ x ∈ ss, x.length ≤ k) → (ss.map (·.length)).sum ≤ ss.length * k
  | [], _ => by simp
  | x :: r, h => by
    have h1 := h x (.head _)
    have h2 := sum_len_le r fun y hy => h y (.tail _ hy)
    simp only [List.map_cons, List.sum_cons, List.length_cons, Nat.add_mul]; omega
theorem small_of {a b c : Int} (ha : -1000000 ≤ a) (ha' : a ≤ 1000000) (hb : -1000000 ≤ b) (hb' : b ≤ 1000000) (hc : -1000000 ≤ c) (hc' : c ≤ 1000000) (hn : 0 ≤ Builtin.Range.rangeSize a b c) (hn' : Builtin.Range.rangeSize a b c ≤ 1000000) : Builtin.Range.small a b c = true := by
  unfold Builtin.Range.small
  simp only [Builtin.Range.rangeFitsLong, Bool.and_eq_true, Bool.or_eq_true, decide_eq_true_eq, beq_iff_eq]
  refine ⟨by omega, .inr ?_⟩
  split <;> (simp only [Bool.and_eq_true, decide_eq_true_eq]; (clear ha ha' hn hn'; omega))
end Mine

/-! # NqSixes -/
namespace Mine

noncomputable def alphaS : Str := Str.ofString "ABCDEFGHIJKLMNOPQRSTUVWXYZabcdefghijklmnopqrstuvwxyz0123456789+/"
noncomputable def sixAt (x : Str) (j : Nat) : Nat := binVal ((x.cps.toList.drop (6 * j)).take 6)
noncomputable def pSixes (x : Str) : Str := Txt.join (Str.ofString "") ((List.range (x.length / 6)).map fun j => Txt.item alphaS (sixAt x j))

theorem Bin.take {l : List Nat} (h : Bin l) (n : Nat) : Bin (l.take n) := fun c hc => h c (List.mem_of_mem_take hc)
theorem Bin.drop {l : List Nat} (h : Bin l) (n : Nat) : Bin (l.drop n) := fun c hc => h c (List.mem_of_mem_drop hc)
theorem binVal_lt : ∀ (l : List Nat), Bin l → binVal l < 2 ^ l.length := by
  have key : ∀ (l : List Nat) (a : Nat), Bin l → l.foldl (fun acc c => acc * 2 + (c - 48)) a < (a + 1) * 2 ^ l.length := by
    intro l
    induction l with
    | nil => intro a _; simp
    | cons c r ih =>
      intro a hb
      rw [List.foldl_cons]
      have h1 := ih (a * 2 + (c - 48)) fun x hx => hb x (.tail _ hx)
      have hc : c - 48 ≤ 1 := by rcases hb c (.head _) with rfl | rfl <;> decide
      refine Nat.lt_of_lt_of_le h1 ?_
      rw [List.length_cons, Nat.pow_succ, Nat.mul_comm (2 ^ r.length) 2, ← Nat.mul_assoc]
      exact Nat.mul_le_mul_right _ (by (clear h1; omega))
  intro l hb
  have := key l 0 hb
  simpa [binVal] using this

section
variable {prog : Program} {w : World} {A : Around} {E : Value → Shared → Prop} {s : Shared} {g : Heap} {Q : Value → Shared → Prop}
theorem c_sixes {x : Str} {tx : Tok} (hh : A.handled = none) (hA : A.depth < recursionLimit) (hg : Sub g s.heap) (B : Bs w g) (hb : Bin x.cps.toList) (h6 : x.length % 6 = 0) (h0 : 0 < x.length) (hsz : x.length ≤ 1000)
    (h : ∀ s' g' t, GoS [] s g s' g' → Q (.str (pSixes x) t) s') : wpAny (model prog w) A (call (.ref 123) [.str x tx]) Q E s := by
  refine callFn fSixes (D := []) (binds := [("bits", .str x tx)]) hA hg B rfl (BindsTo.of_eq rfl) rfl (fun L s₁ A' hh' _ _ F C hk => ?_)
  rw [hh] at hh'
  refine wpAny_execs_cons ?_
  refine wpAny_Assign_Name ?_
  refine x_str fun ta _ => ?_
  refine st_cell F C (fun s₂ F₂ _ => ?_)
  refine wpAny_execs_cons ?_
  refine wpAny_Return_some ?_
  have hrs : Builtin.Range.rangeSize 0 (x.length : Int) 6 = ((x.length / 6 : Nat) : Int) := by
    unfold Builtin.Range.rangeSize
    rw [if_pos (by decide), if_pos (by (clear hA; omega))]; (clear hA h0 hsz; omega)
  refine meth_str PySem.F.slot_str_join PySem.F.type_str_join ?_
  refine x_str fun te _ => ?_
  refine ⟨_, _, rfl, ?_⟩
  refine cw_blt ?_
  refine sp_cons ?_
  refine compEval (n := x.length / 6) (P := fun i v => ∃ t, v = .int (0 + i * 6) t) (ρc := fun y => List.lookup y [(Str.ofString "bits", .str x tx), (Str.ofString "alphabet", .str alphaS ta)]) (fun _ => true) (fun j => .str (Txt.item alphaS (sixAt x j))) (fun _ _ _ => True) F₂ rfl (by simp) (by simp) (by simp) ?hcl ?hρ (by decide) rfl (by decide) (by (clear hA; omega)) (fun _ _ _ _ _ _ => trivial) (fun _ _ _ _ _ _ => trivial) ?src ?turn ?fin
  case hcl =>
    intro y c e
    have := mem_of_lookup e
    simp only [List.mem_cons, List.not_mem_nil, or_false, Prod.mk.injEq] at this
    rcases this with ⟨rfl, rfl⟩ | ⟨rfl, rfl⟩ <;> rfl
  case hρ =>
    intro C
    refine hrho fun p hp => ?_
    simp only [List.mem_cons, List.not_mem_nil, or_false] at hp
    rcases hp with rfl | rfl
    · exact ⟨(show (some NameKind.cell) ≠ some NameKind.local by decide), rfl⟩
    · exact ⟨(show (some NameKind.cell) ≠ some NameKind.local by decide), rfl⟩
  case src =>
    intro Q' hQ
    refine call_name (nm_blt F₂ B (nRange _) bRange ?_)
    refine cw_type ?_
    refine sp_cons ?_
    refine x_int fun _ _ => ?_
    refine sp_cons ?_
    refine call_name (nm_blt F₂ B (nLen _) bLen ?_)
    refine cw_blt ?_
    refine sp_cons ?_
    refine nm_cell F₂ rfl ?_
    refine sp_nil ?_
    refine x_len (by (exact Nat.lt_of_le_of_lt hsz (Nat.le_of_ble_eq_true rfl))) fun _ _ => ?_
    refine sp_cons ?_
    refine x_int fun _ _ => ?_
    refine sp_nil ?_
    refine src_range3 (n := x.length / 6) hh' F₂.sub (by decide) (by decide) ?_ ?_ fun I s₃ G S => hQ I s₃ g G S trivial
    · refine small_of (by decide) (by decide) (by (clear hA; omega)) (by (clear hA; omega)) (by decide) (by decide) ?_ ?_ <;> (rw [hrs]; (clear hA; omega))
    · exact hrs
  case turn =>
    rintro C₁ i v s₃ g₃ e₃ hi ⟨tv, rfl⟩ F₃ hg₃ _
    have B₃ := B.keeps hg₃
    refine wpAny_assign_Name (st_local F₃ fun s₄ F₄ _ => ?_)
    refine wpAny_tests_nil ⟨rfl, fun _ => ?_, fun z => by cases z⟩
    refine Subscript_ ?_
    refine nm_cell F₄ rfl ?_
    refine call_name (nm_blt F₄ B₃ (nInt _) bInt ?_)
    refine cw_type ?_
    refine sp_cons ?_
    refine Subscript_ ?_
    refine nm_cell F₄ rfl ?_
    refine wpAny_Slice ?_
    refine evalPart_some_step ?_
    refine nm_local F₄ rfl ?_
    refine evalPart_some_step ?_
    refine wpAny_BinOp ?_
    refine nm_local F₄ rfl ?_
    refine x_int fun _ _ => ?_
    refine x_add fun _ _ => ?_
    refine evalPart_none_step ?_
    refine r_sliceIn F₄.sub (fun s₅ t₅ G₅ => ?_) (by rw [sizeLine_eq]; (exact Nat.le_trans hsz (Nat.le_of_ble_eq_true rfl)))
    have F₅ := F₄.step G₅
    refine sp_cons ?_
    refine x_int fun _ _ => ?_
    refine sp_nil ?_
    have hi6 : 6 * i + 6 ≤ x.length := by (clear hA h0 hsz; omega)
    rw [slice_in (by (clear hA h6 h0 hsz hrs hi hi6; omega)) (by (clear hA h6 h0 hsz hrs hi hi6; omega)) (by (clear hA h0 hsz hi6; omega))]
    have e1 : (0 + (i : Int) * 6).toNat = 6 * i := by (clear hA h6 h0 hsz hrs hi hi6; omega)
    have e2 : (0 + (i : Int) * 6 + 6 - (0 + (i : Int) * 6)).toNat = 6 := by (clear hA h6 h0 hsz hrs hi hi6 e1; omega)
    rw [e1, e2]
    have hlen : ((x.cps.toList.drop (6 * i)).take 6).length = 6 := by
      have : x.length = x.cps.toList.length := by simp [Str.length]
      simp only [List.length_take, List.length_drop]; (clear hA h0 hsz hi6 e1 e2; omega)
    refine x_bin (s := s₅) ?_ ?_ ?_ fun _ _ => ?_
    · simp only [Str.length, List.size_toArray, hlen]; decide
    · simpa using (hb.drop (6 * i)).take 6
    · intro z; have z' : (x.cps.toList.drop (6 * i)).take 6 = [] := by simpa using z
      rw [z'] at hlen; cases hlen
    have hlt : sixAt x i < 64 := by
      have := binVal_lt _ ((hb.drop (6 * i)).take 6)
      rw [hlen] at this; exact this
    have ee : (binVal ({ cps := (List.take 6 (List.drop (6 * i) x.cps.toList)).toArray } : Str).cps.toList) = sixAt x i := by simp [sixAt]
    rw [ee]
    refine x_item (by (exact Int.natCast_nonneg _)) ?_ (by decide) fun _ _ => ?_
    · have : alphaS.length = 64 := by decide
      rw [this]; (clear hA h6 h0 hsz hrs hi hi6 e1 e2 hlen this; omega)
    exact ⟨g₃, F₅.weaken (upd_weaken rfl), trivial, .str _ _⟩
  case fin =>
    intro s₃ g₃ v G₃ R₃ _
    rw [res_all] at R₃
    refine sp_nil ?_
    refine x_join (ss := (List.range (x.length / 6)).map fun j => Txt.item alphaS (sixAt x j)) G₃.sub ?_ ?_ fun _ _ => ?_
    · simpa [texts, List.map_map, Function.comp_def] using R₃
    · have := sum_len_le (k := 1) ((List.range (x.length / 6)).map fun j => Txt.item alphaS (sixAt x j)) (by
        intro y hy; obtain ⟨j, _, rfl⟩ := List.mem_map.mp hy; exact Nat.le_of_eq (len_item _ _))
      simp only [List.length_map, List.length_range] at this ⊢
      have : (Str.ofString "").length = 0 := by decide
      rw [this]; (clear hA this; omega)
    · exact h _ _ _ (F₂.step G₃).go
end
end Mine

/-! # NqFile -/
namespace Mine

noncomputable def pFile (home bit : Str) (i : Nat) : Dt :=
  if bit == Str.ofString "1" then [.none, .str (home ++ Str.ofString "/a")].getD (i % 2) .none
  else [.str home, .str (home ++ Str.ofString "a"), .str (Str.ofString ""), .str (Str.ofString "," ++ home ++ Str.ofString "/a")].getD (i % 4) .none

section
variable {prog : Program} {w : World} {A : Around} {E : Value → Shared → Prop} {s : Shared} {g : Heap} {Q : Value → Shared → Prop}
theorem c_file {home bit : Str} {i : Nat} {th tb ti : Tok} (hh : A.handled = none) (hA : A.depth < recursionLimit) (hg : Sub g s.heap) (B : Bs w g) (hi : i < 1000000) (hsz : home.length ≤ 1000)
    (h : ∀ s' g' v, GoS [] s g s' g' → Rep g' (pFile home bit i) v → Q v s') : wpAny (model prog w) A (call (.ref 151) [.str home th, .str bit tb, .int i ti]) Q E s := by
  refine callFn fFile (D := []) (binds := [("home", .str home th), ("bit", .str bit tb), ("i", .int i ti)]) hA hg B rfl (BindsTo.of_eq rfl) rfl (fun L s₁ A' hh' _ _ F C hk => ?_)
  rw [hh] at hh'
  have z1 : (Str.ofString "/a").length = 2 := by decide
  have z2 : (Str.ofString "a").length = 1 := by decide
  have z3 : (Str.ofString ",").length = 1 := by decide
  refine wpAny_execs_cons ?_
  refine wpAny_If ?_
  refine wpAny_isTrue_Compare1 ?_
  refine nm_local F rfl ?_
  refine x_str fun _ _ => ?_
  refine PyProof.Rows.eq_str ?_
  refine wpAny_truthy_bool ?_
  unfold pFile at h
  cases hb : (bit == Str.ofString "1") with
  | true =>
    rw [hb] at h
    simp only [if_true] at h ⊢
    refine wpAny_execs_cons ?_
    refine wpAny_Return_some ?_
    refine Subscript_ ?_
    refine List_ ?_
    refine sp_cons ?_
    refine wpAny_Constant_none ?_
    refine sp_cons ?_
    refine wpAny_BinOp ?_
    refine nm_local F rfl ?_
    refine x_str fun _ _ => ?_
    refine x_cat (fun _ _ => ?_) (by rw [sizeLine_eq]; (clear hA hi z2 z3; omega))
    refine sp_nil ?_
    refine r_newList (l := [.none, .str _]) F.sub (.cons .none (.cons (.str _ _) .nil)) fun s₂ g₂ v₂ G₂ R₂ => ?_
    have F₂ := F.step G₂
    refine wpAny_BinOp ?_
    refine nm_local F₂ rfl ?_
    refine x_int fun _ _ => ?_
    refine x_mod (by decide) fun _ _ => ?_
    have hm : ((i : Int).fmod 2) = ((i % 2 : Nat) : Int) := fmodN i 2
    rw [hm]
    refine r_item F₂.sub R₂ (by (exact Int.natCast_nonneg _)) (by (clear hA hi hsz z1 z2 z3; omega)) (d := [Dt.none, .str (home ++ Str.ofString "/a")].getD (i % 2) .none) ?_ fun u hu => ?_
    · rw [Int.toNat_natCast]
      have : i % 2 = 0 ∨ i % 2 = 1 := by (clear hA hi hsz z1 z2 z3; omega)
      rcases this with e | e <;> rw [e] <;> rfl
    · exact h _ _ _ F₂.go hu
  | false =>
    rw [hb] at h
    simp only [Bool.false_eq_true, if_false] at h ⊢
    refine wpAny_execs_nil ?_
    refine wpAny_execs_cons ?_
    refine wpAny_Return_some ?_
    refine Subscript_ ?_
    refine List_ ?_
    refine sp_cons ?_
    refine nm_local F rfl ?_
    refine sp_cons ?_
    refine wpAny_BinOp ?_
    refine nm_local F rfl ?_
    refine x_str fun _ _ => ?_
    refine x_cat (fun _ _ => ?_) (by rw [sizeLine_eq]; (clear hA hi z1 z3; omega))
    refine sp_cons ?_
    refine x_str fun _ _ => ?_
    refine sp_cons ?_
    refine wpAny_BinOp ?_
    refine wpAny_BinOp ?_
    refine x_str fun _ _ => ?_
    refine nm_local F rfl ?_
    refine x_cat (fun _ _ => ?_) (by rw [sizeLine_eq]; (clear hA hi z1 z2; omega))
    refine x_str fun _ _ => ?_
    refine x_cat (fun _ _ => ?_) (by rw [sizeLine_eq, Str.length_append]; (clear hA hi z2; omega))
    refine sp_nil ?_
    refine r_newList (l := [.str _, .str _, .str _, .str _]) F.sub (.cons (.str _ _) (.cons (.str _ _) (.cons (.str _ _) (.cons (.str _ _) .nil)))) fun s₂ g₂ v₂ G₂ R₂ => ?_
    have F₂ := F.step G₂
    refine wpAny_BinOp ?_
    refine nm_local F₂ rfl ?_
    refine x_int fun _ _ => ?_
    refine x_mod (by decide) fun _ _ => ?_
    have hm : ((i : Int).fmod 4) = ((i % 4 : Nat) : Int) := fmodN i 4
    rw [hm]
    refine r_item F₂.sub R₂ (by (exact Int.natCast_nonneg _)) (by (clear hA hi hsz z1 z2 z3; omega)) (d := [Dt.str home, .str (home ++ Str.ofString "a"), .str (Str.ofString ""), .str (Str.ofString "," ++ home ++ Str.ofString "/a")].getD (i % 4) .none) ?_ fun u hu => ?_
    · rw [Int.toNat_natCast]
      have : i % 4 = 0 ∨ i % 4 = 1 ∨ i % 4 = 2 ∨ i % 4 = 3 := by (clear hA hi hsz z1 z2 z3; omega)
      rcases this with e | e | e | e <;> rw [e] <;> rfl
    · exact h _ _ _ F₂.go hu
end
end Mine

/-! # NqOpen -/
namespace Mine
section
variable {prog : Program} {w : World} {A : Around} {E : Value → Shared → Prop} {s : Shared} {D : List Addr} {e : Ent} {env : Env} {ρ ρc : Str → Option Value} {g : Heap} {n : Nat} {P : Nat → Value → Prop}

theorem compOpen {target iter elt : Expr} {ifs : List Expr} {rest : List Comprehension} {scope : Scope} {pos : Pos} {cl : List (Str × Addr)} {RR : Value → Addr → Result → Shared → Prop}
    (F : FmS D e env ρ s g) (hDl : ∀ x ∈ D, ∃ o, s.heap.get? x = some o) (hDg : ∀ x ∈ D, g.get? x = none) (hDF : ∀ x ∈ D, ¬ FrameAt env x)
    (hcl : ∀ x c, cl.lookup x = some c → env.cells.lookup x = some c)
    (hρ : ∀ C x v, ρc x = some v → (compEnvC scope cl C env).kindOf x ≠ some .local ∧ ρ x = some v)
    (hcell : ∀ y ∈ scope.names, y.2 ≠ .cell) (hkind : scope.kind = .function)
    (src : ∀ Q : Value → Shared → Prop, (∀ I s₂ g₂, GoS D s g s₂ g₂ → Src prog w A target n P s I s₂ g₂ → Q (.ref I) s₂) → wpAny (model prog w) A (eval iter env) (fun x s₁ => wpAny (model prog w) A (pyIter x) Q E s₁) E s)
    (loop : ∀ I a C s₄ g₂ fp wr St, Walks prog w A I fp wr n P St → FmS (a :: D) (Ent.of s g) (compEnvC scope cl C env) ρc s₄ g₂ → Sub g g₂ → St 0 s₄.heap → (∀ x ∈ wr, (Ent.of s g).h.get? x = none ∧ ¬ FrameAt (compEnvC scope cl C env) x) → (∀ x ∈ wr, g₂.get? x = none) →
      (∀ i h, St i h → ∀ x ∈ wr, ∃ o, h.get? x = some o) → (∀ x ∈ fp, x ∉ a :: D ∧ x ≠ (compEnvC scope cl C env).locals) → (∀ x ∈ wr, x ∉ a :: D) →
      (∀ i v s (Q : Unit → Shared → Prop), St i s.heap → Q () s → wpAny (model prog w) A (letOwnedTupleGo target (.ref I) v) Q NoE s) → s₄.heap.IsList a #[] → g₂.get? a = none → s.heap.get? a = none → s.heap.get? C = none → a ≠ C → a ∉ D → C ∉ D →
      codeAny (model prog w) A (.compLoop (.ListComp elt (⟨target, iter, ifs, 0⟩ :: rest) scope pos) 0 (.ref I) (.ref a) (compEnvC scope cl C env)) (RR (.ref a) C) s₄) :
    wpAny (model prog w) A (eval iter env) (fun x s₁ => wpAny (model prog w) A (pyIter x) (fun it s₂ => wpAny (model prog w) A (newList []) (fun acc s₃ =>
      wpAny (model prog w) A (newFunctionEnv scope env.globals cl [] env.qual none .none (some env)) (fun cenv s₄ =>
        codeAny (model prog w) A (.compStart (.ListComp elt (⟨target, iter, ifs, 0⟩ :: rest) scope pos) 0 it acc { cenv with scope := relabel scope env }) (RR acc cenv.locals) s₄) E s₃) E s₂) E s₁) E s := by
  refine src _ fun I s₂ g₂ G₂ hsrc => ?_
  obtain ⟨fp, wr, St, W, hst, hwn, hwg, hfpl, hfpo, hlive, hwl, hown⟩ := hsrc
  have hfpD : ∀ x ∈ fp, x ∉ D := fun x hx hd => by
    obtain ⟨o, q⟩ := hDl x hd
    rcases hfpo x hx with h | ⟨o', q'⟩
    · rw [h] at q; cases q
    · rw [G₂.off x o q (hDg x hd)] at q'; cases q'
  refine wpAny_newList ?_ (by exact Nat.le_of_ble_eq_true rfl)
  refine wpAny_newFunctionEnv hcell (by intro x hx; cases hx) (fun h₁ hns hsb => ?_) hkind
  generalize hH : s₂.heap.push { cls := .type "list", dict := none, data := .seq ([] : List Value).toArray } = H at hns hsb ⊢
  have hC : H.objs.size = s₂.heap.objs.size + 1 := by rw [← hH, Heap.size_push]
  have up₁ : Sub s₂.heap h₁ := fun p o q => hsb.extBut p o (Nat.ne_of_lt (by have := lts q; show @LT.lt Nat _ p H.objs.size; omega)) (Heap.get?_push_of_some _ (hH ▸ Heap.get?_push_of_some _ q))
  have hacc : h₁.IsList s₂.heap.objs.size #[] := ⟨_, hsb.extBut _ _ (Nat.ne_of_lt (by show @LT.lt Nat _ s₂.heap.objs.size H.objs.size; omega)) (Heap.get?_push_of_some _ (hH ▸ Heap.get?_push_size _ rfl)), rfl, _, rfl⟩
  have old : ∀ p o, s.heap.get? p = some o → @LT.lt Nat _ p s₂.heap.objs.size := fun p o q => let ⟨_, q'⟩ := G₂.live p o q; lts q'
  have nA : s.heap.get? s₂.heap.objs.size = none := ext_none fun o q => Nat.lt_irrefl _ (old _ o q)
  have nC : s.heap.get? H.objs.size = none := ext_none fun o q => by have := old _ o q; omega
  have gA : g₂.get? s₂.heap.objs.size = none := ext_none fun o q => Nat.lt_irrefl _ (lts (G₂.sub _ _ q))
  have gC : g₂.get? H.objs.size = none := ext_none fun o q => by have := lts (G₂.sub _ _ q); omega
  have F₂ : FmS D e env ρ s₂ g₂ := F.stepD G₂ fun x hx => by
    refine ⟨.inl hx, hDF x hx⟩
  -- the block's frame
  generalize ha : s₂.heap.objs.size = a at *
  generalize hc : H.objs.size = C at *
  have hCD : C ∉ D := fun hx => by obtain ⟨o, q⟩ := hDl C hx; rw [nC] at q; cases q
  have haD : a ∉ D := fun hx => by obtain ⟨o, q⟩ := hDl a hx; rw [nA] at q; cases q
  have hframe : ∀ x, FrameAt (compEnvC scope cl C env) x → x = C ∨ FrameAt env x := by
    rintro x (h | ⟨m, h⟩)
    · exact .inl h
    · exact .inr (.inr ⟨m, hcl _ _ h⟩)
  let s₄ : Shared := { s₂ with heap := h₁, toks := s₂.toks + ([] : List (Str × Value)).length }
  have F₄ : FmS (a :: D) (Ent.of s g) (compEnvC scope cl C env) ρc s₄ g₂ := by
    refine ⟨⟨fun p o hp q => up₁ p o (G₂.keep p o (fun z => hp (.tail _ z)) q), fun p o q => let ⟨o', q'⟩ := G₂.live p o q; ⟨o', up₁ p o' q'⟩, G₂.up, G₂.sub.trans up₁, G₂.off, G₂.os, G₂.gs⟩, ⟨⟨_, hns, fun x v hx hv => ?_⟩, fun x c hx => ?_⟩, nC, fun x hx => ?_⟩
    · exact absurd hx (hρ C x v hv).1
    · obtain ⟨cv, ⟨o, ho, hd⟩, r⟩ := F₂.vars.cell x c (hcl _ _ hx)
      exact ⟨cv, ⟨o, up₁ c o ho, hd⟩, fun v hv => r v (hρ C x v hv).2⟩
    · rcases hframe x hx with rfl | h
      · exact gC
      · exact F₂.hid x h
  have hw : ∀ x ∈ wr, (Ent.of s g).h.get? x = none ∧ ¬ FrameAt (compEnvC scope cl C env) x := fun x hx => by
    refine ⟨hwn x hx, fun hf => ?_⟩
    rcases hframe x hf with rfl | h
    · obtain ⟨o, q⟩ := hwl _ hx; have := lts q; (clear haD hc hCD; omega)
    · obtain ⟨o, q⟩ := F.vars.at h; have := hwn x hx; rw [this] at q; cases q
  have hfp : ∀ x ∈ fp, x ∉ a :: D ∧ x ≠ (compEnvC scope cl C env).locals := fun x hx => by
    obtain ⟨o, q⟩ := hfpl x hx
    have hlt := lts q
    refine ⟨fun h => ?_, fun z => ?_⟩
    · rcases List.mem_cons.mp h with rfl | h
      · (clear hc hCD hC haD; omega)
      · exact hfpD x hx h
    · have : @Eq Nat x C := z
      have h2 : @LT.lt Nat _ x s₂.heap.objs.size := hlt
      have h3 : @Eq Nat s₂.heap.objs.size a := ha
      (clear hc hCD haD z h2 h3; omega)
  have nWr : ∀ x ∈ wr, x ∉ a :: D := fun x hx h => by
    rcases List.mem_cons.mp h with rfl | h
    · obtain ⟨o, q⟩ := hwl _ hx; have := lts q; (clear hc hCD hC haD; omega)
    · obtain ⟨o, q⟩ := hDl x h; rw [hwn x hx] at q; cases q
  have lp := loop I a C s₄ g₂ fp wr St W F₄ G₂.up (W.frame _ _ _ hst fun p _ o q => up₁ p o q) hw hwg hlive hfp nWr hown hacc gA nA nC (by have : @Eq Nat s₂.heap.objs.size a := ha; intro z; have : @Eq Nat a C := z; (clear ha hc hCD haD z; omega)) haD hCD
  exact codeAny_compStart_list lp (W.self 0 _ _ _ (W.frame _ _ _ hst fun p _ o q => up₁ p o q) lp)
end

end Mine

/-! # NqBits -/
namespace Mine

noncomputable def bitS (n : Nat) : Str := Str.ofString (toString (n : Int))
noncomputable def octBits (c : Nat) (m : Nat) : List Str := (List.range m).map fun j => bitS (c / 2 ^ (7 - j) % 2)
noncomputable def pBitsL (row : List Nat) : List Str := row.flatMap fun c => octBits c 8
noncomputable def pBits (row : List Nat) : Str := Txt.join (Str.ofString "") (pBitsL row)

theorem octs_length : ∀ l : List Nat, (l.flatMap fun c => octBits c 8).length = 8 * l.length
  | [] => rfl
  | x :: r => by
    rw [List.flatMap_cons, List.length_append, octs_length r, List.length_cons]
    simp only [octBits, List.length_map, List.length_range]; omega
theorem Fm.chg {D : List Addr} {e : Ent} {env : Env} {ρ : Str → Option Value} {s : Shared} {g h' : Heap} {a : Addr} {o' : Obj} (F : FmS D e env ρ s g) (haD : a ∈ D ∨ e.h.get? a = none) (hf : ¬ FrameAt env a) (hga : g.get? a = none) (hs : Heap.SameBut a s.heap h') (hl : h'.get? a = some o') : FmS D e env ρ { s with heap := h' } g := by
  refine F.stepD (D₁ := [a]) ⟨fun p o hp q => (hs.2 p fun z => hp (by simp [z])).trans q, fun p o q => ?_, Sub.refl _, fun p o q => (hs.2 p fun z => ?_).trans (F.sub p o q), fun _ _ _ z => z, rfl, rfl⟩ ?_
  · by_cases z : p = a
    · subst z; exact ⟨o', hl⟩
    · exact ⟨o, (hs.2 p z).trans q⟩
  · rw [z, hga] at q; cases q
  · intro x hx
    rw [List.mem_singleton] at hx; subst hx
    exact ⟨haD, hf⟩
theorem cut_none' {h : Heap} {p : Addr → Prop} {b : Addr} (e : h.get? b = none) : (cut h p).get? b = none := ext_none fun o q => (by rw [(cut_some.mp q).2] at e; cases e)

section
variable {prog : Program} {w : World} {A : Around} {E : Value → Shared → Prop} {s : Shared} {g : Heap} {Q : Value → Shared → Prop} {tk : Nat}
theorem x_strInt {a : Int} {t : Tok} (ha : a.natAbs.log2 < 1920) (h : ∀ t tk', Q (.str (Str.ofString (toString a)) t) { s with toks := tk' }) : wpAny (model prog w) A (call (.type "str") [.int a t]) Q E { s with toks := tk } := P.str_of_int ha (h _ _)

theorem compStart_second {R : Result → Shared → Prop} {elt target iter : Expr} {g0 : Comprehension} {ifs : List Expr} {scope : Scope} {pos : Pos} {it acc : Value} {env : Env}
    (h0 : codeAny (model prog w) A (.compLoop (.ListComp elt [g0, ⟨target, iter, ifs, 0⟩] scope pos) 1 it acc env) R s)
    (h : wpAny (model prog w) A (pyIter it) (fun it' s' => codeAny (model prog w) A (.compLoop (.ListComp elt [g0, ⟨target, iter, ifs, 0⟩] scope pos) 1 it' acc env) R s') NoE s) :
    codeAny (model prog w) A (.compStart (.ListComp elt [g0, ⟨target, iter, ifs, 0⟩] scope pos) 1 it acc env) R s := by
  refine codeAny_of_tree ?_
  show wpAny _ _ ((compStart (.ListComp elt [g0, ⟨target, iter, ifs, 0⟩] scope pos) 1 it acc env).onRaise (fun x => do noteFrame x env; standAt theWindowsPlace)) _ _ s
  refine wpAny_notedAt ?_
  unfold compStart
  show wpAny _ _ (ask >>= _) _ _ s
  refine wpAny_bind (wpAny_askSetting (wpAny_ite ?_))
  split
  · first
      | exact wpAny_bind (wpAny_pure (wpAny_pure (And.intro rfl h0)))
      | exact wpAny_pure (And.intro rfl h0)
  · refine wpAny_bind (wpAny_rule ?_)
    show wpAny _ _ (standAt iter.pos >>= _) _ _ s
    exact wpAny_bind (wpAny_standAt (wpAny_bind (wpAny_mono h (fun it' s' h' => wpAny_pure (And.intro rfl h')) fun _ _ x => x.elim)))

theorem compTurn_outer (elt t0 i0 t1 i1 : Expr) (ifs1 : List Expr) (scope : Scope) (pos : Pos) (it acc : Value) (env : Env) :
    compTurn (.ListComp elt [⟨t0, i0, [], 0⟩, ⟨t1, i1, ifs1, 0⟩] scope pos) 0 it acc env = turnBlk (do
      let x ← eval i1 env
      standAt i1.pos
      let x ← foldedSetIterable i1 env x
      let _ ← runOwn (.compStart (.ListComp elt [⟨t0, i0, [], 0⟩, ⟨t1, i1, ifs1, 0⟩] scope pos) 1 (← holding [x] (pyIter x)) acc env) env) t0 i0.pos [] (.compLoop (.ListComp elt [⟨t0, i0, [], 0⟩, ⟨t1, i1, ifs1, 0⟩] scope pos) 0 it acc env) it env := by
  unfold compTurn turnBlk
  simp only [bind_assoc]
  rfl
theorem compTurn_inner (elt t1 i1 : Expr) (g0 : Comprehension) (ifs1 : List Expr) (scope : Scope) (pos : Pos) (it acc : Value) (env : Env) :
    compTurn (.ListComp elt [g0, ⟨t1, i1, ifs1, 0⟩] scope pos) 1 it acc env = turnBlk (do let _ ← call (.builtin "list.append") [acc, ← eval elt env]) t1 i1.pos ifs1 (.compLoop (.ListComp elt [g0, ⟨t1, i1, ifs1, 0⟩] scope pos) 1 it acc env) it env := rfl

theorem c_bits {row : Array UInt8} {tr : Tok} (hh : A.handled = none) (hA : A.depth < recursionLimit) (hg : Sub g s.heap) (B : Bs w g) (hsz : row.size ≤ 1000)
    (h : ∀ s' g' t, GoS [] s g s' g' → Q (.str (pBits (row.toList.map (·.toNat))) t) s') : wpAny (model prog w) A (call (.ref 118) [.bytes row tr]) Q E s := by
  refine callFn fBits (D := []) (binds := [("row", .bytes row tr)]) hA hg B rfl (BindsTo.of_eq rfl) rfl (fun L s₁ A' hh' _ _ F C hk => ?_)
  rw [hh] at hh'
  refine wpAny_execs_cons ?_
  refine wpAny_Return_some ?_
  refine meth_str PySem.F.slot_str_join PySem.F.type_str_join ?_
  refine x_str fun te tk₁ => ?_
  refine ⟨_, _, rfl, ?_⟩
  refine cw_blt ?_
  refine sp_cons ?_
  rw [eval_ListComp]
  let s₀ : Shared := { s₁ with toks := tk₁ }
  have F₀ : FmS [] (Ent.of s g) (callEnvC fBits.fd L 118) (fun y => List.lookup y [(Str.ofString "row", Value.bytes row tr)].reverse) s₀ g := F
  refine wpAny_comprehension_free (use := none) rfl (fun _ => rfl) rfl rfl (by decide) ?_
  refine compOpen (n := row.size) (P := fun i v => ∃ c u, row[i]? = some c ∧ v = .int (c.toNat : Int) u) (ρc := fun _ => none) (D := []) F₀ (by simp) (by simp) (by simp) (by intro x c e; cases e) (by intro C x v e; cases e) (by decide) rfl ?src ?loop
  case src =>
    intro Q' hQ
    refine nm_local F₀ rfl ?_
    exact src_bytes hh' F₀.sub fun I s₂ G S => hQ I s₂ g G S
  case loop =>
    intro I a C₁ s₄ g₂ fp wr St W F₄ hg₂ hst hw hwg hlive hfp nWr hown hacc gA nA nC haC haD hCD
    let rs := row.toList.map (·.toNat)
    let out : Nat → List Str := fun i => (rs.take i).flatMap fun c => octBits c 8
    refine compGen (fun i g h => g.get? a = none ∧ ∃ ys : Array Value, h.IsList a ys ∧ Reps g ((out i).map .str) ys.toList) (compTurn_outer ..) rfl rfl (Around.under_of_weight rfl rfl) W F₄ hst ⟨gA, #[], hacc, .nil⟩ hw hwg hlive hfp ?_ hown ?_ ?_
    · rintro i g' h h' ⟨h1, ys, h2, h3⟩ k
      exact ⟨h1, ys, h2.at fun o q => k a o (fun hm => nWr a hm (.head _)) q, h3⟩
    · rintro i v s₅ g₅ e₅ hi ⟨c, u, hc, rfl⟩ F₅ hg₅ ⟨gA₅, ys, hys, hr⟩
      have B₅ := B.keeps (hg₂.trans hg₅)
      refine wpAny_assign_Name (st_local F₅ fun s₆ F₆ k₆ => ?_)
      refine wpAny_tests_nil ?_
      simp only [if_true]
      have hys₆ : s₆.heap.IsList a ys := hys.at fun o q => k₆ a o haC q
      have hrow : rs[i]? = some c.toNat := by simp [rs, hc]
      have hout : out (i + 1) = out i ++ octBits c.toNat 8 := by simp [out, List.take_add_one, hrow, List.flatMap_append]
      refine wpAny_bind (wpAny_mono (Q := fun x s' => wpAny (model prog w) A' (pyIter x) (fun it s' => ∃ I', it = .ref I' ∧ GoS [] s₆ g₅ s' g₅ ∧ Src prog w A' (.Name (Str.ofString "k") ⟨140, 66, 140, 67⟩) 8 (fun i v => ∃ t, v = .int (7 + i * (-1)) t) s₆ I' s' g₅) NoE s') ?_ (fun x s₇ h₇ => ?_) fun _ _ z => z)
      · refine call_name (nm_blt F₆ B₅ (nRange _) bRange ?_)
        refine cw_type ?_
        refine sp_cons ?_
        refine x_int fun _ _ => ?_
        refine sp_cons ?_
        refine UnaryOp_ ?_
        refine x_int fun _ _ => ?_
        refine x_neg fun _ _ => ?_
        refine sp_cons ?_
        refine UnaryOp_ ?_
        refine x_int fun _ _ => ?_
        refine x_neg fun _ _ => ?_
        refine sp_nil ?_
        exact src_range3 (n := 8) hh' F₆.sub (by decide) (by decide) (by decide) (by decide) fun I' s' G S => ⟨I', rfl, G, S⟩
      · refine wpAny_bind (wpAny_standAt ?_)
        refine wpAny_bind (wpAny_of_eq rfl ?_)
        refine wpAny_bind (wpAny_holding (wpAny_mono h₇ (fun it s₈ h₈ => ?_) fun _ _ z => z.elim))
        obtain ⟨I', rfl, G₈, S₈⟩ := h₈
        obtain ⟨fp', wr', St', W', hst', hwn', hwg', hfpl', hfpo', hlive', hwl', hown'⟩ := S₈
        have F₈ := (F₆.re [a]).step G₈
        have aliveA : ∃ o, s₆.heap.get? a = some o := let ⟨o, q, _⟩ := hys₆; ⟨o, q⟩
        have nW' : ∀ x ∈ wr', x ≠ a := fun x hx z => by obtain ⟨o, q⟩ := aliveA; rw [← z, hwn' x hx] at q; cases q
        refine wpAny_bind (wpAny_runOwn ?_)
        show codeAny _ A' _ _ _
        refine (fun lp => compStart_second lp (W'.self 0 _ _ _ hst' lp)) ?_
        refine compGen (D := [a]) (fun j g h => g.get? a = none ∧ ∃ ys : Array Value, h.IsList a ys ∧ Reps g ((out i ++ octBits c.toNat j).map .str) ys.toList) (compTurn_inner ..) rfl rfl (Around.under_of_weight rfl rfl) W' F₈ hst' ?_ ?_ hwg' hlive' ?_ ?_ hown' ?_ ?_
        · refine ⟨gA₅, ys, hys₆.at fun o q => G₈.keep a o (by simp) q, ?_⟩
          simpa [octBits] using hr
        · refine fun x hx => ⟨cut_none' (hwn' x hx), fun hf => ?_⟩
          obtain ⟨o, q⟩ := F₆.vars.at hf
          rw [hwn' x hx] at q; cases q
        · refine fun x hx => ⟨fun h => ?_, fun z => ?_⟩
          · rw [List.mem_singleton] at h; subst h
            rcases hfpo' _ hx with h | ⟨o, q⟩
            · obtain ⟨o, q⟩ := aliveA; rw [h] at q; cases q
            · rw [gA₅] at q; cases q
          · rcases hfpo' _ hx with h | ⟨o, q⟩
            · obtain ⟨o, q⟩ := F₆.vars.at (x := x) (.inl z); rw [h] at q; cases q
            · rw [F₆.hid x (.inl z)] at q; cases q
        · rintro j g' h h' ⟨h1, ys, h2, h3⟩ k
          exact ⟨h1, ys, h2.at fun o q => k a o (fun hm => nW' a hm rfl) q, h3⟩
        · rintro j v s₉ g₉ e₉ hj ⟨tv, rfl⟩ F₉ hg₉ ⟨gA₉, ys₉, hys₉, hr₉⟩
          have B₉ := B₅.keeps hg₉
          refine wpAny_assign_Name (st_local F₉ fun s₁₀ F₁₀ k₁₀ => ?_)
          refine wpAny_tests_nil ?_
          simp only [if_true]
          have hys₁₀ : s₁₀.heap.IsList a ys₉ := hys₉.at fun o q => k₁₀ a o haC q
          refine wpAny_bind ?_
          refine call_name (nm_blt F₁₀ B₉ (nStr _) bStr ?_)
          refine cw_type ?_
          refine sp_cons ?_
          refine wpAny_BinOp ?_
          refine wpAny_BinOp ?_
          refine nm_local F₁₀ rfl ?_
          refine wpAny_BinOp ?_
          refine x_int fun _ _ => ?_
          refine nm_local F₁₀ rfl ?_
          have ej : (7 + (j : Int) * (-1)).toNat = 7 - j := by (clear hA hsz haC haD hCD hi aliveA; omega)
          refine x_pow (by (clear hA hsz haC haD hCD hi aliveA ej; omega)) ?_ fun _ _ => ?_
          · have : Builtin.Int.intBits 2 = 2 := by decide
            rw [this]; (clear hA hsz haC haD hCD hi aliveA ej this; omega)
          rw [ej]
          have ep : (2 : Int) ^ (7 - j) = ((2 ^ (7 - j) : Nat) : Int) := by simp
          have hpos : 0 < 2 ^ (7 - j) := Nat.pow_pos (by decide)
          have hle : 2 ^ (7 - j) ≤ 2 ^ 7 := Nat.pow_le_pow_right (by decide) (by (clear hA hsz haC haD hCD hi aliveA ej ep hpos; omega))
          rw [ep]
          refine x_div (by (clear hA hsz haC haD hCD hi aliveA hj ej ep; omega)) (by rw [Int.natAbs_natCast]; (clear hA hsz haC haD hCD hi aliveA hj ej ep; omega)) fun _ _ => ?_
          rw [fdivN]
          refine x_int fun _ _ => ?_
          refine x_mod (by decide) fun _ _ => ?_
          have em : ((c.toNat / 2 ^ (7 - j) : Nat) : Int).fmod 2 = ((c.toNat / 2 ^ (7 - j) % 2 : Nat) : Int) := fmodN _ 2
          rw [em]
          refine sp_nil ?_
          refine x_strInt ?_ fun _ _ => ?_
          · have : c.toNat / 2 ^ (7 - j) % 2 = 0 ∨ c.toNat / 2 ^ (7 - j) % 2 = 1 := by (clear hA hsz haC haD hCD hi aliveA hj ej ep hpos hle em; omega)
            rcases this with z | z <;> rw [z] <;> decide
          refine wpAny_bind ?_
          have hsz₉ : ys₉.size ≤ sizeLine := by
            have h1 := hr₉.length
            rw [Array.length_toList] at h1
            have h2 : (out i).length ≤ 8 * row.size := by
              show ((rs.take i).flatMap fun c => octBits c 8).length ≤ _
              rw [octs_length]; simp [rs]; (clear hA hsz haC haD hCD aliveA hj ej ep hpos hle em h1; omega)
            simp [octBits] at h1
            rw [sizeLine_eq]; (clear hA haC haD hCD hi aliveA ej ep hpos hle em; omega)
          refine wpAny_list_append hys₁₀ (fun h' hl' hs' => wpAny_pure ?_) hsz₉
          obtain ⟨o10, q10, _, n10, d10⟩ := id hys₁₀
          have hfa := F₁₀.notFrame q10 (fun _ _ z => by rw [d10] at z; cases z) (fun _ z => by rw [d10] at z; cases z)
          obtain ⟨oa, qa, ra⟩ := id hl'
          have F₁₁ := F₁₀.chg (a := a) (.inl (.head _)) hfa gA₉ hs' qa
          refine ⟨g₉, F₁₁.weaken (upd_weaken rfl), gA₉, _, hl', ?_⟩
          rw [Array.toList_push]
          have eo : octBits c.toNat (j + 1) = octBits c.toNat j ++ [bitS (c.toNat / 2 ^ (7 - j) % 2)] := by simp [octBits, List.range_succ]
          rw [eo, ← List.append_assoc, List.map_append]
          exact hr₉.append (.cons (.str _ _) .nil)
        · rintro s' g' F' hg' ⟨gA', ys', hys', hr'⟩
          refine wpAny_pure ?_
          refine ⟨g', (F₆.join F' (fun x hx => .inl hx)).weaken (by intro x v e; cases e), gA', ys', hys', ?_⟩
          rw [hout]; exact hr'
    · rintro s' g' F' hg' ⟨_, ys, hys, hr⟩
      obtain ⟨m, hm, _⟩ := F'.vars.loc
      refine ⟨m, hm, fun h' hs' => ?_⟩
      have Gd : GoS [] s₀ g s' g' := F'.go.drop fun d hd => by
        rw [List.mem_singleton] at hd; subst hd; exact .inr nA
      obtain ⟨g'', G', u, pa, po⟩ := Gd.adds (· = a) (by rintro p o rfl q; rw [nA] at q; cases q)
      have gC : g''.get? C₁ = none := po C₁ (Ne.symm haC) (F'.hid C₁ (.inl rfl))
      have G'' : GoS [] s₀ g { s' with heap := h' } g'' := by
        refine ⟨fun p o hp q => (hs'.2 p fun z => ?_).trans (G'.keep p o hp q), fun p o q => ⟨o, (hs'.2 p fun z => ?_).trans (G'.keep p o (by simp) q)⟩, G'.up, fun p o q => (hs'.2 p fun z => ?_).trans (G'.sub p o q), G'.off, G'.os, G'.gs⟩
        · rw [z, nC] at q; cases q
        · rw [z, nC] at q; cases q
        · rw [z, gC] at q; cases q
      obtain ⟨oa, qa, r⟩ := hys
      have hrep : Rep g'' (texts (pBitsL rs)) (.ref a) := .list (vs := ys.toList) ⟨oa, pa a oa rfl qa, by simpa using r⟩ (by
        have e : out row.size = pBitsL rs := by simp [out, pBitsL, rs, List.take_of_length_le]
        rw [← e]; exact hr.mono u)
      refine sp_nil ?_
      refine x_join (s := { s' with heap := h' }) G''.sub hrep ?_ fun _ _ => ?_
      · have h1 := sum_len_le (k := 1) (pBitsL rs) (by
          intro y hy
          simp only [pBitsL, octBits, List.mem_flatMap, List.mem_map] at hy
          obtain ⟨c, _, j, _, rfl⟩ := hy
          have : c / 2 ^ (7 - j) % 2 = 0 ∨ c / 2 ^ (7 - j) % 2 = 1 := by (clear hA hsz haC haD hCD r; omega)
          rcases this with z | z <;> rw [z] <;> decide)
        have h2 : (pBitsL rs).length = 8 * row.size := by
          rw [pBitsL, octs_length]; simp [rs]
        have : (Str.ofString "").length = 0 := by decide
        rw [this]; (clear hA haC haD hCD r this; omega)
      · exact h _ _ _ (F₀.step G'').go
  
end
end Mine

/-! # NqB64 -/
namespace Mine

theorem band_mask (a k : Nat) : Builtin.bitAnd (a : Int) (((2 ^ k - 1 : Nat)) : Int) = ((a % 2 ^ k : Nat) : Int) := by
  rw [bitAnd_pp (by (exact Int.natCast_nonneg _)) (by (exact Int.natCast_nonneg _))]
  simp only [Int.toNat_natCast]
  rw [Nat.and_two_pow_sub_one_eq_mod]
theorem band_65535 (a : Nat) : Builtin.bitAnd (a : Int) 65535 = ((a % 65536 : Nat) : Int) := band_mask a 16
theorem band_63 (a : Nat) : Builtin.bitAnd (a : Int) 63 = ((a % 64 : Nat) : Int) := band_mask a 6
theorem bor_low (a b : Nat) (hb : b < 256) : Builtin.bitOr ((a : Int) * 256) (b : Int) = ((a * 256 + b : Nat) : Int) := by
  rw [bitOr_and, bitAnd_pp (by (clear hb; omega)) (by (exact Int.natCast_nonneg _))]
  have e : ((a : Int) * 256).toNat = a * 256 := by (clear hb; omega)
  rw [e, Int.toNat_natCast]
  have : (a * 256 &&& b) = 0 := by
    have h1 : a * 256 = a <<< 8 := by rw [Nat.shiftLeft_eq]
    rw [h1]
    apply Nat.eq_of_testBit_eq
    intro i
    rw [Nat.testBit_and, Nat.testBit_shiftLeft, Nat.zero_testBit]
    by_cases hi : 8 ≤ i
    · have : b.testBit i = false := Nat.testBit_lt_two_pow (Nat.lt_of_lt_of_le hb (Nat.pow_le_pow_right (n := 2) (by decide) hi))
      simp [this]
    · simp [hi]
  rw [this]; (clear hb e this; omega)

section
variable {prog : Program} {w : World} {A : Around} {E : Value → Shared → Prop} {s : Shared} {g : Heap} {Q : Value → Shared → Prop} {tk : Nat}

theorem reps_ints {ns : List Int} : ∀ {vs : List Value}, Reps g (ns.map .int) vs → IntsAre vs ns := by
  induction ns with
  | nil => intro vs h; cases h; exact .nil
  | cons n r ih =>
    intro vs h
    cases h with
    | cons h1 h2 =>
      obtain ⟨t, rfl⟩ := h1.int_inv
      exact .cons n t (ih h2)
theorem r_bytes {ns : List Int} {v : Value} (hh : A.handled = none) (hg : Sub g s.heap) (hr : Rep g (.list (ns.map .int)) v) (hb : ∀ n ∈ ns, 0 ≤ n ∧ n < 256) (hz : ns.length ≤ 1000000) (h : ∀ s' t, GoS [] s g s' g → Q (.bytes (byteArr ns) t) s') : wpAny (model prog w) A (call (.type "bytes") [v]) Q E s := by
  obtain ⟨a, vs, rfl, ha, hvs⟩ := hr.list_inv
  refine call_bytes_ints (isList_mono hg ha) (reps_ints hvs) hb ?_ hh fun h' t k hk => h _ t (go_keeps hg hk)
  have := hvs.length
  rw [this, sizeLine_eq]; simp; (exact Nat.le_trans hz (Nat.le_of_ble_eq_true rfl))
theorem x_bytesItem {value slice : Expr} {l : List UInt8} {i : Int} {t u : Tok} (hz : l.length ≤ 1000000) (h0 : 0 ≤ i) (h1 : i < l.length) (h : ∀ t tk', Q (.int ((l.getD i.toNat 0).toNat : Int) t) { s with toks := tk' })
    (hs : ∀ o i, subscripted slice false o i = operate [o, i] (getItem o i) := by intro _ _; rfl) : wpAny (model prog w) A (subscriptTail value slice (.bytes l.toArray t) (.int i u)) Q E { s with toks := tk } :=
  tail_any (PySem.W.typeIs_bytes _ _ _) FB.slot_bytes_getitem.lookup (getItem_bytes (by (exact Nat.le_trans hz (Nat.le_of_ble_eq_true rfl))) h0 h1 (h _ _)) (hs _ _)

theorem whileGen {R : Result → Shared → Prop} {D : List Addr} {e₀ : Ent} {env : Env} {test : Expr} {body : List Stmt} (Inv : Nat → (Str → Option Value) → Heap → Heap → Prop) {ρ : Str → Option Value} (F : FmS D e₀ env ρ s g) (n : Nat) (hI : Inv n ρ g s.heap)
    (turn : ∀ n s g₁ e₁ ρ₁, FmS D e₁ env ρ₁ s g₁ → Sub g g₁ → Inv n ρ₁ g₁ s.heap →
      wpAny (model prog w) A (isTrue test env (eval test env)) (fun b s₂ => if b then wpAny (model prog w) A (execs body env) (fun f s₃ => match f with
        | .next | .cont => ∃ g₃ ρ₃ m, FmS D e₁ env ρ₃ s₃ g₃ ∧ m < n ∧ Inv m ρ₃ g₃ s₃.heap
        | _ => False) NoE s₂ else ∃ g₂ ρ₂, FmS D e₁ env ρ₂ s₂ g₂ ∧ Inv 0 ρ₂ g₂ s₂.heap) NoE s)
    (done : ∀ s' g' ρ', FmS D e₀ env ρ' s' g' → Sub g g' → Inv 0 ρ' g' s'.heap → R (.ok .next) s') : codeAny (model prog w) A (.whileLoop test body [] env) R s := by
  refine codeAny_whileLoop (fun k s' => ∃ g' ρ', FmS D e₀ env ρ' s' g' ∧ Sub g g' ∧ Inv k ρ' g' s'.heap) ?_ n ⟨g, ρ, F, Sub.refl _, hI⟩
  rintro k s' ⟨g', ρ', F', hg', hI'⟩
  refine wpAny_mono (turn k s' g' (hideL env s' g') ρ' (F'.re D) hg' hI') (fun b s₂ h₂ => ?_) fun _ _ z => z.elim
  cases b with
  | false =>
    obtain ⟨g₂, ρ₂, F₂, hI₂⟩ := h₂
    exact wpAny_execs_nil (done _ _ _ (F'.join F₂ fun x hx => .inl hx) (hg'.trans F₂.go.up) hI₂)
  | true =>
    refine wpAny_mono h₂ (fun f s₃ h₃ => ?_) fun _ _ z => z.elim
    cases f with
    | next => obtain ⟨g₃, ρ₃, m, F₃, hm, hI₃⟩ := h₃; exact ⟨m, hm, g₃, ρ₃, F'.join F₃ (fun x hx => .inl hx), hg'.trans F₃.go.up, hI₃⟩
    | cont => obtain ⟨g₃, ρ₃, m, F₃, hm, hI₃⟩ := h₃; exact ⟨m, hm, g₃, ρ₃, F'.join F₃ (fun x hx => .inl hx), hg'.trans F₃.go.up, hI₃⟩
    | brk => exact h₃.elim
    | ret v => exact h₃.elim

theorem c_buffer {b : Array UInt8} {t : Tok} (hA : A.depth < recursionLimit) (hg : Sub g s.heap) (B : Bs w g) (h : ∀ s', GoS [] s g s' g → Q (.bytes b t) s') : wpAny (model prog w) A (call (.ref 90) [.bytes b t]) Q E s := by
  refine callFn fBuffer (D := []) (binds := [("data", .bytes b t)]) hA hg B rfl (BindsTo.of_eq rfl) rfl (fun L s₁ A' hh' _ _ F C hk => ?_)
  refine wpAny_execs_cons ?_
  refine wpAny_Assign_Name ?_
  refine call_name (nm_blt F B (nType _) bType ?_)
  refine cw_type ?_
  refine sp_cons ?_
  refine nm_local F rfl ?_
  refine sp_nil ?_
  refine call_type_of (PySem.W.typeIs_bytes _ _ _) (by decide) ?_
  refine st_local F fun s₂ F₂ _ => ?_
  refine wpAny_execs_cons ?_
  refine wpAny_If ?_
  refine wpAny_isTrue_Compare1 ?_
  refine nm_local F₂ rfl ?_
  refine nm_blt F₂ B (nBytes _) bBytes ?_
  refine wpAny_is_self rfl ?_
  refine wpAny_truthy_bool ?_
  simp only [if_true]
  refine wpAny_execs_cons ?_
  refine wpAny_Return_some ?_
  refine nm_local F₂ rfl ?_
  exact h _ F₂.go

theorem c_truth {b : Bool} (hA : A.depth < recursionLimit) (hg : Sub g s.heap) (B : Bs w g) (nBool : nsIn (KK w.params) mainGlobals "bool" = some none) (bBool : bootBuiltins "bool" = some (.type "bool")) (h : ∀ s', GoS [] s g s' g → Q (.bool b) s') : wpAny (model prog w) A (call (.ref 97) [.bool b]) Q E s := by
  refine callFn fTruth (D := []) (binds := [("x", .bool b)]) hA hg B rfl (BindsTo.of_eq rfl) rfl (fun L s₁ A' hh' _ _ F C hk => ?_)
  refine wpAny_execs_cons ?_
  refine wpAny_Assign_Name ?_
  refine call_name (nm_blt F B (nType _) bType ?_)
  refine cw_type ?_
  refine sp_cons ?_
  refine nm_local F rfl ?_
  refine sp_nil ?_
  refine call_type_of (Tx := "bool") rfl (by decide) ?_
  refine st_local F fun s₂ F₂ _ => ?_
  refine wpAny_execs_cons ?_
  refine wpAny_If ?_
  refine isTrue_or ?_
  refine wpAny_isTrue_Compare1 ?_
  refine nm_local F₂ rfl ?_
  refine wpAny_Constant_none ?_
  refine wpAny_is_other rfl (by intro z; cases z) ?_
  refine wpAny_truthy_bool ?_
  simp only [Bool.false_eq_true, if_false]
  refine isTrue_or ?_
  refine wpAny_isTrue_Compare1 ?_
  refine nm_local F₂ rfl ?_
  refine nm_blt F₂ B nBool bBool ?_
  refine wpAny_is_self rfl ?_
  refine wpAny_truthy_bool ?_
  simp only [if_true]
  refine wpAny_execs_cons ?_
  refine wpAny_Return_some ?_
  refine IfExp_ ?_
  refine isTrue_plain ?_
  refine nm_local F₂ rfl ?_
  refine wpAny_truthy_bool ?_
  cases b with
  | true => exact wpAny_Constant_bool (h _ F₂.go)
  | false => exact wpAny_Constant_bool (h _ F₂.go)

noncomputable def b64s : List UInt8 := [65, 66, 67, 68, 69, 70, 71, 72, 73, 74, 75, 76, 77, 78, 79, 80, 81, 82, 83, 84, 85, 86, 87, 88, 89, 90, 97, 98, 99, 100, 101, 102, 103, 104, 105, 106, 107, 108, 109, 110, 111, 112, 113, 114, 115, 116, 117, 118, 119, 120, 121, 122, 48, 49, 50, 51, 52, 53, 54, 55, 56, 57, 43, 47]
theorem gB64s (P : Params) : ∃ t, nsIn (KK P) mainGlobals "_B64" = some (some (.bytes b64s.toArray t)) := ⟨_, rfl⟩
end
end Mine

/-! # NqB2a -/
namespace Mine

theorem upd_ne {ρ : Str → Option Value} {x y : Str} {v : Value} (h : y ≠ x := by decide) : upd ρ x v y = ρ y := by unfold upd; rw [if_neg h]
theorem upd_eq {ρ : Str → Option Value} {x : Str} {v : Value} : upd ρ x v x = some v := by unfold upd; rw [if_pos rfl]
theorem Go.base {D : List Addr} {h h₁ g g₁ : Heap} {os os₁ : OsState} {gs gs₁ : Array GenState} (x : Go D h os gs g h₁ os₁ gs₁ g₁) : Go D h os gs g h₁ os₁ gs₁ g :=
  ⟨x.keep, x.live, Sub.refl _, x.up.trans x.sub, fun _ _ _ n => n, x.os, x.gs⟩
theorem Fm.setD {D D' : List Addr} {e : Ent} {env : Env} {ρ : Str → Option Value} {h g : Heap} {os : OsState} {gs : Array GenState} (F : Fm D e env ρ h os gs g) (hD : ∀ x ∈ D, x ∈ D' ∨ e.h.get? x = none) : Fm D' e env ρ h os gs g :=
  ⟨F.go.drop hD, F.vars, F.fresh, F.hid⟩

section
variable {prog : Program} {w : World} {M : Model} {A : Around} {E : Value → Shared → Prop} {s : Shared} {g : Heap} {Q : Value → Shared → Prop} {tk : Nat} {env : Env}
/-- a new list that is to be changed: it stays out of the ground -/
theorem r_newListM (hg : Sub g s.heap) (h : ∀ s' a, GoS [] s g s' g → s'.heap.PlainList a #[] → s.heap.get? a = none → g.get? a = none → Q (.ref a) s') : wpAny M A (newList []) Q E s := by
  refine wpAny_newList ?_ (by exact Nat.le_of_ble_eq_true rfl)
  exact h _ _ (go_keeps hg fun _ _ q => Heap.get?_push_of_some _ q) ⟨_, Heap.get?_push_size _ rfl⟩ (get_size _) (ext_none fun o q => Nat.lt_irrefl _ (lts (hg _ _ q)))
/-- a method of a list -/
theorem meth_list {o : Expr} {name : Str} {apos pos : Pos} {args : List Expr} {pl : Sem Bool} {id : String} (slot : Slot "list" name id) (ty : typeOf (.builtin id) = pure (.type "method_descriptor"))
    (h : wpAny M A (eval o env) (fun ov s₁ => ∃ a ys, ov = .ref a ∧ s₁.heap.PlainList a ys ∧ wpAny M A (callWith pos (.builtin id) [.ref a] (backTo pos (starEach args env)) []) Q E s₁) E s)
    (he : eval (.Call (.Attribute o name apos) args [] pos) env = (do
      let ov ← eval o env
      standAt apos.atName
      let (f, first) ← holding [ov] (getMethod ov name pl)
      callWith pos f first (backTo pos (starEach args env)) []) := by rfl) : wpAny M A (eval (.Call (.Attribute o name apos) args [] pos) env) Q E s :=
  MethodCall_ (wpAny_mono h (fun ov s₁ ⟨a, ys, e, hp, k⟩ => by
    subst e
    obtain ⟨n, q⟩ := hp
    exact getMethod_builtin (v := .ref a) ⟨_, q, rfl⟩ PySem.F.plainAttrs_list slot ty (fun a' z => by cases z; exact ⟨_, q, rfl⟩) k) fun _ _ z => z) he
theorem plain_notFrame {D : List Addr} {e : Ent} {ρ : Str → Option Value} {a : Addr} {ys : Array Value} (F : FmS D e env ρ s g) (h : s.heap.PlainList a ys) : ¬ FrameAt env a := by
  obtain ⟨n, q⟩ := h
  exact F.notFrame q (fun _ _ z => by cases z) fun _ z => by cases z
end

theorem r_append {prog : Program} {w : World} {A : Around} {E : Value → Shared → Prop} {s : Shared} {g : Heap} {Q : Value → Shared → Prop} {env : Env} {D : List Addr} {e : Ent} {ρ : Str → Option Value} {a : Addr} {ys : Array Value} {x : Value} (F : FmS D e env ρ s g) (haD : a ∈ D ∨ e.h.get? a = none) (hga : g.get? a = none) (hys : s.heap.PlainList a ys) (hsz : ys.size ≤ sizeLine)
    (h : ∀ s', FmS D e env ρ s' g → s'.heap.PlainList a (ys.push x) → (∀ b o, b ≠ a → s.heap.get? b = some o → s'.heap.get? b = some o) → Q .none s') : wpAny (model prog w) A (call (.builtin "list.append") [.ref a, x]) Q E s := by
  refine wpAny_list_append_plain hys (fun h' hl' hs' => ?_) hsz
  obtain ⟨nn, qa⟩ := id hl'
  exact h _ (F.chg (a := a) haD (plain_notFrame F hys) hga hs' qa) hl' fun b o hb q => (hs'.2 b hb).trans q

noncomputable def B64 (k : Nat) : Nat := (b64s.getD k 0).toNat
structure B64S where
  lc : Nat
  lb : Nat
  out : List Nat
noncomputable def emits (lc n k : Nat) : List Nat := (List.range k).map fun j => B64 (lc / 2 ^ (n - 6 * (j + 1)) % 64)
noncomputable def b64step (x : B64S) (b : Nat) : B64S := ⟨(x.lc * 256 + b) % 65536, (x.lb + 8) % 6, x.out ++ emits ((x.lc * 256 + b) % 65536) (x.lb + 8) ((x.lb + 8) / 6)⟩
noncomputable def b64fold (row : List Nat) : B64S := row.foldl b64step ⟨0, 0, []⟩
theorem b64fold_succ {row : List Nat} {i b : Nat} (h : row[i]? = some b) : b64fold (row.take (i + 1)) = b64step (b64fold (row.take i)) b := by
  simp [b64fold, List.take_add_one, h]
theorem b64fold_lb : ∀ row : List Nat, (b64fold row).lb = (2 * row.length) % 6 ∧ (b64fold row).lc < 65536 := by
  have key : ∀ (row : List Nat) (x : B64S), x.lc < 65536 → x.lb < 6 → (row.foldl b64step x).lb = (x.lb + 2 * row.length) % 6 ∧ (row.foldl b64step x).lc < 65536 := by
    intro row
    induction row with
    | nil => intro x h h6; exact ⟨by simp; (clear h; omega), h⟩
    | cons b r ih =>
      intro x h h6
      rw [List.foldl_cons]
      have := ih (b64step x b) (Nat.mod_lt _ (by decide)) (Nat.mod_lt _ (by decide))
      refine ⟨this.1.trans ?_, this.2⟩
      simp only [b64step, List.length_cons]; (clear h h6 this; omega)
  intro row
  have := key row ⟨0, 0, []⟩ (by decide) (by decide)
  simpa [b64fold] using this

theorem b64fold_len : ∀ row : List Nat, (b64fold row).out.length ≤ 2 * row.length := by
  have key : ∀ (row : List Nat) (x : B64S), x.lb < 6 → (row.foldl b64step x).out.length ≤ x.out.length + 2 * row.length := by
    intro row
    induction row with
    | nil => intro x _; simp
    | cons b r ih =>
      intro x h6
      rw [List.foldl_cons]
      have := ih (b64step x b) (Nat.mod_lt _ (by decide))
      refine Nat.le_trans this ?_
      simp only [b64step, List.length_append, emits, List.length_map, List.length_range, List.length_cons]; (clear this; omega)
  intro row
  have := key row ⟨0, 0, []⟩ (by decide)
  simpa [b64fold] using this
theorem B64_lt (k : Nat) : B64 k < 256 := (b64s.getD k 0).toNat_lt
theorem b64fold_byte : ∀ row : List Nat, ∀ n ∈ (b64fold row).out, n < 256 := by
  have key : ∀ (row : List Nat) (x : B64S), (∀ n ∈ x.out, n < 256) → ∀ n ∈ (row.foldl b64step x).out, n < 256 := by
    intro row
    induction row with
    | nil => intro x h; exact h
    | cons b r ih =>
      intro x h
      rw [List.foldl_cons]
      refine ih (b64step x b) fun n hn => ?_
      simp only [b64step, List.mem_append, emits, List.mem_map] at hn
      rcases hn with hn | ⟨j, _, rfl⟩
      · exact h n hn
      · exact B64_lt _
  intro row
  exact key row ⟨0, 0, []⟩ (by simp)

section
variable {prog : Program} {w : World} {A : Around} {E : Value → Shared → Prop} {s : Shared} {g : Heap} {Q : Value → Shared → Prop}
theorem c_b2a {row : Array UInt8} {tr : Tok} (hh : A.handled = none) (hA : A.depth + 1 < recursionLimit) (hg : Sub g s.heap) (B : Bs w g) (hsz : row.size ≤ 1000) (h3 : row.size % 3 = 0)
    (nBool : nsIn (KK w.params) mainGlobals "bool" = some none) (bBool : bootBuiltins "bool" = some (.type "bool"))
    (h : ∀ s' t, GoS [] s g s' g → Q (.bytes (byteArr ((b64fold (row.toList.map (·.toNat))).out.map fun (n : Nat) => (n : Int))) t) s') : wpAny (model prog w) A (call (.ref 105) [.bytes row tr] [(Str.ofString "newline", .bool false)]) Q E s := by
  refine callFn fB2a (D := []) (binds := [("data", .bytes row tr), ("newline", .bool false)]) (by (exact lt_dep0 hA)) hg B rfl (BindsTo.of_eq rfl) rfl (fun L s₁ A' hh' hd' _ F C hk => ?_)
  rw [hh] at hh'
  have hA' : A'.depth < recursionLimit := by (exact lt_dep1z hA hd' (Nat.le_of_ble_eq_true rfl))
  have B₁ : Bs w s₁.heap := B.keeps F.sub
  refine wpAny_execs_cons ?_
  refine wpAny_Assign_Name ?_
  refine call_name (nm_glob F B (gBuffer _) ?_)
  refine cw_fn (w := w) fBuffer ?_
  refine sp_cons ?_
  refine nm_local F rfl ?_
  refine sp_nil ⟨B₁, ?_⟩
  refine c_buffer hA' F.sub B fun s₂ G₂ => ?_
  have F₂ := F.step G₂
  refine st_local F₂ fun s₃ F₃ _ => ?_
  have B₃ : Bs w s₃.heap := B.keeps F₃.sub
  refine wpAny_execs_cons ?_
  refine wpAny_Assign_Name ?_
  refine call_name (nm_glob F₃ B (gTruth _) ?_)
  refine cw_fn (w := w) fTruth ?_
  refine sp_cons ?_
  refine nm_local F₃ rfl ?_
  refine sp_nil ⟨B₃, ?_⟩
  refine c_truth hA' F₃.sub B nBool bBool fun s₄ G₄ => ?_
  have F₄ := F₃.step G₄
  refine st_local F₄ fun s₅ F₅ _ => ?_
  refine wpAny_execs_cons ?_
  refine wpAny_Assign_Name ?_
  refine List_ ?_
  refine sp_nil ?_
  refine r_newListM F₅.sub fun s₆ a G₆ ha n₆ gA => ?_
  have F₆ := F₅.step G₆
  have eA : (Ent.of s g).h.get? a = none := ext_none fun o q => by have := F₅.go.keep a o (by simp) q; rw [n₆] at this; cases this
  refine st_local F₆ fun s₇ F₇ k₇ => ?_
  have aL₆ : a ≠ (callEnvC fB2a.fd L 105).locals := fun z => plain_notFrame F₆ ha (.inl z)
  have ha₇ := ha.at fun o q => k₇ a o aL₆ q
  refine wpAny_execs_cons ?_
  refine wpAny_Assign_Name ?_
  refine x_int fun t₁ _ => ?_
  refine st_local F₇ fun s₈ F₈ k₈ => ?_
  have ha₈ := ha₇.at fun o q => k₈ a o aL₆ q
  refine wpAny_execs_cons ?_
  refine wpAny_Assign_Name ?_
  refine x_int fun t₂ _ => ?_
  refine st_local F₈ fun s₉ F₉ k₉ => ?_
  have ha₉ := ha₈.at fun o q => k₉ a o aL₆ q
  refine wpAny_execs_cons ?_
  refine wpAny_For ?_
  refine nm_local F₉ rfl ?_
  refine src_bytes (target := .Name (Str.ofString "b") ⟨116, 8, 116, 9⟩) hh' F₉.sub fun I s₁₀ G₁₀ S => ?_
  obtain ⟨fp, wr, St, W, hst, hwn, hwg, hfpl, hfpo, hlive, hwl, hown⟩ := S
  have F₁₀ : FmS [a] _ _ _ s₁₀ g := (F₉.step G₁₀).setD (by simp)
  have ha₁₀ : s₁₀.heap.PlainList a #[] := ha₉.at fun o q => G₁₀.keep a o (by simp) q
  have alive₉ : ∃ o, s₉.heap.get? a = some o := let ⟨n, q⟩ := ha₉; ⟨_, q⟩
  have nWa : ∀ x ∈ wr, x ≠ a := fun x hx z => by obtain ⟨o, q⟩ := alive₉; rw [← z, hwn x hx] at q; cases q
  let rs := row.toList.map (·.toNat)
  let Inv : Nat → (Str → Option Value) → Heap → Heap → Prop := fun i ρ g h => (∃ t, ρ (Str.ofString "leftbits") = some (.int ((b64fold (rs.take i)).lb : Nat) t)) ∧ (∃ t, ρ (Str.ofString "leftchar") = some (.int ((b64fold (rs.take i)).lc : Nat) t)) ∧
    ρ (Str.ofString "out") = some (.ref a) ∧ ρ (Str.ofString "newline") = some (.bool false) ∧ g.get? a = none ∧ ∃ ys : Array Value, h.PlainList a ys ∧ Reps g ((b64fold (rs.take i)).out.map fun (n : Nat) => Dt.int (n : Int)) ys.toList
  refine forGen (D := [a]) Inv (fun _ _ _ => False) W F₁₀ hst ?_ ?_ hwg hlive ?_ ?_ hown ?_ ?_ ?_
  · exact ⟨⟨_, rfl⟩, ⟨_, rfl⟩, rfl, rfl, gA, #[], ha₁₀, .nil⟩
  · refine fun x hx => ⟨ext_none fun o q => ?_, fun hf => ?_⟩
    · have := F₉.go.keep x o (by simp) q; rw [hwn x hx] at this; cases this
    · obtain ⟨o, q⟩ := F₉.vars.at hf; rw [hwn x hx] at q; cases q
  · refine fun x hx => ⟨fun hm => ?_, fun z => ?_⟩
    · rw [List.mem_singleton] at hm; subst hm
      rcases hfpo _ hx with h | ⟨o, q⟩
      · obtain ⟨o, q⟩ := alive₉; rw [h] at q; cases q
      · rw [gA] at q; cases q
    · rcases hfpo _ hx with h | ⟨o, q⟩
      · obtain ⟨o, q⟩ := F₉.vars.at (x := x) (.inl z); rw [h] at q; cases q
      · rw [F₉.hid x (.inl z)] at q; cases q
  · rintro i ρ g' h h' ⟨h1, h2, h3, h4, h5, ys, h6, h7⟩ k
    exact ⟨h1, h2, h3, h4, h5, ys, h6.at fun o q => k a o (fun hm => nWa a hm rfl) q, h7⟩
  · rintro i v s₁₁ g₁₁ e₁₁ ρ₁₁ hi ⟨c, u, hc, rfl⟩ F₁₁ hg₁₁ ⟨⟨tb, hlb⟩, ⟨tc, hlc⟩, hout, hnl, hga, ys, hys, hr⟩
    have hrow : rs[i]? = some c.toNat := by simp [rs, hc]
    have hcl : c.toNat < 256 := c.toNat_lt
    have hst1 := b64fold_lb (rs.take i)
    refine wpAny_assign_Name (st_local F₁₁ fun s₁₂ F₁₂ k₁₂ => ?_)
    have aL : a ≠ (callEnvC fB2a.fd L 105).locals := aL₆
    have hys₁₂ := hys.at fun o q => k₁₂ a o aL q
    refine wpAny_execs_cons ?_
    refine wpAny_Assign_Name ?_
    refine wpAny_BinOp ?_
    refine wpAny_BinOp ?_
    refine wpAny_BinOp ?_
    refine nm_local F₁₂ (Eq.trans upd_ne hlc) ?_
    refine x_int fun _ _ => ?_
    refine x_shl (by decide) (by decide) (by rw [Int.natAbs_natCast]; (clear hA hsz h3 hd' hA' aL₆ alive₉ hi hcl aL; omega)) fun _ _ => ?_
    refine nm_local F₁₂ upd_eq ?_
    have e1 : (((b64fold (rs.take i)).lc : Nat) : Int) * 2 ^ (8 : Int).toNat = (((b64fold (rs.take i)).lc : Nat) : Int) * 256 := rfl
    rw [e1]
    refine x_or fun _ _ => ?_
    rw [bor_low _ _ hcl]
    refine x_int fun _ _ => ?_
    refine x_and fun _ _ => ?_
    rw [band_65535]
    refine st_local F₁₂ fun s₁₃ F₁₃ k₁₃ => ?_
    have hys₁₃ := hys₁₂.at fun o q => k₁₃ a o aL q
    refine wpAny_execs_cons ?_
    refine wpAny_Assign_Name ?_
    refine wpAny_BinOp ?_
    refine nm_local F₁₃ (Eq.trans upd_ne (Eq.trans upd_ne hlb)) ?_
    refine x_int fun _ _ => ?_
    refine x_add fun _ _ => ?_
    refine st_local F₁₃ fun s₁₄ F₁₄ k₁₄ => ?_
    have hys₁₄ := hys₁₃.at fun o q => k₁₄ a o aL q
    refine wpAny_execs_cons ?_
    refine wpAny_While ?_
    generalize hlcv : ((b64fold (rs.take i)).lc * 256 + c.toNat) % 65536 = lc' at F₁₄ ⊢
    have hn8 : (((b64fold (rs.take i)).lb : Nat) : Int) + 8 = (((b64fold (rs.take i)).lb + 8 : Nat) : Int) := by (clear hA hsz h3 hd' hA' aL₆ alive₉ hi hcl hst1 aL e1 hlcv; omega)
    rw [hn8] at F₁₄
    generalize hnv : (b64fold (rs.take i)).lb + 8 = n' at F₁₄ ⊢
    have hn14 : n' < 14 := by (clear hA hsz h3 hd' hA' aL₆ alive₉ hi hcl aL e1 hlcv hn8; omega)
    have hlc16 : lc' < 65536 := by (clear hA hsz h3 hd' hA' aL₆ alive₉ hi hcl hst1 aL e1 hn8 hnv hn14; omega)
    let InvW : Nat → (Str → Option Value) → Heap → Heap → Prop := fun m ρ g h => ∃ j, m = n' / 6 - j ∧ j ≤ n' / 6 ∧ (∃ t, ρ (Str.ofString "leftbits") = some (.int ((n' - 6 * j : Nat)) t)) ∧ (∃ t, ρ (Str.ofString "leftchar") = some (.int (lc' : Nat) t)) ∧
      ρ (Str.ofString "out") = some (.ref a) ∧ ρ (Str.ofString "newline") = some (.bool false) ∧ g.get? a = none ∧ ∃ ys : Array Value, h.PlainList a ys ∧ Reps g (((b64fold (rs.take i)).out ++ emits lc' n' j).map fun (n : Nat) => Dt.int (n : Int)) ys.toList
    refine whileGen (D := [a]) InvW F₁₄ (n' / 6) ?_ ?_ ?_
    · refine ⟨0, by (clear hA hsz h3 hd' hA' aL₆ alive₉ hi hcl aL e1 hlcv hn8 hlc16; omega), by (clear hA hsz h3 hd' hA' aL₆ alive₉ hi hcl aL e1 hlcv hn8 hlc16; omega), ⟨_, upd_eq⟩, ⟨_, Eq.trans upd_ne upd_eq⟩, Eq.trans upd_ne (Eq.trans upd_ne (Eq.trans upd_ne hout)), Eq.trans upd_ne (Eq.trans upd_ne (Eq.trans upd_ne hnl)), hga, ys, hys₁₄, ?_⟩
      simpa [emits] using hr
    · rintro m s₂₁ g₂₁ e₂₁ ρ₂₁ F₂₁ hg₂₁ ⟨j, rfl, hj, ⟨t1, hb⟩, ⟨t2, hl⟩, ho, hn, hga', ys', hys', hr'⟩
      have B₂₁ := B.keeps (hg₁₁.trans hg₂₁)
      refine wpAny_isTrue_Compare1 ?_
      refine nm_local F₂₁ hb ?_
      refine x_int fun _ _ => ?_
      refine ge_int ?_
      refine wpAny_truthy_bool ?_
      by_cases h6 : (6 : Int) ≤ ((n' - 6 * j : Nat) : Int)
      · rw [decide_eq_true h6]
        simp only [if_true]
        refine wpAny_execs_cons ?_
        refine wpAny_Expr ?_
        refine meth_list PySem.F.slot_list_append PySem.F.type_list_append ?_
        refine nm_local F₂₁ ho ?_
        refine ⟨a, ys', rfl, hys', ?_⟩
        refine cw_blt ?_
        refine sp_cons ?_
        refine Subscript_ ?_
        obtain ⟨tB, hB⟩ := gB64s w.params
        refine nm_glob F₂₁ B₂₁ hB ?_
        refine wpAny_BinOp ?_
        refine wpAny_BinOp ?_
        refine nm_local F₂₁ hl ?_
        refine wpAny_BinOp ?_
        refine nm_local F₂₁ hb ?_
        refine x_int fun _ _ => ?_
        refine x_sub fun _ _ => ?_
        refine x_shr (by (clear hA hsz h3 hd' hA' aL₆ alive₉ hi hcl hst1 aL e1 hlcv hn8 hnv hn14 hlc16 hj; omega)) fun _ _ => ?_
        have e2 : ((n' - 6 * j : Nat) : Int) - 6 = ((n' - 6 * (j + 1) : Nat) : Int) := by (clear hA hsz h3 hd' hA' aL₆ alive₉ hi hcl aL e1 hlcv hn8 hn14 hlc16 hj; omega)
        rw [e2, Int.toNat_natCast]
        have e3 : (2 : Int) ^ (n' - 6 * (j + 1)) = ((2 ^ (n' - 6 * (j + 1)) : Nat) : Int) := by simp
        rw [e3, fdivN]
        refine x_int fun _ _ => ?_
        refine x_and fun _ _ => ?_
        rw [band_63]
        have hlt64 : lc' / 2 ^ (n' - 6 * (j + 1)) % 64 < 64 := Nat.mod_lt _ (by decide)
        have hl64 : b64s.length = 64 := by decide
        refine x_bytesItem (by rw [hl64]; decide) (by (clear hA hsz h3 hd' hA' aL₆ alive₉ hi hcl hst1 aL e1 hlcv hn8 hnv hn14 hlc16 hj h6 e2 e3 hl64; omega)) (by rw [hl64]; (clear hA hsz h3 hd' hA' aL₆ alive₉ hi hcl hst1 aL e1 hlcv hn8 hnv hn14 hlc16 hj h6 e2 e3 hl64; omega)) fun t3 tk3 => ?_
        rw [Int.toNat_natCast]
        refine sp_nil ?_
        have hsz' : ys'.size ≤ sizeLine := by
          have h1 := hr'.length
          have h2 := b64fold_len (rs.take i)
          rw [Array.length_toList] at h1
          simp only [List.length_map, List.length_append, emits, List.length_range] at h1
          have h3 : (rs.take i).length ≤ 1000 := by simp [rs]; (clear hA hd' hA' aL₆ alive₉ hcl hst1 aL e1 hlcv hn8 hnv hn14 hlc16 hj h6 e2 e3 hlt64 hl64 h2 h1; omega)
          rw [sizeLine_eq]; (clear hA hsz hd' hA' aL₆ alive₉ hi hcl aL e1 hlcv hn8 hn14 hlc16 h6 e2 e3 hlt64 hl64; omega)
        refine r_append F₂₁ (.inl (.head _)) hga' hys' hsz' fun s₂₂ F₂₂ hl' _ => ?_
        refine wpAny_execs_cons ?_
        refine wpAny_Assign_Name ?_
        refine wpAny_BinOp ?_
        refine nm_local F₂₂ hb ?_
        refine x_int fun _ _ => ?_
        refine x_sub fun _ _ => ?_
        refine st_local F₂₂ fun s₂₃ F₂₃ k₂₃ => ?_
        refine wpAny_execs_nil ?_
        refine ⟨g₂₁, _, n' / 6 - (j + 1), F₂₃, by (clear hA hsz h3 hd' hA' aL₆ alive₉ hi hcl aL e1 hlcv hn8 hn14 hlc16 e3 hlt64 hl64 hsz'; omega), j + 1, rfl, by (clear hA hsz h3 hd' hA' aL₆ alive₉ hi hcl aL e1 hlcv hn8 hn14 hlc16 h6 e3 hlt64 hl64 hsz'; omega), ⟨_, by rw [upd_eq, e2]⟩, ⟨_, Eq.trans upd_ne hl⟩, Eq.trans upd_ne ho, Eq.trans upd_ne hn, hga', _, hl'.at (fun o q => k₂₃ a o aL q), ?_⟩
        have e4 : emits lc' n' (j + 1) = emits lc' n' j ++ [B64 (lc' / 2 ^ (n' - 6 * (j + 1)) % 64)] := by simp [emits, List.range_succ]
        rw [e4, ← List.append_assoc, List.map_append, Array.toList_push]
        exact hr'.append (.cons (.int _ _) .nil)
      · rw [decide_eq_false h6]
        simp only [Bool.false_eq_true, if_false]
        exact ⟨g₂₁, ρ₂₁, F₂₁, j, by (clear hA hsz h3 hd' hA' aL₆ alive₉ hi hcl aL e1 hlcv hn8 hn14 hlc16; omega), hj, ⟨t1, hb⟩, ⟨t2, hl⟩, ho, hn, hga', ys', hys', hr'⟩
    · rintro s₂₅ g₂₅ ρ₂₅ F₂₅ hg₂₅ ⟨j, hj0, hj, ⟨t1, hb⟩, ⟨t2, hl⟩, ho, hn, hga', ys', hys', hr'⟩
      have hjn : j = n' / 6 := by (clear hA hsz h3 hd' hA' aL₆ alive₉ hi hcl hst1 aL e1 hlcv hn8 hnv hn14 hlc16; omega)
      subst hjn
      refine wpAny_execs_nil ?_
      refine ⟨g₂₅, ρ₂₅, F₂₅, ?_⟩
      have es : b64fold (rs.take (i + 1)) = ⟨lc', n' % 6, (b64fold (rs.take i)).out ++ emits lc' n' (n' / 6)⟩ := by
        rw [b64fold_succ hrow, b64step, hlcv, hnv]
      show Inv (i + 1) _ _ _
      simp only [Inv]
      rw [es]
      have e5 : n' - 6 * (n' / 6) = n' % 6 := by (clear hA hsz h3 hd' hA' aL₆ alive₉ hi hcl aL e1 hlcv hn8 hn14 hlc16 hj0 hj; omega)
      rw [e5] at hb
      exact ⟨⟨t1, hb⟩, ⟨t2, hl⟩, ho, hn, hga', ys', hys', hr'⟩
  · rintro s' g' ρ' F' hg' ⟨⟨tb, hlb⟩, ⟨tc, hlc⟩, hout, hnl, hga, ys, hys, hr⟩
    have hfull : rs.take row.size = rs := by simp [rs, List.take_of_length_le]
    rw [hfull] at hlb hlc hr
    have hz : (b64fold rs).lb = 0 := by rw [(b64fold_lb rs).1]; simp [rs]; (clear hA hsz hd' hA' aL₆ alive₉; omega)
    rw [hz] at hlb
    have B' := B.keeps hg'
    refine wpAny_execs_cons ?_
    refine wpAny_If ?_
    refine wpAny_isTrue_Compare1 ?_
    refine nm_local F' hlb ?_
    refine x_int fun _ _ => ?_
    refine PyProof.Rows.eq_int ?_
    refine wpAny_truthy_bool ?_
    refine wpAny_execs_cons ?_
    refine wpAny_If ?_
    refine wpAny_isTrue_Compare1 ?_
    refine nm_local F' hlb ?_
    refine x_int fun _ _ => ?_
    refine PyProof.Rows.eq_int ?_
    refine wpAny_truthy_bool ?_
    refine wpAny_execs_nil ?_
    refine wpAny_execs_nil ?_
    refine wpAny_execs_cons ?_
    refine wpAny_If ?_
    refine isTrue_plain ?_
    refine nm_local F' hnl ?_
    refine wpAny_truthy_bool ?_
    refine wpAny_execs_nil ?_
    refine wpAny_execs_cons ?_
    refine wpAny_Return_some ?_
    refine call_name (nm_blt F' B' (nBytes _) bBytes ?_)
    refine cw_type ?_
    refine sp_cons ?_
    refine nm_local F' hout ?_
    refine sp_nil ?_
    have F'' : FmS [] _ _ _ s' g' := F'.setD (D' := []) (by intro x hx; rw [List.mem_singleton] at hx; subst hx; exact .inr eA)
    have Gs := F''.go
    obtain ⟨g'', G', u, pa, po⟩ := Gs.adds (· = a) (by rintro p o rfl q; rw [eA] at q; cases q)
    obtain ⟨nn, qa⟩ := hys
    refine r_bytes (g := g'') (ns := (b64fold rs).out.map fun (n : Nat) => (n : Int)) hh' G'.sub (.list (vs := ys.toList) ⟨_, pa a _ rfl qa, rfl, nn, by simp⟩ ?_) ?_ ?_ fun s₃₀ t₃₀ G₃₀ => ?_
    · rw [List.map_map]; exact hr.mono u
    · intro n hn
      obtain ⟨k, hk, rfl⟩ := List.mem_map.mp hn
      have := b64fold_byte rs k hk
      (clear hA hsz h3 hd' hA' aL₆ alive₉ hz; omega)
    · have := b64fold_len rs
      simp [rs] at this ⊢; (clear hA hd' hA' aL₆ alive₉ hz; omega)
    · exact h _ _ (G'.trans G₃₀).base
  · intro v s' g' ρ' F' hg' z; exact z.elim
end
end Mine

/-! # NqEnc -/
namespace Mine
theorem nBool (P : Params) : nsIn (KK P) mainGlobals "bool" = some none := by kernel_rfl
theorem bBool : bootBuiltins "bool" = some (.type "bool") := by kernel_rfl
noncomputable def encOf (row : List Nat) : Array UInt8 := byteArr ((b64fold row).out.map fun (n : Nat) => (n : Int))

theorem d106 (P : Params) : ∃ n, (KK P).lookup 106 = some ⟨.type "tuple", none, .seq #[.none] n, #[]⟩ := ⟨_, rfl⟩

section
variable {prog : Program} {w : World} {A : Around} {E : Value → Shared → Prop} {s : Shared} {g : Heap} {Q : Value → Shared → Prop}
theorem c_enc {row : Array UInt8} {tr : Tok} (hh : A.handled = none) (hA : A.depth + 2 < recursionLimit) (hg : Sub g s.heap) (B : Bs w g) (hsz : row.size ≤ 1000) (h3 : row.size % 3 = 0)
    (h : ∀ s' t, GoS [] s g s' g → Q (.bytes (encOf (row.toList.map (·.toNat))) t) s') : wpAny (model prog w) A (call (.ref 113) [.bytes row tr]) Q E s := by
  obtain ⟨nd, hd⟩ := d106 w.params
  refine callFn fB64 (D := []) (binds := [("s", .bytes row tr), ("altchars", .none)]) (by (exact lt_dep0 hA)) hg B rfl (BindsTo.of_defaults (T := 106) rfl (hg _ _ (B.K _ _ hd)) rfl rfl rfl) rfl (fun L s₁ A' hh' hd' _ F C hk => ?_)
  rw [hh] at hh'
  refine wpAny_execs_cons ?_
  refine wpAny_Assign_Name ?_
  refine wpAny_Call_Name_kw ?_
  refine nm_glob F B (gB2a _) ?_
  refine callWith_function_kw (o := ⟨.type "function", none, .func fB2a.fd, #[]⟩) (fd := fB2a.fd) ?_
  refine evalArgs_kw (x := _) rfl ?_
  refine PySem.Calls.spliced_cons ?_
  refine nm_local F rfl ?_
  refine PySem.Calls.spliced_nil ?_
  refine kwAll_cons ?_
  refine wpAny_Constant_bool ?_
  refine kwAll_nil ?_
  refine ⟨⟨F.sub _ _ (B.K _ _ (fB2a.at_ _)), rfl⟩, ?_⟩
  refine c_b2a hh' (by (exact lt_dep1 hA hd' (Nat.le_of_ble_eq_true rfl))) F.sub B hsz h3 (nBool _) bBool fun s₂ t₂ G₂ => ?_
  have F₂ := F.step G₂
  refine st_local F₂ fun s₃ F₃ _ => ?_
  refine wpAny_execs_cons ?_
  refine wpAny_If ?_
  refine wpAny_isTrue_Compare1 ?_
  refine nm_local F₃ rfl ?_
  refine wpAny_Constant_none ?_
  refine wpAny_isNot_self rfl ?_
  refine wpAny_truthy_bool ?_
  refine wpAny_execs_nil ?_
  refine wpAny_execs_cons ?_
  refine wpAny_Return_some ?_
  refine nm_local F₃ rfl ?_
  exact h _ _ F₃.go
end
end Mine

/-! # NqMods -/
namespace Mine

section
variable {prog : Program} {w : World} {M : Model} {A : Around} {E : Value → Shared → Prop} {s : Shared} {g : Heap} {Q : Value → Shared → Prop} {tk : Nat} {env : Env} {a b : Int} {t u : Tok}
theorem r_newTupleRaw {vs : List Value} (hg : Sub g s.heap) (h : ∀ s' t, GoS [] s g s' g → IsTup s'.heap t vs.toArray → Q (.ref t) s') (hsz : vs.length ≤ sizeLine := by exact Nat.le_of_ble_eq_true rfl) : wpAny M A (newTuple vs) Q E s := by
  refine wpAny_newTuple ?_ hsz
  exact h _ _ (go_keeps hg fun _ _ q => Heap.get?_push_of_some _ q) (IsTup.new _ _)
theorem r_unpack {QL : List Value → Shared → Prop} {t : Addr} {items : Array Value} {n : Nat} (hh : A.handled = none) (hg : Sub g s.heap) (ht : IsTup s.heap t items) (hn : n = items.size) (h : ∀ s', GoS [] s g s' g → QL items.toList s') : wpAny (model prog w) A (unpackItems (.ref t) n none) QL E s := by
  subst hn
  refine unpackItems_tuple hh ht fun h' he => h _ (go_keeps hg fun p o q => he p o ?_ q)
  exact Nat.ne_of_lt (Heap.lt_size q)
theorem x_mul (hm : IntMulOk a b) (h : ∀ t tk', Q (.int (a * b) t) { s with toks := tk' }) : wpAny (model prog w) A (binaryOp .Mult (.int a t) (.int b u)) Q E { s with toks := tk } := PyProof.Rows.mul_int (h _ _) hm
end

theorem forSrc {prog : Program} {w : World} {A : Around} {R : Result → Shared → Prop} {s s₂ : Shared} {g g₂ : Heap} {env : Env} {D : List Addr} {e : Ent} {ρ : Str → Option Value} {target : Expr} {body : List Stmt} {n : Nat} {P : Nat → Value → Prop} {I : Addr}
    (Inv : Nat → (Str → Option Value) → Heap → Heap → Prop) (Rt : Value → Heap → Heap → Prop) (F : FmS D e env ρ s g) (G : GoS [] s g s₂ g₂) (S : Src prog w A target n P s I s₂ g₂)
    (hDl : ∀ x ∈ D, ∃ o, s.heap.get? x = some o) (hDg : ∀ x ∈ D, g.get? x = none) (hI : Inv 0 ρ g₂ s₂.heap)
    (hInv : ∀ i ρ g (h h' : Heap), Inv i ρ g h → (∀ b ∈ D, ∀ o, h.get? b = some o → h'.get? b = some o) → Inv i ρ g h')
    (turn : ∀ i v s g₁ e₁ ρ₁, i < n → P i v → FmS D e₁ env ρ₁ s g₁ → Sub g₂ g₁ → Inv i ρ₁ g₁ s.heap →
      wpAny (model prog w) A (assign target env v) (fun _ s₂ => wpAny (model prog w) A (execs body env) (fun f s₃ => match f with
        | .next | .cont => ∃ g₃ ρ₃, FmS D e₁ env ρ₃ s₃ g₃ ∧ Inv (i + 1) ρ₃ g₃ s₃.heap
        | .brk => False
        | .ret v => ∃ g₃ ρ₃, FmS D e₁ env ρ₃ s₃ g₃ ∧ Rt v g₃ s₃.heap) NoE s₂) NoE s)
    (done : ∀ s' g' ρ', FmS D e env ρ' s' g' → Sub g₂ g' → Inv n ρ' g' s'.heap → R (.ok .next) s')
    (ret : ∀ v s' g' ρ', FmS D e env ρ' s' g' → Sub g₂ g' → Rt v g' s'.heap → R (.ok (.ret v)) s') :
    codeAny (model prog w) A (.forLoop target (.ref I) body [] env) R s₂ := by
  obtain ⟨fp, wr, St, W, hst, hwn, hwg, hfpl, hfpo, hlive, hwl, hown⟩ := S
  have nWD : ∀ x ∈ wr, x ∉ D := fun x hx hd => by obtain ⟨o, q⟩ := hDl x hd; rw [hwn x hx] at q; cases q
  refine forGen Inv Rt W (F.step G) hst hI (fun x hx => ⟨ext_none fun o q => ?_, fun hf => ?_⟩) hwg hlive (fun x hx => ⟨fun hm => ?_, fun z => ?_⟩) (fun i ρ g h h' hi k => hInv _ _ _ _ _ hi fun b hb o q => k b o (fun hm => nWD b hm hb) q) hown turn done ret
  · obtain ⟨o', q'⟩ := F.go.live x o q; rw [hwn x hx] at q'; cases q'
  · obtain ⟨o, q⟩ := F.vars.at hf; rw [hwn x hx] at q; cases q
  · obtain ⟨o, q⟩ := hDl x hm
    rcases hfpo _ hx with h | ⟨o', q'⟩
    · rw [h] at q; cases q
    · rw [G.off x o q (hDg x hm)] at q'; cases q'
  · obtain ⟨o, q⟩ := F.vars.at (x := x) (.inl z)
    rcases hfpo _ hx with h | ⟨o', q'⟩
    · rw [h] at q; cases q
    · rw [G.off x o q (F.hid x (.inl z))] at q'; cases q'

noncomputable def modOf (sg : Str) (n : Int) : Option (List Str) :=
  if n.fmod 4 = 0 then some ((signs sg).take (sg.length - ((n.fdiv 4).fmod sg.length).toNat))
  else if n.fmod 4 = 1 then some (pParts ((n.fdiv 4).fmod (6 * sg.length)).toNat sg) else none
noncomputable def pMods (ns : List Int) (sg : Str) : List (List Str) := ns.filterMap (modOf sg)
noncomputable abbrev textss (l : List (List Str)) : Dt := .list (l.map texts)

section
variable {prog : Program} {w : World} {A : Around} {E : Value → Shared → Prop} {s : Shared} {g : Heap} {Q : Value → Shared → Prop}
theorem c_mods {ns : List Int} {v : Value} {sg : Str} {ts : Tok} (hh : A.handled = none) (hA : A.depth + 1 < recursionLimit) (hg : Sub g s.heap) (B : Bs w g) (hr : Rep g (.list (ns.map .int)) v) (hn : ns.length ≤ 1000) (h0 : 0 < sg.length) (hsz : sg.length ≤ 100)
    (h : ∀ s' g' v, GoS [] s g s' g' → Rep g' (textss (pMods ns sg)) v → Q v s') : wpAny (model prog w) A (call (.ref 137) [v, .str sg ts]) Q E s := by
  refine callFn fMods (D := []) (binds := [("numbers", v), ("signs", .str sg ts)]) (by (exact lt_dep0 hA)) hg B rfl (BindsTo.of_eq rfl) rfl (fun L s₁ A' hh' hd' _ F C hk => ?_)
  rw [hh] at hh'
  have hA' : A'.depth < recursionLimit := by (exact lt_dep1z hA hd' (Nat.le_of_ble_eq_true rfl))
  refine wpAny_execs_cons ?_
  refine Assign_Tuple_swapped ?_
  refine Tuple_ ?_
  refine sp_cons ?_
  refine List_ ?_
  refine sp_nil ?_
  refine r_newListM F.sub fun s₂ a G₂ ha n₂ gA => ?_
  have F₂ := F.step G₂
  have eA : (Ent.of s g).h.get? a = none := ext_none fun o q => by have := F.go.keep a o (by simp) q; rw [n₂] at this; cases this
  refine sp_cons ?_
  refine call_name (nm_blt F₂ B (nLen _) bLen ?_)
  refine cw_blt ?_
  refine sp_cons ?_
  refine nm_local F₂ rfl ?_
  refine sp_nil ?_
  refine x_len (by (exact Nat.lt_of_le_of_lt hsz (Nat.le_of_ble_eq_true rfl))) fun tl _ => ?_
  refine sp_nil ?_
  refine r_newTupleRaw F₂.sub fun s₃ tu G₃ ht => ?_
  have F₃ := F₂.step G₃
  have ha₃ := ha.at fun o q => G₃.keep a o (by simp) q
  refine r_unpack hh' F₃.sub ht rfl fun s₄ G₄ => ?_
  have F₄ := F₃.step G₄
  have ha₄ := ha₃.at fun o q => G₄.keep a o (by simp) q
  have aL : a ≠ (callEnvC fMods.fd L 137).locals := fun z => plain_notFrame F₂ ha (.inl z)
  refine wpAny_bind (wpAny_holding (bindName_ (st_local F₄ fun s₅ F₅ k₅ => ?_)))
  refine wpAny_bind (wpAny_holding (bindName_ (st_local F₅ fun s₆ F₆ k₆ => ?_)))
  have ha₆ := (ha₄.at fun o q => k₅ a o aL q).at fun o q => k₆ a o aL q
  refine wpAny_pure ?_
  refine wpAny_execs_cons ?_
  refine wpAny_For ?_
  refine nm_local F₆ rfl ?_
  refine src_list (target := .Name (Str.ofString "n") ⟨148, 8, 148, 9⟩) hh' F₆.sub hr fun I s₇ G₇ S => ?_
  have ha₇ := ha₆.at fun o q => G₇.keep a o (by simp) q
  have F₆' : FmS [a] _ _ _ s₆ g := F₆.setD (by simp)
  let Inv : Nat → (Str → Option Value) → Heap → Heap → Prop := fun i ρ g h => (∃ t, ρ (Str.ofString "size") = some (.int (sg.length : Nat) t)) ∧ ρ (Str.ofString "signs") = some (.str sg ts) ∧ ρ (Str.ofString "mods") = some (.ref a) ∧ g.get? a = none ∧ ∃ ys : Array Value, h.PlainList a ys ∧ Reps g ((pMods (ns.take i) sg).map texts) ys.toList
  refine forSrc (D := [a]) Inv (fun _ _ _ => False) F₆' G₇ S (by intro x hx; rw [List.mem_singleton] at hx; subst hx; obtain ⟨n, q⟩ := ha₆; exact ⟨_, q⟩) (by intro x hx; rw [List.mem_singleton] at hx; subst hx; exact gA) ?_ ?_ ?_ ?_ ?_
  · exact ⟨⟨_, rfl⟩, rfl, rfl, gA, #[], ha₇, .nil⟩
  · rintro i ρ g' h h' ⟨h1, h2, h3, h4, ys, h5, h6⟩ k
    exact ⟨h1, h2, h3, h4, ys, h5.at fun o q => k a (.head _) o q, h6⟩
  · rintro i v s₈ g₈ e₈ ρ₈ hi ⟨d, hd, hrd⟩ F₈ hg₈ ⟨⟨tz, hz⟩, hs, hm, hga, ys, hys, hr₈⟩
    obtain ⟨n, hn', rfl⟩ : ∃ n, ns[i]? = some n ∧ Dt.int n = d := by
      rw [List.getElem?_map] at hd
      cases q : ns[i]? with
      | none => rw [q] at hd; cases hd
      | some n => rw [q] at hd; exact ⟨n, rfl, by simpa using hd⟩
    obtain ⟨tn, rfl⟩ := hrd.int_inv
    have B₈ := B.keeps hg₈
    have hsucc : pMods (ns.take (i + 1)) sg = pMods (ns.take i) sg ++ (modOf sg n).toList := by
      rw [pMods, List.take_add_one, hn', List.filterMap_append]
      cases hmo : modOf sg n <;> simp [hmo, pMods]
    have hlen : ys.size ≤ sizeLine := by
      have h1 := hr₈.length
      rw [Array.length_toList, List.length_map] at h1
      have h2 : (pMods (ns.take i) sg).length ≤ (ns.take i).length := List.length_filterMap_le _ _
      simp only [List.length_take] at h2
      rw [sizeLine_eq]; (clear hA h0 hsz hd' hA' aL hi; omega)
    refine wpAny_assign_Name (st_local F₈ fun s₉ F₉ k₉ => ?_)
    have hys₉ := hys.at fun o q => k₉ a o aL q
    refine wpAny_execs_cons ?_
    refine wpAny_Assign_Name ?_
    refine wpAny_BinOp ?_
    refine nm_local F₉ upd_eq ?_
    refine x_int fun _ _ => ?_
    refine x_div (by decide) (by decide) fun tq _ => ?_
    refine st_local F₉ fun s₁₀ F₁₀ k₁₀ => ?_
    have hys₁₀ := hys₉.at fun o q => k₁₀ a o aL q
    have hsz0 : ((sg.length : Nat) : Int) ≠ 0 := by (clear hA hn hd' hA' aL hi hlen; omega)
    have hq0 := Int.fmod_nonneg_of_pos (n.fdiv 4) (b := (sg.length : Nat)) (by (clear hA hn hd' hA' aL hi hlen hsz0; omega))
    have hq1 := Int.fmod_lt_of_pos (n.fdiv 4) (b := (sg.length : Nat)) (by (clear hA hn hd' hA' aL hi hlen hsz0 hq0; omega))
    refine wpAny_execs_cons ?_
    refine wpAny_If ?_
    refine wpAny_isTrue_Compare1 ?_
    refine wpAny_BinOp ?_
    refine nm_local F₁₀ (Eq.trans upd_ne upd_eq) ?_
    refine x_int fun _ _ => ?_
    refine x_mod (by decide) fun _ _ => ?_
    refine x_int fun _ _ => ?_
    refine PyProof.Rows.eq_int ?_
    refine wpAny_truthy_bool ?_
    by_cases c0 : n.fmod 4 = 0
    · rw [c0]
      simp only [beq_self_eq_true, if_true]
      refine wpAny_execs_cons ?_
      refine wpAny_Expr ?_
      refine meth_list PySem.F.slot_list_append PySem.F.type_list_append ?_
      refine nm_local F₁₀ (Eq.trans upd_ne (Eq.trans upd_ne hm)) ?_
      refine ⟨a, ys, rfl, hys₁₀, ?_⟩
      refine cw_blt ?_
      refine sp_cons ?_
      refine call_name (nm_blt F₁₀ B₈ (nList _) bList ?_)
      refine cw_type ?_
      refine sp_cons ?_
      refine Subscript_ ?_
      refine nm_local F₁₀ (Eq.trans upd_ne (Eq.trans upd_ne hs)) ?_
      refine wpAny_Slice ?_
      refine evalPart_none_step ?_
      refine evalPart_some_step ?_
      refine wpAny_BinOp ?_
      refine nm_local F₁₀ (Eq.trans upd_ne (Eq.trans upd_ne hz)) ?_
      refine wpAny_BinOp ?_
      refine nm_local F₁₀ upd_eq ?_
      refine nm_local F₁₀ (Eq.trans upd_ne (Eq.trans upd_ne hz)) ?_
      refine x_mod hsz0 fun _ _ => ?_
      refine x_sub fun _ _ => ?_
      refine evalPart_none_step ?_
      refine r_sliceTo F₁₀.sub (fun s₁₁ t₁₁ G₁₁ => ?_) (by rw [sizeLine_eq]; (exact Nat.le_trans hsz (Nat.le_of_ble_eq_true rfl)))
      have F₁₁ := F₁₀.step G₁₁
      have hys₁₁ := hys₁₀.at fun o q => G₁₁.keep a o (by simp) q
      rw [slice_to (by (clear hA hn h0 hsz hd' hA' aL hi hlen hsz0 hq0 c0; omega)) (by (clear hA hn h0 hsz hd' hA' aL hi hlen hsz0 hq1 c0; omega))]
      refine sp_nil ?_
      refine r_listStr hh' F₁₁.sub (fun s₁₂ g₁₂ v₁₂ G₁₂ R₁₂ => ?_) ?_
      · have F₁₂ := F₁₁.step G₁₂
        have hys₁₂ := hys₁₁.at fun o q => G₁₂.keep a o (by simp) q
        obtain ⟨o11, q11⟩ : ∃ o, s₁₁.heap.get? a = some o := let ⟨n, q⟩ := hys₁₁; ⟨_, q⟩
        have hga₁₂ := G₁₂.off a o11 q11 hga
        refine sp_nil ?_
        refine r_append F₁₂ (.inl (.head _)) hga₁₂ hys₁₂ hlen fun s₁₃ F₁₃ hl' _ => ?_
        refine wpAny_execs_nil ?_
        refine wpAny_execs_nil ?_
        refine ⟨g₁₂, _, F₁₃, ⟨tz, Eq.trans upd_ne (Eq.trans upd_ne hz)⟩, Eq.trans upd_ne (Eq.trans upd_ne hs), Eq.trans upd_ne (Eq.trans upd_ne hm), hga₁₂, _, hl', ?_⟩
        rw [hsucc, Array.toList_push, List.map_append]
        refine (hr₈.mono G₁₂.up).append ?_
        simp only [modOf, c0, if_true, Option.toList, List.map_cons, List.map_nil]
        refine .cons ?_ .nil
        rw [signs_take] at R₁₂
        have e : (((sg.length : Nat) : Int) - (n.fdiv 4).fmod (sg.length : Nat)).toNat = sg.length - ((n.fdiv 4).fmod (sg.length : Nat)).toNat := by (clear hA hn hd' hA' aL hi hlen hsz0 c0; omega)
        rw [e] at R₁₂
        exact R₁₂
      · rw [sizeLine_eq]; simp only [Str.length, List.size_toArray, List.length_take]; have : sg.cps.toList.length = sg.length := by simp [Str.length]
        (clear hA hn hd' hA' aL hi hlen hsz0 hq0 hq1 c0; omega)
    · rw [show (n.fmod 4 == 0) = false from beq_eq_false_iff_ne.mpr c0]
      simp only [Bool.false_eq_true, if_false]
      refine wpAny_execs_cons ?_
      refine wpAny_If ?_
      refine wpAny_isTrue_Compare1 ?_
      refine wpAny_BinOp ?_
      refine nm_local F₁₀ (Eq.trans upd_ne upd_eq) ?_
      refine x_int fun _ _ => ?_
      refine x_mod (by decide) fun _ _ => ?_
      refine x_int fun _ _ => ?_
      refine PyProof.Rows.eq_int ?_
      refine wpAny_truthy_bool ?_
      by_cases c1 : n.fmod 4 = 1
      · rw [c1]
        simp only [beq_self_eq_true, if_true]
        have hp0 := Int.fmod_nonneg_of_pos (n.fdiv 4) (b := 6 * ((sg.length : Nat) : Int)) (by (clear hA hn hd' hA' aL hi hlen hsz0 hq0 hq1 c0 c1; omega))
        have hp1 := Int.fmod_lt_of_pos (n.fdiv 4) (b := 6 * ((sg.length : Nat) : Int)) (by (clear hA hn hd' hA' aL hi hlen hsz0 hq0 hq1 c0 c1 hp0; omega))
        refine wpAny_execs_cons ?_
        refine wpAny_Expr ?_
        refine meth_list PySem.F.slot_list_append PySem.F.type_list_append ?_
        refine nm_local F₁₀ (Eq.trans upd_ne (Eq.trans upd_ne hm)) ?_
        refine ⟨a, ys, rfl, hys₁₀, ?_⟩
        refine cw_blt ?_
        refine sp_cons ?_
        refine call_name (nm_glob F₁₀ B₈ (gParts _) ?_)
        refine cw_fn (w := w) fParts ?_
        refine sp_cons ?_
        refine wpAny_BinOp ?_
        refine nm_local F₁₀ upd_eq ?_
        refine wpAny_BinOp ?_
        refine x_int fun _ _ => ?_
        refine nm_local F₁₀ (Eq.trans upd_ne (Eq.trans upd_ne hz)) ?_
        refine x_mul (IntMulOk.of_left (by decide)) fun _ _ => ?_
        refine x_mod (by (clear hA hn hd' hA' aL hi hlen hsz0 hq0 hq1 c0 c1 hp0 hp1; omega)) fun _ _ => ?_
        refine sp_cons ?_
        refine nm_local F₁₀ (Eq.trans upd_ne (Eq.trans upd_ne hs)) ?_
        refine sp_nil ⟨B₈.keeps F₁₀.sub, ?_⟩
        have e : (n.fdiv 4).fmod (6 * ((sg.length : Nat) : Int)) = ((((n.fdiv 4).fmod (6 * ((sg.length : Nat) : Int))).toNat : Nat) : Int) := by (clear hA hn h0 hsz hd' hA' aL hi hlen hsz0 hq0 hq1 c0 c1 hp1; omega)
        rw [e]
        refine c_parts hh' hA' F₁₀.sub B₈ (by (clear hA hn h0 hsz hd' hA' aL hi hlen hsz0 hq0 hq1 c0 c1 hp0; omega)) hsz fun s₁₂ g₁₂ v₁₂ G₁₂ R₁₂ => ?_
        have F₁₂ := F₁₀.step G₁₂
        have hys₁₂ := hys₁₀.at fun o q => G₁₂.keep a o (by simp) q
        obtain ⟨o11, q11⟩ : ∃ o, s₁₀.heap.get? a = some o := let ⟨n, q⟩ := hys₁₀; ⟨_, q⟩
        have hga₁₂ := G₁₂.off a o11 q11 hga
        refine sp_nil ?_
        refine r_append F₁₂ (.inl (.head _)) hga₁₂ hys₁₂ hlen fun s₁₃ F₁₃ hl' _ => ?_
        refine wpAny_execs_nil ?_
        refine wpAny_execs_nil ?_
        refine wpAny_execs_nil ?_
        refine ⟨g₁₂, _, F₁₃, ⟨tz, Eq.trans upd_ne (Eq.trans upd_ne hz)⟩, Eq.trans upd_ne (Eq.trans upd_ne hs), Eq.trans upd_ne (Eq.trans upd_ne hm), hga₁₂, _, hl', ?_⟩
        rw [hsucc, Array.toList_push, List.map_append]
        refine (hr₈.mono G₁₂.up).append ?_
        have c1' : ¬ ((1 : Int) = 0) := by decide
        simp only [modOf, c1, c1', if_false, if_true, Option.toList, List.map_cons, List.map_nil]
        exact .cons R₁₂ .nil
      · rw [show (n.fmod 4 == 1) = false from beq_eq_false_iff_ne.mpr c1]
        simp only [Bool.false_eq_true, if_false]
        refine wpAny_execs_nil ?_
        refine wpAny_execs_nil ?_
        refine wpAny_execs_nil ?_
        refine ⟨g₈, _, F₁₀, ⟨tz, Eq.trans upd_ne (Eq.trans upd_ne hz)⟩, Eq.trans upd_ne (Eq.trans upd_ne hs), Eq.trans upd_ne (Eq.trans upd_ne hm), hga, _, hys₁₀, ?_⟩
        rw [hsucc]
        simp only [modOf, c0, c1, if_false, Option.toList, List.append_nil]
        exact hr₈
  · rintro s' g' ρ' F' hg' ⟨⟨tz, hz⟩, hs, hm, hga, ys, hys, hr'⟩
    rw [List.length_map] at hr'
    rw [List.take_of_length_le (Nat.le_refl _)] at hr'
    refine wpAny_execs_cons ?_
    refine wpAny_Return_some ?_
    refine nm_local F' hm ?_
    have F'' : FmS [] _ _ _ s' g' := F'.setD (D' := []) (by intro x hx; rw [List.mem_singleton] at hx; subst hx; exact .inr eA)
    obtain ⟨g'', G', u, pa, po⟩ := F''.go.adds (· = a) (by rintro p o rfl q; rw [eA] at q; cases q)
    obtain ⟨nn, qa⟩ := hys
    exact h _ _ _ G' (.list (vs := ys.toList) ⟨_, pa a _ rfl qa, rfl, nn, by simp⟩ (hr'.mono u))
  · intro v s' g' ρ' F' hg' z; exact z.elim
end
end Mine

/-! # NqEq -/
namespace Mine
theorem ks_canLayAll0 : ∀ ns : List Str, (∀ n ∈ ns, PyData.strOk n = true) → PyData.canLayAll0 (ns.map PyData.str) = true
  | [], _ => rfl
  | n :: r, h => by simp only [List.map_cons, PyData.canLayAll0, PyData.canLay0, h n (.head _), Bool.true_and]; exact ks_canLayAll0 r fun m hm => h m (.tail _ hm)
theorem ks_depthAll : ∀ ns : List Str, PyData.depthAll (ns.map PyData.str) = 0
  | [] => rfl
  | n :: r => by simp only [List.map_cons, PyData.depthAll, PyData.depth]; rw [ks_depthAll r]; rfl
theorem ks_shaped (ns : List Str) (hn : ∀ n ∈ ns, PyData.strOk n = true) : SeqAt.shaped (.list (ns.map PyData.str)) = true := by
  simp [SeqAt.shaped, PyData.canLay0, PyData.depth, ks_canLayAll0 ns hn, ks_depthAll]
theorem ks_sameAll : ∀ ns ms : List Str, PySem.Spec.sameAll (ns.map PyData.str) (ms.map PyData.str) = decide (ns = ms)
  | [], [] => rfl
  | [], _ :: _ => rfl
  | _ :: _, [] => rfl
  | a :: r, b :: t => by
    simp only [List.map_cons, PySem.Spec.sameAll, PySem.Spec.same, ks_sameAll r t]
    by_cases h : a = b <;> by_cases h' : r = t <;> simp [h, h']
theorem ks_same (ns ms : List Str) : PySem.Spec.same (.list (ns.map PyData.str)) (.list (ms.map PyData.str)) = decide (ns = ms) := by
  simp only [PySem.Spec.same]; exact ks_sameAll ns ms
theorem reps_carried {g : Heap} {ss : List Str} : ∀ {vs : List Value}, Reps g (ss.map .str) vs → CarriedAll vs (ss.map PyData.str) := by
  induction ss with
  | nil => intro vs h; cases h; exact .nil
  | cons x r ih =>
    intro vs h
    cases h with
    | cons h1 h2 =>
      obtain ⟨t, rfl⟩ := h1.str_inv
      exact .cons (.str _ t) (ih h2)
section
variable {prog : Program} {w : World} {A : Around} {E : Value → Shared → Prop} {s : Shared} {g : Heap} {Q : Value → Shared → Prop}
theorem r_eqTexts {ss ts : List Str} {v u : Value} (hu : A.units + 64 < cLine) (k1 : ∀ n ∈ ss, PyData.strOk n = true) (k2 : ∀ n ∈ ts, PyData.strOk n = true) (hg : Sub g s.heap) (h1 : Rep g (texts ss) v) (h2 : Rep g (texts ts) u) (h : Q (.bool (decide (ss = ts))) s) : wpAny (model prog w) A (compareOp .Eq v u) Q E s := by
  obtain ⟨a, xs, rfl, ha, hxs⟩ := h1.list_inv
  obtain ⟨b, ys, rfl, hb, hys⟩ := h2.list_inv
  exact eq_dataH_same (reads_newData (isList_mono hg ha) (reps_carried hxs)) (reads_newData (isList_mono hg hb) (reps_carried hys)) (ks_shaped _ k1) (ks_shaped _ k2) hu (SeqAt.noMix_of_shape (.list .str) rfl _ _ (list_map_has fun _ => rfl) (list_map_has fun _ => rfl)) (by rw [ks_same]; exact h)
end
end Mine

/-! # NqKept0 -/
namespace Mine
section
variable {prog : Program} {w : World} {A : Around} {E : Value → Shared → Prop} {s : Shared} {g : Heap} {Q : Value → Shared → Prop} {target : Expr}
theorem list_notFrame {D : List Addr} {e : Ent} {env : Env} {ρ : Str → Option Value} {a : Addr} {ys : Array Value} (F : FmS D e env ρ s g) (h : s.heap.IsList a ys) : ¬ FrameAt env a := by
  obtain ⟨o, q, _, n, hd⟩ := h
  exact F.notFrame q (fun _ _ z => by rw [hd] at z; cases z) fun _ z => by rw [hd] at z; cases z
theorem r_setItem {QU : Unit → Shared → Prop} {env : Env} {D : List Addr} {e : Ent} {ρ : Str → Option Value} {a : Addr} {ys : Array Value} {x : Value} {k : Nat} {t : Tok} (F : FmS D e env ρ s g) (haD : a ∈ D ∨ e.h.get? a = none) (hga : g.get? a = none) (hys : s.heap.IsList a ys) (hk : k < ys.size) (hsz : ys.size ≤ 1000000)
    (h : ∀ s', FmS D e env ρ s' g → s'.heap.IsList a (ys.setIfInBounds k x) → QU () s') : wpAny (model prog w) A (setItem (.ref a) (.int k t) x) QU E s := by
  refine wpAny_setItem_list hys (by (exact Int.natCast_nonneg _)) (by (clear haD; omega)) (by (clear haD hsz; omega)) fun h' hl' hs' => ?_
  obtain ⟨o, qa, _⟩ := id hl'
  exact h _ (F.chg (a := a) haD (list_notFrame F hys) hga hs' qa) (by simpa using hl')
theorem src_rev {l : List Dt} {v : Value} (hh : A.handled = none) (hg : Sub g s.heap) (hr : Rep g (.list l) v)
    (h : ∀ I s₂, GoS [] s g s₂ g → Src prog w A target l.length (fun i v => ∃ d, l[l.length - 1 - i]? = some d ∧ Rep g d v) s I s₂ g → Q (.ref I) s₂) : wpAny (model prog w) A (call (.type "reversed") [v]) (fun x s₁ => wpAny (model prog w) A (pyIter x) Q E s₁) E s := by
  obtain ⟨a, vs, rfl, ha, hvs⟩ := hr.list_inv
  have ha' := isList_mono hg ha
  have hlt : @LT.lt Nat _ a s.heap.objs.size := by obtain ⟨o, q, _⟩ := ha'; exact lts q
  have hne : a ≠ s.heap.objs.size := Nat.ne_of_lt hlt
  refine call_reversed_list ha' ?_
  have W := Walks.listRev (prog := prog) (w := w) hh s.heap.objs.size a hne vs.toArray
  have hlen : vs.toArray.size = l.length := by simp [hvs.length]
  rw [hlen] at W ⊢
  have up : Sub s.heap (s.heap.push (revObj a ((l.length : Int) - 1))) := fun _ _ q => Heap.get?_push_of_some _ q
  have hI : (s.heap.push (revObj a ((l.length : Int) - 1))).get? s.heap.objs.size = some (revObj a ((l.length : Int) - 1)) := Heap.get?_push_size _ rfl
  refine wpAny_pyIter_revIter ⟨_, hI, rfl, rfl⟩ ?_
  refine h _ _ (go_keeps hg up) ⟨_, _, _, W.weaken (P' := fun i v => ∃ d, l[l.length - 1 - i]? = some d ∧ Rep g d v) (fun i v hv => hvs.get' _ v (by simpa using hv)), ⟨Nat.zero_le _, ⟨_, hI, rfl, by simp [revObj]⟩, isList_mono up ha'⟩, ?_, ?_, ?_, ?_, ?_, ?_, ?_⟩
  · intro x hx; rw [List.mem_singleton] at hx; subst hx; exact get_size _
  · intro x hx; rw [List.mem_singleton] at hx; subst hx; exact ext_none fun o q => Nat.lt_irrefl _ (lts (hg _ _ q))
  · intro x hx
    rcases List.mem_cons.mp hx with rfl | hx
    · exact ⟨_, hI⟩
    · rw [List.mem_singleton] at hx; subst hx; obtain ⟨o, q, _⟩ := isList_mono up ha'; exact ⟨o, q⟩
  · intro x hx
    rcases List.mem_cons.mp hx with rfl | hx
    · exact .inl (get_size _)
    · rw [List.mem_singleton] at hx; subst hx; obtain ⟨o, q, _⟩ := ha; exact .inr ⟨o, q⟩
  · rintro i h ⟨_, ⟨o, q, _⟩, _⟩ x hx; rw [List.mem_singleton] at hx; subst hx; exact ⟨o, q⟩
  · intro x hx; rw [List.mem_singleton] at hx; subst hx; exact ⟨_, hI⟩
  · rintro i v s Q ⟨_, ⟨o, q, hc, _⟩, _⟩ hq
    exact own_of q hc (by decide) hq
theorem r_lsliceTo {env : Env} {value : Expr} {up : Expr} {p pos : Pos} (h : wpAny (model prog w) A (eval value env) (fun o s₁ => wpAny (model prog w) A (eval up env) (fun vu s₃ =>
      ∃ (l : List Dt) (k : Nat) (t : Tok) (g : Heap), Sub g s₃.heap ∧ Rep g (.list l) o ∧ l.length ≤ sizeLine ∧ vu = .int k t ∧ ∀ s' g' v, GoS [] s₃ g s' g' → Rep g' (.list (l.take k)) v → Q v s') E s₁) E s)
    (ht : ∀ o r, letTemporaryGo value o r = pure () := by intro _ _; rfl) :
    wpAny (model prog w) A (eval (.Subscript value (.Slice none (some up) none p) pos) env) Q E s := by
  refine wpAny_Subscript_list_slice (wpAny_mono h (fun o s₁ h₁ => ?_) fun _ _ e => e) ht
  refine evalPart_none_step ?_
  refine evalPart_some_step ?_
  refine wpAny_mono h₁ (fun vu s₃ h₃ => ?_) fun _ _ e => e
  obtain ⟨l, k, t, g, hg, hr, hsz, rfl, hq⟩ := h₃
  obtain ⟨a, vs, rfl, ha, hvs⟩ := hr.list_inv
  have hlen : vs.toArray.size = l.length := by simp [hvs.length]
  refine ⟨a, vs.toArray, none, some k, rfl, isList_mono hg ha, by rw [hlen]; exact hsz, .none, .int .., ?_⟩
  rw [slicePick_upto']
  have k1 : Sub s₃.heap ((s₃.heap.push { cls := .type "slice", data := .fields #[.none, .int k t, .none] }).push { cls := .type "list", data := .seq (vs.toArray.toList.take k).toArray }) := fun b o q => Heap.get?_push_of_some _ (Heap.get?_push_of_some _ q)
  have hnew : ((s₃.heap.push { cls := .type "slice", data := .fields #[.none, .int k t, .none] }).push { cls := .type "list", data := .seq (vs.toArray.toList.take k).toArray }).get? (s₃.heap.objs.size + 1) = some { cls := .type "list", data := .seq (vs.toArray.toList.take k).toArray } := by
    have := Heap.get?_push_size (s₃.heap.push { cls := .type "slice", data := .fields #[.none, .int k t, .none] }) (o := { cls := .type "list", data := .seq (vs.toArray.toList.take k).toArray }) rfl
    rwa [Heap.size_push] at this
  obtain ⟨g', G, e'⟩ := go_new (os := s₃.os) (gs := s₃.gens) hg k1 (none_of_le (Nat.le_succ _)) hnew
  refine hq _ g' _ G (.list (vs := vs.take k) ⟨_, e', rfl, 0, ?_⟩ ((hvs.take k).mono G.up))
  simp
end
end Mine

/-! # NqKept -/
namespace Mine
noncomputable def mark (b : Nat → Bool) (l : List Str) : List Str := l.mapIdx fun i x => if b i then Str.ofString "1" else x
theorem mark_length (b : Nat → Bool) (l : List Str) : (mark b l).length = l.length := by simp [mark]
theorem mark_congr {b c : Nat → Bool} {l : List Str} (h : ∀ i, i < l.length → b i = c i) : mark b l = mark c l := by
  refine List.ext_getElem? fun i => ?_
  simp only [mark, List.getElem?_mapIdx]
  by_cases hi : i < l.length
  · rw [h i hi]
  · rw [List.getElem?_eq_none (by (exact Nat.le_of_not_lt hi))]; rfl
theorem mark_false (l : List Str) : mark (fun _ => false) l = l := by
  refine List.ext_getElem? fun i => ?_
  simp [mark, List.getElem?_mapIdx]
theorem mark_set (b : Nat → Bool) (l : List Str) (i : Nat) : (mark b l).set i (Str.ofString "1") = mark (fun k => b k || k == i) l := by
  refine List.ext_getElem? fun k => ?_
  rw [List.getElem?_set]
  simp only [mark, List.getElem?_mapIdx, List.length_mapIdx]
  by_cases hk : i = k
  · subst hk
    by_cases hi : i < l.length
    · simp [hi]
    · simp [hi]
  · simp [hk, Ne.symm hk]
noncomputable def early1 (kept : List Str) (early : List (Str × Nat)) : List Str := early.foldr (fun p k => k.set p.2 p.1) kept
theorem early1_length (kept : List Str) : ∀ early : List (Str × Nat), (early1 kept early).length = kept.length
  | [] => rfl
  | p :: r => by simp only [early1, List.foldr_cons, List.length_set]; exact early1_length kept r
noncomputable def hit (sg : Str) (mods : List (List Str)) (i : Nat) : Bool := mods.any fun m => decide ((pParts i sg).take m.length = m)
noncomputable def pKept (bits : Str) (sg : Str) (mods : List (List Str)) (early : List (Str × Nat)) : List Str := mark (hit sg mods) (early1 (signs bits) early)
noncomputable abbrev deedD (p : Str × Nat) : Dt := .tup [.str p.1, .int p.2]
theorem early1_mem {kept : List Str} : ∀ {early : List (Str × Nat)} {x : Str}, x ∈ early1 kept early → x ∈ kept ∨ ∃ p ∈ early, p.1 = x
  | [], x, h => .inl h
  | p :: r, x, h => by
    rcases List.mem_or_eq_of_mem_set (show x ∈ (early1 kept r).set p.2 p.1 from h) with h | h
    · rcases early1_mem h with h | ⟨q, hq, e⟩
      · exact .inl h
      · exact .inr ⟨q, .tail _ hq, e⟩
    · exact .inr ⟨p, .head _, h.symm⟩
theorem mark_mem {b : Nat → Bool} {l : List Str} {x : Str} (h : x ∈ mark b l) : x ∈ l ∨ x = Str.ofString "1" := by
  obtain ⟨i, hi, e⟩ := List.mem_mapIdx.mp h
  by_cases hb : b i = true
  · rw [if_pos hb] at e; exact .inr e.symm
  · rw [if_neg hb] at e; exact .inl (e ▸ List.getElem_mem _)
theorem Reps.set {g : Heap} {l : List Dt} : ∀ {vs : List Value}, Reps g l vs → ∀ (i : Nat) {d : Dt} {v : Value}, Rep g d v → Reps g (l.set i d) (vs.set i v) := by
  induction l with
  | nil => intro vs h i d v h'; cases h; exact .nil
  | cons a l ih =>
    intro vs h i d v h'
    cases h with
    | cons h1 h2 =>
      cases i with
      | zero => exact .cons h' h2
      | succ i => exact .cons h1 (ih h2 i h')
section
variable {prog : Program} {w : World} {A : Around} {E : Value → Shared → Prop} {s : Shared} {g : Heap} {Q : Value → Shared → Prop}
theorem c_kept {bts sg : Str} {tb ts : Tok} {mods : List (List Str)} {early : List (Str × Nat)} {vm ve : Value} (hh : A.handled = none) (hA : A.depth + 1 < recursionLimit) (hU : A.units + 100 < cLine) (hg : Sub g s.heap) (B : Bs w g) (hm : Rep g (textss mods) vm) (he : Rep g (.list (early.map deedD)) ve)
    (hb : bts.length = 6 * sg.length) (hsz : sg.length ≤ 100) (hei : ∀ p ∈ early, p.2 < bts.length ∧ p.1.length ≤ 100) (hml : ∀ m ∈ mods, m.length ≤ 10000) (hok : ∀ m ∈ mods, ∀ x ∈ m, PyData.strOk x = true) (hpo : ∀ i, ∀ x ∈ pParts i sg, PyData.strOk x = true)
    (h : ∀ s' g' t, GoS [] s g s' g' → Q (.str (Txt.join (Str.ofString "") (pKept bts sg mods early)) t) s') : wpAny (model prog w) A (call (.ref 144) [.str bts tb, .str sg ts, vm, ve]) Q E s := by
  refine callFn fKept (D := []) (binds := [("bits", .str bts tb), ("signs", .str sg ts), ("mods", vm), ("early", ve)]) (by (exact lt_dep0 hA)) hg B rfl (BindsTo.of_eq rfl) rfl (fun L s₁ A' hh' hd' hu' F C hk => ?_)
  rw [hh] at hh'
  have hA' : A'.depth < recursionLimit := by (exact lt_dep1z hA hd' (Nat.le_of_ble_eq_true rfl))
  refine wpAny_execs_cons ?_
  refine wpAny_Assign_Name ?_
  refine call_name (nm_blt F B (nList _) bList ?_)
  refine cw_type ?_
  refine sp_cons ?_
  refine nm_local F rfl ?_
  refine sp_nil ?_
  refine call_list_str hh' bts tb (hn := show bts.length ≤ sizeLine by rw [sizeLine_eq]; (clear hA hU hd' hu' hA'; omega)) fun h' tk acc' c' hk' hS' hacc => ?_
  have F₁ : FmS [] _ _ _ ({ s₁ with heap := h', toks := tk } : Shared) g := F.step (go_keeps F.sub hk')
  generalize ea : s₁.heap.objs.size = a at hS'
  have n₁ : s₁.heap.get? a = none := by rw [← ea]; exact get_size _
  have gA : g.get? a = none := ext_none fun o q => by rw [F.sub _ _ q] at n₁; cases n₁
  have eA : (Ent.of s g).h.get? a = none := ext_none fun o q => by have := F.go.keep a o (by simp) q; rw [n₁] at this; cases this
  have ha₁ : h'.IsList a acc' := ⟨_, hS', rfl, _, rfl⟩
  have hr₁ : Reps g ((signs bts).map .str) acc'.toList := Reps.of_get (by simp [hacc.1, signs]) fun i d v h1 h2 => by
    obtain ⟨c, u, hc, rfl⟩ := hacc.2 i v (by simpa using h2)
    simp [signs, hc] at h1
    subst h1
    exact .str _ _
  generalize hs₂ : ({ s₁ with heap := h', toks := tk } : Shared) = s₂ at F₁
  have e₂ : h' = s₂.heap := by rw [← hs₂]
  rw [e₂] at ha₁
  have hsl : (signs bts).length = bts.length := by simp [signs, Str.length]
  refine st_local F₁ fun s₃ F₃ k₃ => ?_
  have ha₃ := ha₁.at fun o q => k₃ a o (fun z => list_notFrame F₁ ha₁ (.inl z)) q
  refine wpAny_execs_cons ?_
  refine wpAny_For ?_
  refine call_name (nm_blt F₃ B (nReversed _) bReversed ?_)
  refine cw_type ?_
  refine sp_cons ?_
  refine nm_local F₃ (Eq.trans upd_ne rfl) ?_
  refine sp_nil ?_
  refine src_rev (target := .Tuple [.Name (Str.ofString "bit") ⟨157, 8, 157, 11⟩, .Name (Str.ofString "i") ⟨157, 13, 157, 14⟩] 0 ⟨157, 8, 157, 14⟩) hh' F₃.sub he fun I s₄ G₄ S => ?_
  have ha₄ := ha₃.at fun o q => G₄.keep a o (by simp) q
  have F₃' : FmS [a] _ _ _ s₃ g := F₃.setD (by simp)
  let Inv : Nat → (Str → Option Value) → Heap → Heap → Prop := fun i ρ g h => ρ (Str.ofString "bits") = some (.str bts tb) ∧ ρ (Str.ofString "signs") = some (.str sg ts) ∧ ρ (Str.ofString "mods") = some vm ∧ ρ (Str.ofString "kept") = some (.ref a) ∧ g.get? a = none ∧ ∃ ys : Array Value, h.IsList a ys ∧ Reps g ((early1 (signs bts) (early.drop (early.length - i))).map .str) ys.toList
  refine forSrc (D := [a]) Inv (fun _ _ _ => False) F₃' G₄ S (by intro x hx; rw [List.mem_singleton] at hx; subst hx; obtain ⟨o, q, _⟩ := ha₃; exact ⟨_, q⟩) (by intro x hx; rw [List.mem_singleton] at hx; subst hx; exact gA) ?_ ?_ ?_ ?_ ?_
  · refine ⟨rfl, rfl, rfl, rfl, gA, acc', ha₄, ?_⟩
    rw [Nat.sub_zero, List.drop_length]; exact hr₁
  · rintro i ρ g' h h' ⟨h1, h2, h3, h4, h5, ys, h6, h7⟩ k
    exact ⟨h1, h2, h3, h4, h5, ys, h6.at fun o q => k a (.head _) o q, h7⟩
  · rintro i v s₅ g₅ e₅ ρ₅ hi ⟨d, hd, hrd⟩ F₅ hg₅ ⟨h1, h2, h3, h4, h5, ys, hys, hr⟩
    rw [List.length_map] at hi hd
    obtain ⟨p, hp, rfl⟩ : ∃ p, early[early.length - 1 - i]? = some p ∧ deedD p = d := by
      rw [List.getElem?_map] at hd
      cases q : early[early.length - 1 - i]? with
      | none => rw [q] at hd; cases hd
      | some n => rw [q] at hd; exact ⟨n, rfl, by simpa using hd⟩
    obtain ⟨T, vs, rfl, hT, hvs⟩ := hrd.tup_inv
    have hlen : ys.size = bts.length := by have := hr.length; rw [Array.length_toList, List.length_map, early1_length, hsl] at this; exact this
    have hp2 := (hei p (List.mem_of_getElem? hp)).1
    cases hvs with
    | cons r1 hvs =>
    cases hvs with
    | cons r2 hvs =>
    cases hvs
    obtain ⟨t1, rfl⟩ := r1.str_inv
    obtain ⟨t2, rfl⟩ := r2.int_inv
    refine wpAny_assign_Tuple hh' (isTup_mono (hg₅.trans F₅.sub) hT) rfl rfl fun h' hx => ?_
    have F₆ : FmS [a] _ _ _ ({ s₅ with heap := h' } : Shared) g₅ := F₅.step (go_keeps F₅.sub fun b o q => hx b o (Nat.ne_of_lt (lts q)) q)
    have ha₆ : h'.IsList a ys := hys.at fun o q => hx a o (Nat.ne_of_lt (lts q)) q
    have aL : a ≠ (callEnvC fKept.fd L 144).locals := fun z => list_notFrame F₅ hys (.inl z)
    refine assignInOrder_cons ?_
    refine wpAny_assign_Name (st_local F₆ fun s₇ F₇ k₇ => ?_)
    refine assignInOrder_cons ?_
    refine wpAny_assign_Name (st_local F₇ fun s₈ F₈ k₈ => ?_)
    have ha₈ := (ha₆.at fun o q => k₇ a o aL q).at fun o q => k₈ a o aL q
    refine assignInOrder_nil ?_
    refine wpAny_execs_cons ?_
    refine wpAny_Assign_Subscript ?_
    refine nm_local F₈ (Eq.trans upd_ne upd_eq) ?_
    refine nm_local F₈ (Eq.trans upd_ne (Eq.trans upd_ne h4)) ?_
    refine nm_local F₈ upd_eq ?_
    refine r_setItem F₈ (.inl (.head _)) h5 ha₈ (by (clear hA hU hsz hd' hu' hA' ea hsl hi aL; omega)) (by (clear hA hU hd' hu' hA' ea hsl hi hp2 aL; omega)) fun s₉ F₉ ha₉ => ?_
    refine wpAny_execs_nil ?_
    refine ⟨g₅, _, F₉, Eq.trans upd_ne (Eq.trans upd_ne h1), Eq.trans upd_ne (Eq.trans upd_ne h2), Eq.trans upd_ne (Eq.trans upd_ne h3), Eq.trans upd_ne (Eq.trans upd_ne h4), h5, _, ha₉, ?_⟩
    have e1 : early.drop (early.length - (i + 1)) = p :: early.drop (early.length - i) := by
      have q : early.length - (i + 1) = early.length - 1 - i := by (clear hA hU hb hsz hd' hu' hA' ea hsl hlen hp2 aL; omega)
      rw [q, List.drop_eq_getElem?_toList_append, hp]
      have q' : early.length - 1 - i + 1 = early.length - i := by (clear hA hU hb hsz hd' hu' hA' ea hsl hlen hp2 aL q; omega)
      rw [q']; rfl
    rw [e1]
    simp only [early1, List.foldr_cons, List.map_set, Array.toList_setIfInBounds]
    exact hr.set _ (.str _ _)
  · rintro s₅ g₅ ρ₅ F₅ hg₅ ⟨h1, h2, h3, h4, h5, ys, hys, hr⟩
    rw [List.length_map, Nat.sub_self, List.drop_zero] at hr
    have B₅ := B.keeps hg₅
    have hm₅ := hm.mono hg₅
    let base := early1 (signs bts) early
    have hbl : base.length = bts.length := (early1_length _ _).trans hsl
    refine wpAny_execs_cons ?_
    refine wpAny_For ?_
    refine call_name (nm_blt F₅ B₅ (nRange _) bRange ?_)
    refine cw_type ?_
    refine sp_cons ?_
    refine call_name (nm_blt F₅ B₅ (nLen _) bLen ?_)
    refine cw_blt ?_
    refine sp_cons ?_
    refine nm_local F₅ h1 ?_
    refine sp_nil ?_
    refine x_len (by (clear hA hU hd' hu' hA' ea hsl hbl; omega)) fun tl tk₆ => ?_
    refine sp_nil ?_
    have F₆ : FmS [a] _ _ _ ({ s₅ with toks := tk₆ } : Shared) g₅ := F₅
    have hys₆ : ({ s₅ with toks := tk₆ } : Shared).heap.IsList a ys := hys
    generalize ({ s₅ with toks := tk₆ } : Shared) = s₆ at F₆ hys₆
    refine src_range1 (target := .Name (Str.ofString "i") ⟨159, 8, 159, 9⟩) hh' F₆.sub (by (clear hA hU hd' hu' hA' ea hsl hbl; omega)) fun I₂ s₇ G₇ S₇ => ?_
    have hys₇ := hys₆.at fun o q => G₇.keep a o (by simp) q
    let Inv2 : Nat → (Str → Option Value) → Heap → Heap → Prop := fun i ρ g h => ρ (Str.ofString "signs") = some (.str sg ts) ∧ ρ (Str.ofString "mods") = some vm ∧ ρ (Str.ofString "kept") = some (.ref a) ∧ g.get? a = none ∧ ∃ ys : Array Value, h.IsList a ys ∧ Reps g ((mark (fun k => decide (k < i) && hit sg mods k) base).map .str) ys.toList
    refine forSrc (D := [a]) Inv2 (fun _ _ _ => False) F₆ G₇ S₇ (by intro x hx; rw [List.mem_singleton] at hx; subst hx; obtain ⟨o, q, _⟩ := hys₆; exact ⟨_, q⟩) (by intro x hx; rw [List.mem_singleton] at hx; subst hx; exact h5) ?_ ?_ ?_ ?_ ?_
    · refine ⟨h2, h3, h4, h5, ys, hys₇, ?_⟩
      have : (mark (fun k => decide (k < 0) && hit sg mods k) base) = base := (mark_congr fun k _ => by simp).trans (mark_false base)
      rw [this]; exact hr
    · rintro i ρ g' h h' ⟨h1, h2, h3, h5, ys, h6, h7⟩ k
      exact ⟨h1, h2, h3, h5, ys, h6.at fun o q => k a (.head _) o q, h7⟩
    · rintro i v s₈ g₈ e₈ ρ₈ hi ⟨ti, rfl⟩ F₈ hg₈ ⟨j2, j3, j4, j5, zs, hzs, hrz⟩
      have B₈ := B₅.keeps hg₈
      have hm₈ := hm₅.mono hg₈
      have aL : a ≠ (callEnvC fKept.fd L 144).locals := fun z => list_notFrame F₈ hzs (.inl z)
      refine wpAny_assign_Name (st_local F₈ fun s₉ F₉ k₉ => ?_)
      have hzs₉ := hzs.at fun o q => k₉ a o aL q
      refine wpAny_execs_cons ?_
      refine wpAny_Assign_Name ?_
      refine call_name (nm_glob F₉ B₈ (gParts _) ?_)
      refine cw_fn (w := w) fParts ?_
      refine sp_cons ?_
      refine nm_local F₉ upd_eq ?_
      refine sp_cons ?_
      refine nm_local F₉ (Eq.trans upd_ne j2) ?_
      refine sp_nil ⟨B₈.keeps F₉.sub, ?_⟩
      refine c_parts hh' hA' F₉.sub B₈ (by (clear hA hU hsz hd' hu' hA' ea hsl hbl aL; omega)) hsz fun s₁₀ g₁₀ vp G₁₀ R₁₀ => ?_
      have F₁₀ := F₉.step G₁₀
      have hzs₁₀ := hzs₉.at fun o q => G₁₀.keep a o (by simp) q
      obtain ⟨o9, q9⟩ : ∃ o, s₉.heap.get? a = some o := let ⟨o, q, _⟩ := hzs₉; ⟨o, q⟩
      have j5' := G₁₀.off a o9 q9 j5
      refine st_local F₁₀ fun s₁₁ F₁₁ k₁₁ => ?_
      have hzs₁₁ := hzs₁₀.at fun o q => k₁₁ a o aL q
      have hrz₁₁ := hrz.mono G₁₀.up
      refine wpAny_execs_cons ?_
      refine wpAny_For ?_
      refine nm_local F₁₁ (Eq.trans upd_ne (Eq.trans upd_ne j3)) ?_
      refine src_list (target := .Name (Str.ofString "mod") ⟨161, 12, 161, 15⟩) hh' F₁₁.sub (hm₈.mono G₁₀.up) fun I₃ s₁₂ G₁₂ S₁₂ => ?_
      have hzs₁₂ := hzs₁₁.at fun o q => G₁₂.keep a o (by simp) q
      let Inv3 : Nat → (Str → Option Value) → Heap → Heap → Prop := fun j ρ g h => ρ (Str.ofString "signs") = some (.str sg ts) ∧ ρ (Str.ofString "mods") = some vm ∧ ρ (Str.ofString "kept") = some (.ref a) ∧ ρ (Str.ofString "i") = some (.int (i : Nat) ti) ∧ ρ (Str.ofString "parts") = some vp ∧ g.get? a = none ∧ ∃ ys : Array Value, h.IsList a ys ∧ Reps g ((mark (fun k => decide (k < i) && hit sg mods k || (k == i && hit sg (mods.take j) k)) base).map .str) ys.toList
      refine forSrc (D := [a]) Inv3 (fun _ _ _ => False) F₁₁ G₁₂ S₁₂ (by intro x hx; rw [List.mem_singleton] at hx; subst hx; obtain ⟨o, q, _⟩ := hzs₁₁; exact ⟨_, q⟩) (by intro x hx; rw [List.mem_singleton] at hx; subst hx; exact j5') ?_ ?_ ?_ ?_ ?_
      · refine ⟨Eq.trans upd_ne (Eq.trans upd_ne j2), Eq.trans upd_ne (Eq.trans upd_ne j3), Eq.trans upd_ne (Eq.trans upd_ne j4), Eq.trans upd_ne upd_eq, upd_eq, j5', zs, hzs₁₂, ?_⟩
        have : mark (fun k => decide (k < i) && hit sg mods k || (k == i && hit sg (mods.take 0) k)) base = mark (fun k => decide (k < i) && hit sg mods k) base := mark_congr fun k _ => by simp [hit]
        rw [this]; exact hrz₁₁
      · rintro i ρ g' h h' ⟨h1, h2, h3, h4, h8, h5, ys, h6, h7⟩ k
        exact ⟨h1, h2, h3, h4, h8, h5, ys, h6.at fun o q => k a (.head _) o q, h7⟩
      · rintro j v s₁₃ g₁₃ e₁₃ ρ₁₃ hj ⟨d, hd, hrd⟩ F₁₃ hg₁₃ ⟨l2, l3, l4, l6, l7, l5, us, hus, hru⟩
        rw [List.length_map] at hj
        obtain ⟨m, hmj, rfl⟩ : ∃ m, mods[j]? = some m ∧ texts m = d := by
          rw [List.getElem?_map] at hd
          cases q : mods[j]? with
          | none => rw [q] at hd; cases hd
          | some n => rw [q] at hd; exact ⟨n, rfl, by simpa using hd⟩
        have hmm := List.mem_of_getElem? hmj
        have hml' := hml m hmm
        have hlu : us.size = bts.length := by have := hru.length; rw [Array.length_toList, List.length_map, mark_length, hbl] at this; exact this
        have htake : mods.take (j + 1) = mods.take j ++ [m] := by rw [List.take_add_one, hmj]; rfl
        have B₁₃ := (B₈.keeps G₁₀.up).keeps hg₁₃
        refine wpAny_assign_Name (st_local F₁₃ fun s₁₄ F₁₄ k₁₄ => ?_)
        have hus₁₄ := hus.at fun o q => k₁₄ a o aL q
        have Rm := hrd.mono hg₁₃
        have Rp := R₁₀.mono hg₁₃
        refine wpAny_execs_cons ?_
        refine wpAny_If ?_
        refine wpAny_isTrue_Compare1 ?_
        refine r_lsliceTo ?_
        refine nm_local F₁₄ (Eq.trans upd_ne l7) ?_
        refine call_name (nm_blt F₁₄ B₁₃ (nLen _) bLen ?_)
        refine cw_blt ?_
        refine sp_cons ?_
        refine nm_local F₁₄ upd_eq ?_
        refine sp_nil ?_
        refine x_lenL F₁₄.sub Rm (by rw [List.length_map]; (exact Nat.lt_of_le_of_lt hml' (Nat.le_of_ble_eq_true rfl))) fun tl₂ tk₂ => ?_
        refine ⟨_, m.length, tl₂, g₁₃, F₁₄.sub, Rp, ?_, by rw [List.length_map], fun s₁₅ g₁₅ vs₁₅ G₁₅ R₁₅ => ?_⟩
        · rw [List.length_map, sizeLine_eq]; simp only [pParts, List.length_append, List.length_take, List.length_singleton]
          have : (signs sg).length = sg.length := by simp [signs, Str.length]
          (clear hA hU hd' hu' hA' ea hsl hbl hi aL hj hml' hlu; omega)
        have F₁₅ := F₁₄.step G₁₅
        have hus₁₅ := hus₁₄.at fun o q => G₁₅.keep a o (by simp) q
        obtain ⟨o14, q14⟩ : ∃ o, s₁₄.heap.get? a = some o := let ⟨o, q, _⟩ := hus₁₄; ⟨o, q⟩
        have l5' := G₁₅.off a o14 q14 l5
        refine nm_local F₁₅ upd_eq ?_
        rw [← List.map_take] at R₁₅
        refine r_eqTexts (by (exact lt_dep1 hU hu' (Nat.le_of_ble_eq_true rfl))) (fun x hx => hpo i x (List.mem_of_mem_take hx)) (hok m hmm) F₁₅.sub R₁₅ (Rm.mono G₁₅.up) ?_
        refine wpAny_truthy_bool ?_
        by_cases c : (pParts i sg).take m.length = m
        · rw [decide_eq_true c]
          simp only [if_true]
          refine wpAny_execs_cons ?_
          refine wpAny_Assign_Subscript ?_
          refine x_str fun t1 tk₃ => ?_
          have F₁₆ : FmS [a] _ _ _ ({ s₁₅ with toks := tk₃ } : Shared) g₁₅ := F₁₅
          have hus₁₆ : ({ s₁₅ with toks := tk₃ } : Shared).heap.IsList a us := hus₁₅
          generalize ({ s₁₅ with toks := tk₃ } : Shared) = s₁₆ at F₁₆ hus₁₆
          refine nm_local F₁₆ (Eq.trans upd_ne l4) ?_
          refine nm_local F₁₆ (Eq.trans upd_ne l6) ?_
          refine r_setItem F₁₆ (.inl (.head _)) l5' hus₁₆ (by (clear hA hU hsz hd' hu' hA' ea hsl hbl aL hj hml'; omega)) (by (clear hA hU hd' hu' hA' ea hsl hbl hi aL hj hml'; omega)) fun s₁₇ F₁₇ ha₁₇ => ?_
          refine wpAny_execs_nil ?_
          refine wpAny_execs_nil ?_
          refine ⟨g₁₅, _, F₁₇, Eq.trans upd_ne l2, Eq.trans upd_ne l3, Eq.trans upd_ne l4, Eq.trans upd_ne l6, Eq.trans upd_ne l7, l5', _, ha₁₇, ?_⟩
          have e1 : mark (fun k => decide (k < i) && hit sg mods k || (k == i && hit sg (mods.take (j + 1)) k)) base = (mark (fun k => decide (k < i) && hit sg mods k || (k == i && hit sg (mods.take j) k)) base).set i (Str.ofString "1") := by
            rw [mark_set]
            refine mark_congr fun k _ => ?_
            rw [htake]
            by_cases hk : k = i
            · subst hk; simp [hit, c]
            · have hk' : (k == i) = false := beq_eq_false_iff_ne.mpr hk
              rw [hk', Bool.false_and, Bool.false_and, Bool.or_false, Bool.or_false]
          rw [e1, List.map_set, Array.toList_setIfInBounds]
          exact (hru.mono G₁₅.up).set _ (.str _ _)
        · rw [decide_eq_false c]
          simp only [Bool.false_eq_true, if_false]
          refine wpAny_execs_nil ?_
          refine wpAny_execs_nil ?_
          refine ⟨g₁₅, _, F₁₅, Eq.trans upd_ne l2, Eq.trans upd_ne l3, Eq.trans upd_ne l4, Eq.trans upd_ne l6, Eq.trans upd_ne l7, l5', _, hus₁₅, ?_⟩
          have e1 : mark (fun k => decide (k < i) && hit sg mods k || (k == i && hit sg (mods.take (j + 1)) k)) base = mark (fun k => decide (k < i) && hit sg mods k || (k == i && hit sg (mods.take j) k)) base := by
            refine mark_congr fun k _ => ?_
            rw [htake]
            by_cases hk : k = i
            · subst hk; simp [hit, c]
            · have hk' : (k == i) = false := beq_eq_false_iff_ne.mpr hk
              rw [hk', Bool.false_and, Bool.false_and]
          rw [e1]
          exact hru.mono G₁₅.up
      · rintro s₁₃ g₁₃ ρ₁₃ F₁₃ hg₁₃ ⟨l2, l3, l4, l6, l7, l5, us, hus, hru⟩
        refine wpAny_execs_nil ?_
        refine ⟨g₁₃, _, F₁₃, l2, l3, l4, l5, us, hus, ?_⟩
        rw [List.length_map, List.take_of_length_le (Nat.le_refl _)] at hru
        have e1 : mark (fun k => decide (k < i + 1) && hit sg mods k) base = mark (fun k => decide (k < i) && hit sg mods k || (k == i && hit sg mods k)) base := mark_congr fun k _ => by
          by_cases hk : k = i
          · subst hk; simp
          · by_cases hl : k < i
            · simp [hl, hk, Nat.lt_succ_of_lt hl]
            · have : ¬ k < i + 1 := by (clear hA hU hb hsz hd' hu' hA' ea hsl hbl hi aL; omega)
              simp [hl, hk, this]
        rw [e1]; exact hru
      · intro v s' g' ρ' F' hg' z; exact z.elim
    · rintro s₈ g₈ ρ₈ F₈ hg₈ ⟨j2, j3, j4, j5, zs, hzs, hrz⟩
      refine wpAny_execs_cons ?_
      refine wpAny_Return_some ?_
      refine meth_str PySem.F.slot_str_join PySem.F.type_str_join ?_
      refine x_str fun te tk₉ => ?_
      refine ⟨_, _, rfl, ?_⟩
      refine cw_blt ?_
      refine sp_cons ?_
      have F₉ : FmS [a] _ _ _ ({ s₈ with toks := tk₉ } : Shared) g₈ := F₈
      refine nm_local F₉ j4 ?_
      refine sp_nil ?_
      have F'' : FmS [] _ _ _ s₈ g₈ := F₈.setD (D' := []) (by intro x hx; rw [List.mem_singleton] at hx; subst hx; exact .inr eA)
      obtain ⟨g'', G', u, pa, po⟩ := F''.go.adds (· = a) (by rintro p o rfl q; rw [eA] at q; cases q)
      obtain ⟨oa, qa, hca, na, hda⟩ := hzs
      have e1 : mark (fun k => decide (k < bts.length) && hit sg mods k) base = pKept bts sg mods early := mark_congr fun k hk => by
        have : k < bts.length := by (clear hA hU hsz hd' hu' hA' ea hsl; omega)
        simp [this]
      rw [e1] at hrz
      have Rz : Rep g'' (texts (pKept bts sg mods early)) (.ref a) := .list (vs := zs.toList) ⟨_, pa a _ rfl qa, hca, na, by simpa using hda⟩ (hrz.mono u)
      refine x_join G'.sub Rz ?_ fun t' tk' => ?_
      · have h100 : ∀ x ∈ pKept bts sg mods early, x.length ≤ 100 := fun x hx => by
          rcases mark_mem hx with hx | rfl
          · rcases early1_mem hx with hx | ⟨p, hp, rfl⟩
            · obtain ⟨c, _, rfl⟩ := List.mem_map.mp hx; exact Nat.le_of_ble_eq_true rfl
            · exact (hei p hp).2
          · decide
        have := sum_len_le _ h100
        have hl : (pKept bts sg mods early).length = bts.length := (mark_length _ _).trans hbl
        have h0 : (Str.ofString "").length = 0 := rfl
        rw [h0]
        (clear hA hU hd' hu' hA' ea hsl hbl h0; omega)
      · exact h _ _ _ G'
    · intro v s' g' ρ' F' hg' z; exact z.elim
  · intro v s' g' ρ' F' hg' z; exact z.elim
end
end Mine

/-! # NqSet -/
namespace Mine
theorem layNew_led (t : SetTable) (es : Array (Int × Value)) (h : Int) (x : Value) : (layNew t es h x).2.1.led = t.led := by
  unfold layNew
  split
  · simp only [SetTable.orStandIn, SetTable.put]
    split <;> split <;> rfl
  · rfl
theorem relayAll_led (t : SetTable) (es : Array (Int × Value)) (n : Nat) : (relayAll t es n).2.1.led = t.led := by
  unfold relayAll
  split
  · rename_i t' order e
    unfold SetTable.relaid SetTable.laid at e
    cases q : SetTable.layClean (SetTable.sizeAbove n - 1) (es.map (·.1)) with
    | none => rw [q] at e; cases e
    | some ow =>
      rw [q] at e
      have e' := Option.some.inj e
      dsimp only
      split
      · rw [← (Prod.mk.inj e').1]
      · rfl
  · rfl
theorem relayAll_plain (t : SetTable) (es : Array (Int × Value)) (n : Nat) (h : t.plain = false) : (relayAll t es n).2.1.plain = false := by
  unfold relayAll
  split
  · rename_i t' order e
    unfold SetTable.relaid SetTable.laid at e
    cases q : SetTable.layClean (SetTable.sizeAbove n - 1) (es.map (·.1)) with
    | none => rw [q] at e; cases e
    | some ow =>
      rw [q] at e
      have e' := Option.some.inj e
      dsimp only
      split
      · rw [← (Prod.mk.inj e').1]; exact h
      · rfl
  · rfl
noncomputable def SetT (prog : Program) (w : World) (h : Heap) (a : Addr) (led : Bool) (ks : List Str) : Prop :=
  ∃ o es ep t, h.get? a = some o ∧ o.ExactSet ∧ o.data = .set es ep t ∧ ElemsOf (strKind prog w) es.toList ∧ (∀ k, k ∈ ks ↔ ∃ e ∈ es.toList, (strKind prog w).is k e.2 = true)
    ∧ es.size < scanBound ∧ t.fits es.size = true ∧ t.led = led ∧ (es.size ≠ 0 → t.plain = false) ∧ es.size ≤ ks.length
section
variable {prog : Program} {w : World} {A : Around} {E : Value → Shared → Prop} {s : Shared}
theorem SetT.at {h h' : Heap} {a : Addr} {led : Bool} {ks : List Str} (x : SetT prog w h a led ks) (k : ∀ o, h.get? a = some o → h'.get? a = some o) : SetT prog w h' a led ks := by
  obtain ⟨o, es, ep, t, ho, r⟩ := x; exact ⟨o, es, ep, t, k o ho, r⟩
theorem SetT.setOf {h : Heap} {a : Addr} {led : Bool} {ks : List Str} (x : SetT prog w h a led ks) : ∃ n, n ≤ ks.length ∧ h.SetOf (strKind prog w) a (fun k => decide (k ∈ ks)) n := by
  obtain ⟨o, es, ep, t, ho, hx, hd, hel, hm, hb, hf, _, _, hn⟩ := x
  exact ⟨es.size, hn, o, es, ep, t, ho, hx, hd, hel, fun k => by rw [decide_eq_true_eq]; exact hm k, hb, hf, rfl⟩
theorem r_setAdd {Q : Bool → Shared → Prop} {a : Addr} {led : Bool} {ks : List Str} {k : Str} {tt : Tok} (hS : SetT prog w s.heap a led ks) (hroom : ks.length + 1 < scanBound)
    (h : ∀ h' b tk, Heap.SameBut a s.heap h' → SetT prog w h' a led (ks ++ [k]) → Q b { s with heap := h', toks := tk }) : wpAny (model prog w) A (setAdd a (.str k tt)) Q E s := by
  unfold setAdd
  refine wpAny_holding ?_
  have hkey := strKind_is prog w k tt
  refine wpAny_bind ((strKind prog w).pyHash (k := k) hkey ?_)
  obtain ⟨o, es, ep, t, ho, hex, hd, hel, hmem, hb, hf, hled, hpl, hn⟩ := hS
  unfold setAddHashed setAddHashedIn
  refine wpAny_holding (wpAny_bind (wpAny_setState_of (s := { s with toks := s.toks + 1 }) ho hd hf ?_))
  dsimp only
  rw [byScan_of rfl hb hel]
  simp only [↓reduceIte]
  unfold setAddByScan
  refine wpAny_bind ?_
  refine wpAny_bind (wpAny_rule ?_)
  refine wpAny_bind (wpAny_setScan_of hkey ho hd hf hel ?_)
  cases hr : List.findIdx? (fun e => (strKind prog w).is k e.2) es.toList with
  | some j =>
    dsimp only
    obtain ⟨hj, hpj, _⟩ := List.findIdx?_eq_some_iff_getElem.mp hr
    refine wpAny_pure (wpAny_pure ?_)
    refine h s.heap _ _ (Heap.SameBut.refl a s.heap) ⟨o, es, ep, t, ho, hex, hd, hel, fun k' => ?_, hb, hf, hled, hpl, by simp; (clear hroom hb; omega)⟩
    rw [List.mem_append, List.mem_singleton, hmem k']
    exact ⟨fun hk => hk.elim id fun e => e ▸ ⟨es.toList[j], List.getElem_mem hj, hpj⟩, .inl⟩
  | none =>
    dsimp only
    have hperm := layNew_perm t es ((strKind prog w).hash k) (.str k tt)
    have hfits := layNew_fits t es ((strKind prog w).hash k) (.str k tt)
    have hl1 := layNew_led t es ((strKind prog w).hash k) (.str k tt)
    generalize hL : layNew t es ((strKind prog w).hash k) (.str k tt) = L at hperm hfits hl1 ⊢
    obtain ⟨es1, t1, wasDummy, gave⟩ := L
    dsimp only at hperm hfits hl1 ⊢
    rw [Array.toList_push] at hperm
    have hel1 : ElemsOf (strKind prog w) es1.toList := (hel.push hkey rfl).perm hperm
    have hmem1 : ∀ k', k' ∈ ks ++ [k] ↔ ∃ e ∈ es1.toList, (strKind prog w).is k' e.2 = true := fun k' => by
      have := mem_push_iff (S := fun k => decide (k ∈ ks)) hkey (fun k' => by rw [decide_eq_true_eq]; exact hmem k') hperm k'
      rw [← this, Bool.or_eq_true, decide_eq_true_eq, decide_eq_true_eq, List.mem_append, List.mem_singleton]
    have hsz : es1.size = es.size + 1 := by rw [← Array.length_toList, hperm.length_eq, List.length_append, Array.length_toList]; rfl
    have hgw : ∀ (b : Bool) {s₁ : Shared} {Q' : Unit → Shared → Prop}, Q' () s₁ → wpAny (model prog w) A (match b with | true => rule "set.scan.the-table-gave-way" | false => pure ()) Q' E s₁ :=
      fun b s₁ Q' hq => by cases b <;> first | exact wpAny_pure hq | exact wpAny_rule hq
    refine wpAny_bind (hgw _ ?_)
    have stored : ∀ t2 : SetTable, t2.fits es1.size = true → t2.led = led → t2.plain = false → wpAny (model prog w) A (do
        storeSet a es1 t2
        if (!wasDummy && t2.tooFull) = true then do
            (match (relayAll t2 es1 (SetTable.grown es1.size)).2.2 with | true => rule "set.scan.the-table-gave-way" | false => pure ())
            storeSet a (relayAll t2 es1 (SetTable.grown es1.size)).1 (relayAll t2 es1 (SetTable.grown es1.size)).2.1
            pure (some true)
          else pure (some true)) (fun r s' => r = some true ∧ ∃ h', Heap.SameBut a s.heap h' ∧ SetT prog w h' a led (ks ++ [k]) ∧ s' = { s with heap := h', toks := s.toks + 1 }) E { s with toks := s.toks + 1 } := by
      intro t2 hf2 hl2 hp2
      refine wpAny_bind (wpAny_storeSet_of ho hd ?_ (fits_of_scanBound (by omega)))
      obtain ⟨ho1, _⟩ := SetOf_store (knd := strKind prog w) (S' := fun k' => decide (k' ∈ ks ++ [k])) ho hex hd hel1 (fun k' => by rw [decide_eq_true_eq]; exact hmem1 k') (by omega) hf2
      have hsb1 := Heap.SameBut.update s.heap a (Obj.putSet es1 t2)
      split
      · have hp := relayAll_perm t2 es1 (SetTable.grown es1.size)
        have hfr := relayAll_fits t2 es1 (SetTable.grown es1.size)
        have hlr := relayAll_led t2 es1 (SetTable.grown es1.size)
        have hpr := relayAll_plain t2 es1 (SetTable.grown es1.size) hp2
        generalize hRl : relayAll t2 es1 (SetTable.grown es1.size) = Rl at hp hfr hlr hpr ⊢
        obtain ⟨es2, t3, gave2⟩ := Rl
        dsimp only at hp hfr hlr hpr ⊢
        have hsz2 : es2.size = es1.size := by rw [← Array.length_toList, hp.length_eq, Array.length_toList]
        refine wpAny_bind (hgw _ ?_)
        refine wpAny_bind (wpAny_storeSet_of ho1 rfl ?_ (fits_of_scanBound (by omega)))
        obtain ⟨ho2, _⟩ := SetOf_store (knd := strKind prog w) (S' := fun k' => decide (k' ∈ ks ++ [k])) ho1 hex rfl (hel1.perm hp) (fun k' => by rw [decide_eq_true_eq, hmem1 k']; exact ⟨fun ⟨e, he, q⟩ => ⟨e, hp.mem_iff.mpr he, q⟩, fun ⟨e, he, q⟩ => ⟨e, hp.mem_iff.mp he, q⟩⟩) (by omega) hfr
        refine wpAny_pure ⟨rfl, _, hsb1.trans (Heap.SameBut.update _ a _), ⟨_, es2, _, t3, ho2, hex, rfl, hel1.perm hp, fun k' => (hmem1 k').trans ⟨fun ⟨e, he, q⟩ => ⟨e, hp.mem_iff.mpr he, q⟩, fun ⟨e, he, q⟩ => ⟨e, hp.mem_iff.mp he, q⟩⟩, by omega, hfr, hlr.trans hl2, fun _ => hpr, by simp; (clear hroom hb; omega)⟩, rfl⟩
      · exact wpAny_pure ⟨rfl, _, hsb1, ⟨_, es1, _, t2, ho1, hex, rfl, hel1, hmem1, by omega, hf2, hl2, fun _ => hp2, by simp; (clear hroom hb; omega)⟩, rfl⟩
    have close : ∀ (r : Option Bool) (s' : Shared), (r = some true ∧ ∃ h', Heap.SameBut a s.heap h' ∧ SetT prog w h' a led (ks ++ [k]) ∧ s' = { s with heap := h', toks := s.toks + 1 }) → ∃ b, r = some b ∧ Q b s' := by
      rintro r s' ⟨rfl, h', h1, h2, rfl⟩; exact ⟨true, rfl, h h' true _ h1 h2⟩
    split
    · refine wpAny_bind ?_
      rw [hashByValue_scannable 8 rfl]
      refine wpAny_pure ?_
      refine wpAny_mono (stored { t1 with plain := false } (SetTable.fits_plain_off hfits) (hl1.trans hled) rfl) (fun r s' hr => ?_) fun _ _ z => z
      obtain ⟨b, rfl, hq⟩ := close _ _ hr
      exact wpAny_pure hq
    · rename_i hnp
      refine wpAny_bind (wpAny_pure ?_)
      simp only [↓reduceIte]
      refine wpAny_mono (stored t1 hfits (hl1.trans hled) (by simpa using hnp)) (fun r s' hr => ?_) fun _ _ z => z
      obtain ⟨b, rfl, hq⟩ := close _ _ hr
      exact wpAny_pure hq
end
end Mine

/-! # NqSet2 -/
namespace Mine
noncomputable def ledOf (w : World) : Bool := !w.params.followText "set-order"
section
variable {prog : Program} {w : World} {A : Around} {E : Value → Shared → Prop} {s : Shared}
theorem new_set_led (a : Value) {Q₁ : Value → Shared → Prop}
    (h : Q₁ (.ref s.heap.objs.size) { s with heap := s.heap.push { cls := .type "set", dict := none, data := .set #[] 0 (.fresh 0 0 (ledOf w)) } }) :
    codeAny (model prog w) A (.call (.builtin "set.__new__") ⟨[.type "set", a], []⟩) (wants Q₁ E) s := by
  refine codeAny_of_tree ?_
  show wpAny _ A.in1 (do checkBuiltinCall "set.__new__" ⟨[.type "set", a], []⟩; again (.builtin "set.__new__" ⟨[.type "set", a], []⟩)) _ _ s
  refine wpAny_bind (wpAny_of_eq (PySem.F.newCall_set_1 a) (wpAny_pure ⟨plainId_quiet PySem.F.plain_set_new _, codeAny_builtin PySem.F.entry_set_new ?_⟩))
  rw [Around.under_plainId PySem.F.plain_set_new _]
  unfold Builtin.«set.__new__» Builtin.Frozenset.newClass
  have hsub := sub_set_self
  obtain ⟨hp, g, d, tk, os⟩ := s
  dsimp only
  wp_walk
  refine wpAny_askSetting (wpAny_pure ?_)
  dsimp only
  simp only [newObj]
  refine wpAny_bind (wpAny_alloc (wpAny_pure ?_))
  exact wpAny_pure h

theorem upd_loop {R : Result → Shared → Prop} {I l S : Addr} {items : Array Value} {ss : List Str} {led : Bool} (hh : A.handled = none) (hne : l ≠ I) (hSI : S ≠ I) (hSl : S ≠ l) (hit : ∀ (i : Nat) (v : Value), items[i]? = some v → ∃ k t, ss[i]? = some k ∧ v = Value.str k t) (hn : items.size = ss.length) (hb : items.size + 1 < scanBound) :
    ∀ (k i : Nat) (s : Shared), items.size - i = k → i ≤ items.size → s.heap.IsListIter I l i → s.heap.IsList l items → SetT prog w s.heap S led (ss.take i) →
      (∀ h' tk, (∀ b o, b ≠ S → b ≠ I → s.heap.get? b = some o → h'.get? b = some o) → SetT prog w h' S led ss → R (.ok (.ret .none)) { s with heap := h', toks := tk }) →
      codeAny (model prog w) A (.builtin "set.update.loop" ⟨[.ref S, .ref I], []⟩) R s := by
  have W := Walks.list (prog := prog) (w := w) (A := A.in1) (by simp [hh]) I l hne items
  intro k
  induction k with
  | zero =>
    intro i s hk hi h1 h2 hS hR
    have hin : i = items.size := by (clear hne hSI hSl hb; omega)
    subst hin
    refine codeAny_builtin PyProof.Rows.F.entry_set_update_loop ?_
    rw [Around.under_plainId PyProof.Rows.F.plain_set_update_loop _]
    show wpAny _ A.in1 (pyNext (.ref I) >>= _) _ _ s
    refine wpAny_bind (W.done s _ _ ⟨h1, h2⟩ fun h' tk hm => ?_)
    show wpAny _ A.in1 (ret Value.none) _ _ _
    refine wpAny_pure (hR h' tk (fun b o _ hb e => hm b o (by simpa using hb) e) ?_)
    rw [hn, List.take_of_length_le (Nat.le_refl _)] at hS
    exact hS.at fun o q => hm S o (by simpa using hSI) q
  | succ k ih =>
    intro i s hk hi h1 h2 hS hR
    have hlt : i < items.size := by (clear hne hSI hSl hb; omega)
    refine codeAny_builtin PyProof.Rows.F.entry_set_update_loop ?_
    rw [Around.under_plainId PyProof.Rows.F.plain_set_update_loop _]
    show wpAny _ A.in1 (pyNext (.ref I) >>= _) _ _ s
    refine wpAny_bind (W.item i s _ _ hlt ⟨h1, h2⟩ fun v h' tk hP hst' hm => ?_)
    obtain ⟨x, t, hx, rfl⟩ := hit i v hP
    have hS' : SetT prog w h' S led (ss.take i) := hS.at fun o q => hm S o (by simpa using hSI) q
    show wpAny _ A.in1 (holding [Value.str x t] (setAdd S (.str x t)) >>= _) _ _ _
    refine wpAny_bind (wpAny_holding ?_)
    refine r_setAdd (s := { s with heap := h', toks := tk }) hS' (by simp only [List.length_take]; (clear hne hSI hSl hk hi hst'; omega)) fun h'' b tk' hsb hS'' => ?_
    have e : ss.take (i + 1) = ss.take i ++ [x] := by rw [List.take_add_one, hx]; rfl
    rw [← e] at hS''
    refine wpAny_pure ⟨plainId_quiet PyProof.Rows.F.plain_set_update_loop _, ih (i + 1) _ (by (clear hne hSI hSl hb hi hst'; omega)) hlt ?_ ?_ hS'' fun h₃ tk₃ k₃ hS₃ => ?_⟩
    · exact hst'.1.at fun o q => (hsb.2 I (Ne.symm hSI)).trans q
    · exact hst'.2.at fun o q => (hsb.2 l (Ne.symm hSl)).trans q
    · exact hR h₃ tk₃ (fun b o h4 h5 q => k₃ b o h4 h5 ((hsb.2 b h4).trans (hm b o (by simpa using h5) q))) hS₃

theorem call_set_texts {Q : Value → Shared → Prop} {l : Addr} {items : Array Value} {ss : List Str} (hh : A.handled = none) (hl : s.heap.IsList l items) (hit : ∀ (i : Nat) (v : Value), items[i]? = some v → ∃ k t, ss[i]? = some k ∧ v = Value.str k t) (hn : items.size = ss.length) (hb : items.size + 1 < scanBound)
    (h : ∀ (h' : Heap) (tk : Nat), SetT prog w h' s.heap.objs.size (ledOf w) ss → Sub s.heap h' → Q (.ref s.heap.objs.size) { s with heap := h', toks := tk }) :
    wpAny (model prog w) A (call (.type "set") [.ref l]) Q E s := by
  obtain ⟨c, tl, hmro⟩ := PySem.F.called_set.mro
  have hmade := PySem.F.called_set.made
  have hsub := PySem.F.called_set.sub
  refine wpAny_call (codeAny_of_tree ?_)
  show wpAny _ _ (callAny (.type "set") _) _ _ _
  refine wpAny_pure ⟨Code.quiet_builtin _ (by decide +kernel), codeAny_builtin PySem.F.entry_type_call ?_⟩
  rw [Around.under_plain (weight_type_call_type "set" [.ref l] []) rfl]
  have h1 := PySem.F.called_set.notType
  have h2 := PySem.F.called_set.canCreate
  have hct := PySem.F.typeCall_set_1 (.ref l)
  repeat (any_goals (first | assumption | wp_step))
  refine codeAny_mono (new_set_led (.ref l) (E := E) (Q₁ := fun obj s₁ => obj = .ref s.heap.objs.size ∧ s₁ = { s with heap := s.heap.push { cls := .type "set", dict := none, data := .set #[] 0 (.fresh 0 0 (ledOf w)) } }) ⟨rfl, rfl⟩) fun r s₁ hr => ?_
  cases r with
  | error e => exact hr
  | ok fl =>
    cases fl with
    | ret obj =>
      obtain ⟨rfl, rfl⟩ := hr
      generalize ledOf w = led at *
      have hS : (s.heap.push { cls := .type "set", dict := none, data := .set #[] 0 (.fresh 0 0 led) }).get? s.heap.objs.size = some { cls := .type "set", dict := none, data := .set #[] 0 (.fresh 0 0 led) } := Heap.get?_push_size _ rfl
      have hT : Shared.TypeIs { s with heap := s.heap.push { cls := .type "set", dict := none, data := .set #[] 0 (.fresh 0 0 led) } } (.ref s.heap.objs.size) "set" := ⟨_, hS, rfl⟩
      have hli := PySem.F.called_set.init.lookup
      have hbi := PySem.F.called_set.init.bind (.ref s.heap.objs.size)
      repeat (any_goals (first | assumption | wp_step))
      refine codeAny_mono (codeAny_call_builtin (R := wants (fun r s₂ => r = .none ∧ ∃ h' tk, s₂ = { s with heap := h', toks := tk } ∧ SetT prog w h' s.heap.objs.size led ss ∧ Sub s.heap h') E) PySem.F.called_set.init.plain PySem.F.entry_set_init (check_set_init_1 hT ?_)) fun r₂ s₂ hr₂ => ?_
      · obtain ⟨ol, hol, hcl, nl, hdl⟩ := hl
        obtain ⟨ocls, odict, odata, oslots⟩ := ol
        simp only at hcl hdl
        subst hcl; subst hdl
        have hol' : (s.heap.push { cls := .type "set", dict := none, data := .set #[] 0 (.fresh 0 0 led) }).get? l = some { cls := .type "list", dict := odict, data := .seq items nl, slots := oslots } := Heap.get?_push_of_some _ hol
        have hsls := PySem.F.sub_list_set
        have hslf := PySem.F.sub_list_frozenset
        have hne : (Value.type "list" == Value.type "dict") = false := by decide
        have hl1 : (s.heap.push { cls := .type "set", dict := none, data := .set #[] 0 (.fresh 0 0 led) }).IsList l items := ⟨_, hol', rfl, nl, rfl⟩
        unfold Builtin.«set.__init__» noKeywords Builtin.Frozenset.updateFrom
        generalize hPI : pyIter = PI
        wp_walk
        subst hPI
        refine wpAny_pyIter_list hl1 ?_
        refine wpAny_bind (wpAny_runValue ?_)
        have hlS : @LT.lt Nat _ l s.heap.objs.size := lts hol
        have hsz : (s.heap.push { cls := .type "set", dict := none, data := .set #[] 0 (.fresh 0 0 led) }).objs.size = s.heap.objs.size + 1 := Heap.size_push ..
        refine upd_loop (led := led) (ss := ss) (items := items) (l := l) (by simp [hh]) (by rw [hsz]; exact Nat.ne_of_lt (Nat.lt_succ_of_lt hlS)) (by rw [hsz]; exact Nat.ne_of_lt (Nat.lt_succ_self _)) (Nat.ne_of_gt hlS) hit hn hb (items.size - 0) 0 _ (by (clear hn hb hlS hsz; omega)) (Nat.zero_le _)
          ⟨_, Heap.get?_push_size _ rfl, rfl, rfl⟩ (hl1.push _) ?hS0 ?hR
        case hS0 =>
          exact ⟨_, #[], 0, _, Heap.get?_push_of_some _ hS, ⟨rfl, rfl, rfl⟩, rfl, fun e he => by simp at he, fun k => by simp, by decide, rfl, rfl, fun z => absurd rfl z, Nat.zero_le _⟩
        case hR =>
          intro h' tk hm hS'
          show wpAny _ _ _ _ _ _
          refine wpAny_pure ?_
          show wpAny _ _ (ret Value.none) _ _ _
          refine wpAny_pure ⟨rfl, h', tk, rfl, hS', fun b o e => ?_⟩
          have hb0 := lts e
          exact hm b o (Nat.ne_of_lt hb0) (by rw [hsz]; exact Nat.ne_of_lt (Nat.lt_succ_of_lt hb0)) (Heap.get?_push_of_some _ (Heap.get?_push_of_some _ e))
      · cases r₂ with
        | error e => exact hr₂
        | ok fl₂ =>
          cases fl₂ with
          | ret r =>
            obtain ⟨rfl, h', tk, rfl, hS', hk'⟩ := hr₂
            repeat (any_goals (first | assumption | wp_step))
            exact h _ _ hS' hk'
          | _ => exact hr₂.elim
    | _ => exact hr.elim
end
end Mine

/-! # NqIter -/
namespace Mine
theorem r_choose {M : Model} {A : Around} {E : Value → Shared → Prop} {s : Shared} {src : Source} {n : Nat} {Q : Nat → Shared → Prop} (hn : n ≠ 0) (h : ∀ i, i < n → Q i { s with drawn := s.drawn.bump src }) : wpAny M A (choose src n) Q E s := by
  intro Γ p _
  show Sem.wp M _ (.choose src n .pure) _ _ _ _
  rw [Sem.wp_choose]
  exact ⟨hn, by rw [Sem.wp_pure]; exact h _ (Nat.mod_lt _ (Nat.pos_of_ne_zero hn))⟩
theorem erase_perm {α : Type} : ∀ {l : List α} {i : Nat} (hi : i < l.length), List.Perm (l[i] :: l.eraseIdx i) l
  | x :: l, 0, hi => .refl _
  | x :: l, i + 1, hi => by
    have := erase_perm (l := l) (i := i) (by simpa using hi)
    simp only [List.getElem_cons_succ, List.eraseIdx_cons_succ]
    exact (List.Perm.swap _ _ _).trans (this.cons x)
theorem r_drawOrder {α : Type} {M : Model} {A : Around} {E : Value → Shared → Prop} : ∀ (n : Nat) (xs : List α) {s : Shared} {Q : List α → Shared → Prop}, xs.length = n → (∀ ys d, List.Perm ys xs → Q ys { s with drawn := d }) → wpAny M A (drawOrder n xs) Q E s
  | 0, xs, s, Q, hn, h => by
    have : xs = [] := List.eq_nil_of_length_eq_zero hn
    subst this
    unfold drawOrder
    exact wpAny_pure (h [] s.drawn (.refl _))
  | n + 1, [], s, Q, hn, h => by cases hn
  | n + 1, x :: xs, s, Q, hn, h => by
    unfold drawOrder
    refine wpAny_bind (r_choose (by simp) fun i hi => ?_)
    rw [List.getElem?_eq_getElem hi]
    refine wpAny_bind (r_drawOrder n _ (by rw [List.length_eraseIdx_of_lt hi]; simpa using hn) fun ys d hp => ?_)
    exact wpAny_pure (h _ d ((List.Perm.cons _ hp).trans (erase_perm hi)))
theorem pick_go {α : Type} (next : Nat → Nat) : ∀ (fuel k : Nat) (left : List α) (out : Array α), left.length = fuel → List.Perm (pickOrder.go next fuel k left out).toList (out.toList ++ left)
  | 0, k, left, out, h => by
    have : left = [] := List.eq_nil_of_length_eq_zero h
    subst this
    unfold pickOrder.go; simp
  | fuel + 1, k, left, out, h => by
    have hi : next k % left.length < left.length := Nat.mod_lt _ (by omega)
    unfold pickOrder.go
    rw [List.getElem?_eq_getElem hi]
    refine (pick_go next fuel (k + 1) _ _ (by rw [List.length_eraseIdx_of_lt hi]; (clear hi; omega))).trans ?_
    rw [Array.toList_push, List.append_assoc]
    exact List.Perm.append_left _ (erase_perm hi)
theorem pick_perm {α : Type} (next : Nat → Nat) (xs : Array α) : List.Perm (pickOrder next xs).toList xs.toList := by
  have := pick_go next xs.size 0 xs.toList #[] (by simp)
  simpa [pickOrder] using this
end Mine

/-! # NqIter1 -/
namespace Mine
theorem owner_si : Manifest.owners.lookup (String.ofList ['r', 'o', 't', 'a', 'r', 'e', 't', 'i', '_', 't', 'e', 's'].reverse) = some Manifest.sig_set_iterator := by kernel_rfl
theorem slot_si_next : Slot "set_iterator" "__next__" "set_iterator.__next__" :=
  .of (owner := "set_iterator") (n := "__next__") (by rw [typeLookup_type, builtinLookup_eq_fast]; kernel_rfl) (by decide +kernel) (by decide +kernel) (by decide +kernel)
    (by first | exact .inl (by decide +kernel) | exact .inr (by decide +kernel)) (by rw [isSubtype_type]; kernel_rfl)
theorem entry_si_next : entryFor table "set_iterator.__next__" = some Builtin.«set_iterator.__next__» := entryFor_of_tree (by kernel_rfl)
theorem args_si_next (a : Value) : argsOk "set_iterator.__next__" ⟨[a], []⟩ := by
  unfold argsOk; rw [signature?_of (id := "set_iterator.__next__") (n := ['_', '_', 't', 'x', 'e', 'n', '_', '_']) (o := ['r', 'o', 't', 'a', 'r', 'e', 't', 'i', '_', 't', 'e', 's']) (by kernel_rfl) owner_si]; kernel_rfl
theorem slot_si_iter : Slot "set_iterator" "__iter__" "set_iterator.__iter__" :=
  .of (owner := "set_iterator") (n := "__iter__") (by rw [typeLookup_type, builtinLookup_eq_fast]; kernel_rfl) (by decide +kernel) (by decide +kernel) (by decide +kernel)
    (by first | exact .inl (by decide +kernel) | exact .inr (by decide +kernel)) (by rw [isSubtype_type]; kernel_rfl)
theorem args_si_iter (a : Value) : argsOk "set_iterator.__iter__" ⟨[a], []⟩ := by
  unfold argsOk; rw [signature?_of (id := "set_iterator.__iter__") (n := ['_', '_', 'r', 'e', 't', 'i', '_', '_']) (o := ['r', 'o', 't', 'a', 'r', 'e', 't', 'i', '_', 't', 'e', 's']) (by kernel_rfl) owner_si]; kernel_rfl
theorem si_1 : fastTable "set_iterator.__iter__" = none := by rw [fastTable_eq_tree]; kernel_rfl
theorem si_2 : "set_iterator.__iter__".cutAt '#' = ["set_iterator.__iter__"] := by decide +kernel
theorem si_3 : Manifest.canonical (String.map (fun c => if (c.isAlphanum || c == '_' || c == '.') = true then c else '_') "set_iterator.__iter__") ++ "" = "dict_keyiterator.__iter__" := by
  first
  | (rw [PySem.W.Fast.canonicalQ_eq]; decide +kernel)
  | decide +kernel
theorem si_4 : fastTable "dict_keyiterator.__iter__" = some Builtin.«dict_keyiterator.__iter__» := by rw [fastTable_eq_tree]; kernel_rfl
theorem entry_si_iter : entryFor table "set_iterator.__iter__" = some Builtin.«dict_keyiterator.__iter__» := entryFor_alias si_1 si_2 si_3 si_4
theorem se_1 : fastTable "set.__iter__" = none := by rw [fastTable_eq_tree]; kernel_rfl
theorem se_2 : "set.__iter__".cutAt '#' = ["set.__iter__"] := by decide +kernel
theorem se_3 : Manifest.canonical (String.map (fun c => if (c.isAlphanum || c == '_' || c == '.') = true then c else '_') "set.__iter__") ++ "" = "frozenset.__iter__" := by
  first
  | (rw [PySem.W.Fast.canonicalQ_eq]; decide +kernel)
  | decide +kernel
theorem se_4 : fastTable "frozenset.__iter__" = some Builtin.«frozenset.__iter__» := by rw [fastTable_eq_tree]; kernel_rfl
theorem entry_set_iter : entryFor table "set.__iter__" = some Builtin.«frozenset.__iter__» := entryFor_alias se_1 se_2 se_3 se_4
noncomputable def IsSetIter (h : Heap) (I S : Addr) (first : Value) (i n ep : Nat) : Prop := ∃ o, h.get? I = some o ∧ o.cls = .type "set_iterator" ∧ o.data = .fields #[first, rawInt i, .ref S, rawInt n, rawInt ep]
theorem IsSetIter.at {h h' : Heap} {I S : Addr} {first : Value} {i n ep : Nat} (x : IsSetIter h I S first i n ep) (k : ∀ o, h.get? I = some o → h'.get? I = some o) : IsSetIter h' I S first i n ep := let ⟨o, ho, r⟩ := x; ⟨o, k o ho, r⟩
end Mine

/-! # NqIter2 -/
namespace Mine
section
variable {prog : Program} {w : World} {A : Around} {E : Value → Shared → Prop} {s : Shared}
noncomputable def iterObj (first : Value) (S : Addr) (n ep : Nat) : Obj := { cls := .type "set_iterator", data := .fields #[first, rawInt 0, .ref S, rawInt n, rawInt ep] }
theorem r_setDrawn {Q : Bool → Shared → Prop} {S : Addr} {o : Obj} {es : Array (Int × Value)} {ep : Nat} {t : SetTable} (ho : s.heap.get? S = some o) (hd : o.data = .set es ep t) (hf : t.fits es.size = true)
    (h : Q (!w.params.followText "set-order" && (!t.plain && decide (es.size > 1))) s) : wpAny (model prog w) A (setDrawn S) Q E s := by
  unfold setDrawn setsByText
  refine wpAny_bind (wpAny_setState_of ho hd hf ?_)
  refine wpAny_bind (wpAny_bind (wpAny_askSetting (wpAny_pure ?_)))
  exact wpAny_pure h
theorem r_iterSet {Q : Value → Shared → Prop} {S : Addr} {o : Obj} {es : Array (Int × Value)} {ep : Nat} {t : SetTable} (ho : s.heap.get? S = some o) (hex : o.ExactSet) (hd : o.data = .set es ep t) (hf : t.fits es.size = true) (hsz : es.size ≤ 1000)
    (h0 : (!w.params.followText "set-order" && (!t.plain && decide (es.size > 1))) = false → Q (.ref s.heap.objs.size) { s with heap := s.heap.push (iterObj (rawInt 0) S es.size ep) })
    (h1 : (!w.params.followText "set-order" && (!t.plain && decide (es.size > 1))) = true → ∀ ys d, List.Perm ys (List.range es.size) → ∀ h' T, Sub s.heap h' → IsTup h' T (ys.map fun (i : Nat) => rawInt i).toArray → T ≠ h'.objs.size → s.heap.get? T = none → Q (.ref h'.objs.size) { s with heap := h'.push (iterObj (.ref T) S es.size ep), drawn := d }) :
    wpAny (model prog w) A (pyIter (.ref S)) Q E s := by
  have hT : s.TypeIs (.ref S) "set" := ⟨o, ho, hex.1⟩
  refine wpAny_pyIter_slot hT PySem.F.slot_set_iter (wpAny_call_entry PySem.F.slot_set_iter hT entry_set_iter ?_ (PySem.F.args_set_iter_1 _))
  unfold Builtin.«frozenset.__iter__» Builtin.Frozenset.slot0 slotArgs
  simp only [List.isEmpty_nil, Bool.not_true, Bool.false_eq_true, ↓reduceIte, bind_assoc, List.length_nil, bne_self_eq_false]
  unfold Builtin.Frozenset.addrOf Builtin.Frozenset.sizeOf
  refine wpAny_bind (wpAny_pure ?_)
  try dsimp only
  refine wpAny_bind (wpAny_pure ?_)
  refine wpAny_bind (wpAny_bind (wpAny_setEntries_of ho hd hf (wpAny_pure ?_)))
  refine wpAny_bind (r_setDrawn ho hd hf ?_)
  cases hc : (!w.params.followText "set-order" && (!t.plain && decide (es.size > 1))) with
  | false =>
    simp only [Bool.false_eq_true, if_false]
    refine wpAny_bind (wpAny_pure ?_)
    refine wpAny_bind (wpAny_setEpoch_of ho hd hf ?_)
    exact wpAny_bind (wpAny_newObj_type (wpAny_pure ⟨_, rfl, "set_iterator", _, ⟨_, Heap.get?_push_size _ rfl, rfl⟩, slot_si_next.lookup, h0 hc⟩))
  | true =>
    simp only [if_true]
    refine wpAny_bind ?_
    refine r_drawOrder es.size (List.range es.size) List.length_range fun ys d hp => ?_
    have hl : ys.length = es.size := by rw [hp.length_eq, List.length_range]
    refine wpAny_bind ?_
    refine wpAny_newTuple ?_ (by rw [sizeLine_eq, List.length_map]; omega)
    refine wpAny_bind (wpAny_setEpoch_of (s := { s with drawn := d, heap := s.heap.push _ }) (Heap.get?_push_of_some _ ho) hd hf ?_)
    exact wpAny_bind (wpAny_newObj_type (wpAny_pure ⟨_, rfl, "set_iterator", _, ⟨_, Heap.get?_push_size _ rfl, rfl⟩, slot_si_next.lookup, h1 hc ys d hp _ _ (fun _ _ q => Heap.get?_push_of_some _ q) (IsTup.new _ _) (by rw [Heap.size_push]; exact Nat.ne_of_lt (Nat.lt_succ_self _)) (get_size _)⟩))
end
end Mine

/-! # NqIter3 -/
namespace Mine
section
variable {prog : Program} {w : World} {A : Around} {E : Value → Shared → Prop} {s : Shared}
theorem next_drawn {Q : Option Value → Shared → Prop} {I S T : Addr} {i n ep p : Nat} {o : Obj} {es : Array (Int × Value)} {t : SetTable} {pl : Array Value} {hx : Int} {x : Value} (hI : IsSetIter s.heap I S (.ref T) i n ep) (hT : IsTup s.heap T pl) (ho : s.heap.get? S = some o) (hd : o.data = .set es ep t) (hf : t.fits es.size = true) (hn : es.size = n)
    (hp : pl[i]? = some (rawInt p)) (hx : es[p]? = some (hx, x)) (hQ : ∀ h', IsSetIter h' I S (.ref T) (i + 1) n ep → Heap.SameBut I s.heap h' → Q (some x) { s with heap := h' }) : wpAny (model prog w) A (pyNext (.ref I)) Q E s := by
  obtain ⟨oi, hoi, hci, hdi⟩ := id hI
  obtain ⟨ot, hot, _, nt, hdt⟩ := hT
  have hTy : s.TypeIs (.ref I) "set_iterator" := ⟨oi, hoi, hci⟩
  unfold pyNext
  refine wpAny_bind (wpAny_attempt (wpAny_callSpecial?_slot (name := Str.ofString "__next__") hTy slot_si_next
    (wpAny_call_entry slot_si_next hTy entry_si_next ?_ (args_si_next _))))
  unfold Builtin.«set_iterator.__next__»
  refine wpAny_bind (wpAny_of_eq (a := (Value.ref I, [])) rfl ?_)
  dsimp only
  refine wpAny_bind (wpAny_fieldsOf hoi hdi ?_)
  simp only [rawInt]
  refine wpAny_bind (wpAny_setEntries_of ho hd hf ?_)
  rw [hn]
  simp only [bne_self_eq_false, Bool.false_eq_true, if_false]
  refine wpAny_bind (wpAny_seqItems hot hdt ?_)
  dsimp only
  rw [Int.toNat_natCast, hp]
  dsimp only [rawInt]
  refine wpAny_bind (m := setNextDrawn S _ _) ?_
  unfold setNextDrawn
  refine wpAny_bind (wpAny_setState_of ho hd hf ?_)
  simp only [Int.toNat_natCast, bne_self_eq_false, Bool.false_eq_true, if_false, hx]
  refine wpAny_bind (wpAny_pure ?_)
  refine wpAny_pure ?_
  refine wpAny_bind (wpAny_setField hoi hdi (by simp) (wpAny_pure ⟨x, rfl, wpAny_pure (hQ _ ?_ (Heap.SameBut.update ..))⟩))
  exact ⟨_, Heap.get?_update_self _ hoi (Obj.isFreed_of_fields (Obj.data_mapFields hdi _)), (Obj.cls_mapFields ..).trans hci, by
    rw [Obj.data_mapFields hdi]; simp [rawInt]⟩
theorem stop_here {Q : Option Value → Shared → Prop} {I : Addr} {h₀ : Heap} (hh : A.handled = none) (hx : Heap.ExtBut I h₀ s.heap) (hQ : ∀ h', Heap.ExtBut I h₀ h' → Q none { s with heap := h' }) :
    wpAny (model prog w) A.in1 (do raiseNew (← newExc (.type "StopIteration") [])) (fun (fin : Fin) s' => False) (fun e s' => wpAny (model prog w) A (isInstance e (.type "StopIteration")) (fun b s'' => b = true ∧ Q none s'') E s') s := by
  refine wpAny_bind ?_
  simp only [newExc, newTuple]
  refine wpAny_bind (wpAny_newObj_type ?_ (by size_fits))
  refine wpAny_bind (m := firstArgMember _ _) (wpAny_of_eq (a := Value.none) (by first | rfl | (simp only [firstArgMember]; rfl)) ?_)
  refine wpAny_newObj_type ?_ (by size_fits)
  simp only [raiseNew]
  refine wpAny_bind (wpAny_handled ?_)
  first | rw [show A.in1.handled = none from hh] | rw [hh]
  refine wpAny_bind (wpAny_pure (wpAny_throw ?_))
  refine wpAny_isInstance (T := "StopIteration") (b := true) ⟨_, Heap.get?_push_size _ rfl, rfl⟩ isSubtype_stop ?_
  exact ⟨rfl, hQ _ ((hx.push _).push _)⟩
end
end Mine

/-! # NqIter4 -/
namespace Mine
section
variable {prog : Program} {w : World} {A : Around} {E : Value → Shared → Prop} {s : Shared}
theorem end_drawn {Q : Option Value → Shared → Prop} {I S T : Addr} {i n ep : Nat} {o : Obj} {es : Array (Int × Value)} {t : SetTable} {pl : Array Value} (hh : A.handled = none) (hI : IsSetIter s.heap I S (.ref T) i n ep) (hT : IsTup s.heap T pl) (ho : s.heap.get? S = some o) (hd : o.data = .set es ep t) (hf : t.fits es.size = true) (hn : es.size = n)
    (hp : pl[i]? = none) (hQ : ∀ h', Heap.ExtBut I s.heap h' → Q none { s with heap := h' }) : wpAny (model prog w) A (pyNext (.ref I)) Q E s := by
  obtain ⟨oi, hoi, hci, hdi⟩ := id hI
  obtain ⟨ot, hot, _, nt, hdt⟩ := hT
  have hTy : s.TypeIs (.ref I) "set_iterator" := ⟨oi, hoi, hci⟩
  unfold pyNext
  refine wpAny_bind (wpAny_attempt (wpAny_callSpecial?_slot (name := Str.ofString "__next__") hTy slot_si_next
    (wpAny_call_entry slot_si_next hTy entry_si_next ?_ (args_si_next _))))
  unfold Builtin.«set_iterator.__next__»
  refine wpAny_bind (wpAny_of_eq (a := (Value.ref I, [])) rfl ?_)
  dsimp only
  refine wpAny_bind (wpAny_fieldsOf hoi hdi ?_)
  simp only [rawInt]
  refine wpAny_bind (wpAny_setEntries_of ho hd hf ?_)
  rw [hn]
  simp only [bne_self_eq_false, Bool.false_eq_true, if_false]
  refine wpAny_bind (wpAny_seqItems hot hdt ?_)
  dsimp only
  rw [Int.toNat_natCast, hp]
  dsimp only [rawInt]
  refine wpAny_bind (wpAny_setField hoi hdi (by simp) ?_)
  have e1 := Heap.get?_update_self (Obj.mapFields (·.setIfInBounds 0 (rawInt 0))) hoi (Obj.isFreed_of_fields (Obj.data_mapFields hdi _))
  refine wpAny_bind (wpAny_setField e1 (Obj.data_mapFields hdi _) (by simp) ?_)
  refine wpAny_mono (stop_here (E := E) (I := I) (h₀ := s.heap) hh ?_ hQ) (fun _ _ z => z.elim) fun e s' h => ?_
  · exact ((Heap.SameBut.update ..).trans (Heap.SameBut.update ..)).extBut
  · refine wpAny_bind (wpAny_mono h (fun b s'' hb => ?_) fun _ _ z => z)
    obtain ⟨rfl, hq⟩ := hb
    exact wpAny_pure hq
end
end Mine

/-! # NqIter5 -/
namespace Mine
section
variable {prog : Program} {w : World} {A : Around} {E : Value → Shared → Prop} {s : Shared}
theorem next_slot {Q : Option Value → Shared → Prop} {I S : Addr} {slot nx i n ep : Nat} {o : Obj} {es : Array (Int × Value)} {t : SetTable} {x : Value} (hI : IsSetIter s.heap I S (rawInt slot) i n ep) (ho : s.heap.get? S = some o) (hd : o.data = .set es ep t) (hf : t.fits es.size = true) (hn : es.size = n)
    (hN : ∀ (A : Around) (E : Value → Shared → Prop) (Q' : Option (Value × Nat) → Shared → Prop), Q' (some (x, nx)) s → wpAny (model prog w) A (setNext S slot i ep) Q' E s) (hQ : ∀ h', IsSetIter h' I S (rawInt nx) (i + 1) n ep → Heap.SameBut I s.heap h' → Q (some x) { s with heap := h' }) : wpAny (model prog w) A (pyNext (.ref I)) Q E s := by
  obtain ⟨oi, hoi, hci, hdi⟩ := id hI
  have hTy : s.TypeIs (.ref I) "set_iterator" := ⟨oi, hoi, hci⟩
  unfold pyNext
  refine wpAny_bind (wpAny_attempt (wpAny_callSpecial?_slot (name := Str.ofString "__next__") hTy slot_si_next
    (wpAny_call_entry slot_si_next hTy entry_si_next ?_ (args_si_next _))))
  unfold Builtin.«set_iterator.__next__»
  refine wpAny_bind (wpAny_of_eq (a := (Value.ref I, [])) rfl ?_)
  dsimp only
  refine wpAny_bind (wpAny_fieldsOf hoi hdi ?_)
  simp only [rawInt]
  refine wpAny_bind (wpAny_setEntries_of ho hd hf ?_)
  rw [hn]
  simp only [bne_self_eq_false, Bool.false_eq_true, if_false, Int.toNat_natCast]
  refine wpAny_bind (hN _ _ _ ?_)
  dsimp only
  refine wpAny_bind (wpAny_setField hoi hdi (by simp) ?_)
  have e1 := Heap.get?_update_self (Obj.mapFields (·.setIfInBounds 0 (rawInt nx))) hoi (Obj.isFreed_of_fields (Obj.data_mapFields hdi _))
  refine wpAny_bind (wpAny_setField e1 (Obj.data_mapFields hdi _) (by simp) ?_)
  refine wpAny_pure ⟨x, rfl, wpAny_pure (hQ _ ?_ ((Heap.SameBut.update ..).trans (Heap.SameBut.update ..)))⟩
  exact ⟨_, Heap.get?_update_self _ e1 (Obj.isFreed_of_fields (Obj.data_mapFields (Obj.data_mapFields hdi _) _)), (Obj.cls_mapFields ..).trans ((Obj.cls_mapFields ..).trans hci), by
    rw [Obj.data_mapFields (Obj.data_mapFields hdi _)]; simp [rawInt]⟩
theorem end_slot {Q : Option Value → Shared → Prop} {I S : Addr} {slot i n ep : Nat} {o : Obj} {es : Array (Int × Value)} {t : SetTable} (hh : A.handled = none) (hI : IsSetIter s.heap I S (rawInt slot) i n ep) (ho : s.heap.get? S = some o) (hd : o.data = .set es ep t) (hf : t.fits es.size = true) (hn : es.size = n)
    (hN : ∀ (A : Around) (E : Value → Shared → Prop) (Q' : Option (Value × Nat) → Shared → Prop), Q' none s → wpAny (model prog w) A (setNext S slot i ep) Q' E s) (hQ : ∀ h', Heap.ExtBut I s.heap h' → Q none { s with heap := h' }) : wpAny (model prog w) A (pyNext (.ref I)) Q E s := by
  obtain ⟨oi, hoi, hci, hdi⟩ := id hI
  have hTy : s.TypeIs (.ref I) "set_iterator" := ⟨oi, hoi, hci⟩
  unfold pyNext
  refine wpAny_bind (wpAny_attempt (wpAny_callSpecial?_slot (name := Str.ofString "__next__") hTy slot_si_next
    (wpAny_call_entry slot_si_next hTy entry_si_next ?_ (args_si_next _))))
  unfold Builtin.«set_iterator.__next__»
  refine wpAny_bind (wpAny_of_eq (a := (Value.ref I, [])) rfl ?_)
  dsimp only
  refine wpAny_bind (wpAny_fieldsOf hoi hdi ?_)
  simp only [rawInt]
  refine wpAny_bind (wpAny_setEntries_of ho hd hf ?_)
  rw [hn]
  simp only [bne_self_eq_false, Bool.false_eq_true, if_false, Int.toNat_natCast]
  refine wpAny_bind (hN _ _ _ ?_)
  dsimp only
  refine wpAny_bind (wpAny_setField hoi hdi (by simp) ?_)
  refine wpAny_mono (stop_here (E := E) (I := I) (h₀ := s.heap) hh ?_ hQ) (fun _ _ z => z.elim) fun e s' h => ?_
  · exact (Heap.SameBut.update ..).extBut
  · refine wpAny_bind (wpAny_mono h (fun b s'' hb => ?_) fun _ _ z => z)
    obtain ⟨rfl, hq⟩ := hb
    exact wpAny_pure hq
end
end Mine

/-! # NqIter6 -/
namespace Mine
section
variable {prog : Program} {w : World} {A : Around} {E : Value → Shared → Prop} {s : Shared}
theorem setNext_text {Q : Option (Value × Nat) → Shared → Prop} {S : Addr} {slot i ep : Nat} {o : Obj} {es : Array (Int × Value)} {t : SetTable} (ho : s.heap.get? S = some o) (hd : o.data = .set es ep t) (hf : t.fits es.size = true) (hb : w.params.followText "set-order" = true)
    (h : Q (((pickOrder (w.params.setOrder S ep) es)[i]?).map fun e => (e.2, slot)) s) : wpAny (model prog w) A (setNext S slot i ep) Q E s := by
  unfold setNext setsByText setWalk setsByText
  refine wpAny_bind (wpAny_setState_of ho hd hf ?_)
  refine wpAny_bind (wpAny_bind (wpAny_askSetting (wpAny_pure ?_)))
  dsimp only
  rw [show (model prog w).w.params.followText "set-order" = true from hb]
  simp only [if_true, bne_self_eq_false, Bool.false_eq_true, if_false]
  refine wpAny_bind ?_
  refine wpAny_bind (wpAny_setState_of ho hd hf ?_)
  refine wpAny_bind (wpAny_bind (wpAny_askSetting (wpAny_pure ?_)))
  rw [show (model prog w).w.params.followText "set-order" = true from hb]
  simp only [if_true]
  refine wpAny_bind (wpAny_askSetting ?_)
  exact wpAny_pure (wpAny_pure h)
end
end Mine

/-! # NqIter7 -/
namespace Mine
section
variable {prog : Program} {w : World} {A : Around} {E : Value → Shared → Prop} {s : Shared}
theorem setNext_few {Q : Option (Value × Nat) → Shared → Prop} {S : Addr} {slot i ep : Nat} {o : Obj} {es : Array (Int × Value)} {t : SetTable} (ho : s.heap.get? S = some o) (hd : o.data = .set es ep t) (hf : t.fits es.size = true) (hb : w.params.followText "set-order" = false) (h1 : es.size ≤ 1) (hl : es.size ≠ 0 → t.led = true)
    (h : Q (match es[SetTable.below t.place slot]?, t.place[SetTable.below t.place slot]? with | some (_, x), some j => some (x, j + 1) | _, _ => none) s) : wpAny (model prog w) A (setNext S slot i ep) Q E s := by
  unfold setNext setsByText
  refine wpAny_bind (wpAny_setState_of ho hd hf ?_)
  refine wpAny_bind (wpAny_bind (wpAny_askSetting (wpAny_pure ?_)))
  dsimp only
  rw [show (model prog w).w.params.followText "set-order" = false from hb]
  simp only [Bool.false_eq_true, if_false]
  have hdr : (!t.plain && decide (es.size > 1)) = false := by rw [decide_eq_false (by omega)]; exact Bool.and_false _
  show wpAny _ _ (if (!t.plain && decide (es.size > 1)) = true then _ else _) _ _ _
  rw [hdr]
  simp only [Bool.false_eq_true, if_false]
  have hled : (!t.led && !es.isEmpty) = false := by
    by_cases hz : es.size = 0
    · have : es.isEmpty = true := by simpa using Array.eq_empty_of_size_eq_zero hz
      rw [this]; simp
    · rw [hl hz]; rfl
  refine wpAny_bind ?_
  show wpAny _ _ (if (!t.led && !es.isEmpty) = true then _ else _) _ _ _
  rw [hled]
  simp only [Bool.false_eq_true, if_false]
  refine wpAny_pure ?_
  exact wpAny_pure h
end
end Mine

/-! # NqIter8 -/
namespace Mine
noncomputable def keyOf : Value → Str
  | .str k _ => k
  | _ => Str.ofString ""
theorem selfSet {prog : Program} {w : World} {A : Around} {E : Value → Shared → Prop} {s : Shared} {Q : Value → Shared → Prop} {I S : Addr} {first : Value} {i n ep : Nat} (hI : IsSetIter s.heap I S first i n ep) (h : Q (.ref I) s) : wpAny (model prog w) A (pyIter (.ref I)) Q E s := by
  obtain ⟨oi, hoi, hci, hdi⟩ := id hI
  have hTy : s.TypeIs (.ref I) "set_iterator" := ⟨oi, hoi, hci⟩
  refine wpAny_pyIter_slot hTy slot_si_iter (wpAny_call_entry slot_si_iter hTy entry_si_iter ?_ (args_si_iter _))
  show wpAny _ _ (ret (.ref I)) _ _ s
  exact wpAny_pure ⟨_, rfl, "set_iterator", _, hTy, slot_si_next.lookup, h⟩
section
variable {prog : Program} {w : World} {A : Around} {I S T : Addr} {o : Obj} {es : Array (Int × Value)} {ep : Nat} {t : SetTable}
theorem walks_text (hh : A.handled = none) (hne : S ≠ I) (hd : o.data = .set es ep t) (hf : t.fits es.size = true) (hb : w.params.followText "set-order" = true) :
    Walks prog w A I [I, S] [I] es.size (fun i v => ((pickOrder (w.params.setOrder S ep) es)[i]?).map (·.2) = some v) (fun i h => IsSetIter h I S (rawInt 0) i es.size ep ∧ h.get? S = some o) where
  sub := fun b hb => by simp at hb; simp [hb]
  frame := fun _ _ _ st hk => ⟨st.1.at fun o e => hk I (by simp) o e, hk S (by simp) _ st.2⟩
  item := fun i s Q E hi st hQ => by
    have hlen : (pickOrder (w.params.setOrder S ep) es).size = es.size := by
      have := (pick_perm (w.params.setOrder S ep) es).length_eq
      simpa using this
    obtain ⟨e, he⟩ : ∃ e, (pickOrder (w.params.setOrder S ep) es)[i]? = some e := ⟨_, Array.getElem?_eq_getElem (by (clear hne st; omega))⟩
    refine next_slot (slot := 0) (nx := 0) (x := e.2) st.1 st.2 hd hf rfl (fun A E Q' hq => setNext_text st.2 hd hf hb (by rw [he]; exact hq)) fun h' hI' hs' => ?_
    exact hQ _ h' s.toks (by rw [he]; rfl) ⟨hI', (hs'.2 S hne).trans st.2⟩ fun b o hb e => (hs'.2 b (fun h => hb (by simp [h]))).trans e
  done := fun s Q E st hQ => by
    have hlen : (pickOrder (w.params.setOrder S ep) es).size = es.size := by
      have := (pick_perm (w.params.setOrder S ep) es).length_eq
      simpa using this
    refine end_slot (slot := 0) hh st.1 st.2 hd hf rfl (fun A E Q' hq => setNext_text st.2 hd hf hb (by rw [Array.getElem?_eq_none (by (clear hne st; omega))]; exact hq)) fun h' hx => ?_
    exact hQ h' s.toks fun b o hb e => hx b o (fun h => hb (by simp [h])) e
  self := fun _ _ _ _ st hQ => selfSet st.1 hQ
theorem walks_drawn {ys : List Nat} (hh : A.handled = none) (hne : S ≠ I) (hTI : T ≠ I) (hd : o.data = .set es ep t) (hf : t.fits es.size = true) (hp : List.Perm ys (List.range es.size)) :
    Walks prog w A I [I, S, T] [I] es.size (fun i v => ((ys[i]?).bind fun j => (es[j]?).map (·.2)) = some v) (fun i h => IsSetIter h I S (.ref T) i es.size ep ∧ h.get? S = some o ∧ IsTup h T (ys.map fun (i : Nat) => rawInt i).toArray) where
  sub := fun b hb => by simp at hb; simp [hb]
  frame := fun _ _ _ st hk => ⟨st.1.at fun o e => hk I (by simp) o e, hk S (by simp) _ st.2.1, let ⟨o, q, r⟩ := st.2.2; ⟨o, hk T (by simp) o q, r⟩⟩
  item := fun i s Q E hi st hQ => by
    have hlen : ys.length = es.size := by rw [hp.length_eq, List.length_range]
    obtain ⟨j, hj⟩ : ∃ j, ys[i]? = some j := ⟨_, List.getElem?_eq_getElem (by (clear hne hTI st; omega))⟩
    have hjl : j < es.size := List.mem_range.mp (hp.mem_iff.mp (List.mem_of_getElem? hj))
    obtain ⟨e, he⟩ : ∃ e, es[j]? = some e := ⟨_, Array.getElem?_eq_getElem hjl⟩
    refine next_drawn (p := j) (hx := e.1) (x := e.2) st.1 st.2.2 st.2.1 hd hf rfl (by simp [hj]) he fun h' hI' hs' => ?_
    exact hQ _ h' s.toks (by rw [hj]; simp [he]) ⟨hI', (hs'.2 S hne).trans st.2.1, let ⟨o, q, r⟩ := st.2.2; ⟨o, (hs'.2 T hTI).trans q, r⟩⟩ fun b o hb e => (hs'.2 b (fun h => hb (by simp [h]))).trans e
  done := fun s Q E st hQ => by
    have hlen : ys.length = es.size := by rw [hp.length_eq, List.length_range]
    refine end_drawn hh st.1 st.2.2 st.2.1 hd hf rfl (by simp [hlen]) fun h' hx => ?_
    exact hQ h' s.toks fun b o hb e => hx b o (fun h => hb (by simp [h])) e
  self := fun _ _ _ _ st hQ => selfSet st.1 hQ
end
end Mine

/-! # NqIter9 -/
namespace Mine
theorem below_one0 {xs : Array Nat} (h : xs.size = 1) : SetTable.below xs 0 = 0 := by
  unfold SetTable.below
  rw [h]
  unfold SetTable.below.go
  simp only [Nat.zero_lt_one, if_true]
  rw [if_neg (by (clear h; omega))]
  unfold SetTable.below.go
  rfl
theorem below_one1 {xs : Array Nat} {j : Nat} (h : xs.size = 1) (hj : xs[0]? = some j) : SetTable.below xs (j + 1) = 1 := by
  unfold SetTable.below
  rw [h]
  unfold SetTable.below.go
  simp only [Nat.zero_lt_one, if_true]
  have : xs.getD ((0 + 1) / 2) (j + 1) = j := by simp [Array.getD_eq_getD_getElem?, hj]
  rw [this, if_pos (by (clear h this; omega))]
  unfold SetTable.below.go
  rfl
section
variable {prog : Program} {w : World} {A : Around} {I S T : Addr} {o : Obj} {es : Array (Int × Value)} {ep : Nat} {t : SetTable}
theorem walks_few (hh : A.handled = none) (hne : S ≠ I) (hd : o.data = .set es ep t) (hf : t.fits es.size = true) (hb : w.params.followText "set-order" = false) (h1 : es.size ≤ 1) (hl : es.size ≠ 0 → t.led = true) :
    Walks prog w A I [I, S] [I] es.size (fun i v => (es[i]?).map (·.2) = some v) (fun i h => (∃ slot, IsSetIter h I S (rawInt (slot : Nat)) i es.size ep ∧ (i = 0 → slot = 0) ∧ (i ≠ 0 → ∀ j, t.place[0]? = some j → slot = j + 1)) ∧ h.get? S = some o) where
  sub := fun b hb => by simp at hb; simp [hb]
  frame := fun _ _ _ st hk => ⟨let ⟨sl, h, r⟩ := st.1; ⟨sl, h.at fun o e => hk I (by simp) o e, r⟩, hk S (by simp) _ st.2⟩
  item := fun i s Q E hi st hQ => by
    obtain ⟨⟨slot, hI, h0, _⟩, hS⟩ := st
    have hi0 : i = 0 := by (clear hne; omega)
    subst hi0
    have := h0 rfl
    subst this
    have hs1 : es.size = 1 := by (clear hne; omega)
    have hps : t.place.size = 1 := by
      have := hf
      simp only [SetTable.fits, Bool.and_eq_true, beq_iff_eq] at this
      (clear hne hs1; omega)
    obtain ⟨e, he⟩ : ∃ e, es[0]? = some e := ⟨_, Array.getElem?_eq_getElem (by (exact hi))⟩
    obtain ⟨j, hj⟩ : ∃ j, t.place[0]? = some j := ⟨_, Array.getElem?_eq_getElem (by (clear hne h1 hi hs1; omega))⟩
    refine next_slot (slot := 0) (nx := j + 1) (x := e.2) hI hS hd hf rfl (fun A E Q' hq => setNext_few hS hd hf hb h1 hl (by rw [below_one0 hps, he, hj]; exact hq)) fun h' hI' hs' => ?_
    refine hQ _ h' s.toks (by rw [he]; rfl) ⟨⟨j + 1, hI', fun z => absurd z (by decide), fun _ j' hj' => ?_⟩, (hs'.2 S hne).trans hS⟩ fun b o hb e => (hs'.2 b (fun h => hb (by simp [h]))).trans e
    rw [hj] at hj'; cases hj'; rfl
  done := fun s Q E st hQ => by
    obtain ⟨⟨slot, hI, h0, h2⟩, hS⟩ := st
    refine end_slot (slot := slot) hh hI hS hd hf rfl (fun A E Q' hq => setNext_few hS hd hf hb h1 hl ?_) fun h' hx => ?_
    · by_cases hz : es.size = 0
      · have : es[SetTable.below t.place slot]? = none := Array.getElem?_eq_none (by (clear hne h1; omega))
        rw [this]; exact hq
      · have hps : t.place.size = 1 := by
          have := hf
          simp only [SetTable.fits, Bool.and_eq_true, beq_iff_eq] at this
          (clear hne; omega)
        obtain ⟨j, hj⟩ : ∃ j, t.place[0]? = some j := ⟨_, Array.getElem?_eq_getElem (by (clear hne h1 hz; omega))⟩
        rw [h2 (by (clear hne h1 hps; omega)) j hj, below_one1 hps hj]
        have : es[1]? = none := Array.getElem?_eq_none (by (exact h1))
        rw [this]; exact hq
    · exact hQ h' s.toks fun b o hb e => hx b o (fun h => hb (by simp [h])) e
  self := fun _ _ _ _ st hQ => let ⟨_, hI, _⟩ := st.1; selfSet hI hQ
end
end Mine

/-! # NqSrcSet -/
namespace Mine
theorem fm_range {α : Type} (es : Array α) : (List.range es.size).filterMap (fun j => es[j]?) = es.toList := by
  have : ∀ l : List α, (List.range l.length).filterMap (fun j => l[j]?) = l := by
    intro l
    induction l with
    | nil => rfl
    | cons a r ih =>
      rw [List.length_cons, List.range_succ_eq_map, List.filterMap_cons, List.filterMap_map]
      simp only [List.getElem?_cons_zero, Function.comp_def, List.getElem?_cons_succ]
      rw [ih]
  simpa using this es.toList
theorem elem_str {prog : Program} {w : World} {es : List (Int × Value)} (h : ElemsOf (strKind prog w) es) {e : Int × Value} (he : e ∈ es) : ∃ t, e.2 = .str (keyOf e.2) t := by
  obtain ⟨⟨k, hk, _⟩, _⟩ := h e he
  cases q : e.2 with
  | str x t => exact ⟨t, rfl⟩
  | _ => rw [q] at hk; simp [PySem.strKind, Value.isStrOf] at hk
section
variable {prog : Program} {w : World} {A : Around} {E : Value → Shared → Prop} {s : Shared} {g : Heap} {Q : Value → Shared → Prop} {target : Expr}
/-- a source whose iterator is one new object that reads others of the ground or new ones -/
theorem src_many {o : Obj} {T : String} {St : Nat → Heap → Prop} {P : Nat → Value → Prop} {n : Nat} {h' : Heap} {d : Drawn} {more : List Addr} (hg : Sub g h') (up : Sub s.heap h') (W : Walks prog w A h'.objs.size (h'.objs.size :: more) [h'.objs.size] n P St) (hf : o.isFreed = false) (hst : St 0 (h'.push o))
    (hm : ∀ x ∈ more, (∃ o, g.get? x = some o) ∨ (s.heap.get? x = none ∧ ∃ o, h'.get? x = some o))
    (hat : ∀ i h, St i h → ∃ o, h.get? h'.objs.size = some o ∧ o.cls = .type T)
    (hT : (["enumerate", "zip", "dict_itemiterator", "dict_reverseitemiterator", "odict_iterator", "itertools.zip_longest", "itertools.pairwise"].contains T) = false) :
    Src prog w A target n P s h'.objs.size { s with heap := h'.push o, drawn := d } g := by
  have hI : (h'.push o).get? h'.objs.size = some o := Heap.get?_push_size _ hf
  have hn : s.heap.get? h'.objs.size = none := ext_none fun o q => Nat.lt_irrefl _ (lts (up _ _ q))
  refine ⟨_, _, _, W, hst, ?_, ?_, ?_, ?_, ?_, ?_, ?_⟩
  · intro x hx; rw [List.mem_singleton] at hx; subst hx; exact hn
  · intro x hx; rw [List.mem_singleton] at hx; subst hx; exact ext_none fun o q => Nat.lt_irrefl _ (lts (hg _ _ q))
  · intro x hx
    rcases List.mem_cons.mp hx with rfl | hx
    · exact ⟨_, hI⟩
    · rcases hm x hx with ⟨o, q⟩ | ⟨_, o, q⟩
      · exact ⟨o, Heap.get?_push_of_some _ (hg _ _ q)⟩
      · exact ⟨o, Heap.get?_push_of_some _ q⟩
  · intro x hx
    rcases List.mem_cons.mp hx with rfl | hx
    · exact .inl hn
    · rcases hm x hx with h | ⟨h, _⟩
      · exact .inr h
      · exact .inl h
  · intro i h st x hx; rw [List.mem_singleton] at hx; subst hx; obtain ⟨o, q, _⟩ := hat i h st; exact ⟨o, q⟩
  · intro x hx; rw [List.mem_singleton] at hx; subst hx; exact ⟨_, hI⟩
  · intro i v s Q st hq
    obtain ⟨o, q, hc⟩ := hat i _ st
    exact own_of q hc hT hq
theorem src_set {S : Addr} {led : Bool} {ks : List Str} (hh : A.handled = none) (hg : Sub g s.heap) (hS : SetT prog w g S led ks) (hled : ks ≠ [] → led = ledOf w) (hsz : ks.length ≤ 1000)
    (h : ∀ I s₂ (ord : List Str), GoS [] s g s₂ g → (∀ k, k ∈ ord ↔ k ∈ ks) → Src prog w A target ord.length (fun i v => ∃ k t, ord[i]? = some k ∧ v = .str k t) s I s₂ g → Q (.ref I) s₂) : wpAny (model prog w) A (pyIter (.ref S)) Q E s := by
  obtain ⟨o, es, ep, t, hoG, hex, hd, hel, hmem, hb, hf, hl, hpl, hn⟩ := hS
  have ho := hg _ _ hoG
  have hlt := lts ho
  have key : ∀ L : List (Int × Value), List.Perm L es.toList → (∀ k, k ∈ L.map (fun e => keyOf e.2) ↔ k ∈ ks) ∧ ∀ (i : Nat) (v : Value), (L[i]?).map (·.2) = some v → ∃ k tt, (L.map (fun e => keyOf e.2))[i]? = some k ∧ v = .str k tt := by
    intro L hp
    refine ⟨fun k => ?_, fun i v hv => ?_⟩
    · rw [hmem k, List.mem_map]
      constructor
      · rintro ⟨e, he, rfl⟩
        have he' := hp.mem_iff.mp he
        obtain ⟨tt, q⟩ := elem_str hel he'
        exact ⟨e, he', by rw [q]; exact strKind_is ..⟩
      · rintro ⟨e, he, hk⟩
        obtain ⟨tt, q⟩ := elem_str hel he
        refine ⟨e, hp.mem_iff.mpr he, ?_⟩
        rw [q] at hk ⊢
        exact (strKind prog w).inj _ _ _ (strKind_is prog w _ tt) hk
    · cases q : L[i]? with
      | none => rw [q] at hv; cases hv
      | some e =>
        rw [q] at hv
        obtain rfl : e.2 = v := by simpa using hv
        obtain ⟨tt, qe⟩ := elem_str hel (hp.mem_iff.mp (List.mem_of_getElem? q))
        exact ⟨keyOf e.2, tt, by rw [List.getElem?_map, q]; rfl, qe⟩
  refine r_iterSet ho hex hd hf (by (clear hb hlt; omega)) (fun hc => ?_) (fun hc ys d hp h' T up hT hTne hTn => ?_)
  · cases hby : w.params.followText "set-order" with
    | true =>
      have hp := pick_perm (w.params.setOrder S ep) es
      obtain ⟨k1, k2⟩ := key _ hp
      refine h _ { s with heap := s.heap.push (iterObj (rawInt 0) S es.size ep), drawn := s.drawn } _ (go_keeps hg fun _ _ q => Heap.get?_push_of_some _ q) k1 ?_
      have hlen : ((pickOrder (w.params.setOrder S ep) es).toList.map fun e => keyOf e.2).length = es.size := by rw [List.length_map, hp.length_eq, Array.length_toList]
      rw [hlen]
      refine src_many (T := "set_iterator") (more := [S]) hg (Sub.refl _) ((walks_text hh (Nat.ne_of_lt hlt) hd hf hby).weaken fun i v hv => k2 i v (by simpa using hv)) rfl ⟨⟨_, Heap.get?_push_size _ rfl, rfl, rfl⟩, Heap.get?_push_of_some _ ho⟩ ?_ ?_ (by decide)
      · intro x hx; rw [List.mem_singleton] at hx; subst hx; exact .inl ⟨o, hoG⟩
      · rintro i hp ⟨⟨oi, q, hc, _⟩, _⟩; exact ⟨oi, q, hc⟩
    | false =>
      have h1 : es.size ≤ 1 := by
        rw [hby] at hc
        by_cases hz : es.size = 0
        · (clear hsz hb hn hlt; omega)
        · rw [hpl hz] at hc; simpa using hc
      obtain ⟨k1, k2⟩ := key _ (.refl _)
      have hl' : es.size ≠ 0 → t.led = true := fun hz => by
        have : ks ≠ [] := fun z => by rw [z] at hn; simp at hn; exact hz (by simpa using hn)
        rw [hl, hled this, ledOf, hby]; rfl
      refine h _ { s with heap := s.heap.push (iterObj (rawInt 0) S es.size ep), drawn := s.drawn } _ (go_keeps hg fun _ _ q => Heap.get?_push_of_some _ q) k1 ?_
      have hlen : (es.toList.map fun e => keyOf e.2).length = es.size := by rw [List.length_map, Array.length_toList]
      rw [hlen]
      refine src_many (T := "set_iterator") (more := [S]) hg (Sub.refl _) ((walks_few hh (Nat.ne_of_lt hlt) hd hf hby h1 hl').weaken fun i v hv => k2 i v (by simpa using hv)) rfl ⟨⟨0, ⟨_, Heap.get?_push_size _ rfl, rfl, rfl⟩, fun _ => rfl, fun z => absurd rfl z⟩, Heap.get?_push_of_some _ ho⟩ ?_ ?_ (by decide)
      · intro x hx; rw [List.mem_singleton] at hx; subst hx; exact .inl ⟨o, hoG⟩
      · rintro i hp ⟨⟨_, ⟨oi, q, hc, _⟩, _⟩, _⟩; exact ⟨oi, q, hc⟩
  · have hp' : List.Perm (ys.filterMap fun j => es[j]?) es.toList := by
      have := hp.filterMap (fun j => es[j]?)
      rwa [fm_range] at this
    obtain ⟨k1, k2⟩ := key _ hp'
    have hall : ∀ j ∈ ys, ∃ e, es[j]? = some e := fun j hj => ⟨_, Array.getElem?_eq_getElem (List.mem_range.mp (hp.mem_iff.mp hj))⟩
    have hget : ∀ i : Nat, (ys.filterMap fun j => es[j]?)[i]? = (ys[i]?).bind fun j => es[j]? := by
      clear hp hp' k1 k2 hT
      induction ys with
      | nil => intro i; simp
      | cons y ys ih =>
        intro i
        obtain ⟨e, he⟩ := hall y (.head _)
        rw [List.filterMap_cons, he]
        cases i with
        | zero => simp [he]
        | succ i => simpa using ih (fun j hj => hall j (.tail _ hj)) i
    refine h _ { s with heap := h'.push (iterObj (.ref T) S es.size ep), drawn := d } _ (go_keeps hg fun _ _ q => Heap.get?_push_of_some _ (up _ _ q)) k1 ?_
    have hlen : ((ys.filterMap fun j => es[j]?).map fun e => keyOf e.2).length = es.size := by rw [List.length_map, hp'.length_eq, Array.length_toList]
    rw [hlen]
    refine src_many (T := "set_iterator") (more := [S, T]) (hg.trans up) up ((walks_drawn hh (Nat.ne_of_lt (lts (up _ _ ho))) hTne hd hf hp).weaken fun i v hv => k2 i v ?_) rfl ⟨⟨_, Heap.get?_push_size _ rfl, rfl, rfl⟩, Heap.get?_push_of_some _ (up _ _ ho), isTup_mono (fun _ _ q => Heap.get?_push_of_some _ q) hT⟩ ?_ ?_ (by decide)
    · rw [hget, ← hv]; cases ys[i]? <;> rfl
    · intro x hx
      rcases List.mem_cons.mp hx with rfl | hx
      · exact .inl ⟨o, hoG⟩
      · rw [List.mem_singleton] at hx; subst hx
        obtain ⟨oT, q, _⟩ := hT
        exact .inr ⟨hTn, oT, q⟩
    · rintro i hp ⟨⟨oi, q, hc, _⟩, _⟩; exact ⟨oi, q, hc⟩
end
end Mine

/-! # NqInst -/
namespace Mine
theorem kGA (P : Params) : findIn (KK P) (.ref 79) "__getattribute__" = some (some (.builtin "object.__getattribute__")) := by kernel_rfl
theorem kGa (P : Params) : findIn (KK P) (.ref 79) "__getattr__" = some none := by kernel_rfl
theorem kSA (P : Params) : findIn (KK P) (.ref 79) "__setattr__" = some (some (.builtin "object.__setattr__")) := by kernel_rfl
theorem kNames (P : Params) : findIn (KK P) (.ref 79) "names" = some (some (.ref 76)) := by kernel_rfl
theorem kInit (P : Params) : findIn (KK P) (.ref 79) "__init__" = some (some (.ref 69)) := by kernel_rfl
theorem kNo1 (P : Params) : findIn (KK P) (.ref 79) "_mods" = some none := by kernel_rfl
theorem kNo2 (P : Params) : findIn (KK P) (.ref 79) "_dirs" = some none := by kernel_rfl
theorem kNo3 (P : Params) : findIn (KK P) (.ref 79) "_ignore" = some none := by kernel_rfl
theorem kPlain (P : Params) : plainOver (KK P) 79 = true := by kernel_rfl
theorem kHas (P : Params) : hasDictIn (KK P) 79 = true := by kernel_rfl
theorem kMakes (P : Params) : makesIn (KK P) 79 = true := by kernel_rfl
theorem kFn76 (P : Params) : typeIn (KK P) (.ref 76) = some (.type "function") := by kernel_rfl
theorem kFn69 (P : Params) : typeIn (KK P) (.ref 69) = some (.type "function") := by kernel_rfl

structure Inst (h : Heap) (x dx : Addr) (es : List DictEntry) (n : Nat) : Prop where
  at_ : h.get? x = some (instObj 79 dx)
  dict : h.get? dx = some (PySem.W.dictOf es n)
theorem Inst.mono {h h' : Heap} {x dx : Addr} {es : List DictEntry} {n : Nat} (I : Inst h x dx es n) (k : Sub h h') : Inst h' x dx es n := ⟨k _ _ I.at_, k _ _ I.dict⟩
theorem Inst.inst {h : Heap} {x dx : Addr} {es : List DictEntry} {n : Nat} (I : Inst h x dx es n) : InstAt h x (instObj 79 dx) 79 (some (PySem.W.dictOf es n)) := ⟨I.at_, rfl, rfl, I.dict⟩

section
variable {prog : Program} {w : World} {A : Around} {E : Value → Shared → Prop} {s : Shared} {g : Heap} {Q : Value → Shared → Prop} {x dx : Addr} {es : List DictEntry} {n : Nat} {name : Str} {v : Value} {expr : Bool}
theorem x_attr (I : Inst s.heap x dx es n) (B : Bs w s.heap) (hn : findIn (KK w.params) (.ref 79) name = some none) (hl : getL name es = some (some v)) (hv : handedIn v = true) (h : ∀ tk, Q v { s with toks := tk }) : wpAny (model prog w) A (getAttr (.ref x) name expr) Q E s :=
  get_value B.K I.inst (kGA _) (findObj_own (attr := none) (kHas _) hn rfl hl) hv (h _)
theorem x_method {Q : Value × List Value → Shared → Prop} {pl : Sem Bool} (I : Inst s.heap x dx es n) (B : Bs w s.heap) (hl : getL "names" es = some none) (h : Q (.ref 76, [.ref x]) s) : wpAny (model prog w) A (getMethod (.ref x) "names" pl) Q E s :=
  method_fn B.K I.inst (kGA _) (kGa _) (kNames _) (kFn76 _) (by show (lookIn "names" (PySem.W.dictOf es n)).map (·.isSome) = some false; rw [show lookIn "names" (PySem.W.dictOf es n) = getL "names" es from rfl, hl]; rfl) h
end
end Mine

/-! # NqNames0 -/
namespace Mine
noncomputable abbrev Ign := Str → Option Int
noncomputable def IgnAt (prog : Program) (w : World) (h : Heap) (I : Addr) (ign : Ign) (n : Nat) : Prop :=
  ∃ kvs : List (Str × Value), h.DictOf (PySem.strKind prog w) I kvs ∧ kvs.length ≤ n ∧ ∀ k, (∀ r, ign k = some r → ∃ t, PySem.valueAt kvs k = some (.int r t)) ∧ (ign k = none → PySem.valueAt kvs k = none)
theorem IgnAt.at {prog : Program} {w : World} {h h' : Heap} {I : Addr} {ign : Ign} {n : Nat} (x : IgnAt prog w h I ign n) (k : ∀ o, h.get? I = some o → h'.get? I = some o) : IgnAt prog w h' I ign n := by
  obtain ⟨kvs, hd, r⟩ := x; exact ⟨kvs, hd.at k, r⟩
theorem IgnAt.live {prog : Program} {w : World} {h : Heap} {I : Addr} {ign : Ign} {n : Nat} (x : IgnAt prog w h I ign n) : ∃ o, h.get? I = some o := by
  obtain ⟨kvs, ⟨o, es, ep, ho, _⟩, r⟩ := x; exact ⟨o, ho⟩
theorem IgnAt.le {prog : Program} {w : World} {h : Heap} {I : Addr} {ign : Ign} {n m : Nat} (x : IgnAt prog w h I ign n) (k : n ≤ m) : IgnAt prog w h I ign m := by
  obtain ⟨kvs, hd, hl, r⟩ := x; exact ⟨kvs, hd, Nat.le_trans hl k, r⟩
noncomputable def putI (ign : Ign) (k : Str) (r : Int) : Ign := fun y => if y = k then some r else ign y
theorem valueAt_snoc (kvs : List (Str × Value)) (k : Str) (v : Value) (k' : Str) : PySem.valueAt (kvs ++ [(k, v)]) k' = (PySem.valueAt kvs k').or (if k = k' then some v else none) := by
  unfold PySem.valueAt
  rw [List.find?_append]
  cases q : kvs.find? (fun kv => decide (kv.1 = k')) with
  | some a => simp
  | none =>
    by_cases hk : k = k' <;> simp [hk]
theorem stored_new {kvs : List (Str × Value)} {k : Str} {v : Value} (h : PySem.valueAt kvs k = none) : PySem.stored kvs k v = kvs ++ [(k, v)] := by
  unfold PySem.stored
  have : kvs.any (fun kv => decide (kv.1 = k)) = false := by rw [← PyProof.Rows.valueAt_isSome_eq_any, h]; rfl
  rw [this]; simp

structure Reader (prog : Program) (w : World) (g : Heap) (x S Ld I : Addr) (mods dirs : List Str) : Prop where
  inst : ∃ dx es n, Inst g x dx es n ∧ getL "_mods" es = some (some (.ref S)) ∧ getL "_dirs" es = some (some (.ref Ld)) ∧ getL "_ignore" es = some (some (.ref I)) ∧ getL "names" es = some none
  mods : ∃ led, SetT prog w g S led mods ∧ (mods ≠ [] → led = ledOf w)
  dirs : Rep g (texts dirs) (.ref Ld)
  low : (I == sysModules) = false
theorem Reader.mono {prog : Program} {w : World} {g g' : Heap} {x S Ld I : Addr} {mods dirs : List Str} (R : Reader prog w g x S Ld I mods dirs) (k : Sub g g') : Reader prog w g' x S Ld I mods dirs :=
  ⟨let ⟨dx, es, n, i, r⟩ := R.inst; ⟨dx, es, n, i.mono k, r⟩, let ⟨led, h, r⟩ := R.mods; ⟨led, h.at fun o q => k _ _ q, r⟩, R.dirs.mono k, R.low⟩

section
variable {prog : Program} {w : World} {A : Around} {E : Value → Shared → Prop} {s : Shared} {g : Heap} {D : List Addr} {e : Ent} {env : Env} {ρ : Str → Option Value} {x S Ld I : Addr} {mods dirs : List Str} {y : Str} {p p' : Pos} {Q : Value → Shared → Prop}
theorem at_ign (F : FmS D e env ρ s g) (B : Bs w g) (R : Reader prog w g x S Ld I mods dirs) (hv : ρ y = some (.ref x)) (h : ∀ tk, Q (.ref I) { s with toks := tk })
    (hk : env.scope.kind = .function := by rfl) (hl : env.kindOf y = some .local := by rfl) (hd : (y == ("__debug__" : Str)) = false := by decide) : wpAny (model prog w) A (eval (.Attribute (.Name y p) "_ignore" p') env) Q E s := by
  obtain ⟨dx, es, n, i, h1, h2, h3, h4⟩ := R.inst
  refine Attribute_name (nm_local F hv ?_ hk hl hd)
  exact x_attr (i.mono F.sub) (B.keeps F.sub) (kNo3 _) h3 rfl h
theorem at_mods (F : FmS D e env ρ s g) (B : Bs w g) (R : Reader prog w g x S Ld I mods dirs) (hv : ρ y = some (.ref x)) (h : ∀ tk, Q (.ref S) { s with toks := tk })
    (hk : env.scope.kind = .function := by rfl) (hl : env.kindOf y = some .local := by rfl) (hd : (y == ("__debug__" : Str)) = false := by decide) : wpAny (model prog w) A (eval (.Attribute (.Name y p) "_mods" p') env) Q E s := by
  obtain ⟨dx, es, n, i, h1, h2, h3, h4⟩ := R.inst
  refine Attribute_name (nm_local F hv ?_ hk hl hd)
  exact x_attr (i.mono F.sub) (B.keeps F.sub) (kNo1 _) h1 rfl h
theorem at_dirs (F : FmS D e env ρ s g) (B : Bs w g) (R : Reader prog w g x S Ld I mods dirs) (hv : ρ y = some (.ref x)) (h : ∀ tk, Q (.ref Ld) { s with toks := tk })
    (hk : env.scope.kind = .function := by rfl) (hl : env.kindOf y = some .local := by rfl) (hd : (y == ("__debug__" : Str)) = false := by decide) : wpAny (model prog w) A (eval (.Attribute (.Name y p) "_dirs" p') env) Q E s := by
  obtain ⟨dx, es, n, i, h1, h2, h3, h4⟩ := R.inst
  refine Attribute_name (nm_local F hv ?_ hk hl hd)
  exact x_attr (i.mono F.sub) (B.keeps F.sub) (kNo2 _) h2 rfl h

theorem r_ignPut {QU : Unit → Shared → Prop} {ign : Ign} {n : Nat} {nm : Str} {tn tr : Tok} {r : Int} (F : FmS D e env ρ s g) (hID : I ∈ D ∨ e.h.get? I = none) (hIF : ¬ FrameAt env I) (hI : g.get? I = none) (hig : IgnAt prog w s.heap I ign n) (hno : ign nm = none) (hn : n ≤ 100000)
    (h : ∀ s', FmS D e env ρ s' g → IgnAt prog w s'.heap I (putI ign nm r) (n + 1) → QU () s') : wpAny (model prog w) A (setItem (.ref I) (.str nm tn) (.int r tr)) QU E s := by
  obtain ⟨kvs, hd, hl, hk⟩ := hig
  have h0 := (hk nm).2 hno
  refine wpAny_setItem_pairs (strKind_is prog w nm tn) hd (fun h' hd' hs' => ?_) (by rw [sizeLine_eq]; (clear hID hIF; omega))
  rw [stored_new h0] at hd'
  obtain ⟨o', es, ep, ho', _⟩ := id hd'
  refine h _ (F.chg (a := I) hID hIF hI hs' ho') ⟨_, hd', by simp; (exact hl), fun k => ?_⟩
  rw [valueAt_snoc]
  by_cases hkn : nm = k
  · subst hkn
    simp [putI, h0]
  · have hkn' : ¬ k = nm := fun z => hkn z.symm
    simp only [putI, hkn', hkn, if_false, Option.or_none]
    exact hk k

theorem put_ret {L : Addr} {QF : Flow → Shared → Prop} {ign : Ign} {n : Nat} {nm : Str} {tn : Tok} {r : Int} {p1 p2 p3 p4 p5 p6 p7 p8 : Pos} (F : FmS [I] e (callEnvC fNames.fd L 76) ρ s g) (B : Bs w g) (R : Reader prog w g x S Ld I mods dirs) (hv : ρ "self" = some (.ref x)) (hm : ρ "modulename" = some (.str nm tn))
    (hIF : ¬ FrameAt (callEnvC fNames.fd L 76) I) (hI : g.get? I = none) (hig : IgnAt prog w s.heap I ign n) (hno : ign nm = none) (hn : n ≤ 100000)
    (h : ∀ s' t, FmS [I] e (callEnvC fNames.fd L 76) ρ s' g → IgnAt prog w s'.heap I (putI ign nm r) (n + 1) → QF (.ret (.int r t)) s') :
    wpAny (model prog w) A (execs [.Assign [.Subscript (.Attribute (.Name "self" p1) "_ignore" p2) (.Name "modulename" p3) p4] (.Constant (.int r) 0 p5) p6, .Return (some (.Constant (.int r) 0 p7)) p8] (callEnvC fNames.fd L 76)) QF E s := by
  refine wpAny_execs_cons ?_
  refine wpAny_Assign_Subscript ?_
  refine x_int fun t1 tk₁ => ?_
  refine at_ign F B R hv fun tk₂ => ?_
  refine nm_local F hm ?_
  have F₂ : FmS [I] e (callEnvC fNames.fd L 76) ρ { s with toks := tk₂ } g := F
  refine r_ignPut (s := { s with toks := tk₂ }) F₂ (.inl (.head _)) hIF hI hig hno hn fun s₃ F₃ h₃ => ?_
  refine wpAny_execs_cons ?_
  refine wpAny_Return_some ?_
  refine x_int fun t2 tk₄ => ?_
  exact h _ _ F₃ h₃
end
end Mine

/-! # NqNames -/
namespace Mine
noncomputable def FileV (file : Option Str) (v : Value) : Prop := match file with
  | none => v = .none
  | some f => ∃ t, v = .str f t
noncomputable def modHit (mods : List Str) (nm : Str) : Bool := decide (nm ∈ mods) || mods.any fun m => Txt.startswith nm (m ++ Str.ofString ".")
noncomputable def dirHit (dirs : List Str) (file : Option Str) : Bool := match file with
  | none => true
  | some f => dirs.any fun d => Txt.startswith f (d ++ Str.ofString "/")
noncomputable def newI (mods dirs : List Str) (file : Option Str) (nm : Str) : Int := if modHit mods nm || dirHit dirs file then 1 else 0
noncomputable def ansI (mods dirs : List Str) (ign : Ign) (file : Option Str) (nm : Str) : Int := (ign nm).getD (newI mods dirs file nm)
noncomputable def nextI (mods dirs : List Str) (ign : Ign) (file : Option Str) (nm : Str) : Ign := match ign nm with
  | some _ => ign
  | none => putI ign nm (newI mods dirs file nm)

section
variable {prog : Program} {w : World} {A : Around} {E : Value → Shared → Prop} {s : Shared} {g : Heap} {Q : Value → Shared → Prop}
theorem c_names {x S Ld I : Addr} {mods dirs : List Str} {ign : Ign} {n : Nat} {vf : Value} {file : Option Str} {nm : Str} {tn : Tok} (hh : A.handled = none) (hA : A.depth < recursionLimit) (hg : Sub g s.heap) (B : Bs w g) (R : Reader prog w g x S Ld I mods dirs)
    (hI : g.get? I = none) (hig : IgnAt prog w s.heap I ign n) (hf : FileV file vf) (hn : n ≤ 1000) (hml : mods.length ≤ 1000) (hms : ∀ m ∈ mods, m.length ≤ 1000) (hds : ∀ d ∈ dirs, d.length ≤ 1000)
    (h : ∀ s' g' t, GoS [I] s g s' g' → IgnAt prog w s'.heap I (nextI mods dirs ign file nm) (n + 1) → Q (.int (ansI mods dirs ign file nm) t) s') : wpAny (model prog w) A (call (.ref 76) [.ref x, vf, .str nm tn]) Q E s := by
  refine callFn fNames (D := [I]) (binds := [("self", .ref x), ("filename", vf), ("modulename", .str nm tn)]) (by (exact hA)) hg B rfl (BindsTo.of_eq rfl) rfl (fun L s₁ A' hh' hd' hu' F C hk => ?_)
  rw [hh] at hh'
  obtain ⟨oI, hoI⟩ := hig.live
  have hIF : ¬ FrameAt (callEnvC fNames.fd L 76) I := by
    rintro (z | ⟨m, z⟩)
    · have := F.fresh; rw [← z] at this; rw [show (Ent.of s g).h.get? I = some oI from hoI] at this; cases this
    · have := C.fresh _ _ z; rw [show (Ent.of s g).h.get? I = some oI from hoI] at this; cases this
  have hig₁ : IgnAt prog w s₁.heap I ign n := hig.at fun o q => hk _ _ q
  have hself : (fun y => List.lookup y ([("self", Value.ref x), ("filename", vf), ("modulename", .str nm tn)] : List (Str × Value)).reverse) (Str.ofString "self") = some (.ref x) := rfl
  have hfile : (fun y => List.lookup y ([("self", Value.ref x), ("filename", vf), ("modulename", .str nm tn)] : List (Str × Value)).reverse) (Str.ofString "filename") = some vf := rfl
  have hmod : (fun y => List.lookup y ([("self", Value.ref x), ("filename", vf), ("modulename", .str nm tn)] : List (Str × Value)).reverse) (Str.ofString "modulename") = some (.str nm tn) := rfl
  refine wpAny_execs_cons ?_
  refine wpAny_If ?_
  refine wpAny_isTrue_Compare1 ?_
  refine nm_local F hmod ?_
  refine at_ign F B R hself fun tk₁ => ?_
  obtain ⟨kvs, hd, hl, hkv⟩ := id hig₁
  refine wpAny_in_of (s := { s₁ with toks := tk₁ }) (strKind_is prog w nm tn) R.low hd.mapOf ?_
  refine wpAny_truthy_bool ?_
  cases hin : ign nm with
  | some r =>
    obtain ⟨t, hv⟩ := (hkv nm).1 r hin
    rw [hv]
    simp only [Option.isSome_some, if_true]
    refine wpAny_execs_cons ?_
    refine wpAny_Return_some ?_
    refine Subscript_ ?_
    refine at_ign F B R hself fun tk₂ => ?_
    refine nm_local F hmod ?_
    refine tail_any (s := { s₁ with toks := tk₂ }) hd.typeIs slot_dict_getitem.lookup ?_ rfl
    refine wpAny_getItem_of (strKind_is prog w nm tn) hd.mapOf hv ?_
    have e1 : ansI mods dirs ign file nm = r := by simp [ansI, hin]
    have e2 : nextI mods dirs ign file nm = ign := by simp [nextI, hin]
    have := h { s₁ with toks := tk₂ + 1 } g t F.go (by rw [e2]; exact hig₁.le (Nat.le_succ _))
    rw [e1] at this; exact this
  | none =>
    have e1 : ansI mods dirs ign file nm = newI mods dirs file nm := by simp [ansI, hin]
    have e2 : nextI mods dirs ign file nm = putI ign nm (newI mods dirs file nm) := by simp [nextI, hin]
    rw [e1, e2] at h
    rw [(hkv nm).2 hin]
    simp only [Option.isSome_none, Bool.false_eq_true, if_false]
    refine wpAny_execs_nil ?_
    refine wpAny_execs_cons ?_
    refine wpAny_If ?_
    refine wpAny_isTrue_Compare1 ?_
    refine nm_local F hmod ?_
    refine at_mods F B R hself fun tk₂ => ?_
    obtain ⟨led, hS, hled⟩ := R.mods
    obtain ⟨ns, hns, hSO⟩ := (hS.at fun o q => F.sub _ _ q : SetT prog w s₁.heap S led mods).setOf
    refine wpAny_inSet_of (s := { s₁ with toks := tk₂ }) (strKind_is prog w nm tn) rfl hSO ?_
    refine wpAny_truthy_bool ?_
    by_cases hmem : nm ∈ mods
    · rw [decide_eq_true hmem]
      simp only [if_true]
      have e3 : newI mods dirs file nm = 1 := by simp [newI, modHit, hmem]
      rw [e3] at h
      exact put_ret (s := { s₁ with toks := tk₂ + 1 }) F B R hself hmod hIF hI hig₁ hin (by (exact Nat.le_trans hn (Nat.le_of_ble_eq_true rfl))) fun s₃ t F₃ h₃ => h _ _ _ F₃.go h₃
    · rw [decide_eq_false hmem]
      simp only [Bool.false_eq_true, if_false]
      refine wpAny_execs_nil ?_
      refine wpAny_execs_cons ?_
      refine wpAny_For ?_
      have F₂ : FmS [I] _ _ _ ({ s₁ with toks := tk₂ + 1 } : Shared) g := F
      have hig₂ : IgnAt prog w ({ s₁ with toks := tk₂ + 1 } : Shared).heap I ign n := hig₁
      generalize ({ s₁ with toks := tk₂ + 1 } : Shared) = s₂ at F₂ hig₂
      refine at_mods F₂ B R hself fun tk₃ => ?_
      have F₃ : FmS [I] _ _ _ ({ s₂ with toks := tk₃ } : Shared) g := F₂
      have hig₃ : IgnAt prog w ({ s₂ with toks := tk₃ } : Shared).heap I ign n := hig₂
      generalize ({ s₂ with toks := tk₃ } : Shared) = s₃ at F₃ hig₃
      refine src_set (target := .Name (Str.ofString "mod") ⟨82, 12, 82, 15⟩) hh' F₃.sub hS hled hml fun It s₄ ord G₄ hord Src₄ => ?_
      have hig₄ : IgnAt prog w s₄.heap I ign n := hig₃.at fun o q => G₄.keep I o (by simp) q
      let Inv : Nat → (Str → Option Value) → Heap → Heap → Prop := fun i ρ g h => ρ (Str.ofString "self") = some (.ref x) ∧ ρ (Str.ofString "modulename") = some (.str nm tn) ∧ ρ (Str.ofString "filename") = some vf ∧ g.get? I = none ∧ IgnAt prog w h I ign n ∧ ∀ m ∈ ord.take i, Txt.startswith nm (m ++ Str.ofString ".") = false
      let Rt : Value → Heap → Heap → Prop := fun v g h => (∃ t, v = .int 1 t) ∧ IgnAt prog w h I (putI ign nm 1) (n + 1) ∧ ∃ m ∈ mods, Txt.startswith nm (m ++ Str.ofString ".") = true
      refine forSrc (D := [I]) Inv Rt F₃ G₄ Src₄ (by intro x hx; rw [List.mem_singleton] at hx; subst hx; exact hig₃.live) (by intro x hx; rw [List.mem_singleton] at hx; subst hx; exact hI) ?_ ?_ ?_ ?_ ?_
      · exact ⟨hself, hmod, hfile, hI, hig₄, fun m hm => by simp at hm⟩
      · rintro i ρ g' h h' ⟨h1, h2, h3, h4, h5, h6⟩ k
        exact ⟨h1, h2, h3, h4, h5.at fun o q => k I (.head _) o q, h6⟩
      · rintro i v s₅ g₅ e₅ ρ₅ hi ⟨m, tm, hm, rfl⟩ F₅ hg₅ ⟨h1, h2, h3, h4, h5, h6⟩
        have B₅ := B.keeps hg₅
        have R₅ := R.mono hg₅
        have hmm : m ∈ mods := (hord m).mp (List.mem_of_getElem? hm)
        refine wpAny_assign_Name (st_local F₅ fun s₆ F₆ k₆ => ?_)
        have hig₆ : IgnAt prog w s₆.heap I ign n := h5.at fun o q => k₆ I o (fun z => hIF (.inl z)) q
        refine wpAny_execs_cons ?_
        refine wpAny_If ?_
        refine isTrue_plain ?_
        refine meth_str PySem.F.slot_str_startswith PySem.F.type_str_startswith ?_
        refine nm_local F₆ (Eq.trans upd_ne h2) ?_
        refine ⟨_, _, rfl, ?_⟩
        refine cw_blt ?_
        refine sp_cons ?_
        refine wpAny_BinOp ?_
        refine nm_local F₆ upd_eq ?_
        refine x_str fun _ _ => ?_
        refine x_cat (fun _ tk₇ => ?_) (by have := hms m hmm; have z1 : (Str.ofString ".").length = 1 := by decide
                                           rw [sizeLine_eq]; (clear hA hn hml hd' hu' hIF hl e1 hns hmem hi; omega))
        refine sp_nil ?_
        refine SC.startswith ?_
        refine wpAny_truthy_bool ?_
        cases hst : Txt.startswith nm (m ++ Str.ofString ".") with
        | true =>
          simp only [if_true]
          refine put_ret (s := { s₆ with toks := tk₇ }) F₆ B₅ R₅ (Eq.trans upd_ne h1) (Eq.trans upd_ne h2) hIF h4 hig₆ hin (by (exact Nat.le_trans hn (Nat.le_of_ble_eq_true rfl))) fun s₇ t F₇ h₇ => ?_
          exact ⟨_, _, F₇, ⟨t, rfl⟩, h₇, m, hmm, hst⟩
        | false =>
          simp only [Bool.false_eq_true, if_false]
          refine wpAny_execs_nil ?_
          refine wpAny_execs_nil ?_
          refine ⟨g₅, _, F₆, Eq.trans upd_ne h1, Eq.trans upd_ne h2, Eq.trans upd_ne h3, h4, hig₆, fun m' hm' => ?_⟩
          rw [List.take_add_one, hm] at hm'
          rcases List.mem_append.mp hm' with hm' | hm'
          · exact h6 m' hm'
          · simp at hm'; subst hm'; exact hst
      · rintro s₅ g₅ ρ₅ F₅ hg₅ ⟨h1, h2, h3, h4, h5, h6⟩
        have B₅ := B.keeps hg₅
        have R₅ := R.mono hg₅
        rw [List.take_of_length_le (Nat.le_refl _)] at h6
        have hmh : modHit mods nm = false := by
          unfold modHit
          rw [decide_eq_false hmem, Bool.false_or, List.any_eq_false]
          intro m hm
          have := h6 m ((hord m).mpr hm)
          rw [this]; exact Bool.false_ne_true
        refine wpAny_execs_cons ?_
        refine wpAny_If ?_
        refine wpAny_isTrue_Compare1 ?_
        refine nm_local F₅ h3 ?_
        refine wpAny_Constant_none ?_
        cases file with
        | none =>
          have hvf : vf = .none := hf
          subst hvf
          refine wpAny_is_self rfl ?_
          refine wpAny_truthy_bool ?_
          simp only [if_true]
          have e3 : newI mods dirs none nm = 1 := by simp [newI, dirHit]
          rw [e3] at h
          exact put_ret F₅ B₅ R₅ h1 h2 hIF h4 h5 hin (by (exact Nat.le_trans hn (Nat.le_of_ble_eq_true rfl))) fun s₆ t F₆ h₆ => h _ _ _ F₆.go h₆
        | some f =>
          obtain ⟨tf, rfl⟩ : ∃ t, vf = .str f t := hf
          refine wpAny_is_other rfl (by intro z; cases z) ?_
          refine wpAny_truthy_bool ?_
          simp only [Bool.false_eq_true, if_false]
          refine wpAny_execs_nil ?_
          refine wpAny_execs_cons ?_
          refine wpAny_For ?_
          refine at_dirs F₅ B₅ R₅ h1 fun tk₆ => ?_
          have F₆ : FmS [I] _ _ _ ({ s₅ with toks := tk₆ } : Shared) g₅ := F₅
          have hig₆ : IgnAt prog w ({ s₅ with toks := tk₆ } : Shared).heap I ign n := h5
          generalize ({ s₅ with toks := tk₆ } : Shared) = s₆ at F₆ hig₆
          refine src_list (target := .Name (Str.ofString "d") ⟨89, 12, 89, 13⟩) hh' F₆.sub R₅.dirs fun I₂ s₇ G₇ S₇ => ?_
          have hig₇ : IgnAt prog w s₇.heap I ign n := hig₆.at fun o q => G₇.keep I o (by simp) q
          let Inv2 : Nat → (Str → Option Value) → Heap → Heap → Prop := fun i ρ g h => ρ (Str.ofString "self") = some (.ref x) ∧ ρ (Str.ofString "modulename") = some (.str nm tn) ∧ ρ (Str.ofString "filename") = some (.str f tf) ∧ g.get? I = none ∧ IgnAt prog w h I ign n ∧ ∀ d ∈ dirs.take i, Txt.startswith f (d ++ Str.ofString "/") = false
          let Rt2 : Value → Heap → Heap → Prop := fun v g h => (∃ t, v = .int 1 t) ∧ IgnAt prog w h I (putI ign nm 1) (n + 1) ∧ ∃ d ∈ dirs, Txt.startswith f (d ++ Str.ofString "/") = true
          refine forSrc (D := [I]) Inv2 Rt2 F₆ G₇ S₇ (by intro x hx; rw [List.mem_singleton] at hx; subst hx; exact hig₆.live) (by intro x hx; rw [List.mem_singleton] at hx; subst hx; exact h4) ?_ ?_ ?_ ?_ ?_
          · exact ⟨h1, h2, h3, h4, hig₇, fun m hm => by simp at hm⟩
          · rintro i ρ g' h h' ⟨h1, h2, h3, h4, h5, h6⟩ k
            exact ⟨h1, h2, h3, h4, h5.at fun o q => k I (.head _) o q, h6⟩
          · rintro i v s₈ g₈ e₈ ρ₈ hi ⟨dd, hdd, hrd⟩ F₈ hg₈ ⟨j1, j2, j3, j4, j5, j6⟩
            have B₈ := B₅.keeps hg₈
            have R₈ := R₅.mono hg₈
            rw [List.length_map] at hi
            obtain ⟨d, hd, rfl⟩ : ∃ d, dirs[i]? = some d ∧ Dt.str d = dd := by
              rw [List.getElem?_map] at hdd
              cases q : dirs[i]? with
              | none => rw [q] at hdd; cases hdd
              | some n => rw [q] at hdd; exact ⟨n, rfl, by simpa using hdd⟩
            have hdm := List.mem_of_getElem? hd
            obtain ⟨td, rfl⟩ := hrd.str_inv
            refine wpAny_assign_Name (st_local F₈ fun s₉ F₉ k₉ => ?_)
            have hig₉ : IgnAt prog w s₉.heap I ign n := j5.at fun o q => k₉ I o (fun z => hIF (.inl z)) q
            obtain ⟨ts, hsep⟩ := gSep w.params
            refine wpAny_execs_cons ?_
            refine wpAny_If ?_
            refine isTrue_plain ?_
            refine meth_str PySem.F.slot_str_startswith PySem.F.type_str_startswith ?_
            refine nm_local F₉ (Eq.trans upd_ne j3) ?_
            refine ⟨_, _, rfl, ?_⟩
            refine cw_blt ?_
            refine sp_cons ?_
            refine wpAny_BinOp ?_
            refine nm_local F₉ upd_eq ?_
            refine nm_glob F₉ B₈ hsep ?_
            refine x_cat (s := s₉) (tk := s₉.toks) (fun _ tk₁₀ => ?_) (by have := hds d hdm; have z1 : (Str.ofString "/").length = 1 := by decide
                                                                          rw [sizeLine_eq]; (clear hA hn hml hd' hu' hIF hl hns hmem e1 hi; omega))
            refine sp_nil ?_
            refine SC.startswith ?_
            refine wpAny_truthy_bool ?_
            cases hst : Txt.startswith f (d ++ Str.ofString "/") with
            | true =>
              simp only [if_true]
              refine put_ret (s := { s₉ with toks := tk₁₀ }) F₉ B₈ R₈ (Eq.trans upd_ne j1) (Eq.trans upd_ne j2) hIF j4 hig₉ hin (by (exact Nat.le_trans hn (Nat.le_of_ble_eq_true rfl))) fun s₁₀ t F₁₀ h₁₀ => ?_
              exact ⟨_, _, F₁₀, ⟨t, rfl⟩, h₁₀, d, hdm, hst⟩
            | false =>
              simp only [Bool.false_eq_true, if_false]
              refine wpAny_execs_nil ?_
              refine wpAny_execs_nil ?_
              refine ⟨g₈, _, F₉, Eq.trans upd_ne j1, Eq.trans upd_ne j2, Eq.trans upd_ne j3, j4, hig₉, fun m' hm' => ?_⟩
              rw [List.take_add_one, hd] at hm'
              rcases List.mem_append.mp hm' with hm' | hm'
              · exact j6 m' hm'
              · simp at hm'; subst hm'; exact hst
          · rintro s₈ g₈ ρ₈ F₈ hg₈ ⟨j1, j2, j3, j4, j5, j6⟩
            rw [List.length_map, List.take_of_length_le (Nat.le_refl _)] at j6
            have e3 : newI mods dirs (some f) nm = 0 := by
              have hdh : dirHit dirs (some f) = false := by
                unfold dirHit
                rw [List.any_eq_false]
                intro d hd
                rw [j6 d hd]; exact Bool.false_ne_true
              simp [newI, hmh, hdh]
            rw [e3] at h
            exact put_ret F₈ (B₅.keeps hg₈) (R₅.mono hg₈) j1 j2 hIF j4 j5 hin (by (exact Nat.le_trans hn (Nat.le_of_ble_eq_true rfl))) fun s₉ t F₉ h₉ => h _ _ _ F₉.go h₉
          · rintro v s₈ g₈ ρ₈ F₈ hg₈ ⟨⟨t, rfl⟩, hi₈, d, hdm, hst⟩
            have e3 : newI mods dirs (some f) nm = 1 := by
              have hdh : dirHit dirs (some f) = true := by
                unfold dirHit
                exact List.any_eq_true.mpr ⟨d, hdm, hst⟩
              simp [newI, hdh]
            rw [e3] at h
            exact h _ _ _ F₈.go hi₈
      · rintro v s₅ g₅ ρ₅ F₅ hg₅ ⟨⟨t, rfl⟩, hi₅, m, hmm, hst⟩
        have e3 : newI mods dirs file nm = 1 := by
          have hdh : modHit mods nm = true := by
            unfold modHit
            rw [Bool.or_eq_true]
            exact .inr (List.any_eq_true.mpr ⟨m, hmm, hst⟩)
          simp [newI, hdh]
        rw [e3] at h
        exact h _ _ _ F₅.go hi₅
end
end Mine

/-! # NqMake0 -/
namespace Mine
theorem kKeep (P : Params) : keepIn (KK P) (.ref 79) = true := by kernel_rfl
theorem d64 (P : Params) : ∃ n, (KK P).lookup 64 = some ⟨.type "tuple", none, .seq #[.none, .none] n, #[]⟩ := ⟨_, rfl⟩
theorem kT1 (P : Params) : takerIn (KK P) 79 "_mods" = some none := by kernel_rfl
theorem kT2 (P : Params) : takerIn (KK P) 79 "_dirs" = some none := by kernel_rfl
theorem kT3 (P : Params) : takerIn (KK P) 79 "_ignore" = some none := by kernel_rfl
noncomputable def noH : Heap := { objs := #[] }
theorem noH_get (b : Addr) : noH.get? b = none := rfl
noncomputable def others (L d : Addr) (h : Heap) : List (Addr × Obj) := (List.range h.objs.size).filterMap fun (b : Nat) => if b = L ∨ b = d then none else (h.get? b).map fun o => ((b : Addr), o)
theorem others_mem {L d : Addr} {h : Heap} {b : Addr} {o : Obj} : (b, o) ∈ others L d h ↔ b ≠ L ∧ b ≠ d ∧ h.get? b = some o := by
  unfold others
  rw [List.mem_filterMap]
  constructor
  · rintro ⟨c, _, hc⟩
    split at hc
    · cases hc
    · rename_i hn
      cases q : h.get? c with
      | none => rw [q] at hc; cases hc
      | some o' =>
        rw [q] at hc
        simp only [Option.map_some, Option.some.injEq, Prod.mk.injEq] at hc
        obtain ⟨rfl, rfl⟩ := hc
        exact ⟨fun z => hn (.inl z), fun z => hn (.inr z), q⟩
  · rintro ⟨h1, h2, h3⟩
    refine ⟨b, List.mem_range.mpr (lts h3), ?_⟩
    have h12 : ¬ (b = L ∨ b = d) := fun z => z.elim h1 h2
    rw [if_neg h12, h3]; rfl

theorem putL_len (name : Str) (hsh : Int) (key v : Value) : ∀ es : List DictEntry, (putL name hsh key v es).length ≤ es.length + 1
  | [] => by simp [putL]
  | e :: r => by
    unfold putL
    split
    · simp
    · have := putL_len name hsh key v r; simp only [List.length_cons]; omega
section
variable {prog : Program} {w : World} {A : Around} {E : Value → Shared → Prop} {s : Shared} {g : Heap} {D : List Addr} {e : Ent} {env : Env} {ρ : Str → Option Value} {x dx : Addr} {es : List DictEntry} {n : Nat} {name : Str} {v : Value}
theorem r_setAttr {QU : Unit → Shared → Prop} (F : FmS D e env ρ s g) (B : Bs w g) (hdD : dx ∈ D ∨ e.h.get? dx = none) (hdF : ¬ FrameAt env dx) (hgd : g.get? dx = none) (I : Inst s.heap x dx es n)
    (ht : takerIn (KK w.params) 79 name = some none) (hl : (getL name es).isSome = true) (hz : es.length ≤ 500)
    (h : ∀ s' tk hs n', FmS D e env ρ s' g → s'.heap.get? dx = some (PySem.W.dictOf (putL name hs (.str name tk) v es) n') → (∀ b o, b ≠ env.locals → b ≠ dx → s.heap.get? b = some o → s'.heap.get? b = some o) → QU () s') : wpAny (model prog w) A (setAttr (.ref x) name v) QU E s := by
  have X := (B.keeps F.sub).K
  obtain ⟨m, hn, hm⟩ := F.vars.loc
  have hdL : dx ≠ env.locals := fun z => hdF (.inl z)
  have Fr0 : Fr noH env.locals s.heap m := ⟨hn, fun b o q => (by cases q), Nat.zero_le _⟩
  have N0 : News noH env.locals s.heap ([] ++ (dx, PySem.W.dictOf es n) :: others env.locals dx s.heap) := by
    intro p hp
    rcases List.mem_cons.mp hp with rfl | hp
    · exact ⟨I.dict, hdL, rfl⟩
    · obtain ⟨h1, h2, h3⟩ := others_mem.mp (show (p.1, p.2) ∈ others env.locals dx s.heap from hp)
      exact ⟨h3, h1, rfl⟩
  refine set_plain X I.inst (kSA _) (osa_dict (s := { s with toks := s.toks + 1 }) Fr0 N0 X I.inst rfl (kPlain _) ht (kHas _) hl (fun p hp => by cases hp) (fun p hp => (others_mem.mp (show (p.1, p.2) ∈ others env.locals dx s.heap from hp)).2.1) (putName_dict ..) rfl (Nat.le_trans (putL_len ..) (by (clear hdD hdF hdL; omega))) fun h' F' N' => ?_)
  have k' : ∀ b o, b ≠ env.locals → b ≠ dx → s.heap.get? b = some o → h'.get? b = some o := fun b o h1 h2 q => (N' (b, o) (.tail _ (others_mem.mpr ⟨h1, h2, q⟩))).1
  have hdx' := (N' _ (.head _)).1
  refine h _ _ _ _ ⟨⟨fun b o hb q => ?_, fun b o q => ?_, F.go.up, fun b o q => ?_, F.go.off, F.go.os, F.go.gs⟩, ⟨⟨m, F'.ns, hm⟩, fun y c hc => ?_⟩, F.fresh, F.hid⟩ hdx' k'
  · refine k' b o (fun z => ?_) (fun z => ?_) (F.go.keep b o hb q)
    · rw [z, F.fresh] at q; cases q
    · rcases hdD with hd | hd
      · exact hb (z ▸ hd)
      · rw [z, hd] at q; cases q
  · by_cases z : b = dx
    · exact ⟨_, z ▸ hdx'⟩
    · obtain ⟨o', q'⟩ := F.go.live b o q
      exact ⟨o', k' b o' (fun z => by rw [z, F.fresh] at q; cases q) z q'⟩
  · refine k' b o (fun z => ?_) (fun z => ?_) (F.sub b o q)
    · rw [z, F.hid _ (.inl rfl)] at q; cases q
    · rw [z, hgd] at q; cases q
  · obtain ⟨cv, ⟨oc, hoc, hdc⟩, r⟩ := F.vars.cell y c hc
    refine ⟨cv, ⟨oc, k' c oc (fun z => ?_) (fun z => hdF (.inr ⟨y, z ▸ hc⟩)) hoc, hdc⟩, r⟩
    obtain ⟨oL, eL, epL, hL, hLd, _⟩ := hn
    rw [z, hL] at hoc; cases hoc; rw [hLd] at hdc; cases hdc

theorem codeFn {f : Addr} (fl : FnLit f) {body : List Stmt} {args : List Value} {kw : List (Str × Value)} {binds : List (Str × Value)} {R : Result → Shared → Prop} (hA : A.depth < recursionLimit) (hg : Sub g s.heap) (B : Bs w g)
    (hbody : fl.fd.body = .stmts body) (hbind : BindsTo s fl.fd ⟨args, kw⟩ binds)
    (hkind : (binds.all fun y => fl.fd.scope.names.lookup y.1 == some .local || fl.fd.scope.names.lookup y.1 == some .cell) = true)
    (h : ∀ L s₁ A', A'.handled = A.handled → A'.depth = A.depth + 1 → A'.units = A.units + 3 → FmS D (Ent.of s g) (callEnvC fl.fd L f) (fun y => binds.reverse.lookup y) s₁ g → CellsNew (Ent.of s g) (callEnvC fl.fd L f) → Sub s.heap s₁.heap →
      wpAny (model prog w) A' (execs body (callEnvC fl.fd L f)) (fun fl s' => R (.ok (.ret (match fl with | .ret v => v | _ => .none))) s') (fun _ _ => False) s₁)
    (hco : fl.fd.scope.isCoroutine = false := by rfl) (hgen : fl.fd.scope.isGenerator = false := by rfl) (hk : fl.fd.scope.kind = .function := by rfl) : codeAny (model prog w) A (.call (.ref f) ⟨args, kw⟩) R s :=
  enter hA hg (B.K _ _ (fl.at_ _)) rfl B.lim (codeRec_of B.K (fl.code _)) hbody hbind fl.clo hkind fl.cells (fun L s₁ F C k => h L s₁ _ rfl rfl rfl F C k) hco hgen hk
end
end Mine

/-! # NqMake -/
namespace Mine
noncomputable def ign0 : Ign := putI (fun _ => none) (Str.ofString "<string>") 1
section
variable {prog : Program} {w : World} {A : Around} {E : Value → Shared → Prop} {s : Shared} {g : Heap} {R : Result → Shared → Prop}
theorem new_of_go {D : List Addr} {s' : Shared} {g' : Heap} {a : Addr} (G : GoS D s g s' g') (h : s'.heap.get? a = none) : s.heap.get? a = none := ext_none fun o q => (by obtain ⟨o', q'⟩ := G.live a o q; rw [h] at q'; cases q')
theorem c_init {x dx : Addr} {vm : Value} {mods : List Str} (hh : A.handled = none) (hA : A.depth < recursionLimit) (hg : Sub g s.heap) (B : Bs w g) (hx : s.heap.get? x = some (instObj 79 dx)) (hdx : s.heap.get? dx = some (PySem.W.dictOf [] 0)) (hgd : g.get? dx = none) (hxd : x ≠ dx)
    (hr : Rep g (texts mods) vm) (hml : mods.length ≤ 1000)
    (h : ∀ s' g' S Ld I es n, GoS [dx] s g s' g' → s'.heap.get? dx = some (PySem.W.dictOf es n) → getL "_mods" es = some (some (.ref S)) → getL "_dirs" es = some (some (.ref Ld)) → getL "_ignore" es = some (some (.ref I)) → getL "names" es = some none →
      (∃ led, SetT prog w g' S led mods ∧ (mods ≠ [] → led = ledOf w)) → s'.heap.PlainList Ld #[] → g'.get? Ld = none → s.heap.get? Ld = none → IgnAt prog w s'.heap I ign0 1 → g'.get? I = none → s.heap.get? I = none → (I == sysModules) = false → R (.ok (.ret .none)) s') :
    codeAny (model prog w) A (.call (.ref 69) ⟨[.ref x, vm], []⟩) R s := by
  obtain ⟨nd, hd⟩ := d64 w.params
  refine codeFn fInit (D := [dx]) (binds := [("self", .ref x), ("modules", vm), ("dirs", .none)]) hA hg B rfl (BindsTo.of_defaults (T := 64) rfl (hg _ _ (B.K _ _ hd)) rfl rfl rfl) rfl (fun L s₁ A' hh' hd' hu' F C hk => ?_)
  rw [hh] at hh'
  have hdF : ¬ FrameAt (callEnvC fInit.fd L 69) dx := by
    rintro (z | ⟨m, z⟩)
    · have := F.fresh; rw [← z] at this; rw [show (Ent.of s g).h.get? dx = some _ from hdx] at this; cases this
    · have := C.fresh _ _ z; rw [show (Ent.of s g).h.get? dx = some _ from hdx] at this; cases this
  have hxF : ∀ {s' g' ρ'}, FmS [dx] (Ent.of s g) (callEnvC fInit.fd L 69) ρ' s' g' → s'.heap.get? x = some (instObj 79 dx) := fun F' => F'.go.keep x _ (by simpa using hxd) hx
  have hdx₁ := hk _ _ hdx
  obtain ⟨lm, vs, rfl, hlm, hvs⟩ := hr.list_inv
  have hlm₁ := isList_mono F.sub hlm
  have hsize : vs.toArray.size = mods.length := by simp [hvs.length]
  refine wpAny_execs_cons ?_
  refine plainObj_wpAny_Assign_Attribute ?_
  -- the set
  refine wpAny_mono (Q := fun v s₂ => ∃ S g₂, v = .ref S ∧ GoS [] s₁ g s₂ g₂ ∧ ∃ led, SetT prog w g₂ S led mods ∧ (mods ≠ [] → led = ledOf w)) ?_ (fun v s₂ h₂ => ?_) (fun _ _ z => z)
  · refine IfExp_ ?_
    refine isTrue_not ?_
    refine isTrue_plain ?_
    refine nm_local F rfl ?_
    refine wpAny_truthy_list hlm₁ (by rw [hsize]; (clear hA hxd hd' hu' hdF; omega)) ?_
    by_cases hm0 : mods = []
    · have hv0 : vs = [] := by
        have := hvs.length; rw [List.length_map, hm0] at this; exact List.eq_nil_of_length_eq_zero this
      subst hm0 hv0
      simp only [List.isEmpty_toArray, List.isEmpty_nil, Bool.not_true, Bool.not_false, if_true]
      refine Call_Name0 ?_
      refine nm_blt F B (nSet _) bSet ?_
      refine callWith_type0 (env := callEnvC fInit.fd L 69) ?_
      refine call_set_0 fun led => ?_
      obtain ⟨g₂, G₂, e₂⟩ := go_push (os := s₁.os) (gs := s₁.gens) F.sub { cls := .type "set", dict := none, data := .set #[] 0 (.fresh 0 0 led) } rfl
      exact ⟨_, g₂, rfl, G₂, led, ⟨_, #[], 0, _, e₂, ⟨rfl, rfl, rfl⟩, rfl, fun e he => by simp at he, fun k => by simp, by decide, rfl, rfl, fun z => absurd rfl z, Nat.zero_le _⟩, fun z => absurd rfl z⟩
    · have hv0 : vs.isEmpty = false := by
        cases hc : vs with
        | nil => rw [hc] at hvs; have := hvs.length; simp at this; exact absurd this.symm (by simpa using hm0)
        | cons => rfl
      simp only [List.isEmpty_toArray, hv0, Bool.not_true, Bool.not_false, Bool.false_eq_true, if_false]
      refine call_name (nm_blt F B (nSet _) bSet ?_)
      refine cw_type ?_
      refine sp_cons ?_
      refine nm_local F rfl ?_
      refine sp_nil ?_
      refine call_set_texts (ss := mods) hh' hlm₁ (fun i v hv => ?_) hsize (by rw [hsize, show scanBound = 4096 from rfl]; (clear hA hxd hd' hu' hdF hm0; omega)) fun h' tk hS hsub => ?_
      · obtain ⟨d, hd, rd⟩ := hvs.get' i v (by simpa using hv)
        rw [List.getElem?_map] at hd
        cases q : mods[i]? with
        | none => rw [q] at hd; cases hd
        | some k =>
          rw [q] at hd
          obtain rfl : Dt.str k = d := by simpa using hd
          obtain ⟨t, rfl⟩ := rd.str_inv
          exact ⟨k, t, rfl, rfl⟩
      · obtain ⟨o, es, ep, t, ho, r⟩ := id hS
        obtain ⟨g₂, G₂, e₂⟩ := go_new (os := s₁.os) (gs := s₁.gens) F.sub hsub (get_size _) ho
        exact ⟨_, g₂, rfl, G₂, _, ⟨o, es, ep, t, e₂, r⟩, fun _ => rfl⟩
  obtain ⟨S, g₂, rfl, G₂, led, hS, hled⟩ := h₂
  have F₂ := F.step G₂
  have hdx₂ := G₂.keep dx _ (by simp) hdx₁
  have hgd₂ := G₂.off dx _ hdx₁ hgd
  refine nm_local F₂ rfl ?_
  refine r_setAttr F₂ (B.keeps G₂.up) (.inl (.head _)) hdF hgd₂ ⟨hxF F₂, hdx₂⟩ (kT1 _) rfl (Nat.zero_le _) fun s₃ tk₃ hs₃ n₃ F₃ hdx₃ k₃ => ?_
  refine wpAny_execs_cons ?_
  refine plainObj_wpAny_Assign_Attribute ?_
  refine IfExp_ ?_
  refine isTrue_not ?_
  refine isTrue_plain ?_
  refine nm_local F₃ rfl ?_
  refine truthy_none ?_
  simp only [Bool.not_false, if_true]
  refine List_ ?_
  refine sp_nil ?_
  refine r_newListM F₃.sub fun s₄ Ld G₄ hLd₄ nLd gLd => ?_
  have F₄ := F₃.step G₄
  have hdx₄ := G₄.keep dx _ (by simp) hdx₃
  have hLdn : s.heap.get? Ld = none := new_of_go F₃.go nLd
  have hLdd : Ld ≠ dx := fun z => by rw [z, hdx] at hLdn; cases hLdn
  have hLdL : Ld ≠ (callEnvC fInit.fd L 69).locals := fun z => by obtain ⟨o, q⟩ := F₃.vars.at (x := Ld) (.inl z); rw [nLd] at q; cases q
  refine nm_local F₄ rfl ?_
  refine r_setAttr F₄ (B.keeps G₂.up) (.inl (.head _)) hdF hgd₂ ⟨hxF F₄, hdx₄⟩ (kT2 _) rfl (Nat.le_trans (putL_len ..) (Nat.le_of_ble_eq_true rfl)) fun s₅ tk₅ hs₅ n₅ F₅ hdx₅ k₅ => ?_
  have hLd₅ : s₅.heap.PlainList Ld #[] := hLd₄.at fun o q => k₅ Ld o hLdL hLdd q
  refine wpAny_execs_cons ?_
  refine plainObj_wpAny_Assign_Attribute ?_
  refine wpAny_Dict_walk (knd := PySem.strKind prog w) rfl rfl (by simp) (by decide) ?_
  refine pairTrees_cons_walk ?_
  refine wpAny_Constant_str ?_
  refine wpAny_Constant_int ?_
  refine pairTrees_nil_walk ?_
  refine ⟨[(Str.ofString "<string>", .int 1 _)], ⟨strKind_is prog w _ _, rfl, trivial⟩, Heap.DictOf.new _, fun h' hd' hs' => ?_⟩
  have up₇ : Sub s₅.heap h' := fun b o q => (hs'.2 b (Nat.ne_of_lt (lts q))).trans (Heap.get?_push_of_some _ q)
  have hI0 : s₅.heap.get? s₅.heap.objs.size = none := get_size _
  have hlow : @LT.lt Nat _ 64 s₅.heap.objs.size := lts ((F₅.sub _ _ (G₂.up _ _ (B.K _ _ hd))))
  have hIlow : ((s₅.heap.objs.size : Addr) == sysModules) = false := by
    rw [beq_eq_false_iff_ne]
    intro z
    have z' : @Eq Nat s₅.heap.objs.size 1 := z
    (clear hA hxd hml hu' hdF hsize hLdd hLdL; omega)
  generalize s₅.heap.objs.size = I at *
  have F₆ : FmS [dx] _ _ _ ({ s₅ with heap := h' } : Shared) g₂ := F₅.step (go_keeps F₅.sub up₇)
  have hgI : g₂.get? I = none := ext_none fun o q => by rw [F₅.sub _ _ q] at hI0; cases hI0
  have hIn : s.heap.get? I = none := new_of_go F₅.go hI0
  have hIdx : I ≠ dx := fun z => by rw [z, hdx] at hIn; cases hIn
  have hIL : I ≠ (callEnvC fInit.fd L 69).locals := fun z => by obtain ⟨o, q⟩ := F₅.vars.at (x := I) (.inl z); rw [hI0] at q; cases q
  have hdx₆ := up₇ _ _ hdx₅
  have hLd₆ : h'.PlainList Ld #[] := hLd₅.at fun o q => up₇ _ _ q
  have hI₆ : IgnAt prog w h' I ign0 1 := by
    refine ⟨_, hd', Nat.le_refl 1, fun k => ?_⟩
    by_cases hkk : k = Str.ofString "<string>"
    · subst hkk
      exact ⟨fun r hr => by simp [ign0, putI] at hr; subst hr; exact ⟨_, rfl⟩, fun z => by simp [ign0, putI] at z⟩
    · have hkk' : ¬ Str.ofString "<string>" = k := fun z => hkk z.symm
      refine ⟨fun r hr => by simp [ign0, putI, hkk] at hr, fun _ => ?_⟩
      simp [PySem.merged, PySem.stored, PySem.valueAt, hkk']
  refine nm_local F₆ rfl ?_
  refine r_setAttr (s := { s₅ with heap := h', toks := _ }) F₆ (B.keeps G₂.up) (.inl (.head _)) hdF hgd₂ ⟨hxF F₆, hdx₆⟩ (kT3 _) rfl (Nat.le_trans (putL_len ..) (Nat.succ_le_succ (Nat.le_trans (putL_len ..) (Nat.le_of_ble_eq_true rfl)))) fun s₇ tk₈ hs₇ n₇ F₇ hdx₇ k₇ => ?_
  refine wpAny_execs_nil ?_
  exact h s₇ g₂ S Ld I _ _ F₇.go hdx₇ rfl rfl rfl rfl ⟨led, hS, hled⟩ (hLd₆.at fun o q => k₇ Ld o hLdL hLdd q) (ext_none fun o q => by rw [F₃.sub _ _ q] at nLd; cases nLd) hLdn (hI₆.at fun o q => k₇ I o hIL hIdx q) hgI hIn hIlow
end
end Mine

/-! # NqMade -/
namespace Mine
noncomputable def places (wr : Str) : List Str := [Str.ofString "." ++ wr, wr, wr ++ Str.ofString "."]
noncomputable def dotted (m : List Str) : Str := Txt.join (Str.ofString ".") m
section
variable {prog : Program} {w : World} {A : Around} {E : Value → Shared → Prop} {s : Shared} {g : Heap} {Q : Value → Shared → Prop}
theorem r_make {vm : Value} {mods : List Str} (hh : A.handled = none) (hA : A.depth + 1 < recursionLimit) (hg : Sub g s.heap) (B : Bs w g) (hr : Rep g (texts mods) vm) (hml : mods.length ≤ 1000)
    (h : ∀ s' g' x dx S Ld I es n, GoS [] s g s' g' → Inst g' x dx es n → getL "_mods" es = some (some (.ref S)) → getL "_dirs" es = some (some (.ref Ld)) → getL "_ignore" es = some (some (.ref I)) → getL "names" es = some none →
      (∃ led, SetT prog w g' S led mods ∧ (mods ≠ [] → led = ledOf w)) → s'.heap.PlainList Ld #[] → g'.get? Ld = none → s.heap.get? Ld = none → IgnAt prog w s'.heap I ign0 1 → g'.get? I = none → s.heap.get? I = none → (I == sysModules) = false → Q (.ref x) s') :
    wpAny (model prog w) A (call (.ref 79) [vm]) Q E s := by
  obtain ⟨hp, gn, dr, tk, os⟩ := s
  refine wpAny_call ?_
  refine make_core (makes_of (M := model prog w) (B.keeps hg).K (kMakes _)) (looks_findIn (B.keeps hg).K (kInit _)) (fun self => bind_fn (B.keeps hg).K self (kFn69 _)) (.inl rfl) ?_
  have up : Sub hp ((hp.push emptyDict).push (instObj 79 hp.objs.size)) := fun b o q => Heap.get?_push_of_some _ (Heap.get?_push_of_some _ q)
  have hx : ((hp.push emptyDict).push (instObj 79 hp.objs.size)).get? (hp.objs.size + 1) = some (instObj 79 hp.objs.size) := by
    have := Heap.get?_push_size (hp.push emptyDict) (o := instObj 79 hp.objs.size) rfl
    rwa [Heap.size_push] at this
  have hdx : ((hp.push emptyDict).push (instObj 79 hp.objs.size)).get? hp.objs.size = some (PySem.W.dictOf [] 0) := Heap.get?_push_of_some _ (Heap.get?_push_size hp rfl)
  have nx : hp.get? (hp.objs.size + 1) = none := none_of_le (Nat.le_succ _)
  have ndx : hp.get? hp.objs.size = none := get_size _
  refine c_init (x := hp.objs.size + 1) (dx := hp.objs.size) hh (by rw [depth_under_make]; (exact hA)) (hg.trans up) B hx hdx (ext_none fun o q => by rw [hg _ _ q] at ndx; cases ndx) (Nat.ne_of_gt (Nat.lt_succ_self _)) hr hml ?_
  intro s' g' S Ld I es n G hdx' h1 h2 h3 h4 hS hLd gLd nLd hI gI nI hlow
  have hx' := G.keep (hp.objs.size + 1) _ (by simp) hx
  have G1 : Go [hp.objs.size] hp os gn g s'.heap s'.os s'.gens g' := ((go_keeps (os := os) (gs := gn) hg up).mono0).trans G
  have G2 : Go [] hp os gn g s'.heap s'.os s'.gens g' := G1.drop fun d hd => by rw [List.mem_singleton] at hd; subst hd; exact .inr ndx
  obtain ⟨g'', G3, u, pa, po⟩ := G2.adds (fun b => b = hp.objs.size + 1 ∨ b = hp.objs.size) (by rintro p o (rfl | rfl) q <;> simp_all)
  have nL : ¬ (Ld = hp.objs.size + 1 ∨ Ld = hp.objs.size) := by
    rintro (z | z)
    · rw [z] at nLd; rw [show (Heap.get? _ _) = some _ from hx] at nLd; cases nLd
    · rw [z] at nLd; rw [show (Heap.get? _ _) = some _ from hdx] at nLd; cases nLd
  have nI' : ¬ (I = hp.objs.size + 1 ∨ I = hp.objs.size) := by
    rintro (z | z)
    · rw [z] at nI; rw [show (Heap.get? _ _) = some _ from hx] at nI; cases nI
    · rw [z] at nI; rw [show (Heap.get? _ _) = some _ from hdx] at nI; cases nI
  refine ⟨rfl, h s' g'' (hp.objs.size + 1) hp.objs.size S Ld I es n G3 ⟨pa _ _ (.inl rfl) hx', pa _ _ (.inr rfl) hdx'⟩ h1 h2 h3 h4 ?_ hLd (po _ nL gLd) ?_ hI (po _ nI' gI) ?_ hlow⟩
  · obtain ⟨led, hS, r⟩ := hS; exact ⟨led, hS.at fun o q => u _ _ q, r⟩
  · exact ext_none fun o q => by rw [show (Heap.get? _ _) = some _ from up _ _ q] at nLd; cases nLd
  · exact ext_none fun o q => by rw [show (Heap.get? _ _) = some _ from up _ _ q] at nI; cases nI
end
theorem digs_small (k : Nat) : (digs.getD k "").length ≤ 3 := by
  by_cases h : k < 6
  · have : ∀ k, k < 6 → (digs.getD k "").length ≤ 3 := by decide
    exact this k h
  · have : digs.getD k "" = "" := by
      rw [List.getD, List.getElem?_eq_none (show digs.length ≤ k by simp [digs]; (exact Nat.le_of_not_lt h))]; rfl
    rw [this]; decide
theorem signs_small {sg x : Str} (h : x ∈ signs sg) : x.length = 1 := by obtain ⟨c, _, rfl⟩ := List.mem_map.mp h; rfl
theorem pParts_small {i : Nat} {sg x : Str} (h : x ∈ pParts i sg) : x.length ≤ 3 := by
  rcases List.mem_append.mp h with h | h
  · rw [signs_small (List.mem_of_mem_take h)]; decide
  · rw [List.mem_singleton] at h; subst h; exact digs_small _
theorem pParts_len (i : Nat) (sg : Str) : (pParts i sg).length ≤ sg.length + 1 := by
  simp only [pParts, List.length_append, List.length_take, List.length_singleton, signs_length]; omega
theorem mod_small {ns : List Int} {sg : Str} {m : List Str} (h : m ∈ pMods ns sg) : m.length ≤ sg.length + 1 ∧ ∀ x ∈ m, x.length ≤ 3 := by
  obtain ⟨n, _, hn⟩ := List.mem_filterMap.mp h
  unfold modOf at hn
  split at hn
  · cases hn
    exact ⟨by simp only [List.length_take, signs_length]; omega, fun x hx => by rw [signs_small (List.mem_of_mem_take hx)]; decide⟩
  · split at hn
    · cases hn; exact ⟨pParts_len _ _, fun x hx => pParts_small hx⟩
    · cases hn
theorem join_len_le (m : List Str) (k : Nat) (h : ∀ x ∈ m, x.length ≤ k) : (m.map (·.length)).sum + m.length * (Str.ofString ".").length ≤ m.length * (k + 1) := by
  have h1 := sum_len_le m h
  have : (Str.ofString ".").length = 1 := by decide
  rw [this, Nat.mul_add]; (clear this; omega)
section
variable {prog : Program} {w : World} {A : Around} {E : Value → Shared → Prop} {s : Shared} {g : Heap} {Q : Value → Shared → Prop}
theorem c_made {ns : List Int} {vn : Value} {wr : Str} {tw : Tok} (hh : A.handled = none) (hA : A.depth + 3 < recursionLimit) (hg : Sub g s.heap) (B : Bs w g) (hr : Rep g (.list (ns.map .int)) vn) (hn : ns.length ≤ 1000) (h0 : 0 < wr.length) (hsz : wr.length ≤ 100)
    (h : ∀ s' g' x S Ld I, GoS [] s g s' g' → Reader prog w g' x S Ld I ((pMods ns wr).map dotted) (places wr) → g'.get? I = none → s.heap.get? I = none → IgnAt prog w s'.heap I ign0 1 → Q (.ref x) s') :
    wpAny (model prog w) A (call (.ref 156) [vn, .str wr tw]) Q E s := by
  refine callFn fMade (D := []) (binds := [("numbers", vn), ("written", .str wr tw)]) (by (exact lt_dep0 hA)) hg B rfl (BindsTo.of_eq rfl) rfl (fun L s₁ A' hh' hd' hu' F C hk => ?_)
  rw [hh] at hh'
  have hmlen : (pMods ns wr).length ≤ 1000 := Nat.le_trans (List.length_filterMap_le _ _) hn
  have z1 : (Str.ofString ".").length = 1 := by decide
  refine wpAny_execs_cons ?_
  refine wpAny_Assign_Name ?_
  refine call_name (nm_glob F B (gIgnore _) ?_)
  refine cw_of (P := fun h => Bs w h) rfl (by simp [backTo, starEach]) (fun h B => keeps_K (kKeep _) h B.K) ?_
  refine sp_cons ?_
  refine compEvalG (n := (pMods ns wr).length) (P := fun g i v => ∃ d, ((pMods ns wr).map texts)[i]? = some d ∧ Rep g d v) (ρc := fun _ => none) (fun _ => true) (fun j => .str (dotted ((pMods ns wr).getD j []))) (fun _ _ _ => True) F rfl (by simp) (by simp) (by simp) ?hcl ?hρ (by decide) rfl (by decide) (by (exact Nat.le_trans hmlen (Nat.le_of_ble_eq_true rfl))) (fun _ _ _ _ _ _ => trivial) (fun _ _ _ _ _ _ => trivial) ?src ?hPm ?turn ?fin
  case hcl => intro y c e; cases e
  case hρ => intro C y v e; cases e
  case src =>
    intro Q' hQ
    refine call_name (nm_glob F B (gMods _) ?_)
    refine cw_fn (w := w) fMods ?_
    refine sp_cons ?_
    refine nm_local F rfl ?_
    refine sp_cons ?_
    refine nm_local F rfl ?_
    refine sp_nil ⟨B.keeps F.sub, ?_⟩
    refine c_mods hh' (by (exact lt_dep1 hA hd' (Nat.le_of_ble_eq_true rfl))) F.sub B hr hn h0 hsz fun s₂ g₂ v₂ G₂ R₂ => ?_
    refine src_list (target := .Name (Str.ofString "mod") ⟨170, 40, 170, 43⟩) hh' (F.step G₂).sub R₂ fun I s₃ G₃ S₃ => ?_
    rw [List.length_map] at S₃
    exact hQ I s₃ g₂ (G₂.trans G₃) (S₃.of_go G₂) trivial
  case hPm =>
    rintro g g' i v hgg ⟨d, hd, hr⟩
    exact ⟨d, hd, hr.mono hgg⟩
  case turn =>
    rintro C₁ i v s₃ g₃ e₃ hi ⟨d, hd, hrd⟩ F₃ hg₃ _ _
    obtain ⟨m, hm, rfl⟩ : ∃ m, (pMods ns wr)[i]? = some m ∧ texts m = d := by
      rw [List.getElem?_map] at hd
      cases q : (pMods ns wr)[i]? with
      | none => rw [q] at hd; cases hd
      | some n => rw [q] at hd; exact ⟨n, rfl, by simpa using hd⟩
    have hms := mod_small (List.mem_of_getElem? hm)
    have hgd : (pMods ns wr).getD i [] = m := by rw [List.getD, hm]; rfl
    refine wpAny_assign_Name (st_local F₃ fun s₄ F₄ _ => ?_)
    refine wpAny_tests_nil ⟨rfl, fun _ => ?_, fun z => by cases z⟩
    refine meth_str PySem.F.slot_str_join PySem.F.type_str_join ?_
    refine x_str fun te tk₅ => ?_
    refine ⟨_, _, rfl, ?_⟩
    refine cw_blt ?_
    refine sp_cons ?_
    refine nm_local F₄ upd_eq ?_
    refine sp_nil ?_
    refine x_join F₄.sub hrd ?_ fun t' tk' => ?_
    · refine Nat.le_trans (join_len_le m 3 hms.2) ?_
      have := hms.1
      have h4 : m.length * (3 + 1) ≤ 101 * 4 := Nat.mul_le_mul (by (clear hA hn hd' hu' hmlen z1 hi this; omega)) (Nat.le_refl _)
      (clear hA hn h0 hsz hd' hu' hmlen z1 hi hms this; omega)
    · exact ⟨g₃, F₄.weaken (upd_weaken rfl), trivial, by rw [hgd]; exact .str _ _⟩
  case fin =>
    intro s₂ g₂ v₂ G₂ R₂ _
    rw [res_all] at R₂
    have F₂ := F.step G₂
    have B₂ := B.keeps G₂.up
    refine sp_nil ⟨B₂.keeps F₂.sub, ?_⟩
    have R₂' : Rep g₂ (texts ((pMods ns wr).map dotted)) v₂ := by
      have e : (List.range (pMods ns wr).length).map (fun j => Dt.str (dotted ((pMods ns wr).getD j []))) = ((pMods ns wr).map dotted).map Dt.str := by
        refine List.ext_getElem? fun i => ?_
        simp only [List.getElem?_map]
        by_cases hi : i < (pMods ns wr).length
        · simp [hi, List.getD]
        · simp [hi]
      rw [e] at R₂; exact R₂
    refine r_make hh' (by (exact lt_dep1 hA hd' (Nat.le_of_ble_eq_true rfl))) F₂.sub B₂ R₂' (by rw [List.length_map]; exact hmlen) ?_
    intro s₃ g₃ x dx S Ld I es n G₃ hInst l1 l2 l3 l4 hSet hLd gLd nLd hIg gI nI hlow
    have F₃ := F₂.step G₃
    have B₃ := B₂.keeps G₃.up
    have sLd : s.heap.get? Ld = none := new_of_go F₂.go nLd
    have sI : s.heap.get? I = none := new_of_go F₂.go nI
    have hLI : Ld ≠ I := fun z => by
      obtain ⟨nn, q⟩ := hLd
      obtain ⟨kvs, ⟨o, es', ep, ho, hex, hd, _⟩, _⟩ := hIg
      rw [z, ho] at q; cases q; cases hd
    have hIL : I ≠ (callEnvC fMade.fd L 156).locals := fun z => by obtain ⟨o, q⟩ := F₂.vars.at (x := I) (.inl z); rw [nI] at q; cases q
    have hLL : Ld ≠ (callEnvC fMade.fd L 156).locals := fun z => by obtain ⟨o, q⟩ := F₂.vars.at (x := Ld) (.inl z); rw [nLd] at q; cases q
    refine st_local F₃ fun s₄ F₄ k₄ => ?_
    have hLd₄ : s₄.heap.PlainList Ld #[] := hLd.at fun o q => k₄ Ld o hLL q
    have hI₄ : IgnAt prog w s₄.heap I ign0 1 := hIg.at fun o q => k₄ I o hIL q
    refine wpAny_execs_cons ?_
    refine wpAny_For ?_
    refine List_ ?_
    refine sp_cons ?_
    refine wpAny_BinOp ?_
    refine x_str fun _ _ => ?_
    refine nm_local F₄ (Eq.trans upd_ne rfl) ?_
    refine x_cat (fun _ _ => ?_) (by rw [sizeLine_eq]; (clear hA hn hd' hu' hmlen hSet hLI hIL hLL; omega))
    refine sp_cons ?_
    refine nm_local F₄ (Eq.trans upd_ne rfl) ?_
    refine sp_cons ?_
    refine wpAny_BinOp ?_
    refine nm_local F₄ (Eq.trans upd_ne rfl) ?_
    refine x_str fun _ _ => ?_
    refine x_cat (fun _ _ => ?_) (by rw [sizeLine_eq]; (clear hA hn hd' hu' hmlen hSet hLI hIL hLL; omega))
    refine sp_nil ?_
    refine r_newList (l := [.str _, .str _, .str _]) F₄.sub (.cons (.str _ _) (.cons (.str _ _) (.cons (.str _ _) .nil))) fun s₅ g₅ v₅ G₅ R₅ => ?_
    replace R₅ : Rep g₅ (texts (places wr)) v₅ := R₅
    have F₅ := F₄.step G₅
    have hLd₅ : s₅.heap.PlainList Ld #[] := hLd₄.at fun o q => G₅.keep Ld o (by simp) q
    have hI₅ : IgnAt prog w s₅.heap I ign0 1 := hI₄.at fun o q => G₅.keep I o (by simp) q
    obtain ⟨oL4, qL4⟩ : ∃ o, s₄.heap.get? Ld = some o := let ⟨n, q⟩ := hLd₄; ⟨_, q⟩
    obtain ⟨oI4, qI4⟩ := hI₄.live
    have gLd₅ := G₅.off Ld _ qL4 gLd
    have gI₅ := G₅.off I _ qI4 gI
    refine src_list (target := .Name (Str.ofString "place") ⟨171, 8, 171, 13⟩) hh' F₅.sub R₅ fun It s₆ G₆ S₆ => ?_
    have hLd₆ : s₆.heap.PlainList Ld #[] := hLd₅.at fun o q => G₆.keep Ld o (by simp) q
    have hI₆ : IgnAt prog w s₆.heap I ign0 1 := hI₅.at fun o q => G₆.keep I o (by simp) q
    have F₅' : FmS [Ld, I] _ _ _ s₅ g₅ := F₅.setD (by simp)
    let Inv : Nat → (Str → Option Value) → Heap → Heap → Prop := fun i ρ g h => ρ (Str.ofString "reader") = some (.ref x) ∧ g.get? Ld = none ∧ g.get? I = none ∧ IgnAt prog w h I ign0 1 ∧ ∃ ys : Array Value, h.PlainList Ld ys ∧ Reps g (((places wr).take i).map .str) ys.toList
    refine forSrc (D := [Ld, I]) Inv (fun _ _ _ => False) F₅' G₆ S₆ ?_ ?_ ?_ ?_ ?_ ?_ ?_
    · intro y hy
      rcases List.mem_cons.mp hy with rfl | hy
      · obtain ⟨n, q⟩ := hLd₅; exact ⟨_, q⟩
      · rw [List.mem_singleton] at hy; subst hy; exact hI₅.live
    · intro y hy
      rcases List.mem_cons.mp hy with rfl | hy
      · exact gLd₅
      · rw [List.mem_singleton] at hy; subst hy; exact gI₅
    · exact ⟨upd_eq, gLd₅, gI₅, hI₆, #[], hLd₆, .nil⟩
    · rintro i ρ g' h h' ⟨h1, h2, h3, h4, ys, h5, h6⟩ k
      exact ⟨h1, h2, h3, h4.at fun o q => k I (.tail _ (.head _)) o q, ys, h5.at fun o q => k Ld (.head _) o q, h6⟩
    · rintro i v s₇ g₇ e₇ ρ₇ hi ⟨d, hd, hrd⟩ F₇ hg₇ ⟨j1, j2, j3, j4, ys, j5, j6⟩
      rw [List.length_map] at hi
      obtain ⟨pl, hpl, rfl⟩ : ∃ p, (places wr)[i]? = some p ∧ Dt.str p = d := by
        rw [List.getElem?_map] at hd
        cases q : (places wr)[i]? with
        | none => rw [q] at hd; cases hd
        | some n => rw [q] at hd; exact ⟨n, rfl, by simpa using hd⟩
      have B₇ := (B₃.keeps G₅.up).keeps hg₇
      have hi3 : i < 3 := hi
      have hlen : ys.size ≤ 3 := by have := j6.length; rw [Array.length_toList, List.length_map, List.length_take] at this; (clear hA hn h0 hsz hd' hu' hmlen z1 hSet hLI hIL hLL; omega)
      refine wpAny_assign_Name (st_local F₇ fun s₈ F₈ k₈ => ?_)
      have j4' : IgnAt prog w s₈.heap I ign0 1 := j4.at fun o q => k₈ I o hIL q
      have j5' : s₈.heap.PlainList Ld ys := j5.at fun o q => k₈ Ld o hLL q
      refine wpAny_execs_cons ?_
      refine wpAny_Expr ?_
      refine meth_list PySem.F.slot_list_append PySem.F.type_list_append ?_
      refine Attribute_name ?_
      refine nm_local F₈ (Eq.trans upd_ne j1) ?_
      refine x_attr (hInst.mono ((G₅.up.trans hg₇).trans F₈.sub)) (B₇.keeps F₈.sub) (kNo2 _) l2 rfl fun tk₉ => ?_
      refine ⟨Ld, ys, rfl, j5', ?_⟩
      refine cw_blt ?_
      refine sp_cons ?_
      refine nm_local F₈ upd_eq ?_
      refine sp_nil ?_
      refine r_append (s := { s₈ with toks := tk₉ }) F₈ (.inl (.head _)) j2 j5' (by rw [sizeLine_eq]; (exact Nat.le_trans hlen (Nat.le_of_ble_eq_true rfl))) fun s₉ F₉ hl₉ k₉ => ?_
      refine wpAny_execs_nil ?_
      refine ⟨g₇, _, F₉, Eq.trans upd_ne j1, j2, j3, j4'.at fun o q => k₉ I o (Ne.symm hLI) q, _, hl₉, ?_⟩
      rw [Array.toList_push, List.take_add_one, hpl, List.map_append]
      exact j6.append (.cons (hrd.mono hg₇) .nil)
    · rintro s₇ g₇ ρ₇ F₇ hg₇ ⟨j1, j2, j3, j4, ys, j5, j6⟩
      rw [List.length_map, List.take_of_length_le (Nat.le_refl _)] at j6
      refine wpAny_execs_cons ?_
      refine wpAny_Return_some ?_
      refine nm_local F₇ j1 ?_
      have F'' : FmS [] _ _ _ s₇ g₇ := F₇.setD (D' := []) (by
        intro y hy
        rcases List.mem_cons.mp hy with rfl | hy
        · exact .inr sLd
        · rw [List.mem_singleton] at hy; subst hy; exact .inr sI)
      obtain ⟨g'', G', u, pa, po⟩ := F''.go.adds (· = Ld) (by rintro p o rfl q; rw [show (Heap.get? _ _) = none from sLd] at q; cases q)
      obtain ⟨nn, qa⟩ := j5
      have up₃ : Sub g₃ g'' := (G₅.up.trans hg₇).trans u
      refine h _ g'' x S Ld I G' ⟨⟨dx, es, n, hInst.mono up₃, l1, l2, l3, l4⟩, ?_, .list (vs := ys.toList) ⟨_, pa Ld _ rfl qa, rfl, nn, by simp⟩ (j6.mono u), hlow⟩ (po I (Ne.symm hLI) j3) sI j4
      obtain ⟨led, hS, r⟩ := hSet
      exact ⟨led, hS.at fun o q => up₃ _ _ q, r⟩
    · intro v s' g' ρ' F' hg' z; exact z.elim
end
end Mine

/-! # NqRun -/
namespace Mine
noncomputable def fileO (home bit : Str) (i : Nat) : Option Str :=
  if bit == Str.ofString "1" then [none, some (home ++ Str.ofString "/a")].getD (i % 2) none
  else some ([home, home ++ Str.ofString "a", Str.ofString "", Str.ofString "," ++ home ++ Str.ofString "/a"].getD (i % 4) (Str.ofString ""))
theorem rep_file {g : Heap} {home bit : Str} {i : Nat} {v : Value} (h : Rep g (pFile home bit i) v) : FileV (fileO home bit i) v := by
  unfold pFile at h
  unfold fileO
  cases hb : (bit == Str.ofString "1") with
  | true =>
    rw [hb] at h
    simp only [if_true] at h ⊢
    have : i % 2 = 0 ∨ i % 2 = 1 := by omega
    rcases this with e | e <;> rw [e] at h ⊢
    · cases h; rfl
    · exact h.str_inv
  | false =>
    rw [hb] at h
    simp only [Bool.false_eq_true, if_false] at h ⊢
    have : i % 4 = 0 ∨ i % 4 = 1 ∨ i % 4 = 2 ∨ i % 4 = 3 := by omega
    rcases this with e | e | e | e <;> rw [e] at h ⊢ <;> exact h.str_inv
noncomputable def spotOf (wr : Str) (i : Nat) : Str := dotted (pParts i wr)
noncomputable def stepI (mods dirs : List Str) (wr : Str) (ign : Ign) (p : Str × Nat) : Ign := nextI mods dirs ign (fileO wr p.1 p.2) (spotOf wr p.2)
noncomputable def afterI (mods dirs : List Str) (wr : Str) (ign : Ign) (ds : List (Str × Nat)) : Ign := ds.foldl (stepI mods dirs wr) ign
noncomputable def toldI (mods dirs : List Str) (wr : Str) (ign : Ign) (ds : List (Str × Nat)) (k : Nat) : Int :=
  let p := ds.getD k (Str.ofString "", 0)
  ansI mods dirs (afterI mods dirs wr ign (ds.take k)) (fileO wr p.1 p.2) (spotOf wr p.2)
noncomputable def pRun (mods dirs : List Str) (wr : Str) (ign : Ign) (ds : List (Str × Nat)) : List Str := (List.range ds.length).map fun k => Str.ofString (toString (toldI mods dirs wr ign ds k))
noncomputable def IgnOk (ign : Ign) : Prop := ∀ k r, ign k = some r → r = 0 ∨ r = 1
theorem newI_ok (mods dirs : List Str) (file : Option Str) (nm : Str) : newI mods dirs file nm = 0 ∨ newI mods dirs file nm = 1 := by
  unfold newI; split
  · exact .inr rfl
  · exact .inl rfl
theorem ansI_ok {mods dirs : List Str} {ign : Ign} {file : Option Str} {nm : Str} (h : IgnOk ign) : ansI mods dirs ign file nm = 0 ∨ ansI mods dirs ign file nm = 1 := by
  unfold ansI
  cases q : ign nm with
  | some r => exact h _ _ q
  | none => exact newI_ok ..
theorem nextI_ok {mods dirs : List Str} {ign : Ign} {file : Option Str} {nm : Str} (h : IgnOk ign) : IgnOk (nextI mods dirs ign file nm) := by
  unfold nextI
  cases q : ign nm with
  | some r => exact h
  | none =>
    intro k r hr
    simp only [putI] at hr
    split at hr
    · cases hr; exact newI_ok ..
    · exact h k r hr
theorem afterI_ok {mods dirs : List Str} {wr : Str} : ∀ {ds : List (Str × Nat)} {ign : Ign}, IgnOk ign → IgnOk (afterI mods dirs wr ign ds)
  | [], _, h => h
  | p :: r, ign, h => afterI_ok (ds := r) (nextI_ok h)
theorem digit_len {r : Int} (h : r = 0 ∨ r = 1) : (Str.ofString (toString r)).length ≤ 1 := by
  rcases h with rfl | rfl <;> decide
section
variable {prog : Program} {w : World} {A : Around} {E : Value → Shared → Prop} {s : Shared} {g : Heap} {Q : Value → Shared → Prop}
theorem c_run {x S Ld I : Addr} {mods dirs : List Str} {ign : Ign} {n : Nat} {wr : Str} {tw ts : Tok} {size : Nat} {deeds : List (Str × Nat)} {vd : Value} (hh : A.handled = none) (hA : A.depth + 2 < recursionLimit) (hg : Sub g s.heap) (B : Bs w g) (R : Reader prog w g x S Ld I mods dirs)
    (hI : g.get? I = none) (hig : IgnAt prog w s.heap I ign n) (hok : IgnOk ign) (hd : Rep g (.list (deeds.map deedD)) vd) (hsize : size ≤ 6 * wr.length) (hwr : wr.length ≤ 100) (hdi : ∀ p ∈ deeds, p.2 < size) (hdl : deeds.length + n ≤ 1000)
    (hml : mods.length ≤ 1000) (hms : ∀ m ∈ mods, m.length ≤ 1000) (hds : ∀ d ∈ dirs, d.length ≤ 1000)
    (h : ∀ s' g' t, GoS [I] s g s' g' → Q (.str (Txt.join (Str.ofString "") (pRun mods dirs wr ign deeds)) t) s') : wpAny (model prog w) A (call (.ref 161) [.ref x, .str wr tw, .int size ts, vd]) Q E s := by
  refine callFn fRun (D := [I]) (binds := [("reader", .ref x), ("written", .str wr tw), ("size", .int size ts), ("deeds", vd)]) (by (exact lt_dep0 hA)) hg B rfl (BindsTo.of_eq rfl) rfl (fun L s₁ A' hh' hd' hu' F C hk => ?_)
  rw [hh] at hh'
  obtain ⟨oI, hoI⟩ := hig.live
  have hIF : ¬ FrameAt (callEnvC fRun.fd L 161) I := by
    rintro (z | ⟨m, z⟩)
    · have := F.fresh; rw [← z] at this; rw [show (Ent.of s g).h.get? I = some oI from hoI] at this; cases this
    · have := C.fresh _ _ z; rw [show (Ent.of s g).h.get? I = some oI from hoI] at this; cases this
  have hig₁ : IgnAt prog w s₁.heap I ign n := hig.at fun o q => hk _ _ q
  have z1 : (Str.ofString ".").length = 1 := by decide
  refine wpAny_execs_cons ?_
  refine wpAny_Assign_Name ?_
  refine compEval (D := []) (n := size) (P := fun i v => ∃ t, v = .int i t) (ρc := fun y => List.lookup y [(Str.ofString "written", .str wr tw)]) (fun _ => true) (fun j => .str (spotOf wr j)) (fun _ _ _ => True) (F.re []) rfl (by simp) (by simp) (by simp) ?hcl ?hρ (by decide) rfl (by decide) (by (clear hA hdl hml hd' hu' hIF z1; omega)) (fun _ _ _ _ _ _ => trivial) (fun _ _ _ _ _ _ => trivial) ?src ?turn ?fin
  case hcl =>
    intro y c e
    have := mem_of_lookup e
    simp only [List.mem_cons, List.not_mem_nil, or_false, Prod.mk.injEq] at this
    obtain ⟨rfl, rfl⟩ := this; rfl
  case hρ =>
    intro C
    refine hrho fun p hp => ?_
    simp only [List.mem_cons, List.not_mem_nil, or_false] at hp
    subst hp
    exact ⟨(show (some NameKind.cell) ≠ some NameKind.local by decide), rfl⟩
  case src =>
    intro Q' hQ
    refine call_name (nm_blt F B (nRange _) bRange ?_)
    refine cw_type ?_
    refine sp_cons ?_
    refine nm_local F rfl ?_
    refine sp_nil ?_
    exact src_range1 hh' F.sub (by (clear hA hdl hml hd' hu' hIF z1; omega)) fun I s₃ G S => hQ I s₃ g G S trivial
  case turn =>
    rintro C₁ i v s₃ g₃ e₃ hi ⟨tv, rfl⟩ F₃ hg₃ _
    have B₃ := B.keeps hg₃
    refine wpAny_assign_Name (st_local F₃ fun s₄ F₄ _ => ?_)
    refine wpAny_tests_nil ⟨rfl, fun _ => ?_, fun z => by cases z⟩
    refine meth_str PySem.F.slot_str_join PySem.F.type_str_join ?_
    refine x_str fun te tk₅ => ?_
    refine ⟨_, _, rfl, ?_⟩
    refine cw_blt ?_
    refine sp_cons ?_
    refine call_name (nm_glob F₄ B₃ (gParts _) ?_)
    refine cw_fn (w := w) fParts ?_
    refine sp_cons ?_
    refine nm_local F₄ upd_eq ?_
    refine sp_cons ?_
    refine nm_cell F₄ (Eq.trans upd_ne rfl) ?_
    refine sp_nil ⟨B₃.keeps F₄.sub, ?_⟩
    refine c_parts (s := { s₄ with toks := tk₅ }) hh' (by (exact lt_dep1z hA hd' (Nat.le_of_ble_eq_true rfl))) F₄.sub B₃ (by (clear hA hwr hdl hml hd' hu' hIF z1; omega)) hwr fun s₅ g₅ v₅ G₅ R₅ => ?_
    have F₅ := F₄.step G₅
    refine sp_nil ?_
    refine x_join F₅.sub R₅ ?_ fun t' tk' => ?_
    · refine Nat.le_trans (join_len_le _ 3 fun x hx => pParts_small hx) ?_
      have := pParts_len i wr
      have h4 : (pParts i wr).length * (3 + 1) ≤ 101 * 4 := Nat.mul_le_mul (by (clear hA hsize hdl hml hd' hu' hIF z1 hi; omega)) (Nat.le_refl _)
      (clear hA hsize hwr hdl hml hd' hu' hIF z1 hi this; omega)
    · exact ⟨g₅, F₅.weaken (upd_weaken rfl), trivial, .str _ _⟩
  case fin =>
    intro s₂ g₂ v₂ G₂ R₂ _
    rw [res_all] at R₂
    have F₂ := F.step G₂
    have hig₂ : IgnAt prog w s₂.heap I ign n := hig₁.at fun o q => G₂.keep I o (by simp) q
    obtain ⟨oI1, qI1⟩ := hig₁.live
    have gI₂ := G₂.off I _ qI1 hI
    refine st_cell F₂ C fun s₃ F₃ k₃ => ?_
    have hig₃ : IgnAt prog w s₃.heap I ign n := hig₂.at fun o q => k₃ I o (fun z => hIF (.inr ⟨Str.ofString "spots", by rw [z]; rfl⟩)) q
    have B₃ := B.keeps G₂.up
    have R₃ := R.mono G₂.up
    have hd₃ := hd.mono G₂.up
    refine wpAny_execs_cons ?_
    refine wpAny_Return_some ?_
    refine meth_str PySem.F.slot_str_join PySem.F.type_str_join ?_
    refine x_str fun te tk₄ => ?_
    refine ⟨_, _, rfl, ?_⟩
    refine cw_blt ?_
    refine sp_cons ?_
    have F₄ : FmS [I] _ _ _ ({ s₃ with toks := tk₄ } : Shared) g₂ := F₃
    have hig₄ : IgnAt prog w ({ s₃ with toks := tk₄ } : Shared).heap I ign n := hig₃
    generalize ({ s₃ with toks := tk₄ } : Shared) = s₄ at F₄ hig₄
    refine compEvalG (D := [I]) (n := deeds.length) (P := fun g i v => ∃ d, (deeds.map deedD)[i]? = some d ∧ Rep g d v) (ρc := fun y => List.lookup y [(Str.ofString "written", .str wr tw), (Str.ofString "reader", .ref x), (Str.ofString "spots", v₂)]) (fun _ => true) (fun j => .str (Str.ofString (toString (toldI mods dirs wr ign deeds j)))) (fun i g h => IgnAt prog w h I (afterI mods dirs wr ign (deeds.take i)) (n + i)) F₄ rfl ?hDl ?hDg ?hDF ?hcl ?hρ (by decide) rfl (by decide) (by (clear hA hsize hwr hml hd' hu' hIF z1; omega)) ?hJ (fun _ _ _ _ h _ => h) ?src ?hPm ?turn ?fin
    case hDl => intro y hy; rw [List.mem_singleton] at hy; subst hy; exact hig₄.live
    case hDg => intro y hy; rw [List.mem_singleton] at hy; subst hy; exact gI₂
    case hDF => intro y hy; rw [List.mem_singleton] at hy; subst hy; exact hIF
    case hcl =>
      intro y c e
      have := mem_of_lookup e
      simp only [List.mem_cons, List.not_mem_nil, or_false, Prod.mk.injEq] at this
      rcases this with ⟨rfl, rfl⟩ | ⟨rfl, rfl⟩ | ⟨rfl, rfl⟩ <;> rfl
    case hρ =>
      intro C
      refine hrho fun p hp => ?_
      simp only [List.mem_cons, List.not_mem_nil, or_false] at hp
      rcases hp with rfl | rfl | rfl
      · exact ⟨(show (some NameKind.cell) ≠ some NameKind.local by decide), rfl⟩
      · exact ⟨(show (some NameKind.cell) ≠ some NameKind.local by decide), rfl⟩
      · exact ⟨(show (some NameKind.cell) ≠ some NameKind.local by decide), rfl⟩
    case hJ =>
      intro i g' h h' h1 k
      exact h1.at fun o q => k I (.head _) o q
    case src =>
      intro Q' hQ
      refine nm_local F₄ (Eq.trans upd_ne rfl) ?_
      refine src_list (target := .Tuple [.Name (Str.ofString "bit") ⟨176, 80, 176, 83⟩, .Name (Str.ofString "i") ⟨176, 85, 176, 86⟩] 0 ⟨176, 80, 176, 86⟩) hh' F₄.sub hd₃ fun It s₅ G₅ S₅ => ?_
      rw [List.length_map] at S₅
      refine hQ It s₅ g₂ G₅.mono0 S₅ ?_
      exact hig₄.at fun o q => G₅.keep I o (by simp) q
    case hPm =>
      rintro g g' i v hgg ⟨d, hd, hr⟩
      exact ⟨d, hd, hr.mono hgg⟩
    case turn =>
      rintro C₁ i v s₅ g₅ e₅ hi ⟨d, hdd, hrd⟩ F₅ hg₅ hgD hJ₅
      have B₅ := B₃.keeps hg₅
      have R₅ := R₃.mono hg₅
      have Rs₅ := R₂.mono hg₅
      obtain ⟨p, hp, rfl⟩ : ∃ p, deeds[i]? = some p ∧ deedD p = d := by
        rw [List.getElem?_map] at hdd
        cases q : deeds[i]? with
        | none => rw [q] at hdd; cases hdd
        | some n => rw [q] at hdd; exact ⟨n, rfl, by simpa using hdd⟩
      have hp2 := hdi p (List.mem_of_getElem? hp)
      have hgp : deeds.getD i (Str.ofString "", 0) = p := by rw [List.getD, hp]; rfl
      obtain ⟨hI₅, hIC⟩ := hgD I (.head _)
      obtain ⟨T, vs, rfl, hT, hvs⟩ := hrd.tup_inv
      cases hvs with
      | cons r1 hvs =>
      cases hvs with
      | cons r2 hvs =>
      cases hvs
      obtain ⟨t1, rfl⟩ := r1.str_inv
      obtain ⟨t2, rfl⟩ := r2.int_inv
      refine wpAny_assign_Tuple hh' (isTup_mono F₅.sub hT) rfl rfl fun h' hx => ?_
      have F₆ : FmS [I] _ _ _ ({ s₅ with heap := h' } : Shared) g₅ := F₅.step (go_keeps F₅.sub fun b o q => hx b o (Nat.ne_of_lt (lts q)) q)
      have hJ₆ : IgnAt prog w h' I _ (n + i) := hJ₅.at fun o q => hx I o (Nat.ne_of_lt (lts q)) q
      refine assignInOrder_cons ?_
      refine wpAny_assign_Name (st_local F₆ fun s₇ F₇ k₇ => ?_)
      refine assignInOrder_cons ?_
      refine wpAny_assign_Name (st_local F₇ fun s₈ F₈ k₈ => ?_)
      have hJ₈ : IgnAt prog w s₈.heap I _ (n + i) := (hJ₆.at fun o q => k₇ I o (fun z => hIC (.inl z)) q).at fun o q => k₈ I o (fun z => hIC (.inl z)) q
      refine assignInOrder_nil ?_
      refine wpAny_tests_nil ⟨rfl, fun _ => ?_, fun z => by cases z⟩
      refine call_name (nm_blt F₈ B₅ (nStr _) bStr ?_)
      refine cw_type ?_
      refine sp_cons ?_
      obtain ⟨dx, es, ni, hInst, l1, l2, l3, l4⟩ := R₅.inst
      refine MethodCall_ ?_
      refine nm_cell F₈ (Eq.trans upd_ne (Eq.trans upd_ne rfl)) ?_
      refine x_method (hInst.mono F₈.sub) (B₅.keeps F₈.sub) l4 ?_
      refine cw_fn (w := w) fNames ?_
      refine sp_cons ?_
      refine call_name (nm_glob F₈ B₅ (gFile _) ?_)
      refine cw_fn (w := w) fFile ?_
      refine sp_cons ?_
      refine nm_cell F₈ (Eq.trans upd_ne (Eq.trans upd_ne rfl)) ?_
      refine sp_cons ?_
      refine nm_local F₈ (Eq.trans upd_ne upd_eq) ?_
      refine sp_cons ?_
      refine nm_local F₈ upd_eq ?_
      refine sp_nil ⟨B₅.keeps F₈.sub, ?_⟩
      refine c_file hh' (by (exact lt_dep1z hA hd' (Nat.le_of_ble_eq_true rfl))) F₈.sub B₅ (by (clear hA hdl hml hd' hu' hIF z1 hi hIC; omega)) (by (exact Nat.le_trans hwr (Nat.le_of_ble_eq_true rfl))) fun s₉ g₉ v₉ G₉ R₉ => ?_
      have F₉ := F₈.step G₉
      have B₉ := B₅.keeps G₉.up
      have hJ₉ : IgnAt prog w s₉.heap I _ (n + i) := hJ₈.at fun o q => G₉.keep I o (by simp) q
      obtain ⟨oI8, qI8⟩ := hJ₈.live
      have hI₉ := G₉.off I _ qI8 hI₅
      refine sp_cons ?_
      refine Subscript_ ?_
      refine nm_cell F₉ (Eq.trans upd_ne (Eq.trans upd_ne rfl)) ?_
      refine nm_local F₉ upd_eq ?_
      refine r_item F₉.sub (Rs₅.mono G₉.up) (by (exact Int.natCast_nonneg _)) (by (clear hA hdl hml hd' hu' hIF z1 hi hIC; omega)) (d := .str (spotOf wr p.2)) (by rw [Int.toNat_natCast, List.getElem?_map, List.getElem?_range hp2]; rfl) fun u hu => ?_
      obtain ⟨tu, rfl⟩ := hu.str_inv
      refine sp_nil ⟨B₉.keeps F₉.sub, ?_⟩
      refine c_names hh' (by (exact lt_dep1z hA hd' (Nat.le_of_ble_eq_true rfl))) F₉.sub B₉ (R₅.mono G₉.up) hI₉ hJ₉ (rep_file R₉) (by (clear hA hsize hwr hml hd' hu' hIF z1 hp2 hIC; omega)) hml hms hds fun s₁₀ g₁₀ t₁₀ G₁₀ hJ₁₀ => ?_
      have F₁₀ := F₉.stepD G₁₀ fun y hy => by rw [List.mem_singleton] at hy; subst hy; exact ⟨.inl (.head _), hIC⟩
      refine sp_nil ?_
      have e0 : toldI mods dirs wr ign deeds i = ansI mods dirs (afterI mods dirs wr ign (deeds.take i)) (fileO wr p.1 p.2) (spotOf wr p.2) := by
        unfold toldI; rw [hgp]
      refine x_strInt (s := s₁₀) (tk := s₁₀.toks) ?_ fun t₁₁ tk₁₁ => ?_
      · rcases ansI_ok (mods := mods) (dirs := dirs) (file := fileO wr p.1 p.2) (nm := spotOf wr p.2) (afterI_ok (mods := mods) (dirs := dirs) (wr := wr) (ds := deeds.take i) hok) with e | e <;> rw [e] <;> decide
      · refine ⟨g₁₀, F₁₀.weaken fun y v e => upd_weaken rfl _ _ (upd_weaken rfl _ _ e), ?_, ?_⟩
        · have : afterI mods dirs wr ign (deeds.take (i + 1)) = nextI mods dirs (afterI mods dirs wr ign (deeds.take i)) (fileO wr p.1 p.2) (spotOf wr p.2) := by
            rw [List.take_add_one, hp]
            simp only [afterI, Option.toList, List.foldl_append, List.foldl_cons, List.foldl_nil, stepI]
          rw [this]; exact hJ₁₀
        · rw [e0]; exact .str _ _
    case fin =>
      intro s₅ g₅ v₅ G₅ R₅ _
      rw [res_all] at R₅
      refine sp_nil ?_
      refine x_join (ss := pRun mods dirs wr ign deeds) G₅.sub ?_ ?_ fun _ _ => ?_
      · simpa [texts, pRun, List.map_map, Function.comp_def] using R₅
      · have := sum_len_le (k := 1) (pRun mods dirs wr ign deeds) (by
          intro y hy; obtain ⟨j, _, rfl⟩ := List.mem_map.mp hy; exact digit_len (ansI_ok (afterI_ok hok)))
        have hl : (pRun mods dirs wr ign deeds).length = deeds.length := by simp [pRun]
        have : (Str.ofString "").length = 0 := by decide
        rw [this]; (clear hA hsize hwr hml hd' hu' hIF z1 this; omega)
      · refine h _ g₅ _ ?_
        exact (F₄.stepD G₅ fun y hy => by rw [List.mem_singleton] at hy; subst hy; exact ⟨.inl (.head _), hIF⟩).go
end
end Mine

/-! # NqCodec -/
namespace Mine
open Builtin
theorem road_a {id : String} {b : Array UInt8} : _codecs.decodeRoad id b (PySem.Str.ofString "ascii") none [] = (_codecs.runDecoder id _codecs.asciiDecoder none true b 0 [] >>= fun r => mkStr ⟨r.1⟩) := by kernel_rfl
theorem entry_a {c : UInt8} {cs : List UInt8} {t u : Tok} : «bytes.decode» ⟨[.bytes (c :: cs).toArray t, .str (PySem.Str.ofString "ascii") u], []⟩ = (mkStr (PySem.Str.ofString "utf-8") >>= fun _ => mkStr (PySem.Str.ofString "ascii") >>= fun e => mkStr (PySem.Str.ofString "bytes.decode") >>= fun d =>
    call (.builtin "_codecs.decode.text") [.bytes (c :: cs).toArray t, e, .none, d] >>= fun v => ret v) := by kernel_rfl
theorem eroad_a {id : String} {self : Value} {x : Str} : _codecs.encodeRoad id self x (Str.ofString "ascii") none = (do mkBytes (← _codecs.encodeNarrow id _codecs.asciiCodec none self x)) := by kernel_rfl
theorem eentry_a {x : Str} {t u : Tok} : «str.encode» ⟨[.str x t, .str (Str.ofString "ascii") u], []⟩ = (do ret (← _codecs.encodeRoad "str.encode" (.str x t) x (Str.ofString "ascii") none)) := by kernel_rfl
theorem loop_dec {st : _codecs.Faults} {body : Nat → Nat × Array Nat × _codecs.Faults → Sem (ForInStep (Nat × Array Nat × _codecs.Faults))} {b : Array UInt8}
    (hbody : ∀ x p, p < b.size → body x (p, (b.extract 0 p).map (·.toNat), st) = pure (.yield (p + 1, (b.extract 0 (p + 1)).map (·.toNat), st))) :
    ∀ (l : List Nat) (p : Nat) (out : Array Nat), out = (b.extract 0 p).map (·.toNat) → p + l.length = b.size → forIn l (p, out, st) body = (pure (b.size, b.map (·.toNat), st) : Sem _)
  | [], p, out, ho, hp => by
    have : p = b.size := by simpa using hp
    subst this
    subst ho
    simp
  | x :: l, p, out, ho, hp => by
    subst ho
    rw [List.forIn_cons, hbody x p (by simp at hp; omega)]
    simp only [pure_bind]
    exact loop_dec hbody l (p + 1) _ rfl (by simp at hp ⊢; omega)
theorem dec_loop {id : String} {b : Array UInt8} (hb : b.size ≤ 1000) (h : ∀ i, (b.getD i 0).toNat < 128) : _codecs.runDecoder id _codecs.asciiDecoder none true b 0 [] = pure (b.map (·.toNat), b.size) := by
  unfold _codecs.runDecoder
  simp only [Std.Legacy.Range.forIn_eq_forIn_range']
  rw [loop_dec (b := b) ?_ _ 0 #[] (by simp) (by simp [Std.Legacy.Range.size])]
  · simp
  · intro x p hp
    have hsz : ¬ (Array.map (fun (x : UInt8) => x.toNat) (b.extract 0 p)).size > sizeLine := by rw [sizeLine_eq]; simp; omega
    dsimp only
    rw [if_neg hsz, if_neg (by (clear hb hsz; omega))]
    have hf : _codecs.asciiDecoder.find true b p = .text [(b.getD p 0).toNat] (p + 1) := by
      simp only [_codecs.asciiDecoder, h p, if_true]; rfl
    rw [hf]
    dsimp only
    congr 4
    have : b.extract 0 (p + 1) = (b.extract 0 p).push (b.getD p 0) := by
      have hg : b.getD p 0 = b[p] := by simp [Array.getD, hp]
      rw [hg]; exact (Array.extract_succ_right (by (clear hb hsz; omega)) hp)
    rw [this]; simp
theorem loop_enc {st : _codecs.Faults} {body : Nat → Nat × Array UInt8 × _codecs.Faults → Sem (ForInStep (Nat × Array UInt8 × _codecs.Faults))} {n : Nat} {out : Array UInt8}
    (h0 : n ≠ 0 → ∀ x, body x (0, #[], st) = pure (.yield (n, out, st))) (h1 : ∀ x, body x (n, out, st) = pure (.done (n, out, st))) (hn : n = 0 → out = #[]) :
    ∀ (l : List Nat), l.length = n → forIn l (0, #[], st) body = (pure (n, out, st) : Sem _)
  | [], hl => by
    have hn0 : n = 0 := by simpa using hl.symm
    rw [hn hn0, hn0]; simp
  | x :: l, hl => by
    rw [List.forIn_cons, h0 (by rw [← hl]; simp) x]
    simp only [pure_bind]
    cases l with
    | nil => simp
    | cons y l => rw [List.forIn_cons, h1 y]; simp
theorem enc_loop {id : String} {self : Value} {x : Str} (hl : x.length ≤ 1000) (h : ∀ c ∈ x.cps, c < 128) : _codecs.encodeNarrow id _codecs.asciiCodec none self x = pure (x.cps.map (·.toUInt8)) := by
  unfold _codecs.encodeNarrow
  simp only [Std.Legacy.Range.forIn_eq_forIn_range']
  have hfind : Array.findIdx? _codecs.asciiCodec.bad x.cps = none := by
    rw [Array.findIdx?_eq_none_iff]
    intro c hc
    have := h c hc
    simp [_codecs.asciiCodec]; (exact this)
  rw [loop_enc (n := x.cps.size) (out := x.cps.map (·.toUInt8)) ?_ ?_ ?_ _ ?_]
  · simp
  · intro hn y
    have hp : 0 < x.cps.size := Nat.pos_of_ne_zero hn
    have hc : x.cps[0]? = some x.cps[0] := Array.getElem?_eq_getElem hp
    have hbad : _codecs.asciiCodec.bad x.cps[0] = false := by
      have := h x.cps[0] (Array.getElem_mem hp)
      simp [_codecs.asciiCodec]; (exact this)
    have hx : x.cps.extract 0 = x.cps := by simp
    dsimp only
    rw [if_neg (by rw [sizeLine_eq]; simp), hc]
    dsimp only
    rw [hbad]
    simp only [Bool.not_false, if_true, hx, hfind, Option.getD_none, Nat.zero_add]
    congr 4
    have : ∀ (l : List Nat) (acc : Array UInt8), l.foldl (fun acc y => acc ++ (_codecs.asciiCodec.bytesOf y).toArray) acc = acc ++ (l.map (·.toUInt8)).toArray := by
      intro l
      induction l with
      | nil => intro acc; simp
      | cons a r ih => intro acc; rw [List.foldl_cons, ih]; simp [_codecs.asciiCodec]
    rw [← Array.foldl_toList, this]
    apply Array.ext'
    simp
  · intro y
    have hc : x.cps[x.cps.size]? = none := by simp
    dsimp only
    have hsz : ¬ (x.cps.map (·.toUInt8)).size > sizeLine := by
      have : x.cps.size ≤ 1000 := hl
      rw [sizeLine_eq]; simp; (exact Nat.le_trans this (Nat.le_of_ble_eq_true rfl))
    rw [if_neg hsz, hc]
  · intro h0; exact Array.eq_empty_of_size_eq_zero (by simpa using h0)
  · simp [Std.Legacy.Range.size, Str.length]

theorem meets_text_a {b : Array UInt8} {t t1 t2 : Tok} {d : PySem.Str} (hb : b.size ≤ 1000) (h : ∀ i, (b.getD i 0).toNat < 128) :
    Meets («_codecs.decode.text» ⟨[.bytes b t, .str (PySem.Str.ofString "ascii") t1, .none, .str d t2], []⟩) (fun _ R s => R (.ok (.ret (.str ⟨b.map (·.toNat)⟩ s.toks))) { s with toks := s.toks + 1 }) := by
  refine .of_wp fun prog w A R s hS => ?_
  show wpAny _ _ (Bytes.bytesLike _ (.bytes b t) >>= fun r => _) _ _ s
  refine wpAny_bind (wpAny_of_eq KBd.like_eq ?_)
  refine wpAny_bind (wpAny_of_eq KBd.held_eq ?_)
  show wpAny _ _ (_codecs.decodeRoad _ b (PySem.Str.ofString "ascii") none [] >>= fun v => _) _ _ s
  rw [road_a, dec_loop hb h]
  refine wpAny_bind (wpAny_bind (wpAny_pure ?_))
  exact wpAny_mkStr (wpAny_pure ⟨_, rfl, hS⟩) (by rw [sizeLine_eq]; simp [Str.length]; (exact Nat.le_trans hb (Nat.le_of_ble_eq_true rfl)))
theorem meets_decode_a {c : UInt8} {cs : List UInt8} {t u : Tok} (hb : (c :: cs).toArray.size ≤ 1000) (h : ∀ i, ((c :: cs).toArray.getD i 0).toNat < 128) :
    Meets («bytes.decode» ⟨[.bytes (c :: cs).toArray t, .str (PySem.Str.ofString "ascii") u], []⟩) (fun _ R s => ∀ t' k, R (.ok (.ret (.str ⟨(c :: cs).toArray.map (·.toNat)⟩ t'))) { s with toks := k }) := by
  refine .of_wp fun prog w A R s hS => ?_
  rw [entry_a]
  refine wpAny_bind (wpAny_mkStr ?_ (by decide))
  refine wpAny_bind (wpAny_mkStr ?_ (by decide))
  refine wpAny_bind (wpAny_mkStr ?_ (by decide))
  exact wpAny_bind (call_function_meets KBd.kind_text KBd.plain_text KBd.entry_text (KBd.args_text _ _ _ _) (meets_text_a hb h) (wpAny_pure ⟨_, rfl, hS _ _⟩))
theorem meets_encode_a {x : Str} {t u : Tok} (hl : x.length ≤ 1000) (h : ∀ c ∈ x.cps, c < 128) :
    Meets («str.encode» ⟨[.str x t, .str (Str.ofString "ascii") u], []⟩) (fun _ R s => ∀ t' k, R (.ok (.ret (.bytes (x.cps.map (·.toUInt8)) t'))) { s with toks := k }) := by
  refine .of_wp fun prog w A R s hS => ?_
  rw [eentry_a, eroad_a, enc_loop hl h]
  refine wpAny_bind (wpAny_bind (wpAny_pure ?_))
  refine wpAny_mkBytes ?_ (by have : x.cps.size ≤ 1000 := hl
                              rw [sizeLine_eq]; simp; (exact Nat.le_trans this (Nat.le_of_ble_eq_true rfl)))
  exact wpAny_pure ⟨_, rfl, hS _ _⟩
theorem args_decode_2 (a b : Value) : argsOk "bytes.decode" ⟨[a, b], []⟩ := by unfold argsOk; kernel_rfl
theorem args_encode_2 (a b : Value) : argsOk "str.encode" ⟨[a, b], []⟩ := by unfold argsOk; kernel_rfl
section
variable {prog : Program} {w : World} {M : Model} {A : Around} {E : Value → Shared → Prop} {s : Shared} {tk : Nat} {Q : Value → Shared → Prop}
theorem x_decode {b : Array UInt8} {t u : Tok} (h0 : b.size ≠ 0) (hb : b.size ≤ 1000) (hc : ∀ i, (b.getD i 0).toNat < 128) (h : ∀ t' tk', Q (.str ⟨b.map (·.toNat)⟩ t') { s with toks := tk' }) :
    wpAny (model prog w) A (call (.builtin "bytes.decode") [.bytes b t, .str (Str.ofString "ascii") u]) Q E { s with toks := tk } := by
  obtain ⟨l⟩ := b
  cases l with
  | nil => exact absurd rfl h0
  | cons c cs => exact call_meets FB.slot_bytes_decode (typeIs_bytes _ _ _) FB.entry_bytes_decode (args_decode_2 _ _) (meets_decode_a hb hc) fun t' k => h t' k
theorem x_encode {x : Str} {t u : Tok} (hl : x.length ≤ 1000) (hc : ∀ c ∈ x.cps, c < 128) (h : ∀ t' tk', Q (.bytes (x.cps.map (·.toUInt8)) t') { s with toks := tk' }) :
    wpAny (model prog w) A (call (.builtin "str.encode") [.str x t, .str (Str.ofString "ascii") u]) Q E { s with toks := tk } :=
  call_meets PySem.F.slot_str_encode (typeIs_str _ _ _) PySem.F.entry_str_encode (args_encode_2 _ _) (meets_encode_a hl hc) fun t' k => h t' k
end
end Mine

/-! # NqPure1 -/
namespace Mine
noncomputable abbrev cs (x : Str) : List Nat := x.cps.toList
theorem cs_inj {x y : Str} (h : cs x = cs y) : x = y := by
  cases x with
  | mk a => cases y with
    | mk b => simp only [cs] at h; rw [show a = b from Array.ext' h]
theorem cs_append (x y : Str) : cs (x ++ y) = cs x ++ cs y := cps_toList_append x y
theorem cs_length (x : Str) : (cs x).length = x.length := by simp [cs, Str.length]
theorem cs_empty : cs (Str.ofString "") = [] := by decide
theorem cs_join (sep : Str) : ∀ l : List Str, l ≠ [] → cs (Txt.join sep l) ++ cs sep = l.flatMap fun p => cs p ++ cs sep
  | [], h => absurd rfl h
  | [x], _ => by
    have : Txt.join sep [x] = x := (PySem.StrLaws.glued_eq_join sep [x]).trans rfl
    rw [this]; simp
  | x :: y :: r, _ => by
    have ih := cs_join sep (y :: r) (by simp)
    have : Txt.join sep (x :: y :: r) = x ++ sep ++ Txt.join sep (y :: r) := by
      rw [show Txt.join sep (x :: y :: r) = Str.join sep (x :: y :: r) from PySem.StrLaws.glued_eq_join .., show Txt.join sep (y :: r) = Str.join sep (y :: r) from PySem.StrLaws.glued_eq_join ..]; rfl
    rw [this, cs_append, cs_append, List.flatMap_cons, List.append_assoc, ih]
theorem cs_cat : ∀ l : List Str, cs (Txt.join (Str.ofString "") l) = l.flatMap cs
  | [] => by rw [show Txt.join (Str.ofString "") [] = Str.empty from PySem.StrLaws.glued_eq_join ..]; rfl
  | x :: r => by
    have := cs_join (Str.ofString "") (x :: r) (by simp)
    simpa [cs_empty] using this
theorem starts_iff (x y : Str) : Txt.startswith x y = true ↔ cs y <+: cs x := by
  unfold Txt.startswith
  rw [PySem.StrLaws.subAt_eq]
  simp only [Nat.zero_add, Bool.and_eq_true, decide_eq_true_eq, List.drop_zero, beq_iff_eq]
  rw [← cs_length, ← cs_length]
  constructor
  · rintro ⟨_, h⟩; exact List.prefix_iff_eq_take.mpr h.symm
  · intro h; exact ⟨h.length_le, (List.prefix_iff_eq_take.mp h).symm⟩

/-! ## dots -/
noncomputable def dcat (l : List (List Nat)) : List Nat := l.flatMap fun p => p ++ [46]
theorem dot_split {m p a b : List Nat} (hm : 46 ∉ m) (hp : 46 ∉ p) (h : m ++ 46 :: a <+: p ++ 46 :: b) : m = p ∧ a <+: b := by
  induction m generalizing p with
  | nil =>
    cases p with
    | nil => exact ⟨rfl, (List.cons_prefix_cons.mp h).2⟩
    | cons c r => have := (List.cons_prefix_cons.mp h).1; exact absurd (this ▸ List.mem_cons_self) hp
  | cons c m ih =>
    cases p with
    | nil => have := (List.cons_prefix_cons.mp h).1; exact absurd (this ▸ List.mem_cons_self) hm
    | cons d r =>
      obtain ⟨h1, h2⟩ := List.cons_prefix_cons.mp h
      obtain ⟨h3, h4⟩ := ih (fun z => hm (.tail _ z)) (fun z => hp (.tail _ z)) h2
      exact ⟨by rw [h1, h3], h4⟩
theorem dcat_prefix : ∀ {M P : List (List Nat)}, (∀ m ∈ M, 46 ∉ m) → (∀ p ∈ P, 46 ∉ p) → (dcat M <+: dcat P ↔ M <+: P)
  | [], P, _, _ => by simp [dcat]
  | m :: M, [], _, _ => by simp [dcat]
  | m :: M, p :: P, hM, hP => by
    have ih := dcat_prefix (M := M) (P := P) (fun x hx => hM x (.tail _ hx)) (fun x hx => hP x (.tail _ hx))
    have e : ∀ (x : List Nat) (l : List (List Nat)), dcat (x :: l) = x ++ 46 :: dcat l := fun x l => by simp [dcat]
    rw [e, e, List.cons_prefix_cons]
    constructor
    · intro h
      obtain ⟨h1, h2⟩ := dot_split (hM m (.head _)) (hP p (.head _)) h
      exact ⟨h1, ih.mp h2⟩
    · rintro ⟨rfl, h⟩
      exact (List.prefix_append_right_inj _).mpr (List.cons_prefix_cons.mpr ⟨rfl, ih.mpr h⟩)
theorem cs_dotted {m : List Str} (h : m ≠ []) : cs (dotted m) ++ [46] = dcat (m.map cs) := by
  have := cs_join (Str.ofString ".") m h
  rw [show cs (Str.ofString ".") = [46] from by decide] at this
  rw [show cs (dotted m) = cs (Txt.join (Str.ofString ".") m) from rfl, this, dcat, List.flatMap_map]
noncomputable def Free (m : List Str) : Prop := ∀ x ∈ m, 46 ∉ cs x
theorem map_prefix {M P : List Str} : M.map cs <+: P.map cs ↔ M <+: P := by
  induction M generalizing P with
  | nil => simp
  | cons m M ih =>
    cases P with
    | nil => simp
    | cons p P =>
      simp only [List.map_cons, List.cons_prefix_cons, ih]
      exact ⟨fun h => ⟨cs_inj h.1, h.2⟩, fun h => ⟨by rw [h.1], h.2⟩⟩
theorem dotted_prefix {M P : List Str} (hM : Free M) (hP : Free P) (m0 : M ≠ []) (p0 : P ≠ []) : cs (dotted M) ++ [46] <+: cs (dotted P) ++ [46] ↔ M <+: P := by
  rw [cs_dotted m0, cs_dotted p0, dcat_prefix, map_prefix]
  · intro x hx; obtain ⟨y, hy, rfl⟩ := List.mem_map.mp hx; exact hM y hy
  · intro x hx; obtain ⟨y, hy, rfl⟩ := List.mem_map.mp hx; exact hP y hy
theorem prefix_snoc {a b : List Nat} {c : Nat} : a <+: b ++ [c] ↔ a = b ++ [c] ∨ a <+: b := by
  constructor
  · rintro ⟨t, h⟩
    rcases List.eq_nil_or_concat t with rfl | ⟨t', d, rfl⟩
    · exact .inl (by simpa using h)
    · rw [List.concat_eq_append, ← List.append_assoc] at h
      exact .inr ⟨t', (List.append_inj' h rfl).1⟩
  · rintro (rfl | h)
    · exact List.prefix_refl _
    · exact h.trans (List.prefix_append _ _)
theorem dotted_hit {M P : List Str} (hM : Free M) (hP : Free P) (m0 : M ≠ []) (p0 : P ≠ []) : (dotted P = dotted M ∨ Txt.startswith (dotted P) (dotted M ++ Str.ofString ".") = true) ↔ M <+: P := by
  rw [← dotted_prefix hM hP m0 p0, prefix_snoc, starts_iff, cs_append, show cs (Str.ofString ".") = [46] from by decide]
  constructor
  · rintro (h | h)
    · rw [h]; exact .inl rfl
    · exact .inr h
  · rintro (h | h)
    · exact .inl (cs_inj (List.append_inj' h rfl).1.symm)
    · exact .inr h
theorem dotted_inj {M P : List Str} (hM : Free M) (hP : Free P) (m0 : M ≠ []) (p0 : P ≠ []) (h : dotted M = dotted P) : M = P := by
  have h1 := (dotted_prefix hM hP m0 p0).mp (by rw [h]; exact List.prefix_refl _)
  have h2 := (dotted_prefix hP hM p0 m0).mp (by rw [h]; exact List.prefix_refl _)
  exact h1.eq_of_length_le h2.length_le
end Mine

/-! # NqPure2 -/
namespace Mine
/-! ## chunks -/
noncomputable def chk (n m : Nat) (l : List Nat) : List (List Nat) := (List.range m).map fun j => (l.drop (n * j)).take n
theorem chk_add (n a b : Nat) (l : List Nat) : chk n (a + b) l = chk n a l ++ chk n b (l.drop (n * a)) := by
  unfold chk
  rw [List.range_add, List.map_append, List.map_map]
  congr 1
  refine List.map_congr_left fun j _ => ?_
  simp only [Function.comp_def, List.drop_drop, Nat.mul_add]
theorem chk_left {n m : Nat} {u v : List Nat} (h : n * m ≤ u.length) : chk n m (u ++ v) = chk n m u := by
  refine List.map_congr_left fun j hj => ?_
  have hj' := List.mem_range.mp hj
  have h1 : n * (j + 1) ≤ n * m := Nat.mul_le_mul_left _ hj'
  rw [Nat.mul_add, Nat.mul_one] at h1
  rw [List.drop_append_of_le_length (by (clear hj'; omega)), List.take_append_of_le_length (by rw [List.length_drop]; (clear hj'; omega))]
theorem binVal_append (l m : List Nat) : binVal (l ++ m) = binVal l * 2 ^ m.length + binVal m := by
  have key : ∀ (m : List Nat) (a : Nat), m.foldl (fun acc c => acc * 2 + (c - 48)) a = a * 2 ^ m.length + m.foldl (fun acc c => acc * 2 + (c - 48)) 0 := by
    intro m
    induction m with
    | nil => intro a; simp
    | cons c r ih =>
      intro a
      rw [List.foldl_cons, List.foldl_cons, ih, ih (0 * 2 + (c - 48)), List.length_cons, Nat.pow_succ, Nat.add_mul, Nat.mul_assoc, Nat.mul_comm 2 (2 ^ r.length), Nat.zero_mul, Nat.zero_add]
      omega
  unfold binVal
  rw [List.foldl_append, key m]
noncomputable def octs (k : Nat) (l : List Nat) : List Nat := (chk 8 k l).map binVal
noncomputable def sixs (k : Nat) (l : List Nat) : List Nat := (chk 6 k l).map binVal

theorem group (l : List Nat) (hb : Bin l) (hl : l.length = 24) : ∃ a b c d e f, a < 64 ∧ b < 4 ∧ c < 16 ∧ d < 16 ∧ e < 4 ∧ f < 64 ∧ octs 3 l = [a * 4 + b, c * 16 + d, e * 64 + f] ∧ sixs 4 l = [a, b * 16 + c, d * 4 + e, f] := by
  have p : ∀ (i n : Nat), i + n ≤ 24 → ((l.drop i).take n).length = n := fun i n h => by simp only [List.length_take, List.length_drop]; omega
  have lt : ∀ (i n : Nat), i + n ≤ 24 → binVal ((l.drop i).take n) < 2 ^ n := fun i n h => by
    have := binVal_lt _ ((hb.drop i).take n); rwa [p i n h] at this
  have sp : ∀ (i n m : Nat), i + (n + m) ≤ 24 → binVal ((l.drop i).take (n + m)) = binVal ((l.drop i).take n) * 2 ^ m + binVal ((l.drop (i + n)).take m) := fun i n m h => by
    rw [List.take_add, binVal_append, List.drop_drop, p (i + n) m (by (clear hl; omega))]
  refine ⟨binVal ((l.drop 0).take 6), binVal ((l.drop 6).take 2), binVal ((l.drop 8).take 4), binVal ((l.drop 12).take 4), binVal ((l.drop 16).take 2), binVal ((l.drop 18).take 6), lt 0 6 (by (clear hl; omega)), lt 6 2 (by (clear hl; omega)), lt 8 4 (by (clear hl; omega)), lt 12 4 (by (clear hl; omega)), lt 16 2 (by (clear hl; omega)), lt 18 6 (by (clear hl; omega)), ?_, ?_⟩
  · show [binVal ((l.drop 0).take (6 + 2)), binVal ((l.drop 8).take (4 + 4)), binVal ((l.drop 16).take (2 + 6))] = _
    rw [sp 0 6 2 (by (clear hl; omega)), sp 8 4 4 (by (clear hl; omega)), sp 16 2 6 (by (clear hl; omega))]
  · show [binVal ((l.drop 0).take 6), binVal ((l.drop 6).take (2 + 4)), binVal ((l.drop 12).take (4 + 2)), binVal ((l.drop 18).take 6)] = _
    rw [sp 6 2 4 (by (clear hl; omega)), sp 12 4 2 (by (clear hl; omega))]
theorem b64three (x : B64S) (h0 : x.lb = 0) {a b c d e f : Nat} (ha : a < 64) (hb : b < 4) (hc : c < 16) (hd : d < 16) (he : e < 4) (hf : f < 64) :
    ([a * 4 + b, c * 16 + d, e * 64 + f].foldl b64step x).lb = 0 ∧ ([a * 4 + b, c * 16 + d, e * 64 + f].foldl b64step x).out = x.out ++ [a, b * 16 + c, d * 4 + e, f].map B64 := by
  simp only [List.foldl_cons, List.foldl_nil, b64step, h0]
  refine ⟨by decide, ?_⟩
  simp only [emits, show (0 + 8) % 6 = 2 from rfl, show (0 + 8) / 6 = 1 from rfl, show (2 + 8) % 6 = 4 from rfl, show (4 + 8) / 6 = 2 from rfl, show List.range 1 = [0] from rfl, show List.range 2 = [0, 1] from rfl, List.map_cons, List.map_nil, List.append_assoc, List.cons_append, List.nil_append]
  simp only [show 2 ^ (0 + 8 - 6 * (0 + 1)) = 4 from rfl, show 2 ^ (2 + 8 - 6 * (0 + 1)) = 16 from rfl, show 2 ^ (4 + 8 - 6 * (0 + 1)) = 64 from rfl, show 2 ^ (4 + 8 - 6 * (1 + 1)) = 1 from rfl]
  congr 1
  congr 1
  · congr 1; (clear h0 hc hd he hf; omega)
  congr 1
  · congr 1; (clear h0 ha he hf; omega)
  congr 1
  · congr 1; (clear h0 ha hb hc; omega)
  congr 1
  · congr 1; (clear h0 ha hb hc hd he; omega)
theorem b64_sixs : ∀ (k : Nat) (l : List Nat), Bin l → l.length = 24 * k → ∀ x : B64S, x.lb = 0 → ((octs (3 * k) l).foldl b64step x).out = x.out ++ (sixs (4 * k) l).map B64
  | 0, l, _, _, x, _ => by simp [octs, sixs, chk]
  | k + 1, l, hb, hl, x, h0 => by
    have e1 : octs (3 * (k + 1)) l = octs 3 (l.take 24) ++ octs (3 * k) (l.drop 24) := by
      unfold octs
      rw [show 3 * (k + 1) = 3 + 3 * k by (clear hl h0; omega), chk_add, List.map_append]
      conv => lhs; rw [← List.take_append_drop 24 l]
      rw [chk_left (by simp only [List.length_take]; (clear h0; omega)), List.take_append_drop]
    have e2 : sixs (4 * (k + 1)) l = sixs 4 (l.take 24) ++ sixs (4 * k) (l.drop 24) := by
      unfold sixs
      rw [show 4 * (k + 1) = 4 + 4 * k by (clear hl h0; omega), chk_add, List.map_append]
      conv => lhs; rw [← List.take_append_drop 24 l]
      rw [chk_left (by simp only [List.length_take]; (clear h0; omega)), List.take_append_drop]
    obtain ⟨a, b, c, d, e, f, ha, hb', hc, hd, he, hf, o, s⟩ := group (l.take 24) (hb.take 24) (by rw [List.length_take]; (clear h0; omega))
    obtain ⟨r1, r2⟩ := b64three x h0 ha hb' hc hd he hf
    rw [e1, e2, List.foldl_append, o, s, b64_sixs k (l.drop 24) (hb.drop 24) (by rw [List.length_drop]; (clear h0 ha hb' hc hd he hf r1; omega)) _ r1, r2, List.map_append, List.append_assoc]
theorem b64_of_bits {k : Nat} {l : List Nat} (hb : Bin l) (hl : l.length = 24 * k) : (b64fold (octs (3 * k) l)).out = (sixs (4 * k) l).map B64 := by
  have := b64_sixs k l hb hl ⟨0, 0, []⟩ rfl
  simpa [b64fold] using this
theorem fm_one {α : Type} (f : α → List Nat) (h : α → Nat) : ∀ l : List α, (∀ a ∈ l, f a = [h a]) → l.flatMap f = l.map h
  | [], _ => rfl
  | a :: r, hl => by rw [List.flatMap_cons, hl a (.head _), fm_one f h r fun x hx => hl x (.tail _ hx)]; rfl
theorem item_alpha {v : Nat} (h : v < 64) : cs (Txt.item alphaS v) = [B64 v] := by
  have : ∀ v, v < 64 → cs (Txt.item alphaS (v : Nat)) = [B64 v] := by decide +kernel
  exact this v h
theorem cs_sixes {k : Nat} {x : Str} (hb : Bin (cs x)) (hl : (cs x).length = 24 * k) : cs (pSixes x) = (sixs (4 * k) (cs x)).map B64 := by
  unfold pSixes
  rw [cs_cat, List.flatMap_map]
  have hlen : x.length / 6 = 4 * k := by rw [← cs_length, hl]; (clear hl; omega)
  rw [hlen]
  unfold sixs chk
  rw [List.map_map, List.map_map]
  refine fm_one _ _ _ fun j hj => ?_
  have hj' := List.mem_range.mp hj
  have : sixAt x j < 64 := by
    have := binVal_lt _ ((hb.drop (6 * j)).take 6)
    rw [show (List.take 6 (List.drop (6 * j) (cs x))).length = 6 by simp only [List.length_take, List.length_drop]; (clear hlen this; omega)] at this
    exact this
  rw [item_alpha this]; rfl
theorem cs_sixes_b64 {k : Nat} {x : Str} (hb : Bin (cs x)) (hl : (cs x).length = 24 * k) : cs (pSixes x) = (b64fold (octs (3 * k) (cs x))).out := by
  rw [cs_sixes hb hl, b64_of_bits hb hl]
end Mine

/-! # NqPure3 -/
namespace Mine
noncomputable def obits (c : Nat) : List Nat := (List.range 8).map fun j => 48 + c / 2 ^ (7 - j) % 2
theorem cs_bitS {b : Nat} (h : b < 2) : cs (bitS b) = [48 + b] := by
  have : b = 0 ∨ b = 1 := by omega
  rcases this with rfl | rfl <;> decide
theorem cs_octBits (c : Nat) : (octBits c 8).flatMap cs = obits c := by
  unfold octBits obits
  rw [List.flatMap_map]
  exact fm_one _ _ _ fun j _ => cs_bitS (Nat.mod_lt _ (by decide))
theorem cs_pBits (row : List Nat) : cs (pBits row) = row.flatMap obits := by
  unfold pBits pBitsL
  rw [cs_cat]
  induction row with
  | nil => rfl
  | cons c r ih => rw [List.flatMap_cons, List.flatMap_append, cs_octBits, ih, List.flatMap_cons]
theorem obits_len (c : Nat) : (obits c).length = 8 := by simp [obits]
theorem obits_bin (c : Nat) : Bin (obits c) := fun x hx => by
  obtain ⟨j, _, rfl⟩ := List.mem_map.mp hx
  have : c / 2 ^ (7 - j) % 2 < 2 := Nat.mod_lt _ (by decide)
  omega
theorem pBits_bin (row : List Nat) : Bin (cs (pBits row)) := fun x hx => by
  rw [cs_pBits] at hx
  obtain ⟨c, _, h⟩ := List.mem_flatMap.mp hx
  exact obits_bin c x h
theorem pBits_len (row : List Nat) : (cs (pBits row)).length = 8 * row.length := by
  rw [cs_pBits]
  induction row with
  | nil => rfl
  | cons c r ih => rw [List.flatMap_cons, List.length_append, ih, obits_len, List.length_cons]; (clear ih; omega)
theorem obits_val {c : Nat} (h : c < 256) : binVal (obits c) = c := by
  have : ∀ c, c < 256 → binVal (obits c) = c := by decide +kernel
  exact this c h
theorem octs_pBits {row : List Nat} (h : ∀ c ∈ row, c < 256) : octs row.length (cs (pBits row)) = row := by
    rw [cs_pBits]
    induction row with
    | nil => rfl
    | cons c r ih =>
      have e : octs (c :: r).length ((c :: r).flatMap obits) = octs 1 (obits c) ++ octs r.length (r.flatMap obits) := by
        unfold octs
        rw [List.length_cons, Nat.add_comm, chk_add, List.map_append, List.flatMap_cons, chk_left (by rw [obits_len]; omega)]
        rw [List.drop_append_of_le_length (by rw [obits_len]; omega), List.drop_of_length_le (by rw [obits_len]; omega), List.nil_append]
      rw [e, ih fun x hx => h x (.tail _ hx)]
      have : octs 1 (obits c) = [c] := by
        show [binVal (((obits c).drop (8 * 0)).take 8)] = _
        rw [Nat.mul_zero, List.drop_zero, List.take_of_length_le (by rw [obits_len]; omega), obits_val (h c (.head _))]
      rw [this]; rfl
theorem enc_list (row : List Nat) : (encOf row).toList = (b64fold row).out.map (·.toUInt8) := by
  simp [encOf, byteArr, List.map_map, Function.comp_def]
theorem enc_nat (row : List Nat) : (encOf row).toList.map (·.toNat) = (b64fold row).out := by
  rw [enc_list, List.map_map]
  have := b64fold_byte row
  conv => rhs; rw [← List.map_id (b64fold row).out]
  refine List.map_congr_left fun n hn => ?_
  have h := this n hn
  simp only [Function.comp_def, id]
  show (UInt8.ofNat n).toNat = n
  rw [UInt8.toNat_ofNat']; exact Nat.mod_eq_of_lt h
/-- what b64encode writes is the sixes of the bits -/
theorem written_eq {k : Nat} {row : List Nat} (hk : row.length = 3 * k) (h : ∀ c ∈ row, c < 256) : (⟨(encOf row).map (·.toNat)⟩ : Str) = pSixes (pBits row) := by
  apply cs_inj
  have hl : (cs (pBits row)).length = 24 * k := by rw [pBits_len, hk]; (clear hk; omega)
  rw [cs_sixes_b64 (pBits_bin row) hl]
  have := octs_pBits h
  rw [hk] at this
  rw [this]
  show ((encOf row).map (·.toNat)).toList = _
  rw [Array.toList_map, enc_nat]
theorem enc_end {k : Nat} {x : Str} (hb : Bin (cs x)) (hl : (cs x).length = 24 * k) : ((encOf (octs (3 * k) (cs x))).toList == ((pSixes x).cps.map (·.toUInt8)).toList) = true := by
  rw [beq_iff_eq, enc_list, Array.toList_map, ← cs_sixes_b64 hb hl]
theorem B64_ok {v : Nat} (h : v < 64) : B64 v < 128 ∧ B64 v ≠ 44 ∧ B64 v ≠ 46 := by
  have : ∀ v, v < 64 → B64 v < 128 ∧ B64 v ≠ 44 ∧ B64 v ≠ 46 := by decide +kernel
  exact this v h
theorem sixes_ok {k : Nat} {x : Str} (hb : Bin (cs x)) (hl : (cs x).length = 24 * k) : ∀ c ∈ cs (pSixes x), c < 128 ∧ c ≠ 44 ∧ c ≠ 46 := by
  rw [cs_sixes hb hl]
  intro c hc
  obtain ⟨v, hv, rfl⟩ := List.mem_map.mp hc
  obtain ⟨l, hl', rfl⟩ := List.mem_map.mp hv
  obtain ⟨j, hj, rfl⟩ := List.mem_map.mp hl'
  refine B64_ok ?_
  have h1 := binVal_lt _ ((hb.drop (6 * j)).take 6)
  have h2 : (List.take 6 (List.drop (6 * j) (cs x))).length ≤ 6 := by simp only [List.length_take]; (clear hl h1; omega)
  exact Nat.lt_of_lt_of_le h1 (Nat.pow_le_pow_right (n := 2) (by decide) h2)
theorem sixes_len {k : Nat} {x : Str} (hb : Bin (cs x)) (hl : (cs x).length = 24 * k) : (pSixes x).length = 4 * k := by
  rw [← cs_length, cs_sixes hb hl]; simp [sixs, chk]
end Mine

/-! # NqPure4 -/
namespace Mine
noncomputable def SgOk (sg : Str) : Prop := (∀ c ∈ cs sg, c < 128 ∧ c ≠ 44 ∧ c ≠ 46) ∧ 0 < sg.length
theorem signs_free {sg : Str} (h : SgOk sg) : Free (signs sg) := fun x hx => by
  obtain ⟨c, hc, rfl⟩ := List.mem_map.mp hx
  have := (h.1 c hc).2.2
  show 46 ∉ [c]
  rw [List.mem_singleton]; exact fun z => this z.symm
theorem digs_free (k : Nat) (hk : k < 6) : 46 ∉ cs (digs.getD k "") := by
  have : ∀ k, k < 6 → 46 ∉ cs (digs.getD k "") := by decide
  exact this k hk
theorem parts_free {sg : Str} (h : SgOk sg) (i : Nat) : Free (pParts i sg) := fun x hx => by
  rcases List.mem_append.mp hx with hx | hx
  · exact signs_free h x (List.mem_of_mem_take hx)
  · rw [List.mem_singleton] at hx; subst hx; exact digs_free _ (Nat.mod_lt _ (by decide))
theorem parts_ne (i : Nat) (sg : Str) : pParts i sg ≠ [] := by simp [pParts]
theorem mods_ok {sg : Str} (h : SgOk sg) {ns : List Int} {m : List Str} (hm : m ∈ pMods ns sg) : Free m ∧ m ≠ [] := by
  obtain ⟨n, _, hn⟩ := List.mem_filterMap.mp hm
  unfold modOf at hn
  split at hn
  · cases hn
    refine ⟨fun x hx => signs_free h x (List.mem_of_mem_take hx), fun z => ?_⟩
    have h1 := congrArg List.length z
    simp only [List.length_take, signs_length, List.length_nil] at h1
    have h2 := Int.fmod_lt_of_pos (n.fdiv 4) (b := (sg.length : Int)) (by have := h.2; (clear h1; omega))
    have h3 := Int.fmod_nonneg_of_pos (n.fdiv 4) (b := (sg.length : Int)) (by have := h.2; (clear h1 h2; omega))
    have := h.2
    omega
  · split at hn
    · cases hn; exact ⟨parts_free h _, parts_ne _ _⟩
    · cases hn
theorem modHit_eq {sg : Str} (h : SgOk sg) (ns : List Int) (i : Nat) : modHit ((pMods ns sg).map dotted) (spotOf sg i) = hit sg (pMods ns sg) i := by
  have key : modHit ((pMods ns sg).map dotted) (spotOf sg i) = true ↔ hit sg (pMods ns sg) i = true := by
    unfold modHit hit
    rw [Bool.or_eq_true, decide_eq_true_eq, List.any_eq_true, List.any_eq_true]
    have one : ∀ m ∈ pMods ns sg, (dotted (pParts i sg) = dotted m ∨ Txt.startswith (dotted (pParts i sg)) (dotted m ++ Str.ofString ".") = true) ↔ (pParts i sg).take m.length = m := fun m hm => by
      rw [dotted_hit (mods_ok h hm).1 (parts_free h i) (mods_ok h hm).2 (parts_ne _ _), List.prefix_iff_eq_take]
      exact eq_comm
    constructor
    · rintro (hm | ⟨y, hy, hs⟩)
      · obtain ⟨m, hm, e⟩ := List.mem_map.mp hm
        exact ⟨m, hm, by rw [decide_eq_true_eq]; exact (one m hm).mp (.inl e.symm)⟩
      · obtain ⟨m, hm, rfl⟩ := List.mem_map.mp hy
        exact ⟨m, hm, by rw [decide_eq_true_eq]; exact (one m hm).mp (.inr hs)⟩
    · rintro ⟨m, hm, hd⟩
      rw [decide_eq_true_eq] at hd
      rcases (one m hm).mpr hd with e | e
      · exact .inl (List.mem_map.mpr ⟨m, hm, e.symm⟩)
      · exact .inr ⟨dotted m, List.mem_map.mpr ⟨m, hm, rfl⟩, e⟩
  cases h1 : modHit ((pMods ns sg).map dotted) (spotOf sg i) <;> cases h2 : hit sg (pMods ns sg) i
  · rfl
  · rw [h1, h2] at key; exact absurd (key.mpr rfl) (by decide)
  · rw [h1, h2] at key; exact absurd (key.mp rfl) (by decide)
  · rfl
noncomputable def BitS (b : Str) : Prop := b = Str.ofString "0" ∨ b = Str.ofString "1"
theorem pre_false {a b : List Nat} (h : ¬ a <+: b) : ∀ {x y : Str}, cs x = b → cs y = a → Txt.startswith x y = false := fun {x y} hx hy => by
  cases q : Txt.startswith x y with
  | false => rfl
  | true => rw [starts_iff, hx, hy] at q; exact absurd q h
theorem dirHit_eq {sg : Str} (h : SgOk sg) {b : Str} (hb : BitS b) (i : Nat) : dirHit (places sg) (fileO sg b i) = (b == Str.ofString "1") := by
  obtain ⟨c, l, hcl⟩ : ∃ c l, cs sg = c :: l := by
    cases q : cs sg with
    | nil => have := cs_length sg; rw [q] at this; have := h.2; simp at *; omega
    | cons c l => exact ⟨c, l, rfl⟩
  have hc := h.1 c (by rw [hcl]; exact .head _)
  have es : cs (Str.ofString "/") = [47] := by decide
  have ed : cs (Str.ofString ".") = [46] := by decide
  have ea : cs (Str.ofString "a") = [97] := by decide
  have esa : cs (Str.ofString "/a") = [47, 97] := by decide
  have ec : cs (Str.ofString ",") = [44] := by decide
  rcases hb with rfl | rfl
  · have e0 : (Str.ofString "0" == Str.ofString "1") = false := by decide
    rw [e0]
    have key : ∀ f ∈ [sg, sg ++ Str.ofString "a", Str.ofString "", Str.ofString "," ++ sg ++ Str.ofString "/a"], ∀ d ∈ places sg, Txt.startswith f (d ++ Str.ofString "/") = false := by
      intro f hf d hd
      have hlen : ∀ {x y : Str}, (cs x).length < (cs y).length → Txt.startswith x y = false := fun {x y} hl => pre_false (fun z => by have := z.length_le; (clear hc; omega)) rfl rfl
      simp only [List.mem_cons, List.not_mem_nil, or_false] at hf
      simp only [places, List.mem_cons, List.not_mem_nil, or_false] at hd
      rcases hf with rfl | rfl | rfl | rfl
      · apply hlen
        rcases hd with rfl | rfl | rfl <;> simp only [cs_append, es, ed, List.length_append, List.length_singleton] <;> (clear hc; omega)
      · rcases hd with rfl | rfl | rfl
        · apply hlen; simp only [cs_append, es, ed, ea, List.length_append, List.length_singleton]; (clear hc; omega)
        · refine pre_false (fun z => ?_) (cs_append ..) (cs_append ..)
          rw [es, ea, List.prefix_append_right_inj] at z
          have := (List.cons_prefix_cons.mp z).1; (clear hc; omega)
        · apply hlen; simp only [cs_append, es, ed, ea, List.length_append, List.length_singleton]; (clear hc; omega)
      · apply hlen
        rw [cs_empty]
        rcases hd with rfl | rfl | rfl <;> simp only [cs_append, es, ed, List.length_append, List.length_singleton, List.length_nil] <;> (clear hc; omega)
      · have hx : cs (Str.ofString "," ++ sg ++ Str.ofString "/a") = 44 :: (cs sg ++ [47, 97]) := by simp only [cs_append, ec, esa]; rfl
        rcases hd with rfl | rfl | rfl
        · refine pre_false (fun z => ?_) hx rfl
          rw [cs_append, cs_append, ed] at z
          have := (List.cons_prefix_cons.mp z).1; (clear hc; omega)
        · refine pre_false (fun z => ?_) hx rfl
          rw [cs_append, hcl] at z
          have := (List.cons_prefix_cons.mp z).1; omega
        · refine pre_false (fun z => ?_) hx rfl
          rw [cs_append, cs_append, hcl] at z
          have := (List.cons_prefix_cons.mp z).1; omega
    unfold fileO
    rw [e0]
    simp only [Bool.false_eq_true, if_false, dirHit]
    rw [List.any_eq_false]
    intro d hd
    rw [key _ ?_ d hd]
    · exact Bool.false_ne_true
    · have : i % 4 = 0 ∨ i % 4 = 1 ∨ i % 4 = 2 ∨ i % 4 = 3 := by (clear hc; omega)
      rcases this with e | e | e | e <;> rw [e] <;> simp
  · have e1 : (Str.ofString "1" == Str.ofString "1") = true := by decide
    rw [e1]
    unfold fileO
    rw [e1]
    simp only [if_true]
    have : i % 2 = 0 ∨ i % 2 = 1 := by (clear hc; omega)
    rcases this with e | e <;> rw [e]
    · rfl
    · show dirHit (places sg) (some (sg ++ Str.ofString "/a")) = true
      unfold dirHit
      rw [List.any_eq_true]
      refine ⟨sg, by simp [places], ?_⟩
      rw [starts_iff, cs_append, cs_append, es, esa]
      exact (List.prefix_append_right_inj _).mpr ⟨[97], rfl⟩
theorem spot_inj {sg : Str} (h : SgOk sg) {i j : Nat} (hi : i < 6 * sg.length) (hj : j < 6 * sg.length) (e : spotOf sg i = spotOf sg j) : i = j := by
  have := dotted_inj (parts_free h i) (parts_free h j) (parts_ne _ _) (parts_ne _ _) e
  unfold pParts at this
  have hl := congrArg List.length this
  simp only [List.length_append, List.length_take, signs_length, List.length_singleton] at hl
  have hd : i / 6 = j / 6 := by omega
  have := (List.append_inj' this rfl).2
  have hg : digs.getD (i % 6) "" = digs.getD (j % 6) "" := by simpa using this
  have key : ∀ a, a < 6 → ∀ b, b < 6 → digs.getD a "" = digs.getD b "" → a = b := by decide
  have := key _ (Nat.mod_lt _ (by decide)) _ (Nat.mod_lt _ (by decide)) hg
  (clear hi hj hl; omega)
theorem spot_ne {sg : Str} (h : SgOk sg) (i : Nat) : spotOf sg i ≠ Str.ofString "<string>" := by
  intro z
  have hs := cs_dotted (parts_ne i sg)
  have hmem : 46 ∈ cs (spotOf sg i) := by
    obtain ⟨x, y, r, hx⟩ : ∃ x y r, pParts i sg = x :: y :: r := by
      unfold pParts
      have : signs sg ≠ [] := fun z => by have := signs_length sg; rw [z] at this; have := h.2; simp at *; omega
      cases q : signs sg with
      | nil => exact absurd q this
      | cons a t =>
        simp only [List.take_succ_cons, List.cons_append]
        cases q2 : (List.take (i / 6) t ++ [digs.getD (i % 6) ""]) with
        | nil => simp at q2
        | cons b r => exact ⟨_, _, _, rfl⟩
    have hd : cs (spotOf sg i) = cs x ++ 46 :: (cs (dotted (y :: r))) := by
      have h1 := cs_dotted (m := pParts i sg) (parts_ne i sg)
      have h2 := cs_dotted (m := y :: r) (by simp)
      rw [hx] at h1
      have h3 : cs (dotted (x :: y :: r)) ++ [46] = (cs x ++ 46 :: cs (dotted (y :: r))) ++ [46] := by
        rw [h1, List.append_assoc, List.cons_append, h2]; simp [dcat]
      have := (List.append_inj' h3 rfl).1
      unfold spotOf; rw [hx]; exact this
    rw [hd]; simp
  rw [z] at hmem
  revert hmem; decide
end Mine

/-! # NqPure5 -/
namespace Mine
noncomputable def valI (sg : Str) (mods : List (List Str)) (p : Str × Nat) : Int := if hit sg mods p.2 || p.1 == Str.ofString "1" then 1 else 0
noncomputable def firstV (sg : Str) (mods : List (List Str)) (ds : List (Str × Nat)) (i : Nat) : Option Int := (ds.find? fun p => p.2 == i).map (valI sg mods)
theorem newI_eq {sg : Str} (h : SgOk sg) (ns : List Int) {p : Str × Nat} (hb : BitS p.1) : newI ((pMods ns sg).map dotted) (places sg) (fileO sg p.1 p.2) (spotOf sg p.2) = valI sg (pMods ns sg) p := by
  unfold newI valI
  rw [modHit_eq h, dirHit_eq h hb]
noncomputable def DeedsOk (sg : Str) (ds : List (Str × Nat)) : Prop := ∀ p ∈ ds, BitS p.1 ∧ p.2 < 6 * sg.length
theorem after_eq {sg : Str} (h : SgOk sg) (ns : List Int) {i : Nat} (hi : i < 6 * sg.length) : ∀ (ds : List (Str × Nat)) (ign : Ign), DeedsOk sg ds →
    afterI ((pMods ns sg).map dotted) (places sg) sg ign ds (spotOf sg i) = (ign (spotOf sg i)).or (firstV sg (pMods ns sg) ds i)
  | [], ign, _ => by simp [afterI, firstV]
  | p :: r, ign, hd => by
    have ih := after_eq h ns hi r (stepI ((pMods ns sg).map dotted) (places sg) sg ign p) fun q hq => hd q (.tail _ hq)
    have hp := hd p (.head _)
    rw [show afterI ((pMods ns sg).map dotted) (places sg) sg ign (p :: r) = afterI ((pMods ns sg).map dotted) (places sg) sg (stepI ((pMods ns sg).map dotted) (places sg) sg ign p) r from rfl, ih]
    have hn := newI_eq h ns hp.1
    unfold stepI nextI
    by_cases hip : p.2 = i
    · subst hip
      have hf : firstV sg (pMods ns sg) (p :: r) p.2 = some (valI sg (pMods ns sg) p) := by simp [firstV]
      rw [hf]
      cases q : ign (spotOf sg p.2) with
      | some v => simp [q]
      | none => simp [putI, hn]
    · have hf : firstV sg (pMods ns sg) (p :: r) i = firstV sg (pMods ns sg) r i := by simp [firstV, hip]
      rw [hf]
      cases q : ign (spotOf sg p.2) with
      | some v => rfl
      | none =>
        have hne : ¬ spotOf sg i = spotOf sg p.2 := fun z => hip (spot_inj h hi hp.2 z).symm
        simp [putI, hne]
theorem told_eq {sg : Str} (h : SgOk sg) (ns : List Int) {ds : List (Str × Nat)} (hd : DeedsOk sg ds) {k : Nat} {p : Str × Nat} (hk : ds[k]? = some p) :
    some (toldI ((pMods ns sg).map dotted) (places sg) sg ign0 ds k) = firstV sg (pMods ns sg) ds p.2 := by
  have hp := hd p (List.mem_of_getElem? hk)
  unfold toldI
  rw [show ds.getD k (Str.ofString "", 0) = p by rw [List.getD, hk]; rfl]
  dsimp only
  unfold ansI
  rw [after_eq h ns hp.2 (ds.take k) ign0 fun q hq => hd q (List.mem_of_mem_take hq), newI_eq h ns hp.1]
  have h0 : ign0 (spotOf sg p.2) = none := by unfold ign0 putI; rw [if_neg (spot_ne h _)]
  rw [h0, Option.none_or]
  have hs : ds = ds.take k ++ p :: ds.drop (k + 1) := by
    conv => lhs; rw [← List.take_append_drop k ds]
    congr 1
    rw [List.drop_eq_getElem?_toList_append, hk]; rfl
  conv => rhs; rw [hs]
  unfold firstV
  rw [List.find?_append]
  cases q : (ds.take k).find? (fun x => x.2 == p.2) with
  | some x => simp
  | none => simp
theorem run_eq {sg : Str} (h : SgOk sg) (ns : List Int) {ds : List (Str × Nat)} (hd : DeedsOk sg ds) (f : Str × Nat → Str) (hf : ∀ p ∈ ds, ∀ v, firstV sg (pMods ns sg) ds p.2 = some v → Str.ofString (toString v) = f p) :
    pRun ((pMods ns sg).map dotted) (places sg) sg ign0 ds = ds.map f := by
  unfold pRun
  refine List.ext_getElem? fun k => ?_
  rw [List.getElem?_map, List.getElem?_map]
  by_cases hk : k < ds.length
  · rw [List.getElem?_range hk]
    have hp : ds[k]? = some ds[k] := List.getElem?_eq_getElem hk
    rw [hp]
    have := told_eq h ns hd hp
    simp only [Option.map_some]
    rw [hf _ (List.getElem_mem hk) _ this.symm]
  · rw [List.getElem?_eq_none (by simpa using hk), List.getElem?_eq_none (by (exact Nat.le_of_not_lt hk))]; rfl

/-! ## the law's data -/
noncomputable def bitD (b : Str) : Str := if b == Str.ofString "1" then Str.ofString "0" else Str.ofString "1"
theorem early1_get : ∀ (early : List (Str × Nat)) (kept : List Str) (i : Nat), i < kept.length → (early1 kept early)[i]? = ((early.find? fun p => p.2 == i).map (·.1)).or kept[i]?
  | [], kept, i, _ => by simp [early1]
  | p :: r, kept, i, hi => by
    have ih := early1_get r kept i hi
    rw [show early1 kept (p :: r) = (early1 kept r).set p.2 p.1 from rfl, List.getElem?_set]
    by_cases hp : p.2 = i
    · subst hp; simp [early1_length, hi]
    · simp [hp, ih]
theorem valI_str {sg : Str} {mods : List (List Str)} {b : Str} {i : Nat} (hb : BitS b) : Str.ofString (toString (valI sg mods (b, i))) = if hit sg mods i then Str.ofString "1" else b := by
  unfold valI
  cases q : hit sg mods i with
  | true => simp; decide
  | false =>
    rcases hb with rfl | rfl
    · show Str.ofString (toString (if (false || Str.ofString "0" == Str.ofString "1") = true then (1 : Int) else 0)) = _
      decide
    · show Str.ofString (toString (if (false || Str.ofString "1" == Str.ofString "1") = true then (1 : Int) else 0)) = _
      decide
noncomputable def midP (bts : Str) : List (Str × Nat) := (List.range bts.length).map fun (i : Nat) => (Txt.item bts (i : Int), i)
noncomputable def lastP (kept : List Str) : List (Str × Nat) := (List.range kept.length).map fun j => (bitD (kept.getD (kept.length - 1 - j) (Str.ofString "")), kept.length - 1 - j)
noncomputable def deedsP (bts : Str) (kept : List Str) (early : List (Str × Nat)) : List (Str × Nat) := early ++ midP bts ++ lastP kept
theorem item_signs {x : Str} {i : Nat} (h : i < x.length) : (signs x)[i]? = some (Txt.item x i) := by
  have hc : i < x.cps.size := h
  unfold signs Txt.item Txt.charAt
  have : seqIndex? (i : Int) x.length = some i := by
    unfold seqIndex?
    have h1 : ¬ ((i : Int) < 0) := by (clear h hc; omega)
    have h2 : (i : Int) < (x.length : Int) := by (clear hc h1; omega)
    simp [h1, h2]
  rw [this]
  simp [hc]
theorem bit_item {x : Str} (hb : Bin (cs x)) {i : Nat} (h : i < x.length) : BitS (Txt.item x i) := by
  have := item_signs h
  have hm := List.mem_of_getElem? this
  obtain ⟨c, hc, e⟩ := List.mem_map.mp hm
  rw [← e]
  rcases hb c hc with rfl | rfl
  · exact .inl (by decide)
  · exact .inr (by decide)
theorem mid_find {bts : Str} {i : Nat} (h : i < bts.length) : (midP bts).find? (fun p => p.2 == i) = some (Txt.item bts i, i) := by
  unfold midP
  rw [List.find?_map]
  have : (List.range bts.length).find? ((fun p : Str × Nat => p.2 == i) ∘ fun (i : Nat) => (Txt.item bts (i : Int), i)) = some i := by
    rw [List.find?_range_eq_some]
    refine ⟨by simp, by simpa using h, fun j hj => ?_⟩
    simp; (clear h; omega)
  rw [this]; rfl
theorem bitD_ok (b : Str) : BitS (bitD b) := by unfold bitD; split; exact .inl rfl; exact .inr rfl
section
variable {bts sg : Str} {ns : List Int} {early : List (Str × Nat)}
theorem kept_len (mods : List (List Str)) : (pKept bts sg mods early).length = bts.length := by
  rw [pKept, mark_length, early1_length, signs_length]
theorem kept_get {mods : List (List Str)} {i : Nat} (hi : i < bts.length) : ∃ b, (early ++ midP bts).find? (fun p => p.2 == i) = some (b, i) ∧ (pKept bts sg mods early)[i]? = some (if hit sg mods i then Str.ofString "1" else b) := by
  have h1 := early1_get early (signs bts) i (by rw [signs_length]; exact hi)
  rw [item_signs hi] at h1
  rw [List.find?_append, mid_find hi]
  unfold pKept mark
  rw [List.getElem?_mapIdx, h1]
  cases q : early.find? (fun p => p.2 == i) with
  | none => exact ⟨_, rfl, by simp⟩
  | some p =>
    have hp : p.2 = i := by simpa using List.find?_some q
    refine ⟨p.1, ?_, by simp⟩
    simp [← hp]
theorem deeds_find {kept : List Str} {i : Nat} {b : Str} (h : (early ++ midP bts).find? (fun p => p.2 == i) = some (b, i)) : (deedsP bts kept early).find? (fun p => p.2 == i) = some (b, i) := by
  unfold deedsP
  rw [List.find?_append, h]; rfl
theorem told_law (hs : SgOk sg) (hl : bts.length = 6 * sg.length) (hb : Bin (cs bts)) (he : ∀ p ∈ early, BitS p.1 ∧ p.2 < bts.length) :
    pRun ((pMods ns sg).map dotted) (places sg) sg ign0 (deedsP bts (pKept bts sg (pMods ns sg) early) early) = (deedsP bts (pKept bts sg (pMods ns sg) early) early).map fun p => (pKept bts sg (pMods ns sg) early).getD p.2 (Str.ofString "") := by
  have hd : DeedsOk sg (deedsP bts (pKept bts sg (pMods ns sg) early) early) := by
    intro p hp
    rcases List.mem_append.mp hp with hp | hp
    · rcases List.mem_append.mp hp with hp | hp
      · exact ⟨(he p hp).1, by rw [← hl]; exact (he p hp).2⟩
      · obtain ⟨i, hi, rfl⟩ := List.mem_map.mp hp
        have hi' := List.mem_range.mp hi
        exact ⟨bit_item hb hi', by rw [← hl]; exact hi'⟩
    · obtain ⟨j, hj, rfl⟩ := List.mem_map.mp hp
      have hj' := List.mem_range.mp hj
      rw [kept_len] at hj'
      exact ⟨bitD_ok _, by rw [kept_len, ← hl]; show bts.length - 1 - j < bts.length; omega⟩
  refine run_eq hs ns hd _ fun p hp v hv => ?_
  have hi := (hd p hp).2
  rw [← hl] at hi
  obtain ⟨b, h1, h2⟩ := kept_get (early := early) (sg := sg) (mods := pMods ns sg) hi
  have h3 := deeds_find (kept := pKept bts sg (pMods ns sg) early) h1
  have hbb : BitS b := (hd (b, p.2) (List.mem_of_find?_eq_some h3)).1
  unfold firstV at hv
  rw [h3] at hv
  simp only [Option.map_some, Option.some.injEq] at hv
  rw [← hv, valI_str hbb, List.getD, h2]; rfl
end
theorem find_nodup : ∀ {ds : List (Str × Nat)}, (ds.map (·.2)).Nodup → ∀ p ∈ ds, ds.find? (fun q => q.2 == p.2) = some p
  | [], _, p, hp => by cases hp
  | a :: r, hn, p, hp => by
    rw [List.map_cons, List.nodup_cons] at hn
    by_cases h : a.2 = p.2
    · rcases List.mem_cons.mp hp with rfl | hp
      · simp
      · exact absurd (h ▸ List.mem_map.mpr ⟨p, hp, rfl⟩) hn.1
    · rcases List.mem_cons.mp hp with rfl | hp
      · exact absurd rfl h
      · rw [List.find?_cons_of_neg (by simpa using h)]; exact find_nodup hn.2 p hp
theorem last_nodup (kept : List Str) : ((lastP kept).map (·.2)).Nodup := by
  unfold lastP
  rw [List.map_map, List.nodup_iff_pairwise_ne, List.pairwise_map]
  refine List.Pairwise.imp_of_mem (fun {a b} ha hb hab => ?_) (List.pairwise_lt_range)
  have := List.mem_range.mp ha
  have := List.mem_range.mp hb
  simp only [Function.comp_def]; omega
theorem last_law {bts sg : Str} {kept : List Str} (hs : SgOk sg) (hl : kept.length = 6 * sg.length) :
    pRun ((pMods [] sg).map dotted) (places sg) sg ign0 (lastP kept) = (lastP kept).map (·.1) := by
  have hd : DeedsOk sg (lastP kept) := by
    intro p hp
    obtain ⟨j, hj, rfl⟩ := List.mem_map.mp hp
    have hj' := List.mem_range.mp hj
    exact ⟨bitD_ok _, by rw [← hl]; show kept.length - 1 - j < kept.length; omega⟩
  refine run_eq hs [] hd _ fun p hp v hv => ?_
  unfold firstV at hv
  rw [find_nodup (last_nodup kept) p hp] at hv
  simp only [Option.map_some, Option.some.injEq] at hv
  rw [← hv, show p = (p.1, p.2) from rfl, valI_str (hd p hp).1]
  rfl
end Mine

/-! # NqPure6 -/
namespace Mine
noncomputable def bitC (x : Str) : Nat := (cs x).headD 0
theorem BitS.cs {b : Str} (h : BitS b) : Mine.cs b = [bitC b] := by rcases h with rfl | rfl <;> decide
theorem BitS.bin {b : Str} (h : BitS b) : bitC b = 48 ∨ bitC b = 49 := by rcases h with rfl | rfl <;> decide
noncomputable abbrev cat (l : List Str) : Str := Txt.join (Str.ofString "") l
theorem cat_cs {l : List Str} (h : ∀ x ∈ l, BitS x) : cs (cat l) = l.map bitC := by
  rw [cs_cat]; exact fm_one _ _ _ fun x hx => (h x hx).cs
theorem cat_bin {l : List Str} (h : ∀ x ∈ l, BitS x) : Bin (cs (cat l)) := by
  rw [cat_cs h]; intro c hc; obtain ⟨x, hx, rfl⟩ := List.mem_map.mp hc; exact (h x hx).bin
theorem cat_len {l : List Str} (h : ∀ x ∈ l, BitS x) : (cat l).length = l.length := by rw [← cs_length, cat_cs h, List.length_map]
theorem bitC_str {b : Str} (h : BitS b) : b = ⟨#[bitC b]⟩ := cs_inj (by rw [h.cs])
theorem cat_item {l : List Str} (h : ∀ x ∈ l, BitS x) {i : Nat} (hi : i < l.length) : Txt.item (cat l) i = l.getD i (Str.ofString "") := by
  have h1 := item_signs (x := cat l) (i := i) (by rw [cat_len h]; exact hi)
  unfold signs at h1
  rw [show (cat l).cps.toList = l.map bitC from cat_cs h, List.getElem?_map, List.getElem?_map, List.getElem?_eq_getElem hi] at h1
  simp only [Option.map_some, Option.some.injEq] at h1
  rw [← h1, List.getD, List.getElem?_eq_getElem hi]
  exact (bitC_str (h _ (List.getElem_mem hi))).symm
theorem kept_bits {bts sg : Str} {mods : List (List Str)} {early : List (Str × Nat)} (hb : Bin (cs bts)) (he : ∀ p ∈ early, BitS p.1 ∧ p.2 < bts.length) : ∀ x ∈ pKept bts sg mods early, BitS x := by
  intro x hx
  rcases mark_mem hx with hx | rfl
  · rcases early1_mem hx with hx | ⟨p, hp, rfl⟩
    · obtain ⟨c, hc, rfl⟩ := List.mem_map.mp hx
      rcases hb c hc with rfl | rfl
      · exact .inl (by decide)
      · exact .inr (by decide)
    · exact (he p hp).1
  · exact .inr rfl
theorem ten_item {b : Str} (h : BitS b) : ∃ v : Int, PySem.intText? b = some v ∧ 0 ≤ v ∧ v < 2 ∧ Txt.item (Str.ofString "10") v = bitD b := by
  rcases h with rfl | rfl
  · exact ⟨0, by decide +kernel, by decide, by decide, by decide⟩
  · exact ⟨1, by decide +kernel, by decide, by decide, by decide⟩
theorem slice_back {x : Str} {n : Nat} (h0 : 0 < n) (h1 : n ≤ x.length) : cs (Txt.slice x (some (-(n : Int))) none) = (cs x).drop (x.length - n) := by
  have := eq_of_beq (slice_closes_from_neg (x := x) (i := -(n : Int)) (a := (x.length : Int) - n) (b := x.length) (by (clear h1; omega)) (by (clear h0; omega)) (by (clear h0 h1; omega)) rfl)
  rw [this]
  show List.take _ (List.drop _ (cs x)) = _
  rw [show ((x.length : Int) - n).toNat = x.length - n by (clear h0; omega), show ((x.length : Int) - ((x.length : Int) - n)).toNat = n by (clear h1; omega)]
  refine List.take_of_length_le ?_
  rw [List.length_drop, cs_length]; omega
theorem rev_step (x : Str) (u : Tok) : cs (Txt.sliceBy x none none (-1, u)) = (cs x).reverse := by
  rw [show cs (Txt.sliceBy x none none (-1, u)) = _ from step_rev_list x u]
  refine List.ext_getElem? fun k => ?_
  have hl := cs_length x
  by_cases hk : k < x.length
  · rw [List.getElem?_map, List.getElem?_range hk, List.getElem?_reverse (by rw [hl]; exact hk), hl]
    have h2 : x.length - 1 - k < x.cps.size := by show _ < x.length; (clear hl; omega)
    simp only [Option.map_some]
    rw [show (cs x)[x.length - 1 - k]? = x.cps[x.length - 1 - k]? by simp [cs]]
    rw [Array.getElem?_eq_getElem h2]
    simp [Array.getD, h2]
  · rw [List.getElem?_eq_none (by simp; (exact Nat.le_of_not_lt hk)), List.getElem?_eq_none (by rw [List.length_reverse, hl]; (exact Nat.le_of_not_lt hk))]
theorem read_law {kept : List Str} (hk : ∀ x ∈ kept, BitS x) (h0 : 0 < kept.length) {pre : List (Str × Nat)} (hp : ∀ p ∈ pre, p.2 < kept.length) (u : Tok) :
    Txt.sliceBy (Txt.slice (cat ((pre ++ lastP kept).map fun p => kept.getD p.2 (Str.ofString ""))) (some (-(kept.length : Int))) none) none none (-1, u) = cat kept := by
  have hall : ∀ x ∈ (pre ++ lastP kept).map (fun p => kept.getD p.2 (Str.ofString "")), BitS x := by
    intro x hx
    obtain ⟨p, hp', rfl⟩ := List.mem_map.mp hx
    have hlt : p.2 < kept.length := by
      rcases List.mem_append.mp hp' with h | h
      · exact hp p h
      · obtain ⟨j, hj, rfl⟩ := List.mem_map.mp h
        have := List.mem_range.mp hj
        show kept.length - 1 - j < kept.length
        (clear h0; omega)
    rw [List.getD, List.getElem?_eq_getElem hlt]; exact hk _ (List.getElem_mem hlt)
  have hll : (lastP kept).length = kept.length := by simp [lastP]
  apply cs_inj
  rw [rev_step, slice_back h0 (by rw [cat_len hall, List.length_map, List.length_append, hll]; (clear h0 hll; omega)), cat_len hall, cat_cs hall, cat_cs hk]
  rw [List.length_map, List.length_append, hll, Nat.add_sub_cancel, List.map_append, List.map_append, List.drop_append_of_le_length (by simp), List.drop_of_length_le (by simp), List.nil_append]
  refine List.ext_getElem? fun k => ?_
  by_cases hkk : k < kept.length
  · rw [List.getElem?_reverse (by simp [hll]; exact hkk)]
    simp only [List.length_map, List.getElem?_map, lastP, List.length_range]
    rw [List.getElem?_range (by (clear h0; omega))]
    have e : kept.length - 1 - (kept.length - 1 - k) = k := by (clear h0; omega)
    simp only [Option.map_some, e]
    rw [List.getD, List.getElem?_eq_getElem hkk]; rfl
  · rw [List.getElem?_eq_none (by simp [hll]; (clear h0; omega)), List.getElem?_eq_none (by simp; (clear h0; omega))]
end Mine

/-! # NqLaw0 -/
namespace Mine
noncomputable def look (l : List (Str × Value)) : Str → Option Value := fun y => List.lookup y l
theorem upd_look (l : List (Str × Value)) (x : Str) (v : Value) : upd (look l) x v = look ((x, v) :: l) := by
  funext y
  unfold upd look
  rw [List.lookup_cons]
  by_cases h : y = x
  · subst h; simp
  · rw [if_neg h, beq_eq_false_iff_ne.mpr h]
section
variable {prog : Program} {w : World} {M : Model} {A : Around} {E : Value → Shared → Prop} {s : Shared} {D : List Addr} {e : Ent} {env : Env} {g : Heap} {x : Str} {v : Value} {l : List (Str × Value)}
theorem sl_local {Q : Unit → Shared → Prop} (F : FmS D e env (look l) s g) (h : ∀ s', FmS D e env (look ((x, v) :: l)) s' g → (∀ b o, b ≠ env.locals → s.heap.get? b = some o → s'.heap.get? b = some o) → Q () s')
    (hk : env.scope.kind = .function := by rfl) (hl : env.kindOf x = some .local := by rfl) (hc : env.cells.lookup x = none := by rfl) : wpAny M A (storeName env x v) Q E s :=
  st_local F (fun s' F' k => h s' (by rw [← upd_look]; exact F') k) hk hl hc
theorem sl_cell {c : Addr} {Q : Unit → Shared → Prop} (F : FmS D e env (look l) s g) (C : CellsNew e env) (h : ∀ s', FmS D e env (look ((x, v) :: l)) s' g → (∀ b o, b ≠ c → s.heap.get? b = some o → s'.heap.get? b = some o) → Q () s') (hc : env.cells.lookup x = some c := by rfl)
    (hk : env.scope.kind = .function := by rfl) (hl : env.kindOf x = some .cell := by rfl) : wpAny M A (storeName env x v) Q E s :=
  st_cell F C (fun s' F' k => h s' (by rw [← upd_look]; exact F') k) hc hk hl
end
section
variable {prog : Program} {w : World} {M : Model} {A : Around} {E : Value → Shared → Prop} {s : Shared} {D : List Addr} {e : Ent} {env : Env} {ρ : Str → Option Value} {g : Heap} {Q : Value → Shared → Prop}
theorem Fm.frs (F : FmS D e env ρ s g) : ∃ m, Fr noH env.locals s.heap m ∧ News noH env.locals s.heap (others env.locals env.locals s.heap) ∧ ∀ h', Fr noH env.locals h' m → News noH env.locals h' (others env.locals env.locals s.heap) → ∀ tk dr, FmS D e env ρ { s with heap := h', toks := tk, drawn := dr } g ∧ (∀ b o, b ≠ env.locals → s.heap.get? b = some o → h'.get? b = some o) := by
  obtain ⟨m, hn, hm⟩ := F.vars.loc
  refine ⟨m, ⟨hn, fun b o q => (by cases q), Nat.zero_le _⟩, fun p hp => ?_, fun h' F' N' tk dr => ?_⟩
  · obtain ⟨h1, h2, h3⟩ := others_mem.mp (show (p.1, p.2) ∈ _ from hp)
    exact ⟨h3, h1, rfl⟩
  have k' : ∀ b o, b ≠ env.locals → s.heap.get? b = some o → h'.get? b = some o := fun b o h1 q => (N' (b, o) (others_mem.mpr ⟨h1, h1, q⟩)).1
  refine ⟨⟨⟨fun b o hb q => ?_, fun b o q => ?_, F.go.up, fun b o q => ?_, F.go.off, F.go.os, F.go.gs⟩, ⟨⟨m, F'.ns, hm⟩, fun y c hc => ?_⟩, F.fresh, F.hid⟩, k'⟩
  · exact k' b o (fun z => by rw [z, F.fresh] at q; cases q) (F.go.keep b o hb q)
  · obtain ⟨o', q'⟩ := F.go.live b o q
    exact ⟨o', k' b o' (fun z => by rw [z, F.fresh] at q; cases q) q'⟩
  · exact k' b o (fun z => by rw [z, F.hid _ (.inl rfl)] at q; cases q) (F.sub b o q)
  · obtain ⟨cv, ⟨oc, hoc, hdc⟩, r⟩ := F.vars.cell y c hc
    refine ⟨cv, ⟨oc, k' c oc (fun z => ?_) hoc, hdc⟩, r⟩
    obtain ⟨oL, eL, epL, hL, hLd, _⟩ := hn
    rw [z, hL] at hoc; cases hoc; rw [hLd] at hdc; cases hdc
/-- take a new object into the ground -/
theorem Fm.take {a : Addr} {o : Obj} (F : FmS D e env ρ s g) (hn : e.h.get? a = none) (hf : ¬ FrameAt env a) (ho : s.heap.get? a = some o) : ∃ g', FmS D e env ρ s g' ∧ Sub g g' ∧ g'.get? a = some o := by
  obtain ⟨g', G, u, pa, po⟩ := F.go.adds (· = a) (by rintro p o rfl q; rw [hn] at q; cases q)
  exact ⟨g', ⟨G, F.vars, F.fresh, fun x hx => po x (fun z => hf (z ▸ hx)) (F.hid x hx)⟩, u, pa a o rfl ho⟩
theorem r_mulList {ds : List Dt} {v : Value} {k : Int} {u : Tok} (F : FmS D e env ρ s g) (hr : Rep g (.list ds) v) (hlo : -1000 ≤ k) (hhi : k < 1000) (hsz : ds.length * k.toNat ≤ 256)
    (h : ∀ s' g' v', FmS D e env ρ s' g' → Sub g g' → Rep g' (.list (List.replicate k.toNat ds).flatten) v' → (∀ b o, b ≠ env.locals → s.heap.get? b = some o → s'.heap.get? b = some o) → Q v' s') :
    wpAny (model prog w) A (binaryOp .Mult v (.int k u)) Q E s := by
  obtain ⟨a, vs, rfl, ha, hvs⟩ := hr.list_inv
  obtain ⟨m, F0, N0, back⟩ := F.frs
  refine KMa.mul F0 N0 (isList_mono F.sub ha) (by (clear hsz; omega)) (by (clear hsz; omega)) (by rw [hvs.length]; exact hsz) rfl fun D' h' F' N' lt => ?_
  obtain ⟨F1, k1⟩ := back h' F' (fun p hp => N' p (.tail _ hp)) s.toks s.drawn
  have hD := (N' _ (.head _)).1
  have hDL := (N' _ (.head _)).2.1
  have hnew : ∀ o, s.heap.get? D' = some o → False := fun o q => Nat.lt_irrefl _ (lt (D', o) (others_mem.mpr ⟨hDL, hDL, q⟩))
  have hnE : e.h.get? D' = none := ext_none fun o q => by obtain ⟨o', q'⟩ := F.go.live D' o q; exact hnew _ q'
  have hnF : ¬ FrameAt env D' := fun z => by obtain ⟨o, q⟩ := F.vars.at z; exact hnew _ q
  obtain ⟨g', F2, u2, e2⟩ := Fm.take (s := { s with heap := h' }) F1 hnE hnF hD
  refine h _ g' _ F2 u2 (.list (vs := (List.replicate k.toNat vs).flatten) ⟨_, e2, rfl, _, rfl⟩ ?_) k1
  have : ∀ n, Reps g (List.replicate n ds).flatten (List.replicate n vs).flatten := by
    intro n
    induction n with
    | zero => exact .nil
    | succ n ih => rw [List.replicate_succ, List.replicate_succ, List.flatten_cons, List.flatten_cons]; exact hvs.append ih
  exact (this _).mono u2
theorem r_sliceRev {value slice : Expr} {x : Str} {t uk : Tok} (F : FmS D e env ρ s g) (h : ∀ s' t', FmS D e env ρ s' g → (∀ b o, b ≠ env.locals → s.heap.get? b = some o → s'.heap.get? b = some o) → Q (.str (Txt.sliceBy x none none (-1, uk)) t') s') (hsz : x.length ≤ 100000)
    (hs : ∀ i, subscripted slice false (.str x t) (.ref i) = operate [.ref i, .str x t] (getItem (.str x t) (.ref i)) := by intro _; rfl) :
    wpAny (model prog w) A (subscriptTail value slice (.str x t) (.ref s.heap.objs.size)) Q E { s with heap := s.heap.push { cls := .type "slice", data := .fields #[.none, .none, .int (-1) uk] } } := by
  obtain ⟨m, F0, N0, back⟩ := F.frs
  refine slice_strK_nn F0 N0 (by decide) (fun h' t' c F' N' => ?_) (hs _) (fun _ => tempStr value) (by rw [sizeLine_eq]; (exact Nat.le_trans hsz (Nat.le_of_ble_eq_true rfl)))
  obtain ⟨F1, k1⟩ := back h' F' N' c s.drawn
  exact h _ t' F1 k1
theorem x_intText {x : Str} {t : Tok} {n : Int} {tk : Nat} (hn : PySem.intText? x = some n) (hl : x.length ≤ 640) (h : ∀ t tk', Q (.int n t) { s with toks := tk' }) : wpAny (model prog w) A (call (.type "int") [.str x t]) Q E { s with toks := tk } := KIN.call_text hn hl (h _ _)
/-- a method of bytes -/
theorem meth_bytes {o : Expr} {name : Str} {apos pos : Pos} {args : List Expr} {pl : Sem Bool} {id : String} (slot : Slot "bytes" name id) (ty : typeOf (.builtin id) = pure (.type "method_descriptor"))
    (h : wpAny M A (eval o env) (fun ov s₁ => ∃ x t, ov = .bytes x t ∧ wpAny M A (callWith pos (.builtin id) [.bytes x t] (backTo pos (starEach args env)) []) Q E s₁) E s)
    (he : eval (.Call (.Attribute o name apos) args [] pos) env = (do
      let ov ← eval o env
      standAt apos.atName
      let (f, first) ← holding [ov] (getMethod ov name pl)
      callWith pos f first (backTo pos (starEach args env)) []) := by rfl) : wpAny M A (eval (.Call (.Attribute o name apos) args [] pos) env) Q E s :=
  MethodCall_ (wpAny_mono h (fun ov s₁ ⟨x, t, e, k⟩ => by subst e; exact KBd.method_of (.bytes x t) (typeIs_bytes _ _ _) slot ty KBd.noRef k) fun _ _ z => z) he
theorem r_lsliceTail {value : Expr} {plo pup : Option Expr} {p : Pos} {l : List Dt} {v : Value} {k : Nat} {t : Tok} (hg : Sub g s.heap) (hr : Rep g (.list l) v) (hsz : l.length ≤ 100000) (h : ∀ s' g' v', GoS [] s g s' g' → Rep g' (.list (l.take k)) v' → Q v' s') :
    wpAny (model prog w) A (subscriptTail value (.Slice plo pup none p) v (.ref s.heap.objs.size)) Q E { s with heap := s.heap.push { cls := .type "slice", data := .fields #[.none, .int k t, .none] } } := by
  obtain ⟨a, vs, rfl, ha, hvs⟩ := hr.list_inv
  have ha' := isList_mono hg ha
  have hlen : vs.toArray.size = l.length := by simp [hvs.length]
  refine tail_any (ops := [.ref s.heap.objs.size, .ref a]) (ha'.push _).typeIs slot_list_getitem.lookup (wpAny_getItem_list_slice (lo := none) (hi := some (k : Int)) (st := none) (ha'.push _) (Heap.IsSliceOf.new ..) .none (.int ..) .none (by simp) ?_ (by rw [hlen, sizeLine_eq]; (exact Nat.le_trans hsz (Nat.le_of_ble_eq_true rfl)))) rfl
  rw [slicePick_upto']
  have k1 : Sub s.heap ((s.heap.push { cls := .type "slice", data := .fields #[.none, .int k t, .none] }).push { cls := .type "list", data := .seq (vs.toArray.toList.take k).toArray }) := fun b o q => Heap.get?_push_of_some _ (Heap.get?_push_of_some _ q)
  obtain ⟨g', G, e'⟩ := go_new (os := s.os) (gs := s.gens) hg k1 (a := s.heap.objs.size + 1) (none_of_le (Nat.le_succ _)) (by
    have := Heap.get?_push_size (s.heap.push { cls := .type "slice", data := .fields #[.none, .int k t, .none] }) (o := { cls := .type "list", data := .seq (vs.toArray.toList.take k).toArray }) rfl
    rwa [Heap.size_push] at this)
  rw [Heap.size_push]
  refine h _ g' _ G (.list (vs := vs.take k) ⟨_, e', rfl, 0, ?_⟩ ((hvs.take k).mono G.up))
  simp
end
end Mine

/-! # NqLawR -/
namespace Mine
noncomputable def numsOf (scr : List Int) : List Int := (if scr = [] then [84, 203, 214, 29] else scr).take 6
noncomputable def rowI (ns : List Int) : List Int := ns.map (fun n => (n.fdiv 3).fmod 256) ++ List.replicate ((-(ns.length : Int)).fmod 3).toNat 77
noncomputable def rowN (ns : List Int) : List Nat := (rowI ns).map Int.toNat
noncomputable def earlyOf (size : Nat) (n : Int) : Option (Str × Nat) := if 1 < n.fmod 4 then some (Str.ofString (toString (n.fmod 4 - 2)), ((n.fdiv 4).fmod size).toNat) else none
noncomputable def earlyP (size : Nat) (ns : List Int) : List (Str × Nat) := ns.filterMap (earlyOf size)
theorem nums_len (scr : List Int) : 0 < (numsOf scr).length ∧ (numsOf scr).length ≤ 6 := by
  unfold numsOf
  split
  · decide
  · rename_i h
    cases scr with
    | nil => exact absurd rfl h
    | cons a r => simp only [List.length_take, List.length_cons]; (clear h; omega)
theorem rowI_ok {ns : List Int} : ∀ n ∈ rowI ns, 0 ≤ n ∧ n < 256 := by
  intro n hn
  rcases List.mem_append.mp hn with h | h
  · obtain ⟨m, _, rfl⟩ := List.mem_map.mp h
    exact ⟨Int.fmod_nonneg_of_pos _ (by decide), Int.fmod_lt_of_pos _ (by decide)⟩
  · rw [List.mem_replicate] at h; rw [h.2]; decide
theorem rowN_len {ns : List Int} (h0 : 0 < ns.length) (h6 : ns.length ≤ 6) : ∃ k, (rowN ns).length = 3 * k ∧ 0 < k ∧ k ≤ 2 := by
  unfold rowN rowI
  simp only [List.length_map, List.length_append, List.length_replicate]
  generalize ns.length = n at *
  have : n = 1 ∨ n = 2 ∨ n = 3 ∨ n = 4 ∨ n = 5 ∨ n = 6 := by omega
  rcases this with rfl | rfl | rfl | rfl | rfl | rfl
  · exact ⟨1, by decide, by decide, by decide⟩
  · exact ⟨1, by decide, by decide, by decide⟩
  · exact ⟨1, by decide, by decide, by decide⟩
  · exact ⟨2, by decide, by decide, by decide⟩
  · exact ⟨2, by decide, by decide, by decide⟩
  · exact ⟨2, by decide, by decide, by decide⟩
theorem row_nat {l : List Int} (h : ∀ n ∈ l, 0 ≤ n ∧ n < 256) : (byteArr l).toList.map (·.toNat) = l.map Int.toNat := by
  simp only [byteArr, List.map_map]
  refine List.map_congr_left fun n hn => ?_
  have := h n hn
  simp only [Function.comp_def]
  show (UInt8.ofNat n.toNat).toNat = n.toNat
  rw [UInt8.toNat_ofNat']; exact Nat.mod_eq_of_lt (by omega)
theorem rowN_ok {ns : List Int} : ∀ c ∈ rowN ns, c < 256 := by
  intro c hc
  obtain ⟨n, hn, rfl⟩ := List.mem_map.mp hc
  have := rowI_ok n hn; omega
theorem ints_get {ns : List Int} {i : Nat} {d : Dt} (h : (ns.map Dt.int)[i]? = some d) : ∃ n, ns[i]? = some n ∧ Dt.int n = d := by
  rw [List.getElem?_map] at h
  cases q : ns[i]? with
  | none => rw [q] at h; cases h
  | some n => rw [q] at h; exact ⟨n, rfl, by simpa using h⟩
theorem res_list {α : Type} (ns : List α) (z : α) (b : α → Bool) (dt : α → Dt) : res (fun i => b (ns.getD i z)) (fun i => dt (ns.getD i z)) ns.length = ns.filterMap fun n => if b n then some (dt n) else none := by
  unfold res
  have : ∀ l : List α, (List.range l.length).filterMap (fun i => if b (l.getD i z) then some (dt (l.getD i z)) else none) = l.filterMap fun n => if b n then some (dt n) else none := by
    intro l
    induction l with
    | nil => rfl
    | cons a r ih =>
      rw [List.length_cons, List.range_succ_eq_map, List.filterMap_cons, List.filterMap_map]
      simp only [Function.comp_def, List.getD_cons_zero, List.getD_cons_succ]
      rw [ih, List.filterMap_cons]
  exact this ns
theorem enc_ok {k : Nat} {row : List Nat} (hk : row.length = 3 * k) (h : ∀ c ∈ row, c < 256) : (encOf row).size = 4 * k ∧ ∀ i, ((encOf row).getD i 0).toNat < 128 := by
  have hl : (cs (pBits row)).length = 24 * k := by rw [pBits_len, hk]; (clear hk; omega)
  have e := written_eq hk h
  have e2 : (encOf row).map (·.toNat) = (pSixes (pBits row)).cps := congrArg Str.cps e
  have hs := sixes_len (pBits_bin row) hl
  have hz : (encOf row).size = 4 * k := by
    have := congrArg Array.size e2
    rw [Array.size_map] at this
    rw [this]; exact hs
  refine ⟨hz, fun i => ?_⟩
  by_cases hi : i < (encOf row).size
  · have : ((encOf row).getD i 0).toNat ∈ cs (pSixes (pBits row)) := by
      rw [← e]
      show _ ∈ ((encOf row).map (·.toNat)).toList
      rw [Array.toList_map, List.mem_map]
      exact ⟨(encOf row).getD i 0, by simp [Array.getD, hi], rfl⟩
    exact (sixes_ok (pBits_bin row) hl _ this).1
  · have : (encOf row).getD i 0 = 0 := by simp [Array.getD, hi]
    rw [this]; decide
theorem early_ok {size : Nat} (h0 : 0 < size) {ns : List Int} : ∀ p ∈ earlyP size ns, BitS p.1 ∧ p.2 < size := by
  intro p hp
  obtain ⟨n, _, hn⟩ := List.mem_filterMap.mp hp
  unfold earlyOf at hn
  split at hn
  · rename_i h1
    cases hn
    have h2 := Int.fmod_lt_of_pos n (b := 4) (by decide)
    have h3 := Int.fmod_nonneg_of_pos (n.fdiv 4) (b := (size : Int)) (by (clear h1 h2; omega))
    have h4 := Int.fmod_lt_of_pos (n.fdiv 4) (b := (size : Int)) (by (clear h1 h2 h3; omega))
    refine ⟨?_, by show ((n.fdiv 4).fmod size).toNat < size; (clear h0 h1 h2; omega)⟩
    have : n.fmod 4 = 2 ∨ n.fmod 4 = 3 := by (clear h0 h3 h4; omega)
    rcases this with e | e
    · show BitS (Str.ofString (toString (n.fmod 4 - 2))); rw [e]; exact .inl (by decide)
    · show BitS (Str.ofString (toString (n.fmod 4 - 2))); rw [e]; exact .inr (by decide)
  · cases hn
theorem dotted_len {m : List Str} (h : ∀ x ∈ m, x.length ≤ 3) : (dotted m).length ≤ m.length * 4 := by
  by_cases h0 : m = []
  · subst h0; decide
  · have e := congrArg List.length (cs_dotted h0)
    rw [List.length_append, cs_length] at e
    have : ∀ l : List Str, (∀ x ∈ l, x.length ≤ 3) → (dcat (l.map cs)).length ≤ l.length * 4 := by
      intro l
      induction l with
      | nil => intro _; simp [dcat]
      | cons a r ih =>
        intro hl
        have h1 := ih fun x hx => hl x (.tail _ hx)
        have h2 := hl a (.head _)
        have h3 := cs_length a
        unfold dcat at h1 ⊢
        simp only [List.map_cons, List.flatMap_cons, List.length_append, List.length_cons, List.length_nil, Nat.add_mul]
        (clear h0 e; omega)
    have := this m h
    simp only [List.length_singleton] at e
    (clear h0; omega)
theorem ign0_ok : IgnOk ign0 := by
  intro k r hr
  unfold ign0 putI at hr
  split at hr
  · cases hr; exact .inr rfl
  · cases hr
theorem deeds_get {ds : List (Str × Nat)} {i : Nat} {d : Dt} (h : (ds.map deedD)[i]? = some d) : ∃ p, ds[i]? = some p ∧ deedD p = d := by
  rw [List.getElem?_map] at h
  cases q : ds[i]? with
  | none => rw [q] at h; cases h
  | some n => rw [q] at h; exact ⟨n, rfl, by simpa using h⟩
theorem range_getD {α : Type} (ds : List (Str × Nat)) (z : Str × Nat) (f : Str × Nat → α) : (List.range ds.length).map (fun j => f (ds.getD j z)) = ds.map f := by
  refine List.ext_getElem? fun i => ?_
  rw [List.getElem?_map, List.getElem?_map]
  by_cases hi : i < ds.length
  · rw [List.getElem?_range hi, List.getElem?_eq_getElem hi, Option.map_some, Option.map_some, List.getD, List.getElem?_eq_getElem hi]; rfl
  · rw [List.getElem?_eq_none (by simpa using hi), List.getElem?_eq_none (by (exact Nat.le_of_not_lt hi))]; rfl
theorem signs_strOk {sg : Str} (h : SgOk sg) : ∀ x ∈ signs sg, PyData.strOk x = true := by
  intro x hx
  obtain ⟨c, hc, rfl⟩ := List.mem_map.mp hx
  have := (h.1 c hc).1
  simp [PyData.strOk]; (exact Nat.lt_of_lt_of_le this (Nat.le_of_ble_eq_true rfl))
theorem digs_strOk (k : Nat) (hk : k < 6) : PyData.strOk (digs.getD k "") = true := by
  have : ∀ k, k < 6 → PyData.strOk (digs.getD k "") = true := by decide +kernel
  exact this k hk
theorem parts_strOk {sg : Str} (h : SgOk sg) (i : Nat) : ∀ x ∈ pParts i sg, PyData.strOk x = true := by
  intro x hx
  rcases List.mem_append.mp hx with hx | hx
  · exact signs_strOk h x (List.mem_of_mem_take hx)
  · rw [List.mem_singleton] at hx; subst hx; exact digs_strOk _ (Nat.mod_lt _ (by decide))
theorem mods_strOk {sg : Str} (h : SgOk sg) {ns : List Int} : ∀ m ∈ pMods ns sg, ∀ x ∈ m, PyData.strOk x = true := by
  intro m hm x hx
  obtain ⟨n, _, hn⟩ := List.mem_filterMap.mp hm
  unfold modOf at hn
  split at hn
  · cases hn; exact signs_strOk h x (List.mem_of_mem_take hx)
  · split at hn
    · cases hn; exact parts_strOk h _ x hx
    · cases hn
section
variable {prog : Program} {w : World} {A : Around} {s : Shared} {g : Heap} {e : Ent} {L : Addr} {QF : Flow → Shared → Prop}
theorem law_end {ρ : Str → Option Value} {told : Str} {tt tn : Tok} {n kk : Nat} {kept : List Str} (hh : A.handled = none) (hA : A.depth + 5 < recursionLimit) (F : FmS [] e (callEnvC fLaw.fd L 166) ρ s g) (C : CellsNew e (callEnvC fLaw.fd L 166)) (B : Bs w g)
    (ht : ρ (Str.ofString "told") = some (.str told tt)) (hz : ρ (Str.ofString "size") = some (.int n tn)) (hkb : ∀ x ∈ kept, BitS x) (hkl : kept.length = n ∧ n = 24 * kk) (hk0 : 0 < kk) (hk2 : kk ≤ 2)
    (hread : ∀ u, Txt.sliceBy (Txt.slice told (some (-(kept.length : Int))) none) none none (-1, u) = cat kept) (htl : told.length ≤ 1000)
    (h : ∀ s' g', Go [] e.h e.os e.gs e.g s'.heap s'.os s'.gens g' → QF (.ret (.bool true)) s') :
    wpAny (model prog w) A (execs (match fLaw.fd.body with | .stmts b => b.drop 12 | _ => []) (callEnvC fLaw.fd L 166)) QF NoE s := by
  obtain ⟨hkl, hn⟩ := hkl
  have hcl : (cat kept).length = n := by rw [cat_len hkb, hkl]
  have hcb := cat_bin hkb
  have hcsl : (cs (cat kept)).length = 24 * kk := by rw [cs_length, hcl, hn]
  refine wpAny_execs_cons ?_
  refine wpAny_Assign_Name ?_
  refine Subscript_ ?_
  refine Subscript_ ?_
  refine nm_local F ht ?_
  refine wpAny_Slice ?_
  refine evalPart_some_step ?_
  refine UnaryOp_ ?_
  refine nm_cell F hz ?_
  refine x_neg (s := s) (tk := s.toks) fun _ tk₄₁ => ?_
  refine evalPart_none_step ?_
  refine evalPart_none_step ?_
  refine r_sliceFrom (s := { s with toks := tk₄₁ }) F.sub (fun s₄₂ t₄₂ G₄₂ => ?_) (by rw [sizeLine_eq]; (exact Nat.le_trans htl (Nat.le_of_ble_eq_true rfl)))
  have F₄₂ := F.step G₄₂
  refine wpAny_Slice ?_
  refine evalPart_none_step ?_
  refine evalPart_none_step ?_
  refine evalPart_some_step ?_
  refine UnaryOp_ ?_
  refine x_int (s := s₄₂) (tk := s₄₂.toks) fun _ _ => ?_
  refine x_neg fun _ tk₄₃ => ?_
  refine r_sliceRev (s := { s₄₂ with toks := tk₄₃ }) F₄₂ (fun s₄₄ t₄₄ F₄₄ _ => ?_) ?_
  rotate_left
  · have : (Txt.slice told (some (-(n : Int))) none).length ≤ told.length := by
      unfold Txt.slice
      split
      · exact Nat.le_refl _
      · show (List.filterMap _ _).toArray.size ≤ _
        rw [List.size_toArray]
        exact Nat.le_trans (List.length_filterMap_le _ _) (sliceIndices_le _ _ _)
    (clear hA hk0 hk2 hkl hn hcl hcsl; omega)
  rw [← hkl, hread]
  refine st_cell F₄₄ C fun s₄₅ F₄₅ _ => ?_
  -- octets
  have hrs : Builtin.Range.rangeSize 0 (n : Int) 8 = ((3 * kk : Nat) : Int) := by
    unfold Builtin.Range.rangeSize
    rw [if_pos (by decide), if_pos (by (clear hA htl hcl hcsl; omega))]; (clear hA hk0 hk2 htl hkl hcl hcsl; omega)
  refine wpAny_execs_cons ?_
  refine wpAny_Assign_Name ?_
  refine call_name (nm_blt F₄₅ B (nBytes _) bBytes ?_)
  refine cw_type ?_
  refine sp_cons ?_
  refine compEval (D := []) (n := 3 * kk) (P := fun i v => ∃ t, v = .int (0 + i * 8) t) (ρc := fun y => List.lookup y [(Str.ofString "read", .str (cat kept) t₄₄)]) (fun _ => true) (fun j => .int (binVal (((cs (cat kept)).drop (8 * j)).take 8) : Nat)) (fun _ _ _ => True) F₄₅ rfl (by simp) (by simp) (by simp) ?hcl ?hρ (by decide) rfl (by decide) (by (clear hA htl hkl hn hcl hcsl hrs; omega)) (fun _ _ _ _ _ _ => trivial) (fun _ _ _ _ _ _ => trivial) ?src ?turn ?fin
  case hcl =>
    intro y c e
    have := mem_of_lookup e
    simp only [List.mem_cons, List.not_mem_nil, or_false, Prod.mk.injEq] at this
    obtain ⟨rfl, rfl⟩ := this; rfl
  case hρ =>
    intro C
    refine hrho fun p hp => ?_
    simp only [List.mem_cons, List.not_mem_nil, or_false] at hp
    subst hp
    exact ⟨(show (some NameKind.cell) ≠ some NameKind.local by decide), upd_eq⟩
  case src =>
    intro Q' hQ
    refine call_name (nm_blt F₄₅ B (nRange _) bRange ?_)
    refine cw_type ?_
    refine sp_cons ?_
    refine x_int (s := s₄₅) (tk := s₄₅.toks) fun _ _ => ?_
    refine sp_cons ?_
    refine nm_cell F₄₅ (Eq.trans upd_ne hz) ?_
    refine sp_cons ?_
    refine x_int (s := s₄₅) fun _ _ => ?_
    refine sp_nil ?_
    refine src_range3 (n := 3 * kk) hh F₄₅.sub (by decide) (by decide) ?_ hrs fun I s₃ G S => hQ I s₃ g G S trivial
    refine small_of (by decide) (by decide) (by (clear hA hk0 hk2 htl hcl hcsl hrs; omega)) (by (clear hA htl hkl hcl hcsl hrs; omega)) (by decide) (by decide) ?_ ?_ <;> (rw [hrs]; (clear hA htl hkl hn hcl hcsl hrs; omega))
  case turn =>
    rintro C₁ i v s₃ g₃ e₃ hi ⟨tv, rfl⟩ F₃ hg₃ _
    have B₃ := B.keeps hg₃
    refine wpAny_assign_Name (st_local F₃ fun s₄ F₄ _ => ?_)
    refine wpAny_tests_nil ⟨rfl, fun _ => ?_, fun z => by cases z⟩
    refine call_name (nm_blt F₄ B₃ (nInt _) bInt ?_)
    refine cw_type ?_
    refine sp_cons ?_
    refine Subscript_ ?_
    refine nm_cell F₄ (Eq.trans upd_ne rfl) ?_
    refine wpAny_Slice ?_
    refine evalPart_some_step ?_
    refine nm_local F₄ upd_eq ?_
    refine evalPart_some_step ?_
    refine wpAny_BinOp ?_
    refine nm_local F₄ upd_eq ?_
    refine x_int (s := s₄) (tk := s₄.toks) fun _ _ => ?_
    refine x_add fun _ _ => ?_
    refine evalPart_none_step ?_
    refine r_sliceIn F₄.sub (fun s₅ t₅ G₅ => ?_) (by rw [sizeLine_eq]; (clear hA htl hkl hcsl hrs hi; omega))
    have F₅ := F₄.step G₅
    refine sp_cons ?_
    refine x_int (s := s₅) (tk := s₅.toks) fun _ _ => ?_
    refine sp_nil ?_
    have hi8 : 8 * i + 8 ≤ (cat kept).length := by (clear hA hk0 hk2 htl hkl hcsl hrs; omega)
    rw [slice_in (by (clear hA hk0 hk2 htl hkl hn hcl hcsl hrs hi hi8; omega)) (by (clear hA hk0 hk2 htl hkl hn hcl hcsl hrs hi hi8; omega)) (by (clear hA hk0 hk2 htl hkl hcsl hrs hi8; omega))]
    have e1 : (0 + (i : Int) * 8).toNat = 8 * i := by (clear hA hk0 hk2 htl hkl hn hcl hcsl hrs hi hi8; omega)
    have e2 : (0 + (i : Int) * 8 + 8 - (0 + (i : Int) * 8)).toNat = 8 := by (clear hA hk0 hk2 htl hkl hn hcl hcsl hrs hi hi8 e1; omega)
    rw [e1, e2]
    have hlen : (((cat kept).cps.toList.drop (8 * i)).take 8).length = 8 := by
      have : (cat kept).length = (cat kept).cps.toList.length := by simp [Str.length]
      simp only [List.length_take, List.length_drop]; (clear hA hk0 hk2 htl hkl hcsl hrs hi8 e1 e2; omega)
    refine x_bin (s := s₅) ?_ ?_ ?_ fun _ _ => ?_
    · simp only [Str.length, List.size_toArray, hlen]; decide
    · simpa using (hcb.drop (8 * i)).take 8
    · intro z; have z' : ((cat kept).cps.toList.drop (8 * i)).take 8 = [] := by simpa using z
      rw [z'] at hlen; cases hlen
    have ee : (binVal ({ cps := (List.take 8 (List.drop (8 * i) (cat kept).cps.toList)).toArray } : Str).cps.toList) = binVal (((cs (cat kept)).drop (8 * i)).take 8) := by simp
    rw [ee]
    exact ⟨g₃, F₅.weaken (upd_weaken rfl), trivial, .int _ _⟩
  intro s₄₆ g₄₆ v₄₆ G₄₆ R₄₆ _
  rw [res_all] at R₄₆
  have F₄₆ := F₄₅.step G₄₆
  have B₄₆ := B.keeps G₄₆.up
  have eO : (List.range (3 * kk)).map (fun j => Dt.int (binVal (((cs (cat kept)).drop (8 * j)).take 8) : Nat)) = ((octs (3 * kk) (cs (cat kept))).map fun (m : Nat) => (m : Int)).map Dt.int := by
    unfold octs chk
    rw [List.map_map, List.map_map, List.map_map]; rfl
  rw [eO] at R₄₆
  have hoct : ∀ m ∈ (octs (3 * kk) (cs (cat kept))).map (fun (m : Nat) => (m : Int)), 0 ≤ m ∧ m < 256 := by
    intro m hm
    obtain ⟨a, ha, rfl⟩ := List.mem_map.mp hm
    obtain ⟨l, hl, rfl⟩ := List.mem_map.mp ha
    obtain ⟨j, _, rfl⟩ := List.mem_map.mp hl
    have h1 := binVal_lt _ ((hcb.drop (8 * j)).take 8)
    have h2 : (List.take 8 (List.drop (8 * j) (cs (cat kept)))).length ≤ 8 := by simp only [List.length_take]; (clear hA hk0 hk2 htl hkl hn hcl hcsl hrs h1; omega)
    have h3 := Nat.lt_of_lt_of_le h1 (Nat.pow_le_pow_right (n := 2) (by decide) h2)
    have : (2 : Nat) ^ 8 = 256 := by decide
    (clear hA hk0 hk2 htl hkl hn hcl hcsl hrs h1 h2 this; omega)
  have holen : (octs (3 * kk) (cs (cat kept))).length = 3 * kk := by simp [octs, chk]
  refine sp_nil ?_
  refine r_bytes hh F₄₆.sub R₄₆ hoct (by rw [List.length_map]; (exact mk_le holen hk2 (Nat.le_of_ble_eq_true rfl))) fun s₄₇ t₄₇ G₄₇ => ?_
  have F₄₇ := F₄₆.step G₄₇
  refine st_local F₄₇ fun s₄₈ F₄₈ _ => ?_
  have hbr : (byteArr ((octs (3 * kk) (cs (cat kept))).map fun (m : Nat) => (m : Int))).toList.map (·.toNat) = octs (3 * kk) (cs (cat kept)) := by
    rw [row_nat hoct, List.map_map]
    conv => rhs; rw [← List.map_id (octs (3 * kk) (cs (cat kept)))]
    exact List.map_congr_left fun n _ => by simp
  have hbs : (byteArr ((octs (3 * kk) (cs (cat kept))).map fun (m : Nat) => (m : Int))).size = 3 * kk := by simp [byteArr, holen]
  -- the answer
  refine wpAny_execs_cons ?_
  refine wpAny_Return_some ?_
  refine wpAny_Compare1 ?_
  refine call_name (nm_glob F₄₈ B₄₆ (gB64 _) ?_)
  refine cw_fn (w := w) fB64 ?_
  refine sp_cons ?_
  refine nm_local F₄₈ upd_eq ?_
  refine sp_nil ⟨B₄₆.keeps F₄₈.sub, ?_⟩
  refine c_enc hh (by (exact lt_dep hA (Nat.le_of_ble_eq_true rfl))) F₄₈.sub B₄₆ (by (clear hA htl hkl hn hcl hcsl hrs holen; omega)) (by (exact mk_mod hbs rfl)) fun s₄₉ t₄₉ G₄₉ => ?_
  rw [hbr]
  have F₄₉ := F₄₈.step G₄₉
  refine meth_str PySem.F.slot_str_encode PySem.F.type_str_encode ?_
  refine call_name (nm_glob F₄₉ B₄₆ (gSixes _) ?_)
  refine cw_fn (w := w) fSixes ?_
  refine sp_cons ?_
  refine nm_cell F₄₉ (Eq.trans upd_ne upd_eq) ?_
  refine sp_nil ⟨B₄₆.keeps F₄₉.sub, ?_⟩
  refine c_sixes hh (by (exact lt_dep0 hA)) F₄₉.sub B₄₆ hcb (by (clear hA hk0 hk2 htl hkl hcsl hrs holen hbs; omega)) (by (clear hA htl hkl hcsl hrs holen hbs; omega)) (by (clear hA htl hkl hcsl hrs holen hbs; omega)) fun s₅₀ g₅₀ t₅₀ G₅₀ => ?_
  have F₅₀ := F₄₉.step G₅₀
  refine ⟨_, _, rfl, ?_⟩
  refine cw_blt ?_
  refine sp_cons ?_
  refine x_str (s := s₅₀) (tk := s₅₀.toks) fun _ _ => ?_
  refine sp_nil ?_
  have hsl := sixes_len hcb hcsl
  have hso := sixes_ok hcb hcsl
  refine x_encode (s := s₅₀) (by (exact mk_le hsl hk2 (Nat.le_of_ble_eq_true rfl))) (fun c hc => (hso c (by simpa [cs] using hc)).1) fun _ _ => ?_
  refine PySem.W.eq_bytes ?_
  rw [enc_end hcb hcsl]
  exact h _ g₅₀ F₅₀.go
theorem law_rest {ns : List Int} {v vn : Value} (hh : A.handled = none) (hA : A.depth + 5 < recursionLimit) (hU : A.units + 150 < cLine) (F : FmS [] e (callEnvC fLaw.fd L 166) (look [(Str.ofString "numbers", vn), (Str.ofString "script", v)]) s g) (C : CellsNew e (callEnvC fLaw.fd L 166)) (B : Bs w g)
    (hr : Rep g (.list (ns.map .int)) vn) (hn0 : 0 < ns.length) (hn6 : ns.length ≤ 6) (h : ∀ s' g', Go [] e.h e.os e.gs e.g s'.heap s'.os s'.gens g' → QF (.ret (.bool true)) s') :
    wpAny (model prog w) A (execs (match fLaw.fd.body with | .stmts b => b.tail | _ => []) (callEnvC fLaw.fd L 166)) QF NoE s := by
  obtain ⟨kk, hrl, hk0, hk2⟩ := rowN_len hn0 hn6
  have hrl' : (rowI ns).length = 3 * kk := by rw [← hrl, rowN, List.length_map]
  -- row
  refine wpAny_execs_cons ?_
  refine wpAny_Assign_Name ?_
  refine call_name (nm_blt F B (nBytes _) bBytes ?_)
  refine cw_type ?_
  refine sp_cons ?_
  refine wpAny_BinOp ?_
  refine compEval (D := []) (n := ns.length) (P := fun i v => ∃ t, v = .int (ns.getD i 0) t) (ρc := fun _ => none) (fun _ => true) (fun j => .int (((ns.getD j 0).fdiv 3).fmod 256)) (fun _ _ _ => True) F rfl (by simp) (by simp) (by simp) (by intro y c e; cases e) (by intro C y v e; cases e) (by decide) rfl (by decide) (by (exact Nat.le_trans hn6 (Nat.le_of_ble_eq_true rfl))) (fun _ _ _ _ _ _ => trivial) (fun _ _ _ _ _ _ => trivial) ?src1 ?turn1 ?fin1
  case src1 =>
    intro Q' hQ
    refine nm_local F rfl ?_
    refine src_list (target := .Name (Str.ofString "n") ⟨179, 34, 179, 35⟩) hh F.sub hr fun I s₂ G₂ S₂ => ?_
    obtain ⟨fp, wr, St, W, r⟩ := S₂
    rw [List.length_map] at W
    refine hQ I s₂ g G₂ ⟨fp, wr, St, W.weaken fun i v hv => ?_, r⟩ trivial
    obtain ⟨d, hd, hrd⟩ := hv
    obtain ⟨n, hn, rfl⟩ := ints_get hd
    obtain ⟨t, rfl⟩ := hrd.int_inv
    exact ⟨t, by rw [List.getD, hn]; rfl⟩
  case turn1 =>
    rintro C₁ i v s₃ g₃ e₃ hi ⟨tv, rfl⟩ F₃ hg₃ _
    refine wpAny_assign_Name (st_local F₃ fun s₄ F₄ _ => ?_)
    refine wpAny_tests_nil ⟨rfl, fun _ => ?_, fun z => by cases z⟩
    refine wpAny_BinOp ?_
    refine wpAny_BinOp ?_
    refine nm_local F₄ upd_eq ?_
    refine x_int fun _ _ => ?_
    refine x_div (by decide) (by decide) fun _ _ => ?_
    refine x_int fun _ _ => ?_
    refine x_mod (by decide) fun _ _ => ?_
    exact ⟨g₃, F₄.weaken (upd_weaken rfl), trivial, .int _ _⟩
  intro s₂ g₂ v₂ G₂ R₂ _
  have F₂ := F.step G₂
  have B₂ := B.keeps G₂.up
  refine wpAny_BinOp ?_
  refine List_ ?_
  refine sp_cons (x_int (s := s₂) (tk := s₂.toks) fun _ _ => ?_)
  refine sp_nil ?_
  refine r_newList (l := [.int _]) F₂.sub (.cons (.int _ _) .nil) fun s₃ g₃ v₃ G₃ R₃ => ?_
  have F₃ := F₂.step G₃
  have B₃ := B₂.keeps G₃.up
  refine wpAny_BinOp ?_
  refine UnaryOp_ ?_
  refine call_name (nm_blt F₃ B₃ (nLen _) bLen ?_)
  refine cw_blt ?_
  refine sp_cons ?_
  refine nm_local F₃ rfl ?_
  refine sp_nil ?_
  refine x_lenL (s := s₃) (tk := s₃.toks) F₃.sub ((hr.mono G₂.up).mono G₃.up) (by rw [List.length_map]; (exact Nat.lt_of_le_of_lt hn6 (Nat.le_of_ble_eq_true rfl))) fun _ _ => ?_
  rw [List.length_map]
  refine x_neg fun _ _ => ?_
  refine x_int fun _ _ => ?_
  refine x_mod (by decide) fun _ tk₄ => ?_
  have hm0 := Int.fmod_nonneg_of_pos (-(ns.length : Int)) (b := 3) (by decide)
  have hm1 := Int.fmod_lt_of_pos (-(ns.length : Int)) (b := 3) (by decide)
  refine r_mulList (s := { s₃ with toks := tk₄ }) F₃ R₃ (by (clear hA hU hn0 hn6 hrl hk0 hk2 hrl'; omega)) (by (clear hA hU hn0 hn6 hrl hk0 hk2 hrl'; omega)) (by simp; (clear hA hU hn0 hn6 hrl hk0 hk2 hrl'; omega)) fun s₅ g₅ v₅ F₅ hg₅ R₅ _ => ?_
  refine r_addLists F₅.sub ((R₂.mono G₃.up).mono hg₅) R₅ (fun s₆ g₆ v₆ G₆ R₆ => ?_) ?_
  · have F₆ := F₅.step G₆
    have hg₆ : Sub g g₆ := ((G₂.up.trans G₃.up).trans hg₅).trans G₆.up
    refine sp_nil ?_
    have eR : (res (fun _ => true) (fun j => Dt.int (((ns.getD j 0).fdiv 3).fmod 256)) ns.length ++ (List.replicate ((-(ns.length : Int)).fmod 3).toNat [Dt.int 77]).flatten) = (rowI ns).map Dt.int := by
      rw [res_list ns 0 (fun _ => true) (fun n => Dt.int ((n.fdiv 3).fmod 256))]
      simp [rowI, List.map_append, Function.comp_def]
    rw [eR] at R₆
    refine r_bytes hh F₆.sub R₆ rowI_ok (by (exact mk_le hrl' hk2 (Nat.le_of_ble_eq_true rfl))) fun s₇ t₇ G₇ => ?_
    have F₇ := F₆.step G₇
    have hrow : (byteArr (rowI ns)).toList.map (·.toNat) = rowN ns := row_nat rowI_ok
    have hrsz : (byteArr (rowI ns)).size = 3 * kk := by simp [byteArr, hrl']
    refine sl_local F₇ fun s₈ F₈ _ => ?_
    have B₆ := B.keeps hg₆
    have hr₆ := hr.mono hg₆
    -- bits
    refine wpAny_execs_cons ?_
    refine wpAny_Assign_Name ?_
    refine call_name (nm_glob F₈ B₆ (gBits _) ?_)
    refine cw_fn (w := w) fBits ?_
    refine sp_cons ?_
    refine nm_local F₈ rfl ?_
    refine sp_nil ⟨B₆.keeps F₈.sub, ?_⟩
    refine c_bits hh (by (exact lt_dep0 hA)) F₈.sub B₆ (by (exact mk_le hrsz hk2 (Nat.le_of_ble_eq_true rfl))) fun s₉ g₉ t₉ G₉ => ?_
    rw [hrow]
    have hbb : Bin (cs (pBits (rowN ns))) := pBits_bin _
    have hbl : (cs (pBits (rowN ns))).length = 24 * kk := by rw [pBits_len, hrl]; (clear hA hU hn0 hn6 hrl hk0 hk2 hrl' hm0 hm1 hrsz; omega)
    have hwr : (⟨(encOf (rowN ns)).map (·.toNat)⟩ : Str) = pSixes (pBits (rowN ns)) := written_eq hrl rowN_ok
    have hen := enc_ok hrl (rowN_ok (ns := ns))
    have hsg : SgOk (pSixes (pBits (rowN ns))) := ⟨sixes_ok hbb hbl, by rw [sixes_len hbb hbl]; (clear hA hU hn0 hn6 hrl hrl' hm0 hm1 hrsz hbl hen; omega)⟩
    have hsl := sixes_len hbb hbl
    generalize hbts : pBits (rowN ns) = bts at *
    have hblen : bts.length = 24 * kk := by rw [← cs_length]; exact hbl
    have F₉ := F₈.step G₉
    have B₉ := B₆.keeps G₉.up
    have hr₉ := hr₆.mono G₉.up
    refine sl_cell F₉ C fun s₁₀ F₁₀ _ => ?_
    -- size
    refine wpAny_execs_cons ?_
    refine wpAny_Assign_Name ?_
    refine call_name (nm_blt F₁₀ B₉ (nLen _) bLen ?_)
    refine cw_blt ?_
    refine sp_cons ?_
    refine nm_cell F₁₀ rfl ?_
    refine sp_nil ?_
    refine x_len (s := s₁₀) (tk := s₁₀.toks) (by (exact mk_lt hblen hk2 (Nat.le_of_ble_eq_true rfl))) fun t₁₁ tk₁₁ => ?_
    refine sl_cell (s := { s₁₀ with toks := tk₁₁ }) F₁₀ C fun s₁₂ F₁₂ _ => ?_
    -- signs, written
    refine wpAny_execs_cons ?_
    refine Assign_Tuple_swapped ?_
    refine Tuple_ ?_
    refine sp_cons ?_
    refine call_name (nm_glob F₁₂ B₉ (gSixes _) ?_)
    refine cw_fn (w := w) fSixes ?_
    refine sp_cons ?_
    refine nm_cell F₁₂ rfl ?_
    refine sp_nil ⟨B₉.keeps F₁₂.sub, ?_⟩
    refine c_sixes hh (by (exact lt_dep0 hA)) F₁₂.sub B₉ hbb (by (exact mk_mod hblen rfl)) (by (exact mk_pos hblen hk0 (Nat.le_of_ble_eq_true rfl))) (by (exact mk_le hblen hk2 (Nat.le_of_ble_eq_true rfl))) fun s₁₃ g₁₃ t₁₃ G₁₃ => ?_
    have F₁₃ := F₁₂.step G₁₃
    have B₁₃ := B₉.keeps G₁₃.up
    refine sp_cons ?_
    refine meth_bytes FB.slot_bytes_decode FB.type_bytes_decode ?_
    refine call_name (nm_glob F₁₃ B₁₃ (gB64 _) ?_)
    refine cw_fn (w := w) fB64 ?_
    refine sp_cons ?_
    refine nm_local F₁₃ rfl ?_
    refine sp_nil ⟨B₁₃.keeps F₁₃.sub, ?_⟩
    refine c_enc hh (by (exact lt_dep hA (Nat.le_of_ble_eq_true rfl))) F₁₃.sub B₁₃ (by (exact mk_le hrsz hk2 (Nat.le_of_ble_eq_true rfl))) (by (exact mk_mod hrsz rfl)) fun s₁₄ t₁₄ G₁₄ => ?_
    rw [hrow]
    have F₁₄ := F₁₃.step G₁₄
    refine ⟨_, _, rfl, ?_⟩
    refine cw_blt ?_
    refine sp_cons ?_
    refine x_str (s := s₁₄) (tk := s₁₄.toks) fun _ _ => ?_
    refine sp_nil ?_
    refine x_decode (s := s₁₄) (by (clear hA hU hn0 hn6 hrl hrl' hm0 hm1 hrsz hbl hsl hblen; omega)) (by (clear hA hU hn0 hn6 hrl hrl' hm0 hm1 hrsz hbl hsl hblen; omega)) hen.2 fun t₁₅ tk₁₅ => ?_
    rw [hwr]
    generalize hsgg : pSixes bts = sg at *
    refine sp_nil ?_
    refine r_newTupleRaw (s := { s₁₄ with toks := tk₁₅ }) F₁₄.sub fun s₁₆ tu G₁₆ ht => ?_
    have F₁₆ := F₁₄.step G₁₆
    refine r_unpack hh F₁₆.sub ht rfl fun s₁₇ G₁₇ => ?_
    have F₁₇ := F₁₆.step G₁₇
    refine wpAny_bind (wpAny_holding (bindName_ (sl_local F₁₇ fun s₁₈ F₁₈ _ => ?_)))
    refine wpAny_bind (wpAny_holding (bindName_ (sl_local F₁₈ fun s₁₉ F₁₉ _ => ?_)))
    refine wpAny_pure ?_
    have hr₁₃ := hr₉.mono G₁₃.up
    -- early
    refine wpAny_execs_cons ?_
    refine compAssign (n := ns.length) (P := fun i v => ∃ t, v = .int (ns.getD i 0) t) (ρc := fun y => List.lookup y [(Str.ofString "size", .int bts.length t₁₁)]) (fun i => decide (1 < (ns.getD i 0).fmod 4)) (fun i => deedD (Str.ofString (toString ((ns.getD i 0).fmod 4 - 2)), (((ns.getD i 0).fdiv 4).fmod bts.length).toNat)) F₁₉ rfl ?hcl2 ?hρ2 (by decide) rfl (by decide) (by (exact Nat.le_trans hn6 (Nat.le_of_ble_eq_true rfl))) rfl rfl rfl rfl ?src2 ?turn2 ?fin2
    case hcl2 =>
      intro y c e
      have := mem_of_lookup e
      simp only [List.mem_cons, List.not_mem_nil, or_false, Prod.mk.injEq] at this
      obtain ⟨rfl, rfl⟩ := this; rfl
    case hρ2 =>
      intro C
      refine hrho fun p hp => ?_
      simp only [List.mem_cons, List.not_mem_nil, or_false] at hp
      subst hp
      exact ⟨(show (some NameKind.cell) ≠ some NameKind.local by decide), rfl⟩
    case src2 =>
      intro Q' hQ
      refine nm_local F₁₉ rfl ?_
      refine src_list (target := .Name (Str.ofString "n") ⟨183, 49, 183, 50⟩) hh F₁₉.sub hr₁₃ fun I s₂ G₂ S₂ => ?_
      obtain ⟨fp, wr, St, W, r⟩ := S₂
      rw [List.length_map] at W
      refine hQ I s₂ g₁₃ G₂ ⟨fp, wr, St, W.weaken fun i v hv => ?_, r⟩
      obtain ⟨d, hd, hrd⟩ := hv
      obtain ⟨n, hn, rfl⟩ := ints_get hd
      obtain ⟨t, rfl⟩ := hrd.int_inv
      exact ⟨t, by rw [List.getD, hn]; rfl⟩
    case turn2 =>
      rintro C₁ i v s₃ g₃ e₃ hi ⟨tv, rfl⟩ F₃ hg₃
      have B₃ := B₁₃.keeps hg₃
      refine wpAny_assign_Name (st_local F₃ fun s₄ F₄ _ => ?_)
      refine wpAny_tests_one ?_
      refine wpAny_isTrue_Compare1 ?_
      refine wpAny_BinOp ?_
      refine nm_local F₄ upd_eq ?_
      refine x_int fun _ _ => ?_
      refine x_mod (by decide) fun _ _ => ?_
      refine x_int fun _ tk₅ => ?_
      refine PyProof.Rows.gt_int ?_
      refine wpAny_truthy_bool ?_
      refine ⟨rfl, fun hb => ?_, fun hb => ⟨g₃, F₄.weaken (upd_weaken rfl)⟩⟩
      have hb' : 1 < (ns.getD i 0).fmod 4 := by simpa using hb
      have h2 := Int.fmod_lt_of_pos (ns.getD i 0) (b := 4) (by decide)
      have h3 := Int.fmod_nonneg_of_pos ((ns.getD i 0).fdiv 4) (b := (bts.length : Int)) (by (clear hA hU hn0 hn6 hrl hrl' hm0 hm1 hrsz hen hbl hsl hi hb' h2; omega))
      refine Tuple_ ?_
      refine sp_cons ?_
      refine call_name (nm_blt F₄ B₃ (nStr _) bStr ?_)
      refine cw_type ?_
      refine sp_cons ?_
      refine wpAny_BinOp ?_
      refine wpAny_BinOp ?_
      refine nm_local F₄ upd_eq ?_
      refine x_int (s := s₄) fun _ _ => ?_
      refine x_mod (by decide) fun _ _ => ?_
      refine x_int fun _ _ => ?_
      refine x_sub fun _ _ => ?_
      refine sp_nil ?_
      refine x_strInt ?_ fun _ _ => ?_
      · have : (ns.getD i 0).fmod 4 = 2 ∨ (ns.getD i 0).fmod 4 = 3 := by (clear hA hU hn0 hn6 hrl hk0 hk2 hrl' hm0 hm1 hrsz hen hbl hblen hsl hi h3; omega)
        rcases this with e | e <;> rw [e] <;> decide
      refine sp_cons ?_
      refine wpAny_BinOp ?_
      refine wpAny_BinOp ?_
      refine nm_local F₄ upd_eq ?_
      refine x_int fun _ _ => ?_
      refine x_div (by decide) (by decide) fun _ _ => ?_
      refine nm_cell F₄ (Eq.trans upd_ne rfl) ?_
      refine x_mod (by (clear hA hU hn0 hn6 hrl hrl' hm0 hm1 hrsz hen hbl hsl hi hb' h2 h3; omega)) fun _ _ => ?_
      refine sp_nil ?_
      have e1 : ((ns.getD i 0).fdiv 4).fmod (bts.length : Int) = (((((ns.getD i 0).fdiv 4).fmod (bts.length : Int)).toNat : Nat) : Int) := by (clear hA hU hn0 hn6 hrl hk0 hk2 hrl' hm0 hm1 hrsz hen hbl hblen hsl hi hb' h2; omega)
      rw [e1]
      refine r_newTuple (l := [.str _, .int _]) F₄.sub (.cons (.str _ _) (.cons (.int _ _) .nil)) fun s₆ g₆ v₆ G₆ R₆ => ?_
      exact ⟨g₆, (F₄.step G₆).weaken (upd_weaken rfl), R₆⟩
    intro s₂₀ g₂₀ v₂₀ F₂₀ hg₂₀ R₂₀
    rw [upd_look] at F₂₀
    rw [res_list ns 0 (fun n => decide (1 < n.fmod 4)) (fun n => deedD (Str.ofString (toString (n.fmod 4 - 2)), ((n.fdiv 4).fmod bts.length).toNat))] at R₂₀
    have eE : (ns.filterMap fun n => if decide (1 < n.fmod 4) = true then some (deedD (Str.ofString (toString (n.fmod 4 - 2)), ((n.fdiv 4).fmod bts.length).toNat)) else none) = (earlyP bts.length ns).map deedD := by
      unfold earlyP
      rw [List.map_filterMap]
      congr 1
      funext n
      unfold earlyOf
      by_cases hc : 1 < n.fmod 4 <;> simp [hc]
    rw [eE] at R₂₀
    have hr₂₀ := hr₁₃.mono hg₂₀
    have B₂₀ := B₁₃.keeps hg₂₀
    have heok := early_ok (size := bts.length) (by (exact mk_pos hblen hk0 (Nat.le_of_ble_eq_true rfl))) (ns := ns)
    have hel : (earlyP bts.length ns).length ≤ 6 := Nat.le_trans (List.length_filterMap_le _ _) hn6
    generalize hearly : earlyP bts.length ns = early at *
    -- kept
    refine wpAny_execs_cons ?_
    refine wpAny_Assign_Name ?_
    refine call_name (nm_glob F₂₀ B₂₀ (gKept _) ?_)
    refine cw_fn (w := w) fKept ?_
    refine sp_cons ?_
    refine nm_cell F₂₀ rfl ?_
    refine sp_cons ?_
    refine nm_local F₂₀ rfl ?_
    refine sp_cons ?_
    refine call_name (nm_glob F₂₀ B₂₀ (gMods _) ?_)
    refine cw_fn (w := w) fMods ?_
    refine sp_cons ?_
    refine nm_local F₂₀ rfl ?_
    refine sp_cons ?_
    refine nm_local F₂₀ rfl ?_
    refine sp_nil ⟨B₂₀.keeps F₂₀.sub, ?_⟩
    refine c_mods hh (by (exact lt_dep hA (Nat.le_of_ble_eq_true rfl))) F₂₀.sub B₂₀ hr₂₀ (by (exact Nat.le_trans hn6 (Nat.le_of_ble_eq_true rfl))) (by (exact mk_pos hsl hk0 (Nat.le_of_ble_eq_true rfl))) (by (exact mk_le hsl hk2 (Nat.le_of_ble_eq_true rfl))) fun s₂₁ g₂₁ v₂₁ G₂₁ R₂₁ => ?_
    have F₂₁ := F₂₀.step G₂₁
    have B₂₁ := B₂₀.keeps G₂₁.up
    refine sp_cons ?_
    refine nm_local F₂₁ rfl ?_
    refine sp_nil ⟨B₂₁.keeps F₂₁.sub, ?_⟩
    refine c_kept hh (by (exact lt_dep hA (Nat.le_of_ble_eq_true rfl))) (by (exact lt_dep hU (Nat.le_of_ble_eq_true rfl))) F₂₁.sub B₂₁ R₂₁ (R₂₀.mono G₂₁.up) (by (exact mk_six hblen hsl)) (by (exact mk_le hsl hk2 (Nat.le_of_ble_eq_true rfl))) (fun p hp => ⟨(heok p hp).2, by rcases (heok p hp).1 with e | e <;> rw [e] <;> decide⟩) (fun m hm => by have := (mod_small hm).1; (clear hA hU hn0 hn6 hrl hrl' hm0 hm1 hrsz hen hbl hblen hel; omega)) (mods_strOk hsg) (parts_strOk hsg) fun s₂₂ g₂₂ t₂₂ G₂₂ => ?_
    have F₂₂ := F₂₁.step G₂₂
    have B₂₂ := B₂₁.keeps G₂₂.up
    have R₂₂ := (R₂₀.mono G₂₁.up).mono G₂₂.up
    have hr₂₂ := (hr₂₀.mono G₂₁.up).mono G₂₂.up
    have hl6 : bts.length = 6 * sg.length := by (exact mk_six hblen hsl)
    have hkb : ∀ x ∈ pKept bts sg (pMods ns sg) early, BitS x := kept_bits hbb heok
    have hkl : (pKept bts sg (pMods ns sg) early).length = bts.length := kept_len _
    have htold := told_law (ns := ns) (early := early) hsg hl6 hbb heok
    generalize hkept : pKept bts sg (pMods ns sg) early = kept at *
    refine sl_cell F₂₂ C fun s₂₃ F₂₃ _ => ?_
    have hclen : (cat kept).length = bts.length := by rw [cat_len hkb, hkl]
    -- last
    refine wpAny_execs_cons ?_
    have hrs : Builtin.Range.rangeSize ((bts.length : Int) - 1) (-1) (-1) = ((bts.length : Nat) : Int) := by
      unfold Builtin.Range.rangeSize
      rw [if_neg (by decide), if_pos (by (clear hA hU hn0 hn6 hrl hrl' hm0 hm1 hrsz hen hbl hsl hel hl6 hkl hclen; omega)), show (- -1 : Int) = 1 by decide, Int.ediv_one]; (clear hA hU hn0 hn6 hrl hk0 hk2 hrl' hm0 hm1 hrsz hen hbl hblen hsl hel hl6 hkl hclen; omega)
    refine compAssign (n := bts.length) (P := fun i v => ∃ t, v = .int ((bts.length : Int) - 1 + i * (-1)) t) (ρc := fun y => List.lookup y [(Str.ofString "kept", .str (cat kept) t₂₂)]) (fun i => true) (fun j => deedD (bitD (kept.getD (bts.length - 1 - j) (Str.ofString "")), bts.length - 1 - j)) F₂₃ rfl ?hcl3 ?hρ3 (by decide) rfl (by decide) (by (exact mk_le hblen hk2 (Nat.le_of_ble_eq_true rfl))) rfl rfl rfl rfl ?src3 ?turn3 ?fin3
    case hcl3 =>
      intro y c e
      have := mem_of_lookup e
      simp only [List.mem_cons, List.not_mem_nil, or_false, Prod.mk.injEq] at this
      obtain ⟨rfl, rfl⟩ := this; rfl
    case hρ3 =>
      intro C
      refine hrho fun p hp => ?_
      simp only [List.mem_cons, List.not_mem_nil, or_false] at hp
      subst hp
      exact ⟨(show (some NameKind.cell) ≠ some NameKind.local by decide), rfl⟩
    case src3 =>
      intro Q' hQ
      refine call_name (nm_blt F₂₃ B₂₂ (nRange _) bRange ?_)
      refine cw_type ?_
      refine sp_cons ?_
      refine wpAny_BinOp ?_
      refine nm_cell F₂₃ rfl ?_
      refine x_int (s := s₂₃) (tk := s₂₃.toks) fun _ _ => ?_
      refine x_sub fun _ _ => ?_
      refine sp_cons ?_
      refine UnaryOp_ ?_
      refine x_int fun _ _ => ?_
      refine x_neg fun _ _ => ?_
      refine sp_cons ?_
      refine UnaryOp_ ?_
      refine x_int fun _ _ => ?_
      refine x_neg fun _ _ => ?_
      refine sp_nil ?_
      refine src_range3 (n := bts.length) hh F₂₃.sub (by decide) (by decide) ?_ hrs fun I s₃ G S => hQ I s₃ g₂₂ G S
      refine small_of (by (clear hA hU hn0 hn6 hrl hk0 hk2 hrl' hm0 hm1 hrsz hen hbl hsl hel hl6 hkl hclen hrs; omega)) (by (clear hA hU hn0 hn6 hrl hrl' hm0 hm1 hrsz hen hbl hsl hel hl6 hkl hclen hrs; omega)) (by decide) (by decide) (by decide) (by decide) ?_ ?_ <;> (rw [hrs]; (clear hA hU hn0 hn6 hrl hrl' hm0 hm1 hrsz hen hbl hsl hel hl6 hkl hclen hrs; omega))
    case turn3 =>
      rintro C₁ i v s₃ g₃ e₃ hi ⟨tv, rfl⟩ F₃ hg₃
      have B₃ := B₂₂.keeps hg₃
      have ei : (bts.length : Int) - 1 + i * (-1) = ((bts.length - 1 - i : Nat) : Int) := by (clear hA hU hn0 hn6 hrl hk0 hk2 hrl' hm0 hm1 hrsz hen hbl hsl hel hl6 hkl hclen hrs; omega)
      rw [ei]
      have hki : bts.length - 1 - i < kept.length := by (clear hA hU hn0 hn6 hrl hk0 hk2 hrl' hm0 hm1 hrsz hen hbl hsl hel hl6 hclen hrs hi; omega)
      have hbit : BitS (kept.getD (bts.length - 1 - i) (Str.ofString "")) := by rw [List.getD, List.getElem?_eq_getElem hki]; exact hkb _ (List.getElem_mem hki)
      obtain ⟨vd, hv1, hv2, hv3, hv4⟩ := ten_item hbit
      refine wpAny_assign_Name (st_local F₃ fun s₄ F₄ _ => ?_)
      refine wpAny_tests_nil ⟨rfl, fun _ => ?_, fun z => by cases z⟩
      refine Tuple_ ?_
      refine sp_cons ?_
      refine Subscript_ ?_
      refine x_str (s := s₄) (tk := s₄.toks) fun _ _ => ?_
      refine call_name (nm_blt F₄ B₃ (nInt _) bInt ?_)
      refine cw_type ?_
      refine sp_cons ?_
      refine Subscript_ ?_
      refine nm_cell F₄ (Eq.trans upd_ne rfl) ?_
      refine nm_local F₄ upd_eq ?_
      refine x_item (s := s₄) (by (exact Int.natCast_nonneg _)) (by (clear hA hU hn0 hn6 hrl hk0 hk2 hrl' hm0 hm1 hrsz hen hbl hsl hel hl6 hkl hrs hi hki hv2 hv3; omega)) (by (clear hA hU hn0 hn6 hrl hrl' hm0 hm1 hrsz hen hbl hsl hel hl6 hkl hrs hi ei hki hv2 hv3; omega)) fun _ _ => ?_
      rw [cat_item hkb hki]
      refine sp_nil ?_
      refine x_intText hv1 (by rcases hbit with e | e <;> rw [e] <;> decide) fun _ _ => ?_
      refine x_item (by (exact hv2)) (by rw [show (Str.ofString "10").length = 2 by decide]; (clear hA hU hn0 hn6 hrl hk0 hk2 hrl' hm0 hm1 hrsz hen hbl hblen hsl hel hl6 hkl hclen hrs hi ei hki hv2; omega)) (by decide) fun _ _ => ?_
      rw [hv4]
      refine sp_cons ?_
      refine nm_local F₄ upd_eq ?_
      refine sp_nil ?_
      refine r_newTuple (l := [.str _, .int _]) F₄.sub (.cons (.str _ _) (.cons (.int _ _) .nil)) fun s₆ g₆ v₆ G₆ R₆ => ?_
      exact ⟨g₆, (F₄.step G₆).weaken (upd_weaken rfl), R₆⟩
    intro s₂₄ g₂₄ v₂₄ F₂₄ hg₂₄ R₂₄
    rw [upd_look] at F₂₄
    rw [res_all] at R₂₄
    have eL : (List.range bts.length).map (fun j => deedD (bitD (kept.getD (bts.length - 1 - j) (Str.ofString "")), bts.length - 1 - j)) = (lastP kept).map deedD := by
      unfold lastP; rw [hkl, List.map_map]; rfl
    rw [eL] at R₂₄
    have B₂₄ := B₂₂.keeps hg₂₄
    have hlastlen : (lastP kept).length = bts.length := by simp [lastP, hkl]
    -- deeds
    refine wpAny_execs_cons ?_
    refine wpAny_Assign_Name ?_
    refine wpAny_BinOp ?_
    refine wpAny_BinOp ?_
    refine nm_local F₂₄ rfl ?_
    refine compEval (D := []) (n := bts.length) (P := fun i v => ∃ t, v = .int i t) (ρc := fun y => List.lookup y [(Str.ofString "bits", .str bts t₉)]) (fun _ => true) (fun (j : Nat) => deedD (Txt.item bts (j : Int), j)) (fun _ _ _ => True) F₂₄ rfl (by simp) (by simp) (by simp) ?hcl4 ?hρ4 (by decide) rfl (by decide) (by (exact mk_le hblen hk2 (Nat.le_of_ble_eq_true rfl))) (fun _ _ _ _ _ _ => trivial) (fun _ _ _ _ _ _ => trivial) ?src4 ?turn4 ?fin4
    case hcl4 =>
      intro y c e
      have := mem_of_lookup e
      simp only [List.mem_cons, List.not_mem_nil, or_false, Prod.mk.injEq] at this
      obtain ⟨rfl, rfl⟩ := this; rfl
    case hρ4 =>
      intro C
      refine hrho fun p hp => ?_
      simp only [List.mem_cons, List.not_mem_nil, or_false] at hp
      subst hp
      exact ⟨(show (some NameKind.cell) ≠ some NameKind.local by decide), rfl⟩
    case src4 =>
      intro Q' hQ
      refine call_name (nm_blt F₂₄ B₂₄ (nRange _) bRange ?_)
      refine cw_type ?_
      refine sp_cons ?_
      refine nm_cell F₂₄ rfl ?_
      refine sp_nil ?_
      exact src_range1 hh F₂₄.sub (by (exact mk_lt hblen hk2 (Nat.le_of_ble_eq_true rfl))) fun I s₃ G S => hQ I s₃ g₂₄ G S trivial
    case turn4 =>
      rintro C₁ i v s₃ g₃ e₃ hi ⟨tv, rfl⟩ F₃ hg₃ _
      refine wpAny_assign_Name (st_local F₃ fun s₄ F₄ _ => ?_)
      refine wpAny_tests_nil ⟨rfl, fun _ => ?_, fun z => by cases z⟩
      refine Tuple_ ?_
      refine sp_cons ?_
      refine Subscript_ ?_
      refine nm_cell F₄ (Eq.trans upd_ne rfl) ?_
      refine nm_local F₄ upd_eq ?_
      refine x_item (s := s₄) (tk := s₄.toks) (by (exact Int.natCast_nonneg _)) (by (clear hA hU hn0 hn6 hrl hk0 hk2 hrl' hm0 hm1 hrsz hen hbl hsl hel hl6 hkl hclen hrs hlastlen; omega)) (by (exact mk_lt hblen hk2 (Nat.le_of_ble_eq_true rfl))) fun _ _ => ?_
      refine sp_cons ?_
      refine nm_local F₄ upd_eq ?_
      refine sp_nil ?_
      refine r_newTuple (l := [.str _, .int _]) F₄.sub (.cons (.str _ _) (.cons (.int _ _) .nil)) fun s₆ g₆ v₆ G₆ R₆ => ?_
      exact ⟨g₆, (F₄.step G₆).weaken (upd_weaken rfl), trivial, R₆⟩
    intro s₂₅ g₂₅ v₂₅ G₂₅ R₂₅ _
    rw [res_all] at R₂₅
    have eM : (List.range bts.length).map (fun (j : Nat) => deedD (Txt.item bts (j : Int), j)) = (midP bts).map deedD := by
      unfold midP; rw [List.map_map]; rfl
    rw [eM] at R₂₅
    have hmidlen : (midP bts).length = bts.length := by simp [midP]
    have F₂₅ := F₂₄.step G₂₅
    refine r_addLists F₂₅.sub (((R₂₂.mono hg₂₄).mono G₂₅.up)) R₂₅ (fun s₂₆ g₂₆ v₂₆ G₂₆ R₂₆ => ?_) (by rw [sizeLine_eq]; simp only [List.length_map]; (clear hA hU hn0 hn6 hrl hrl' hm0 hm1 hrsz hen hbl hsl hl6 hkl hclen hrs hlastlen; omega))
    have F₂₆ := F₂₅.step G₂₆
    refine nm_local F₂₆ rfl ?_
    refine r_addLists F₂₆.sub R₂₆ ((R₂₄.mono G₂₅.up).mono G₂₆.up) (fun s₂₇ g₂₇ v₂₇ G₂₇ R₂₇ => ?_) (by rw [sizeLine_eq]; simp only [List.length_map, List.length_append]; (clear hA hU hn0 hn6 hrl hrl' hm0 hm1 hrsz hen hbl hsl hl6 hkl hclen hrs; omega))
    have F₂₇ := F₂₆.step G₂₇
    have hg₂₇ : Sub g₂₄ g₂₇ := (G₂₅.up.trans G₂₆.up).trans G₂₇.up
    have B₂₇ := B₂₄.keeps hg₂₇
    have R27 : Rep g₂₇ (.list ((deedsP bts kept early).map deedD)) v₂₇ := by
      unfold deedsP; rw [List.map_append, List.map_append]; exact R₂₇
    have hdlen : (deedsP bts kept early).length ≤ 102 := by unfold deedsP; simp only [List.length_append]; (clear hA hU hn0 hn6 hrl hrl' hm0 hm1 hrsz hen hbl hsl hl6 hkl hclen hrs; omega)
    have hdidx : ∀ p ∈ deedsP bts kept early, p.2 < bts.length := by
      intro p hp
      rcases List.mem_append.mp hp with hp | hp
      · rcases List.mem_append.mp hp with hp | hp
        · exact (heok p hp).2
        · obtain ⟨i, hi, rfl⟩ := List.mem_map.mp hp
          exact List.mem_range.mp hi
      · obtain ⟨j, hj, rfl⟩ := List.mem_map.mp hp
        have := List.mem_range.mp hj
        show kept.length - 1 - j < bts.length
        (clear hA hU hn0 hn6 hrl hk0 hk2 hrl' hm0 hm1 hrsz hen hbl hsl hel hl6 hclen hrs hlastlen hmidlen hdlen; omega)
    have hprefix : ∀ p ∈ early ++ midP bts, p.2 < kept.length := fun p hp => by
      have := hdidx p (List.mem_append_left _ hp); (exact Nat.lt_of_lt_of_eq this hkl.symm)
    have hread := fun u => read_law hkb (by (clear hA hU hn0 hn6 hrl hrl' hm0 hm1 hrsz hen hbl hsl hel hl6 hclen hrs hlastlen hmidlen hdlen; omega)) hprefix u
    have hmodlen : ∀ m ∈ (pMods ns sg).map dotted, m.length ≤ 1000 := by
      intro m hm
      obtain ⟨m', hm', rfl⟩ := List.mem_map.mp hm
      have h1 := mod_small hm'
      have h2 := dotted_len h1.2
      have h3 : m'.length * 4 ≤ (sg.length + 1) * 4 := Nat.mul_le_mul_right _ h1.1
      (clear hA hU hn0 hn6 hrl hrl' hm0 hm1 hrsz hen hbl hblen hel hl6 hkl hclen hrs hlastlen hmidlen hdlen h3; omega)
    have hplen : ∀ d ∈ places sg, d.length ≤ 1000 := by
      intro d hd
      have z1 : (Str.ofString ".").length = 1 := by decide
      simp only [places, List.mem_cons, List.not_mem_nil, or_false] at hd
      rcases hd with rfl | rfl | rfl
      · rw [Str.length_append]; (clear hA hU hn0 hn6 hrl hrl' hm0 hm1 hrsz hen hbl hblen hel hl6 hkl hclen hrs hlastlen hmidlen hdlen; omega)
      · (exact mk_le hsl hk2 (Nat.le_of_ble_eq_true rfl))
      · rw [Str.length_append]; (clear hA hU hn0 hn6 hrl hrl' hm0 hm1 hrsz hen hbl hblen hel hl6 hkl hclen hrs hlastlen hmidlen hdlen; omega)
    refine sl_local F₂₇ fun s₂₈ F₂₈ _ => ?_
    -- told
    refine wpAny_execs_cons ?_
    refine wpAny_Assign_Name ?_
    refine call_name (nm_glob F₂₈ B₂₇ (gRun _) ?_)
    refine cw_fn (w := w) fRun ?_
    refine sp_cons ?_
    refine call_name (nm_glob F₂₈ B₂₇ (gMade _) ?_)
    refine cw_fn (w := w) fMade ?_
    refine sp_cons ?_
    refine nm_local F₂₈ rfl ?_
    refine sp_cons ?_
    refine nm_local F₂₈ rfl ?_
    refine sp_nil ⟨B₂₇.keeps F₂₈.sub, ?_⟩
    refine c_made hh (by (exact lt_dep hA (Nat.le_of_ble_eq_true rfl))) F₂₈.sub B₂₇ ((hr₂₂.mono hg₂₄).mono hg₂₇) (by (exact Nat.le_trans hn6 (Nat.le_of_ble_eq_true rfl))) (by (exact mk_pos hsl hk0 (Nat.le_of_ble_eq_true rfl))) (by (exact mk_le hsl hk2 (Nat.le_of_ble_eq_true rfl))) fun s₂₉ g₂₉ x₂₉ S₂₉ L₂₉ I₂₉ G₂₉ Rd₂₉ gI₂₉ nI₂₉ hI₂₉ => ?_
    have F₂₉ := F₂₈.step G₂₉
    have B₂₉ := B₂₇.keeps G₂₉.up
    have eI₂₉ : e.h.get? I₂₉ = none := ext_none fun o q => by have := F₂₈.go.keep I₂₉ o (by simp) q; rw [nI₂₉] at this; cases this
    have fI₂₉ : ¬ FrameAt (callEnvC fLaw.fd L 166) I₂₉ := fun z => by obtain ⟨o, q⟩ := F₂₈.vars.at z; rw [nI₂₉] at q; cases q
    refine sp_cons ?_
    refine nm_local F₂₉ rfl ?_
    refine sp_cons ?_
    refine nm_cell F₂₉ rfl ?_
    refine sp_cons ?_
    refine nm_local F₂₉ rfl ?_
    refine sp_nil ⟨B₂₉.keeps F₂₉.sub, ?_⟩
    refine c_run hh (by (exact lt_dep hA (Nat.le_of_ble_eq_true rfl))) F₂₉.sub B₂₉ Rd₂₉ gI₂₉ hI₂₉ ign0_ok (R27.mono G₂₉.up) (by (exact Nat.le_of_eq (mk_six hblen hsl))) (by (exact mk_le hsl hk2 (Nat.le_of_ble_eq_true rfl))) hdidx (by (clear hA hU hn0 hn6 hrl hk0 hk2 hrl' hm0 hm1 hrsz hen hbl hblen hsl hel hl6 hkl hclen hrs hlastlen hmidlen fI₂₉; omega)) (by rw [List.length_map]; exact Nat.le_trans (List.length_filterMap_le _ _) (by (exact Nat.le_trans hn6 (Nat.le_of_ble_eq_true rfl)))) hmodlen hplen fun s₃₀ g₃₀ t₃₀ G₃₀ => ?_
    rw [htold]
    have F₃₀ := F₂₉.stepD G₃₀ fun y hy => by rw [List.mem_singleton] at hy; subst hy; exact ⟨.inr eI₂₉, fI₂₉⟩
    have B₃₀ := B₂₉.keeps G₃₀.up
    have R30 := (R27.mono G₂₉.up).mono G₃₀.up
    have L30 := (((R₂₄.mono hg₂₇).mono G₂₉.up).mono G₃₀.up)
    refine sl_local F₃₀ fun s₃₁ F₃₁ _ => ?_
    -- the first test
    refine wpAny_execs_cons ?_
    refine wpAny_If ?_
    refine isTrue_or ?_
    refine wpAny_isTrue_Compare1 ?_
    refine nm_local F₃₁ rfl ?_
    refine nm_local F₃₁ rfl ?_
    refine PyProof.Rows.ne_str ?_
    refine wpAny_truthy_bool ?_
    simp only [bne_self_eq_false, Bool.false_eq_true, if_false]
    refine isTrue_or ?_
    refine wpAny_isTrue_Compare1 ?_
    refine nm_local F₃₁ rfl ?_
    refine meth_str PySem.F.slot_str_join PySem.F.type_str_join ?_
    refine x_str (s := s₃₁) (tk := s₃₁.toks) fun t₃₂ tk₃₂ => ?_
    refine ⟨_, _, rfl, ?_⟩
    refine cw_blt ?_
    refine sp_cons ?_
    refine compEval (s := { s₃₁ with toks := tk₃₂ }) (D := []) (n := (deedsP bts kept early).length) (P := fun i v => ∃ d, ((deedsP bts kept early).map deedD)[i]? = some d ∧ Rep g₃₀ d v) (ρc := fun y => List.lookup y [(Str.ofString "kept", .str (cat kept) t₂₂)]) (fun _ => true) (fun (j : Nat) => .str (kept.getD ((deedsP bts kept early).getD j (Str.ofString "", 0)).2 (Str.ofString ""))) (fun _ _ _ => True) F₃₁ rfl (by simp) (by simp) (by simp) ?hcl5 ?hρ5 (by decide) rfl (by decide) (by (exact Nat.le_trans hdlen (Nat.le_of_ble_eq_true rfl))) (fun _ _ _ _ _ _ => trivial) (fun _ _ _ _ _ _ => trivial) ?src5 ?turn5 ?fin5
    case hcl5 =>
      intro y c e
      have := mem_of_lookup e
      simp only [List.mem_cons, List.not_mem_nil, or_false, Prod.mk.injEq] at this
      obtain ⟨rfl, rfl⟩ := this; rfl
    case hρ5 =>
      intro C
      refine hrho fun p hp => ?_
      simp only [List.mem_cons, List.not_mem_nil, or_false] at hp
      subst hp
      exact ⟨(show (some NameKind.cell) ≠ some NameKind.local by decide), rfl⟩
    case src5 =>
      intro Q' hQ
      refine nm_local F₃₁ rfl ?_
      refine src_list (target := .Tuple [.Name (Str.ofString "bit") ⟨188, 56, 188, 59⟩, .Name (Str.ofString "i") ⟨188, 61, 188, 62⟩] 0 ⟨188, 56, 188, 62⟩) hh F₃₁.sub R30 fun It s₅ G₅ S₅ => ?_
      rw [List.length_map] at S₅
      exact hQ It s₅ g₃₀ G₅ S₅ trivial
    case turn5 =>
      rintro C₁ i v s₃ g₃ e₃ hi ⟨d, hdd, hrd⟩ F₃ hg₃ _
      obtain ⟨p, hp, rfl⟩ := deeds_get hdd
      have hp2 := hdidx p (List.mem_of_getElem? hp)
      have hgp : (deedsP bts kept early).getD i (Str.ofString "", 0) = p := by rw [List.getD, hp]; rfl
      obtain ⟨T, vs, rfl, hT, hvs⟩ := hrd.tup_inv
      cases hvs with
      | cons r1 hvs =>
      cases hvs with
      | cons r2 hvs =>
      cases hvs
      obtain ⟨t1, rfl⟩ := r1.str_inv
      obtain ⟨t2, rfl⟩ := r2.int_inv
      refine wpAny_assign_Tuple hh (isTup_mono (hg₃.trans F₃.sub) hT) rfl rfl fun h' hx => ?_
      have F₄ : FmS [] _ _ _ ({ s₃ with heap := h' } : Shared) g₃ := F₃.step (go_keeps F₃.sub fun b o q => hx b o (Nat.ne_of_lt (lts q)) q)
      refine assignInOrder_cons ?_
      refine wpAny_assign_Name (st_local F₄ fun s₅ F₅ _ => ?_)
      refine assignInOrder_cons ?_
      refine wpAny_assign_Name (st_local F₅ fun s₆ F₆ _ => ?_)
      refine assignInOrder_nil ?_
      refine wpAny_tests_nil ⟨rfl, fun _ => ?_, fun z => by cases z⟩
      refine Subscript_ ?_
      refine nm_cell F₆ (Eq.trans upd_ne (Eq.trans upd_ne rfl)) ?_
      refine nm_local F₆ upd_eq ?_
      refine x_item (s := s₆) (tk := s₆.toks) (by (exact Int.natCast_nonneg _)) (by (clear hA hU hn0 hn6 hrl hk0 hk2 hrl' hm0 hm1 hrsz hen hbl hsl hel hl6 hkl hrs hlastlen hmidlen hdlen fI₂₉ hi; omega)) (by (clear hA hU hn0 hn6 hrl hrl' hm0 hm1 hrsz hen hbl hsl hel hl6 hkl hrs hlastlen hmidlen hdlen fI₂₉ hi hp2; omega)) fun _ _ => ?_
      rw [cat_item hkb (by (exact Nat.lt_of_lt_of_eq hp2 hkl.symm)), hgp]
      exact ⟨g₃, F₆.weaken fun y v e => upd_weaken rfl _ _ (upd_weaken rfl _ _ e), trivial, .str _ _⟩
    intro s₃₃ g₃₃ v₃₃ G₃₃ R₃₃ _
    rw [res_all] at R₃₃
    have F₃₃ := F₃₁.step G₃₃
    have R33 : Rep g₃₃ (texts ((deedsP bts kept early).map fun p => kept.getD p.2 (Str.ofString ""))) v₃₃ := by
      rw [range_getD (deedsP bts kept early) (Str.ofString "", 0) (fun p => Dt.str (kept.getD p.2 (Str.ofString "")))] at R₃₃
      show Rep g₃₃ (.list (List.map Dt.str _)) v₃₃
      rw [List.map_map]; exact R₃₃
    have hall : ∀ x ∈ (deedsP bts kept early).map (fun p => kept.getD p.2 (Str.ofString "")), BitS x := by
      intro x hx
      obtain ⟨p, hp, rfl⟩ := List.mem_map.mp hx
      have hlt : p.2 < kept.length := by have := hdidx p hp; (exact Nat.lt_of_lt_of_eq this hkl.symm)
      rw [List.getD, List.getElem?_eq_getElem hlt]; exact hkb _ (List.getElem_mem hlt)
    refine sp_nil ?_
    refine x_join (s := s₃₃) (tk := s₃₃.toks) F₃₃.sub R33 ?_ fun t₃₄ tk₃₄ => ?_
    · have := sum_len_le (k := 1) _ (fun x hx => by rcases hall x hx with e | e <;> rw [e] <;> decide : ∀ x ∈ (deedsP bts kept early).map (fun p => kept.getD p.2 (Str.ofString "")), x.length ≤ 1)
      rw [show (Str.ofString "").length = 0 by decide]
      rw [List.length_map] at this ⊢
      (clear hA hU hn0 hn6 hrl hk0 hk2 hrl' hm0 hm1 hrsz hen hbl hblen hsl hel hl6 hkl hclen hrs hlastlen hmidlen fI₂₉; omega)
    refine PyProof.Rows.ne_str ?_
    refine wpAny_truthy_bool ?_
    simp only [bne_self_eq_false, Bool.false_eq_true, if_false]
    refine isTrue_or_nil ?_
    simp only [Bool.false_eq_true, if_false]
    refine wpAny_execs_nil ?_
    have B₃₃ := B₃₀.keeps G₃₃.up
    have L33 := L30.mono G₃₃.up
    -- the second test
    refine wpAny_execs_cons ?_
    refine wpAny_If ?_
    refine wpAny_isTrue_Compare1 ?_
    refine call_name (nm_glob F₃₃ B₃₃ (gRun _) ?_)
    refine cw_fn (w := w) fRun ?_
    refine sp_cons ?_
    refine call_name (nm_glob F₃₃ B₃₃ (gMade _) ?_)
    refine cw_fn (w := w) fMade ?_
    refine sp_cons ?_
    refine List_ ?_
    refine sp_nil ?_
    refine r_newList (s := { s₃₃ with toks := tk₃₄ }) (l := []) F₃₃.sub .nil fun s₃₅ g₃₅ v₃₅ G₃₅ R₃₅ => ?_
    have F₃₅ := F₃₃.step G₃₅
    have B₃₅ := B₃₃.keeps G₃₅.up
    refine sp_cons ?_
    refine nm_local F₃₅ rfl ?_
    refine sp_nil ⟨B₃₅.keeps F₃₅.sub, ?_⟩
    refine c_made (ns := []) hh (by (exact lt_dep hA (Nat.le_of_ble_eq_true rfl))) F₃₅.sub B₃₅ R₃₅ (by decide) (by (exact mk_pos hsl hk0 (Nat.le_of_ble_eq_true rfl))) (by (exact mk_le hsl hk2 (Nat.le_of_ble_eq_true rfl))) fun s₃₆ g₃₆ x₃₆ S₃₆ L₃₆ I₃₆ G₃₆ Rd₃₆ gI₃₆ nI₃₆ hI₃₆ => ?_
    have F₃₆ := F₃₅.step G₃₆
    have B₃₆ := B₃₅.keeps G₃₆.up
    have eI₃₆ : e.h.get? I₃₆ = none := ext_none fun o q => by have := F₃₅.go.keep I₃₆ o (by simp) q; rw [nI₃₆] at this; cases this
    have fI₃₆ : ¬ FrameAt (callEnvC fLaw.fd L 166) I₃₆ := fun z => by obtain ⟨o, q⟩ := F₃₅.vars.at z; rw [nI₃₆] at q; cases q
    have L36 := (L33.mono G₃₅.up).mono G₃₆.up
    have hlidx : ∀ p ∈ lastP kept, p.2 < bts.length := fun p hp => hdidx p (List.mem_append_right _ hp)
    refine sp_cons ?_
    refine nm_local F₃₆ rfl ?_
    refine sp_cons ?_
    refine nm_cell F₃₆ rfl ?_
    refine sp_cons ?_
    refine nm_local F₃₆ rfl ?_
    refine sp_nil ⟨B₃₆.keeps F₃₆.sub, ?_⟩
    refine c_run hh (by (exact lt_dep hA (Nat.le_of_ble_eq_true rfl))) F₃₆.sub B₃₆ Rd₃₆ gI₃₆ hI₃₆ ign0_ok L36 (by (exact Nat.le_of_eq (mk_six hblen hsl))) (by (exact mk_le hsl hk2 (Nat.le_of_ble_eq_true rfl))) hlidx (by (clear hA hU hn0 hn6 hrl hrl' hm0 hm1 hrsz hen hbl hsl hel hl6 hkl hclen hrs hmidlen hdlen fI₂₉ fI₃₆; omega)) (Nat.zero_le 1000) (fun m hm => by cases hm) hplen fun s₃₇ g₃₇ t₃₇ G₃₇ => ?_
    rw [last_law (bts := bts) hsg (by (clear hA hU hn0 hn6 hrl hk0 hk2 hrl' hm0 hm1 hrsz hen hbl hel hl6 hclen hrs hlastlen hmidlen hdlen fI₂₉ fI₃₆; omega))]
    have F₃₇ := F₃₆.stepD G₃₇ fun y hy => by rw [List.mem_singleton] at hy; subst hy; exact ⟨.inr eI₃₆, fI₃₆⟩
    have B₃₇ := B₃₆.keeps G₃₇.up
    have L37 := L36.mono G₃₇.up
    refine meth_str PySem.F.slot_str_join PySem.F.type_str_join ?_
    refine x_str (s := s₃₇) (tk := s₃₇.toks) fun t₃₈ tk₃₈ => ?_
    refine ⟨_, _, rfl, ?_⟩
    refine cw_blt ?_
    refine sp_cons ?_
    refine compEval (s := { s₃₇ with toks := tk₃₈ }) (D := []) (n := (lastP kept).length) (P := fun i v => ∃ d, ((lastP kept).map deedD)[i]? = some d ∧ Rep g₃₇ d v) (ρc := fun _ => none) (fun _ => true) (fun (j : Nat) => .str ((lastP kept).getD j (Str.ofString "", 0)).1) (fun _ _ _ => True) F₃₇ rfl (by simp) (by simp) (by simp) (by intro y c e; cases e) (by intro C y v e; cases e) (by decide) rfl (by decide) (by (clear hA hU hn0 hn6 hrl hrl' hm0 hm1 hrsz hen hbl hsl hel hl6 hkl hclen hrs hmidlen hdlen fI₂₉ fI₃₆; omega)) (fun _ _ _ _ _ _ => trivial) (fun _ _ _ _ _ _ => trivial) ?src6 ?turn6 ?fin6
    case src6 =>
      intro Q' hQ
      refine nm_local F₃₇ rfl ?_
      refine src_list (target := .Tuple [.Name (Str.ofString "bit") ⟨190, 81, 190, 84⟩, .Name (Str.ofString "i") ⟨190, 86, 190, 87⟩] 0 ⟨190, 81, 190, 87⟩) hh F₃₇.sub L37 fun It s₅ G₅ S₅ => ?_
      rw [List.length_map] at S₅
      exact hQ It s₅ g₃₇ G₅ S₅ trivial
    case turn6 =>
      rintro C₁ i v s₃ g₃ e₃ hi ⟨d, hdd, hrd⟩ F₃ hg₃ _
      obtain ⟨p, hp, rfl⟩ := deeds_get hdd
      have hgp : (lastP kept).getD i (Str.ofString "", 0) = p := by rw [List.getD, hp]; rfl
      obtain ⟨T, vs, rfl, hT, hvs⟩ := hrd.tup_inv
      cases hvs with
      | cons r1 hvs =>
      cases hvs with
      | cons r2 hvs =>
      cases hvs
      obtain ⟨t1, rfl⟩ := r1.str_inv
      obtain ⟨t2, rfl⟩ := r2.int_inv
      refine wpAny_assign_Tuple hh (isTup_mono (hg₃.trans F₃.sub) hT) rfl rfl fun h' hx => ?_
      have F₄ : FmS [] _ _ _ ({ s₃ with heap := h' } : Shared) g₃ := F₃.step (go_keeps F₃.sub fun b o q => hx b o (Nat.ne_of_lt (lts q)) q)
      refine assignInOrder_cons ?_
      refine wpAny_assign_Name (st_local F₄ fun s₅ F₅ _ => ?_)
      refine assignInOrder_cons ?_
      refine wpAny_assign_Name (st_local F₅ fun s₆ F₆ _ => ?_)
      refine assignInOrder_nil ?_
      refine wpAny_tests_nil ⟨rfl, fun _ => ?_, fun z => by cases z⟩
      refine nm_local F₆ (Eq.trans upd_ne upd_eq) ?_
      rw [hgp]
      exact ⟨g₃, F₆.weaken fun y v e => upd_weaken rfl _ _ (upd_weaken rfl _ _ e), trivial, .str _ _⟩
    intro s₃₉ g₃₉ v₃₉ G₃₉ R₃₉ _
    rw [res_all] at R₃₉
    have F₃₉ := F₃₇.step G₃₉
    have B₃₉ := B₃₇.keeps G₃₉.up
    have R39 : Rep g₃₉ (texts ((lastP kept).map (·.1))) v₃₉ := by
      rw [range_getD (lastP kept) (Str.ofString "", 0) (fun p => Dt.str p.1)] at R₃₉
      show Rep g₃₉ (.list (List.map Dt.str _)) v₃₉
      rw [List.map_map]; exact R₃₉
    refine sp_nil ?_
    refine x_join (s := s₃₉) (tk := s₃₉.toks) F₃₉.sub R39 ?_ fun t₄₀ tk₄₀ => ?_
    · have := sum_len_le (k := 1) ((lastP kept).map (·.1)) (fun x hx => by
        obtain ⟨p, hp, rfl⟩ := List.mem_map.mp hx
        obtain ⟨j, _, rfl⟩ := List.mem_map.mp hp
        rcases bitD_ok (kept.getD (kept.length - 1 - j) (Str.ofString "")) with e | e
        · show (bitD _).length ≤ 1; rw [e]; decide
        · show (bitD _).length ≤ 1; rw [e]; decide)
      rw [show (Str.ofString "").length = 0 by decide]
      rw [List.length_map] at this ⊢
      (clear hA hU hn0 hn6 hrl hrl' hm0 hm1 hrsz hen hbl hsl hel hl6 hkl hclen hrs hmidlen hdlen fI₂₉ fI₃₆; omega)
    refine PyProof.Rows.ne_str ?_
    refine wpAny_truthy_bool ?_
    simp only [bne_self_eq_false, Bool.false_eq_true, if_false]
    refine wpAny_execs_nil ?_
    exact law_end hh (by (exact hA)) (s := { s₃₉ with toks := tk₄₀ }) F₃₉ C B₃₉ rfl rfl hkb (by (clear hA hU hn0 hn6 hrl hk0 hk2 hrl' hm0 hm1 hrsz hen hbl hsl hel hl6 hclen hrs hlastlen hmidlen hdlen fI₂₉ fI₃₆; omega)) hk0 hk2 hread (by rw [cat_len hall, List.length_map]; (exact Nat.le_trans hdlen (Nat.le_of_ble_eq_true rfl))) h
  · rw [sizeLine_eq, res_all]
    simp only [List.length_map, List.length_range, List.length_flatten, List.map_replicate, List.sum_replicate_nat, List.length_singleton]
    (clear hA hU hrl hk0 hk2 hrl'; omega)
end
end Mine

/-! # NqLaw -/
namespace Mine
section
variable {prog : Program} {w : World} {A : Around} {E : Value → Shared → Prop} {s : Shared} {g : Heap} {R : Result → Shared → Prop}
theorem c_law {scr : List Int} {v : Value} (hh : A.handled = none) (hA : A.depth + 6 < recursionLimit) (hU : A.units + 200 < cLine) (hg : Sub g s.heap) (B : Bs w g) (hr : Rep g (.list (scr.map .int)) v) (hsc : scr.length ≤ 100)
    (h : ∀ s' g', GoS [] s g s' g' → R (.ok (.ret (.bool true))) s') : codeAny (model prog w) A (.call (.ref 166) ⟨[v], []⟩) R s := by
  refine codeFn fLaw (D := []) (binds := [("script", v)]) (by (exact lt_dep0 hA)) hg B rfl (BindsTo.of_eq rfl) rfl (fun L s₁ A' hh' hd' hu' F₀ C hk => ?_)
  rw [hh] at hh'
  have F : FmS [] (Ent.of s g) (callEnvC fLaw.fd L 166) (look [(Str.ofString "script", v)]) s₁ g := F₀
  clear F₀
  have hlen := nums_len scr
  -- numbers
  refine wpAny_execs_cons ?_
  refine wpAny_Assign_Name ?_
  refine Subscript_ ?_
  refine BoolOp_or ?_
  refine nm_local F rfl ?_
  refine wpAny_mono (Q := fun c s₂ => ∃ tk, s₂ = { s₁ with toks := tk } ∧ c = !scr.isEmpty) ?_ (fun c s₂ h₂ => ?_) (fun _ _ z => z)
  · obtain ⟨a, vs, rfl, ha, hvs⟩ := hr.list_inv
    have hl := hvs.length
    rw [List.length_map] at hl
    refine wpAny_truthy_list (isList_mono F.sub ha) (by simp; (clear hA hU hd' hu' hlen; omega)) ⟨_, rfl, ?_⟩
    rw [List.isEmpty_toArray]
    cases vs <;> cases scr <;> simp_all
  obtain ⟨tk₂, rfl, rfl⟩ := h₂
  have back : ∀ (l : List Int) (s₃ : Shared) (g₃ : Heap) (v₃ : Value), l.take 6 = numsOf scr → l.length ≤ 100 → FmS [] (Ent.of s g) (callEnvC fLaw.fd L 166) (look [(Str.ofString "script", v)]) s₃ g₃ → Sub g g₃ → Rep g₃ (.list (l.map .int)) v₃ →
      (∀ s₄ g₄ v₄, FmS [] (Ent.of s g) (callEnvC fLaw.fd L 166) (look [(Str.ofString "script", v)]) s₄ g₄ → Sub g g₄ → Rep g₄ (.list ((numsOf scr).map .int)) v₄ → wpAny (model prog w) A' (storeName (callEnvC fLaw.fd L 166) (Str.ofString "numbers") v₄) (fun _ s' => wpAny (model prog w) A' (execs (match fLaw.fd.body with | .stmts b => b.tail | _ => []) (callEnvC fLaw.fd L 166)) (fun fl s' => R (.ok (.ret (match fl with | .ret v => v | _ => .none))) s') (fun _ _ => False) s') (fun _ _ => False) s₄) →
      wpAny (model prog w) A' (eval (.Slice none (some (.Constant (.int 6) 0 ⟨178, 46, 178, 47⟩)) none ⟨178, 45, 178, 47⟩) (callEnvC fLaw.fd L 166)) (fun i s₄ => wpAny (model prog w) A' (subscriptTail (.BoolOp .Or [.Name (Str.ofString "script") ⟨178, 15, 178, 21⟩, .List [.Constant (.int 84) 0 ⟨178, 26, 178, 28⟩, .Constant (.int 203) 0 ⟨178, 30, 178, 33⟩, .Constant (.int 214) 0 ⟨178, 35, 178, 38⟩, .Constant (.int 29) 0 ⟨178, 40, 178, 42⟩] ⟨178, 25, 178, 43⟩] ⟨178, 15, 178, 43⟩) (.Slice none (some (.Constant (.int 6) 0 ⟨178, 46, 178, 47⟩)) none ⟨178, 45, 178, 47⟩) v₃ i) (fun v₄ s₄ => wpAny (model prog w) A' (storeName (callEnvC fLaw.fd L 166) (Str.ofString "numbers") v₄) (fun _ s' => wpAny (model prog w) A' (execs (match fLaw.fd.body with | .stmts b => b.tail | _ => []) (callEnvC fLaw.fd L 166)) (fun fl s' => R (.ok (.ret (match fl with | .ret v => v | _ => .none))) s') (fun _ _ => False) s') (fun _ _ => False) s₄) (fun _ _ => False) s₄) (fun _ _ => False) s₃ := by
    intro l s₃ g₃ v₃ hl6 hl F₃ hg₃ hr₃ hq
    refine wpAny_Slice ?_
    refine evalPart_none_step ?_
    refine evalPart_some_step ?_
    refine x_int (s := s₃) (tk := s₃.toks) fun t₄ tk₄ => ?_
    refine evalPart_none_step ?_
    refine r_lsliceTail (s := { s₃ with toks := tk₄ }) (k := 6) F₃.sub hr₃ (by rw [List.length_map]; (exact Nat.le_trans hl (Nat.le_of_ble_eq_true rfl))) fun s₅ g₅ v₅ G₅ R₅ => ?_
    rw [← List.map_take, hl6] at R₅
    exact hq s₅ g₅ v₅ (F₃.step G₅) (hg₃.trans G₅.up) R₅
  have main : ∀ s₄ g₄ v₄, FmS [] (Ent.of s g) (callEnvC fLaw.fd L 166) (look [(Str.ofString "script", v)]) s₄ g₄ → Sub g g₄ → Rep g₄ (.list ((numsOf scr).map .int)) v₄ → wpAny (model prog w) A' (storeName (callEnvC fLaw.fd L 166) (Str.ofString "numbers") v₄) (fun _ s' => wpAny (model prog w) A' (execs (match fLaw.fd.body with | .stmts b => b.tail | _ => []) (callEnvC fLaw.fd L 166)) (fun fl s' => R (.ok (.ret (match fl with | .ret v => v | _ => .none))) s') (fun _ _ => False) s') (fun _ _ => False) s₄ := by
    intro s₄ g₄ v₄ F₄ hg₄ R₄
    refine sl_local F₄ fun s₅ F₅ _ => ?_
    exact law_rest hh' (by (exact lt_dep1 hA hd' (Nat.le_of_ble_eq_true rfl))) (by (exact lt_dep1 hU hu' (Nat.le_of_ble_eq_true rfl))) F₅ C (B.keeps hg₄) R₄ hlen.1 hlen.2 fun s' g' G => h s' g' G
  by_cases hs0 : scr = []
  · subst hs0
    simp only [List.isEmpty_nil, Bool.not_true, Bool.false_eq_true, if_false]
    refine BoolOp_one ?_
    refine List_ ?_
    refine sp_cons (x_int fun _ _ => ?_)
    refine sp_cons (x_int fun _ _ => ?_)
    refine sp_cons (x_int fun _ _ => ?_)
    refine sp_cons (x_int fun _ _ => ?_)
    refine sp_nil ?_
    refine r_newList (l := [.int _, .int _, .int _, .int _]) F.sub (.cons (.int _ _) (.cons (.int _ _) (.cons (.int _ _) (.cons (.int _ _) .nil)))) fun s₃ g₃ v₃ G₃ R₃ => ?_
    exact back [84, 203, 214, 29] s₃ g₃ v₃ rfl (by decide) (F.step G₃) G₃.up R₃ main
  · have e0 : scr.isEmpty = false := by cases scr with | nil => exact absurd rfl hs0 | cons => rfl
    rw [e0]
    simp only [Bool.not_false, if_true]
    exact back scr { s₁ with toks := tk₂ } g v (by unfold numsOf; rw [if_neg hs0]) hsc F (Sub.refl _) hr main
end
end Mine

/-! # NqFin -/
namespace Mine
theorem ints_reps {g : Heap} {vs : List Value} {ns : List Int} (h : IntsAre vs ns) : Reps g (ns.map .int) vs := by
  induction h with
  | nil => exact .nil
  | cons n t _ ih => exact .cons (.int n t) ih
theorem fin_law {w : World} {s₀ s₁ : Shared} {mg mb : Str → Option Value} {p : Program} {loose : List Str} {mean : ExcName → Option Value} {fa a : Addr} {vs : List Value} {ns : List Int} (KX : (KK w.params).In s₁.heap) (T : Top p loose mean mg mb s₁.heap) (hg : s₁.gens = #[]) (hmg : mg (Str.ofString "law") = some (.ref fa))
    (hL : s₁.heap.IsList a vs.toArray) (hI : IntsAre vs ns) (hlen : ¬ ((63 : Nat) : Int) < (ns.length : Int)) :
    codeAny (model PySem.Challenge.rw_nq0020_01.row.prog w) callerA (Code.call (.ref fa) { pos := [.ref a] }) (GoodWG PySem.Challenge.rw_nq0020_01.row.claim (classAt s₀.heap) (ExcName.means s₀.heap) [ofPy (.list (ns.map .int))] s₁) s₁ := by
  have e := hmg.symm.trans (mg_of KX T.g (gLaw w.params))
  cases e
  have B : Bs w s₁.heap := ⟨KX, ⟨mg, T.g⟩, ⟨mb, T.b, T.builtins⟩, T.nolimit⟩
  have hr : Rep s₁.heap (.list (ns.map .int)) (.ref a) := .list hL (ints_reps hI)
  refine codeAny_mono (c_law (A := callerA) rfl (by decide) (by decide) (Sub.refl _) B hr (by omega) (R := GoodW PySem.Challenge.rw_nq0020_01.row.claim (classAt s₀.heap) (ExcName.means s₀.heap) [ofPy (.list (ns.map .int))] s₁) ?_) (fun _ _ g => GoodW.toG g)
  intro s' g' G
  refine ⟨.inl ⟨.bool true, .bool true, [], rfl, fun _ => rfl, .bool true, by kernel_rfl, fun _ => ⟨List.nodup_nil, fun _ h => by cases h⟩⟩, fun b o q => G.keep b o (by simp) q, G.os, G.gs.trans hg⟩
end Mine
theorem PySem.Challenge.cw_nq0020_01_holds : PySem.Challenge.rw_nq0020_01.Holds := by
  exact Mine.Top.hd (fun d kwd hname => by
  w_strict (
  intro w s₀ s₁ mg mb G Y fa o pm cd doc dV kV ho hd hcd hD hmg hg args vals as hpre hlay hrd hwl hlo
  have KX := kIn_of Y
  refine Ground.open G ?_
  intro T B D TE TW
  wrow_args hpre hlay hrd hwl hlo
  refine enter_call ?_
  rename Heap.IsList _ _ _ => hL
  rename IntsAre _ _ => hI
  rename ¬ _ => hlen
  exact Mine.fin_law KX T hg (hname ▸ hmg) hL hI hlen))
