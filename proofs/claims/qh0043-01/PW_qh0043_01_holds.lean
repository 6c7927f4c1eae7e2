import PyProof.Rows.All
import Wide.All
import OpenK.AllK
import Wide.FinOn
import Lean
import PySem.Challenge.RW_qh0043_01
set_option Elab.async false
open PySem PySem.W PyProof.Rows
namespace Mine
set_option maxRecDepth 100000
set_option maxHeartbeats 8000000
section -- QHead
open PySem.Calls
/-- a statement of the text's top, by its place -/
noncomputable def nthS : List Stmt → Nat → Stmt
  | [], _ => .Pass default
  | s :: _, 0 => s
  | _ :: r, n + 1 => nthS r n
/-- the function object that a def's statement makes -/
noncomputable def defO (st : Stmt) (dV kV pm cd : Value) : Obj := match st with
  | .FunctionDef n a b _ _ _ sc _ _ _ => { cls := .type "function", data := .func { name := n, qualname := n, params := a, body := .stmts b, scope := sc, globals := 3, closure := [], defaults := dV, kwdefaults := kV, pyModule := pm, code := cd } }
  | _ => { cls := .none, data := .plain }
noncomputable def fnO (i : Nat) (dV kV pm cd : Value) : Obj := defO (nthS PySem.Challenge.pw_qh0043_01.main.body i) dV kV pm cd
/-- what the start-up lays at a place of the module's own names -/
noncomputable def laidVal (p : Params) (i : Nat) : Value := match (boot_heap p).get? 3 with
  | some ⟨_, _, .dict es _, _⟩ => (match es.toList.drop i with | e :: _ => e.val | [] => .none)
  | _ => .none
/-- what the text's top leaves, so far as the call comes to it -/
noncomputable def hd.heap_39 (p : Params) : Frag :=
  (nat_lit 2, { cls := Value.none, data := Data.dict #[] }) ::
  (nat_lit 3, { cls := Value.type "dict", data := Data.dict #[{ hash := PyData.keyHash p (Str.ofString "__name__"), key := Value.str (Str.ofString "__name__") 165, val := Value.str (Str.ofString "law_qh0043_01") 350 }, { hash := PyData.keyHash p (Str.ofString "__doc__"), key := Value.str (Str.ofString "__doc__") 166, val := Value.none }, { hash := PyData.keyHash p (Str.ofString "__package__"), key := Value.str (Str.ofString "__package__") 167, val := Value.none }, { hash := PyData.keyHash p (Str.ofString "__loader__"), key := Value.str (Str.ofString "__loader__") 168, val := laidVal p 3 }, { hash := PyData.keyHash p (Str.ofString "__spec__"), key := Value.str (Str.ofString "__spec__") 169, val := Value.none }, { hash := PyData.keyHash p (Str.ofString "__annotations__"), key := Value.str (Str.ofString "__annotations__") 170, val := Value.ref 6 }, { hash := PyData.keyHash p (Str.ofString "__builtins__"), key := Value.str (Str.ofString "__builtins__") 171, val := Value.ref 4 }, { hash := PyData.keyHash p (Str.ofString "__file__"), key := Value.str (Str.ofString "__file__") 173, val := Value.str (Str.ofString "/claim/cut.py") 172 }, { hash := PyData.keyHash p (Str.ofString "__cached__"), key := Value.str (Str.ofString "__cached__") 174, val := Value.none }, { hash := PyData.keyHash p (Str.ofString "_wall"), key := Value.str (Str.ofString "_wall") 193, val := Value.ref 21 }, { hash := PyData.keyHash p (Str.ofString "_deduplicate_unhashable"), key := Value.str (Str.ofString "_deduplicate_unhashable") 204, val := Value.ref 28 }, { hash := PyData.keyHash p (Str.ofString "_compare_args_orderless"), key := Value.str (Str.ofString "_compare_args_orderless") 216, val := Value.ref 35 }, { hash := PyData.keyHash p (Str.ofString "bytes_types"), key := Value.str (Str.ofString "bytes_types") 219, val := Value.ref 36 }, { hash := PyData.keyHash p (Str.ofString "_bytes_from_decode_data"), key := Value.str (Str.ofString "_bytes_from_decode_data") 226, val := Value.ref 43 }, { hash := PyData.keyHash p (Str.ofString "Error"), key := Value.str (Str.ofString "Error") 246, val := Value.ref 53 }, { hash := PyData.keyHash p (Str.ofString "_ascii_buffer"), key := Value.str (Str.ofString "_ascii_buffer") 254, val := Value.ref 63 }, { hash := PyData.keyHash p (Str.ofString "_buffer"), key := Value.str (Str.ofString "_buffer") 262, val := Value.ref 70 }, { hash := PyData.keyHash p (Str.ofString "_truth"), key := Value.str (Str.ofString "_truth") 270, val := Value.ref 77 }, { hash := PyData.keyHash p (Str.ofString "_B64"), key := Value.str (Str.ofString "_B64") 272, val := Value.bytes #[65, 66, 67, 68, 69, 70, 71, 72, 73, 74, 75, 76, 77, 78, 79, 80, 81, 82, 83, 84, 85, 86, 87, 88, 89, 90, 97, 98, 99, 100, 101, 102, 103, 104, 105, 106, 107, 108, 109, 110, 111, 112, 113, 114, 115, 116, 117, 118, 119, 120, 121, 122, 48, 49, 50, 51, 52, 53, 54, 55, 56, 57, 43, 47] 271 }, { hash := PyData.keyHash p (Str.ofString "_b64_value"), key := Value.str (Str.ofString "_b64_value") 279, val := Value.ref 84 }, { hash := PyData.keyHash p (Str.ofString "a2b_base64"), key := Value.str (Str.ofString "a2b_base64") 295, val := Value.ref 92 }, { hash := PyData.keyHash p (Str.ofString "b2a_base64"), key := Value.str (Str.ofString "b2a_base64") 309, val := Value.ref 100 }, { hash := PyData.keyHash p (Str.ofString "b64encode"), key := Value.str (Str.ofString "b64encode") 320, val := Value.ref 108 }, { hash := PyData.keyHash p (Str.ofString "b64decode"), key := Value.str (Str.ofString "b64decode") 329, val := Value.ref 116 }, { hash := PyData.keyHash p (Str.ofString "unorderable_list_difference"), key := Value.str (Str.ofString "unorderable_list_difference") 341, val := Value.ref 123 }, { hash := PyData.keyHash p (Str.ofString "three_way_cmp"), key := Value.str (Str.ofString "three_way_cmp") 349, val := Value.ref 130 }, { hash := PyData.keyHash p (Str.ofString "_law_row"), key := Value.str (Str.ofString "_law_row") 357, val := Value.ref 135 }, { hash := PyData.keyHash p (Str.ofString "_law_letter"), key := Value.str (Str.ofString "_law_letter") 363, val := Value.ref 140 }, { hash := PyData.keyHash p (Str.ofString "_law_opened"), key := Value.str (Str.ofString "_law_opened") 369, val := Value.ref 145 }, { hash := PyData.keyHash p (Str.ofString "_law_courted"), key := Value.str (Str.ofString "_law_courted") 375, val := Value.ref 150 }, { hash := PyData.keyHash p (Str.ofString "_law_holds"), key := Value.str (Str.ofString "_law_holds") 386, val := Value.ref 157 }, { hash := PyData.keyHash p (Str.ofString "_law_sound"), key := Value.str (Str.ofString "_law_sound") 392, val := Value.ref 162 }, { hash := PyData.keyHash p (Str.ofString "_law_turned"), key := Value.str (Str.ofString "_law_turned") 398, val := Value.ref 167 }, { hash := PyData.keyHash p (Str.ofString "_law_dearest"), key := Value.str (Str.ofString "_law_dearest") 404, val := Value.ref 172 }, { hash := PyData.keyHash p (Str.ofString "_law_least"), key := Value.str (Str.ofString "_law_least") 410, val := Value.ref 177 }, { hash := PyData.keyHash p (Str.ofString "law"), key := Value.str (Str.ofString "law") 416, val := Value.ref 182 }] 36 }) ::
  (nat_lit 15, { cls := Value.type "tuple", data := Data.seq #[] }) ::
  (nat_lit 17, { cls := Value.type "tuple", data := Data.seq #[Value.str (Str.ofString "k") 190] }) ::
  (nat_lit 18, { cls := Value.type "tuple", data := Data.seq #[] }) ::
  (nat_lit 20, { cls := Value.type "code", data := Data.fields #[Value.str (Str.ofString "_wall") 187, Value.str (Str.ofString "_wall") 188, Value.str (Str.ofString "/claim/cut.py") 189, Value.int 1 0, Value.int 1 0, Value.int 0 0, Value.int 0 0, Value.int 3 0, Value.ref 15, Value.bool true, Value.int 181 0, Value.ref 16, Value.none, Value.ref 17, Value.ref 18, Value.ref 19, Value.int 191 0, Value.int 1 0, Value.str (Str.ofString "/claim/cut.py") 192] }) ::
  (nat_lit 21, fnO 0 Value.none Value.none (Value.str (Str.ofString "__main__") 164) (Value.ref 20)) ::
  (nat_lit 22, { cls := Value.type "tuple", data := Data.seq #[] }) ::
  (nat_lit 24, { cls := Value.type "tuple", data := Data.seq #[Value.str (Str.ofString "unhashable_params") 199, Value.str (Str.ofString "new_unhashable") 200, Value.str (Str.ofString "t") 201] }) ::
  (nat_lit 25, { cls := Value.type "tuple", data := Data.seq #[] }) ::
  (nat_lit 27, { cls := Value.type "code", data := Data.fields #[Value.str (Str.ofString "_deduplicate_unhashable") 196, Value.str (Str.ofString "_deduplicate_unhashable") 197, Value.str (Str.ofString "/claim/cut.py") 198, Value.int 5 0, Value.int 1 0, Value.int 0 0, Value.int 0 0, Value.int 3 0, Value.ref 22, Value.bool true, Value.int 181 0, Value.ref 23, Value.none, Value.ref 24, Value.ref 25, Value.ref 26, Value.int 202 0, Value.int 5 0, Value.str (Str.ofString "/claim/cut.py") 203] }) ::
  (nat_lit 28, fnO 2 Value.none Value.none (Value.str (Str.ofString "cpy313.typing") 194) (Value.ref 27)) ::
  (nat_lit 29, { cls := Value.type "tuple", data := Data.seq #[] }) ::
  (nat_lit 31, { cls := Value.type "tuple", data := Data.seq #[Value.str (Str.ofString "first_args") 208, Value.str (Str.ofString "second_args") 209, Value.str (Str.ofString "first_unhashable") 210, Value.str (Str.ofString "second_unhashable") 211, Value.str (Str.ofString "t") 212, Value.str (Str.ofString "elem") 213] }) ::
  (nat_lit 32, { cls := Value.type "tuple", data := Data.seq #[] }) ::
  (nat_lit 34, { cls := Value.type "code", data := Data.fields #[Value.str (Str.ofString "_compare_args_orderless") 205, Value.str (Str.ofString "_compare_args_orderless") 206, Value.str (Str.ofString "/claim/cut.py") 207, Value.int 11 0, Value.int 2 0, Value.int 0 0, Value.int 0 0, Value.int 3 0, Value.ref 29, Value.bool true, Value.int 181 0, Value.ref 30, Value.none, Value.ref 31, Value.ref 32, Value.ref 33, Value.int 214 0, Value.int 11 0, Value.str (Str.ofString "/claim/cut.py") 215] }) ::
  (nat_lit 35, fnO 3 Value.none Value.none (Value.str (Str.ofString "cpy313.typing") 194) (Value.ref 34)) ::
  (nat_lit 36, { cls := Value.type "tuple", data := Data.seq #[Value.type "bytes", Value.type "bytearray"] }) ::
  (nat_lit 37, { cls := Value.type "tuple", data := Data.seq #[] }) ::
  (nat_lit 39, { cls := Value.type "tuple", data := Data.seq #[Value.str (Str.ofString "s") 223] }) ::
  (nat_lit 40, { cls := Value.type "tuple", data := Data.seq #[] }) ::
  (nat_lit 42, { cls := Value.type "code", data := Data.fields #[Value.str (Str.ofString "_bytes_from_decode_data") 220, Value.str (Str.ofString "_bytes_from_decode_data") 221, Value.str (Str.ofString "/claim/cut.py") 222, Value.int 23 0, Value.int 1 0, Value.int 0 0, Value.int 0 0, Value.int 3 0, Value.ref 37, Value.bool true, Value.int 181 0, Value.ref 38, Value.none, Value.ref 39, Value.ref 40, Value.ref 41, Value.int 224 0, Value.int 23 0, Value.str (Str.ofString "/claim/cut.py") 225] }) ::
  (nat_lit 43, fnO 6 Value.none Value.none (Value.str (Str.ofString "cpy313.base64") 217) (Value.ref 42)) ::
  (nat_lit 44, { cls := Value.type "tuple", data := Data.seq #[Value.type "ValueError"] }) ::
  (nat_lit 51, { cls := Value.type "tuple", data := Data.seq #[] }) ::
  (nat_lit 52, { cls := Value.type "dict", data := Data.dict #[{ hash := PyData.keyHash p (Str.ofString "__module__"), key := Value.str (Str.ofString "__module__") 236, val := Value.str (Str.ofString "binascii") 227 }, { hash := PyData.keyHash p (Str.ofString "__firstlineno__"), key := Value.str (Str.ofString "__firstlineno__") 240, val := Value.int 36 239 }, { hash := PyData.keyHash p (Str.ofString "__static_attributes__"), key := Value.str (Str.ofString "__static_attributes__") 241, val := Value.ref 51 }, { hash := PyData.keyHash p (Str.ofString "__weakref__"), key := Value.str (Str.ofString "__weakref__") 243, val := Value.ref 54 }, { hash := PyData.keyHash p (Str.ofString "__doc__"), key := Value.str (Str.ofString "__doc__") 244, val := Value.none }] 3 }) ::
  (nat_lit 53, { cls := Value.type "type", data := Data.cls { name := Str.ofString "Error", bases := [Value.type "ValueError"], mro := [Value.ref 53, Value.type "ValueError", Value.type "Exception", Value.type "BaseException", Value.type "object"], ns := 52, qualname := Str.ofString "Error" }, slots := #[some (Value.ref 44), none, some (Value.str (Str.ofString "Error") 229), some (Value.str (Str.ofString "Error") 237), some (Value.builtin "ValueError.__new__"), some (Value.bool true)] }) ::
  (nat_lit 54, { cls := Value.type "getset_descriptor", data := Data.fields #[Value.str (Str.ofString "__weakref__") 242, Value.ref 53, Value.builtin "ExceptionGroup.__weakref__", Value.none] }) ::
  (nat_lit 57, { cls := Value.type "tuple", data := Data.seq #[] }) ::
  (nat_lit 59, { cls := Value.type "tuple", data := Data.seq #[Value.str (Str.ofString "data") 250, Value.str (Str.ofString "t") 251] }) ::
  (nat_lit 60, { cls := Value.type "tuple", data := Data.seq #[] }) ::
  (nat_lit 62, { cls := Value.type "code", data := Data.fields #[Value.str (Str.ofString "_ascii_buffer") 247, Value.str (Str.ofString "_ascii_buffer") 248, Value.str (Str.ofString "/claim/cut.py") 249, Value.int 38 0, Value.int 1 0, Value.int 0 0, Value.int 0 0, Value.int 3 0, Value.ref 57, Value.bool true, Value.int 181 0, Value.ref 58, Value.none, Value.ref 59, Value.ref 60, Value.ref 61, Value.int 252 0, Value.int 38 0, Value.str (Str.ofString "/claim/cut.py") 253] }) ::
  (nat_lit 63, fnO 9 Value.none Value.none (Value.str (Str.ofString "binascii") 227) (Value.ref 62)) ::
  (nat_lit 64, { cls := Value.type "tuple", data := Data.seq #[] }) ::
  (nat_lit 66, { cls := Value.type "tuple", data := Data.seq #[Value.str (Str.ofString "data") 258, Value.str (Str.ofString "t") 259] }) ::
  (nat_lit 67, { cls := Value.type "tuple", data := Data.seq #[] }) ::
  (nat_lit 69, { cls := Value.type "code", data := Data.fields #[Value.str (Str.ofString "_buffer") 255, Value.str (Str.ofString "_buffer") 256, Value.str (Str.ofString "/claim/cut.py") 257, Value.int 49 0, Value.int 1 0, Value.int 0 0, Value.int 0 0, Value.int 3 0, Value.ref 64, Value.bool true, Value.int 181 0, Value.ref 65, Value.none, Value.ref 66, Value.ref 67, Value.ref 68, Value.int 260 0, Value.int 49 0, Value.str (Str.ofString "/claim/cut.py") 261] }) ::
  (nat_lit 70, fnO 10 Value.none Value.none (Value.str (Str.ofString "binascii") 227) (Value.ref 69)) ::
  (nat_lit 71, { cls := Value.type "tuple", data := Data.seq #[] }) ::
  (nat_lit 73, { cls := Value.type "tuple", data := Data.seq #[Value.str (Str.ofString "x") 266, Value.str (Str.ofString "t") 267] }) ::
  (nat_lit 74, { cls := Value.type "tuple", data := Data.seq #[] }) ::
  (nat_lit 76, { cls := Value.type "code", data := Data.fields #[Value.str (Str.ofString "_truth") 263, Value.str (Str.ofString "_truth") 264, Value.str (Str.ofString "/claim/cut.py") 265, Value.int 56 0, Value.int 1 0, Value.int 0 0, Value.int 0 0, Value.int 3 0, Value.ref 71, Value.bool true, Value.int 181 0, Value.ref 72, Value.none, Value.ref 73, Value.ref 74, Value.ref 75, Value.int 268 0, Value.int 56 0, Value.str (Str.ofString "/claim/cut.py") 269] }) ::
  (nat_lit 77, fnO 11 Value.none Value.none (Value.str (Str.ofString "binascii") 227) (Value.ref 76)) ::
  (nat_lit 78, { cls := Value.type "tuple", data := Data.seq #[] }) ::
  (nat_lit 80, { cls := Value.type "tuple", data := Data.seq #[Value.str (Str.ofString "c") 276] }) ::
  (nat_lit 81, { cls := Value.type "tuple", data := Data.seq #[] }) ::
  (nat_lit 83, { cls := Value.type "code", data := Data.fields #[Value.str (Str.ofString "_b64_value") 273, Value.str (Str.ofString "_b64_value") 274, Value.str (Str.ofString "/claim/cut.py") 275, Value.int 62 0, Value.int 1 0, Value.int 0 0, Value.int 0 0, Value.int 3 0, Value.ref 78, Value.bool true, Value.int 181 0, Value.ref 79, Value.none, Value.ref 80, Value.ref 81, Value.ref 82, Value.int 277 0, Value.int 62 0, Value.str (Str.ofString "/claim/cut.py") 278] }) ::
  (nat_lit 84, fnO 13 Value.none Value.none (Value.str (Str.ofString "binascii") 227) (Value.ref 83)) ::
  (nat_lit 85, { cls := Value.type "dict", data := Data.dict #[{ hash := PyData.keyHash p (Str.ofString "strict_mode"), key := Value.str (Str.ofString "strict_mode") 280, val := Value.bool false }] 1 }) ::
  (nat_lit 86, { cls := Value.type "tuple", data := Data.seq #[] }) ::
  (nat_lit 88, { cls := Value.type "tuple", data := Data.seq #[Value.str (Str.ofString "data") 284, Value.str (Str.ofString "strict_mode") 285, Value.str (Str.ofString "ascii_data") 286, Value.str (Str.ofString "out") 287, Value.str (Str.ofString "quad_pos") 288, Value.str (Str.ofString "leftchar") 289, Value.str (Str.ofString "pads") 290, Value.str (Str.ofString "i") 291, Value.str (Str.ofString "this_ch") 292] }) ::
  (nat_lit 89, { cls := Value.type "tuple", data := Data.seq #[] }) ::
  (nat_lit 91, { cls := Value.type "code", data := Data.fields #[Value.str (Str.ofString "a2b_base64") 281, Value.str (Str.ofString "a2b_base64") 282, Value.str (Str.ofString "/claim/cut.py") 283, Value.int 74 0, Value.int 1 0, Value.int 1 0, Value.int 1 0, Value.int 3 0, Value.ref 86, Value.bool true, Value.int 181 0, Value.ref 87, Value.none, Value.ref 88, Value.ref 89, Value.ref 90, Value.int 293 0, Value.int 74 0, Value.str (Str.ofString "/claim/cut.py") 294] }) ::
  (nat_lit 92, fnO 14 Value.none (Value.ref 85) (Value.str (Str.ofString "binascii") 227) (Value.ref 91)) ::
  (nat_lit 93, { cls := Value.type "dict", data := Data.dict #[{ hash := PyData.keyHash p (Str.ofString "newline"), key := Value.str (Str.ofString "newline") 296, val := Value.bool true }] 1 }) ::
  (nat_lit 94, { cls := Value.type "tuple", data := Data.seq #[] }) ::
  (nat_lit 96, { cls := Value.type "tuple", data := Data.seq #[Value.str (Str.ofString "data") 300, Value.str (Str.ofString "newline") 301, Value.str (Str.ofString "bin_data") 302, Value.str (Str.ofString "out") 303, Value.str (Str.ofString "leftbits") 304, Value.str (Str.ofString "leftchar") 305, Value.str (Str.ofString "b") 306] }) ::
  (nat_lit 97, { cls := Value.type "tuple", data := Data.seq #[] }) ::
  (nat_lit 99, { cls := Value.type "code", data := Data.fields #[Value.str (Str.ofString "b2a_base64") 297, Value.str (Str.ofString "b2a_base64") 298, Value.str (Str.ofString "/claim/cut.py") 299, Value.int 128 0, Value.int 1 0, Value.int 1 0, Value.int 1 0, Value.int 3 0, Value.ref 94, Value.bool true, Value.int 181 0, Value.ref 95, Value.none, Value.ref 96, Value.ref 97, Value.ref 98, Value.int 307 0, Value.int 128 0, Value.str (Str.ofString "/claim/cut.py") 308] }) ::
  (nat_lit 100, fnO 15 Value.none (Value.ref 93) (Value.str (Str.ofString "binascii") 227) (Value.ref 99)) ::
  (nat_lit 101, { cls := Value.type "tuple", data := Data.seq #[Value.none] }) ::
  (nat_lit 102, { cls := Value.type "tuple", data := Data.seq #[] }) ::
  (nat_lit 104, { cls := Value.type "tuple", data := Data.seq #[Value.str (Str.ofString "s") 315, Value.str (Str.ofString "altchars") 316, Value.str (Str.ofString "encoded") 317] }) ::
  (nat_lit 105, { cls := Value.type "tuple", data := Data.seq #[] }) ::
  (nat_lit 107, { cls := Value.type "code", data := Data.fields #[Value.str (Str.ofString "b64encode") 312, Value.str (Str.ofString "b64encode") 313, Value.str (Str.ofString "/claim/cut.py") 314, Value.int 151 0, Value.int 2 0, Value.int 0 0, Value.int 0 0, Value.int 3 0, Value.ref 102, Value.bool true, Value.int 181 0, Value.ref 103, Value.none, Value.ref 104, Value.ref 105, Value.ref 106, Value.int 318 0, Value.int 151 0, Value.str (Str.ofString "/claim/cut.py") 319] }) ::
  (nat_lit 108, fnO 17 (Value.ref 101) Value.none (Value.str (Str.ofString "cpy313.base64") 310) (Value.ref 107)) ::
  (nat_lit 109, { cls := Value.type "tuple", data := Data.seq #[Value.none, Value.bool false] }) ::
  (nat_lit 110, { cls := Value.type "tuple", data := Data.seq #[] }) ::
  (nat_lit 112, { cls := Value.type "tuple", data := Data.seq #[Value.str (Str.ofString "s") 324, Value.str (Str.ofString "altchars") 325, Value.str (Str.ofString "validate") 326] }) ::
  (nat_lit 113, { cls := Value.type "tuple", data := Data.seq #[] }) ::
  (nat_lit 115, { cls := Value.type "code", data := Data.fields #[Value.str (Str.ofString "b64decode") 321, Value.str (Str.ofString "b64decode") 322, Value.str (Str.ofString "/claim/cut.py") 323, Value.int 157 0, Value.int 3 0, Value.int 0 0, Value.int 0 0, Value.int 3 0, Value.ref 110, Value.bool true, Value.int 181 0, Value.ref 111, Value.none, Value.ref 112, Value.ref 113, Value.ref 114, Value.int 327 0, Value.int 157 0, Value.str (Str.ofString "/claim/cut.py") 328] }) ::
  (nat_lit 116, fnO 18 (Value.ref 109) Value.none (Value.str (Str.ofString "cpy313.base64") 310) (Value.ref 115)) ::
  (nat_lit 117, { cls := Value.type "tuple", data := Data.seq #[] }) ::
  (nat_lit 119, { cls := Value.type "tuple", data := Data.seq #[Value.str (Str.ofString "expected") 335, Value.str (Str.ofString "actual") 336, Value.str (Str.ofString "missing") 337, Value.str (Str.ofString "item") 338] }) ::
  (nat_lit 120, { cls := Value.type "tuple", data := Data.seq #[] }) ::
  (nat_lit 122, { cls := Value.type "code", data := Data.fields #[Value.str (Str.ofString "unorderable_list_difference") 332, Value.str (Str.ofString "unorderable_list_difference") 333, Value.str (Str.ofString "/claim/cut.py") 334, Value.int 165 0, Value.int 2 0, Value.int 0 0, Value.int 0 0, Value.int 3 0, Value.ref 117, Value.bool true, Value.int 181 0, Value.ref 118, Value.none, Value.ref 119, Value.ref 120, Value.ref 121, Value.int 339 0, Value.int 165 0, Value.str (Str.ofString "/claim/cut.py") 340] }) ::
  (nat_lit 123, fnO 20 Value.none Value.none (Value.str (Str.ofString "cpy313.unittest.util") 330) (Value.ref 122)) ::
  (nat_lit 124, { cls := Value.type "tuple", data := Data.seq #[] }) ::
  (nat_lit 126, { cls := Value.type "tuple", data := Data.seq #[Value.str (Str.ofString "x") 345, Value.str (Str.ofString "y") 346] }) ::
  (nat_lit 127, { cls := Value.type "tuple", data := Data.seq #[] }) ::
  (nat_lit 129, { cls := Value.type "code", data := Data.fields #[Value.str (Str.ofString "three_way_cmp") 342, Value.str (Str.ofString "three_way_cmp") 343, Value.str (Str.ofString "/claim/cut.py") 344, Value.int 174 0, Value.int 2 0, Value.int 0 0, Value.int 0 0, Value.int 3 0, Value.ref 124, Value.bool true, Value.int 181 0, Value.ref 125, Value.none, Value.ref 126, Value.ref 127, Value.ref 128, Value.int 347 0, Value.int 174 0, Value.str (Str.ofString "/claim/cut.py") 348] }) ::
  (nat_lit 130, fnO 21 Value.none Value.none (Value.str (Str.ofString "cpy313.unittest.util") 330) (Value.ref 129)) ::
  (nat_lit 131, { cls := Value.type "tuple", data := Data.seq #[] }) ::
  (nat_lit 134, { cls := Value.type "code", data := Data.fields #[Value.str (Str.ofString "_law_row") 352, Value.str (Str.ofString "_law_row") 353, Value.str (Str.ofString "/claim/cut.py") 354, Value.int 177 0, Value.int 2 0, Value.int 0 0, Value.int 0 0, Value.int 3 0, Value.ref 131, Value.bool true, Value.int 181 0, Value.ref 132, Value.none, Value.none, Value.none, Value.ref 133, Value.int 355 0, Value.int 177 0, Value.str (Str.ofString "/claim/cut.py") 356] }) ::
  (nat_lit 135, fnO 23 Value.none Value.none (Value.str (Str.ofString "law_qh0043_01") 350) (Value.ref 134)) ::
  (nat_lit 136, { cls := Value.type "tuple", data := Data.seq #[] }) ::
  (nat_lit 139, { cls := Value.type "code", data := Data.fields #[Value.str (Str.ofString "_law_letter") 358, Value.str (Str.ofString "_law_letter") 359, Value.str (Str.ofString "/claim/cut.py") 360, Value.int 179 0, Value.int 2 0, Value.int 0 0, Value.int 0 0, Value.int 3 0, Value.ref 136, Value.bool true, Value.int 181 0, Value.ref 137, Value.none, Value.none, Value.none, Value.ref 138, Value.int 361 0, Value.int 179 0, Value.str (Str.ofString "/claim/cut.py") 362] }) ::
  (nat_lit 140, fnO 24 Value.none Value.none (Value.str (Str.ofString "law_qh0043_01") 350) (Value.ref 139)) ::
  (nat_lit 141, { cls := Value.type "tuple", data := Data.seq #[] }) ::
  (nat_lit 144, { cls := Value.type "code", data := Data.fields #[Value.str (Str.ofString "_law_opened") 364, Value.str (Str.ofString "_law_opened") 365, Value.str (Str.ofString "/claim/cut.py") 366, Value.int 182 0, Value.int 1 0, Value.int 0 0, Value.int 0 0, Value.int 3 0, Value.ref 141, Value.bool true, Value.int 181 0, Value.ref 142, Value.none, Value.none, Value.none, Value.ref 143, Value.int 367 0, Value.int 182 0, Value.str (Str.ofString "/claim/cut.py") 368] }) ::
  (nat_lit 145, fnO 25 Value.none Value.none (Value.str (Str.ofString "law_qh0043_01") 350) (Value.ref 144)) ::
  (nat_lit 146, { cls := Value.type "tuple", data := Data.seq #[] }) ::
  (nat_lit 149, { cls := Value.type "code", data := Data.fields #[Value.str (Str.ofString "_law_courted") 370, Value.str (Str.ofString "_law_courted") 371, Value.str (Str.ofString "/claim/cut.py") 372, Value.int 184 0, Value.int 3 0, Value.int 0 0, Value.int 0 0, Value.int 3 0, Value.ref 146, Value.bool true, Value.int 181 0, Value.ref 147, Value.none, Value.none, Value.none, Value.ref 148, Value.int 373 0, Value.int 184 0, Value.str (Str.ofString "/claim/cut.py") 374] }) ::
  (nat_lit 150, fnO 26 Value.none Value.none (Value.str (Str.ofString "law_qh0043_01") 350) (Value.ref 149)) ::
  (nat_lit 151, { cls := Value.type "tuple", data := Data.seq #[] }) ::
  (nat_lit 153, { cls := Value.type "tuple", data := Data.seq #[Value.str (Str.ofString "plan") 379, Value.str (Str.ofString "men") 380, Value.str (Str.ofString "women") 381, Value.str (Str.ofString "man") 382, Value.str (Str.ofString "woman") 383] }) ::
  (nat_lit 154, { cls := Value.type "tuple", data := Data.seq #[] }) ::
  (nat_lit 156, { cls := Value.type "code", data := Data.fields #[Value.str (Str.ofString "_law_holds") 376, Value.str (Str.ofString "_law_holds") 377, Value.str (Str.ofString "/claim/cut.py") 378, Value.int 200 0, Value.int 3 0, Value.int 0 0, Value.int 0 0, Value.int 3 0, Value.ref 151, Value.bool true, Value.int 181 0, Value.ref 152, Value.none, Value.ref 153, Value.ref 154, Value.ref 155, Value.int 384 0, Value.int 200 0, Value.str (Str.ofString "/claim/cut.py") 385] }) ::
  (nat_lit 157, fnO 27 Value.none Value.none (Value.str (Str.ofString "law_qh0043_01") 350) (Value.ref 156)) ::
  (nat_lit 158, { cls := Value.type "tuple", data := Data.seq #[] }) ::
  (nat_lit 161, { cls := Value.type "code", data := Data.fields #[Value.str (Str.ofString "_law_sound") 387, Value.str (Str.ofString "_law_sound") 388, Value.str (Str.ofString "/claim/cut.py") 389, Value.int 206 0, Value.int 2 0, Value.int 0 0, Value.int 0 0, Value.int 3 0, Value.ref 158, Value.bool true, Value.int 181 0, Value.ref 159, Value.none, Value.none, Value.none, Value.ref 160, Value.int 390 0, Value.int 206 0, Value.str (Str.ofString "/claim/cut.py") 391] }) ::
  (nat_lit 162, fnO 28 Value.none Value.none (Value.str (Str.ofString "law_qh0043_01") 350) (Value.ref 161)) ::
  (nat_lit 163, { cls := Value.type "tuple", data := Data.seq #[] }) ::
  (nat_lit 166, { cls := Value.type "code", data := Data.fields #[Value.str (Str.ofString "_law_turned") 393, Value.str (Str.ofString "_law_turned") 394, Value.str (Str.ofString "/claim/cut.py") 395, Value.int 209 0, Value.int 1 0, Value.int 0 0, Value.int 0 0, Value.int 3 0, Value.ref 163, Value.bool true, Value.int 181 0, Value.ref 164, Value.none, Value.none, Value.none, Value.ref 165, Value.int 396 0, Value.int 209 0, Value.str (Str.ofString "/claim/cut.py") 397] }) ::
  (nat_lit 167, fnO 29 Value.none Value.none (Value.str (Str.ofString "law_qh0043_01") 350) (Value.ref 166)) ::
  (nat_lit 168, { cls := Value.type "tuple", data := Data.seq #[] }) ::
  (nat_lit 171, { cls := Value.type "code", data := Data.fields #[Value.str (Str.ofString "_law_dearest") 399, Value.str (Str.ofString "_law_dearest") 400, Value.str (Str.ofString "/claim/cut.py") 401, Value.int 211 0, Value.int 2 0, Value.int 0 0, Value.int 0 0, Value.int 3 0, Value.ref 168, Value.bool true, Value.int 181 0, Value.ref 169, Value.none, Value.none, Value.none, Value.ref 170, Value.int 402 0, Value.int 211 0, Value.str (Str.ofString "/claim/cut.py") 403] }) ::
  (nat_lit 172, fnO 30 Value.none Value.none (Value.str (Str.ofString "law_qh0043_01") 350) (Value.ref 171)) ::
  (nat_lit 173, { cls := Value.type "tuple", data := Data.seq #[] }) ::
  (nat_lit 176, { cls := Value.type "code", data := Data.fields #[Value.str (Str.ofString "_law_least") 405, Value.str (Str.ofString "_law_least") 406, Value.str (Str.ofString "/claim/cut.py") 407, Value.int 213 0, Value.int 2 0, Value.int 0 0, Value.int 0 0, Value.int 3 0, Value.ref 173, Value.bool true, Value.int 181 0, Value.ref 174, Value.none, Value.none, Value.none, Value.ref 175, Value.int 408 0, Value.int 213 0, Value.str (Str.ofString "/claim/cut.py") 409] }) ::
  (nat_lit 177, fnO 31 Value.none Value.none (Value.str (Str.ofString "law_qh0043_01") 350) (Value.ref 176)) ::
  (nat_lit 178, { cls := Value.type "tuple", data := Data.seq #[] }) ::
  (nat_lit 181, { cls := Value.type "code", data := Data.fields #[Value.str (Str.ofString "law") 411, Value.str (Str.ofString "law") 412, Value.str (Str.ofString "/claim/cut.py") 413, Value.int 215 0, Value.int 1 0, Value.int 0 0, Value.int 0 0, Value.int 3 0, Value.ref 178, Value.bool true, Value.int 181 0, Value.ref 179, Value.none, Value.none, Value.none, Value.ref 180, Value.int 414 0, Value.int 215 0, Value.str (Str.ofString "/claim/cut.py") 415] }) ::
  (nat_lit 182, fnO 32 Value.none Value.none (Value.str (Str.ofString "law_qh0043_01") 350) (Value.ref 181)) :: []
/-- the statements that the walk looks at -/
noncomputable def hd.view_39 : Program := { PySem.Challenge.pw_qh0043_01 with main := { PySem.Challenge.pw_qh0043_01.main with body := [0, 2, 3, 5, 6, 8, 9, 10, 11, 12, 13, 20, 21, 23, 24, 25, 26, 27, 28, 29, 30, 31, 32].map (nthS PySem.Challenge.pw_qh0043_01.main.body) } }
noncomputable abbrev hdH : Hook := kHook hd.heap_39
  [2, 3, 15, 17, 18, 20, 21, 22, 24, 25, 27, 28, 29, 31, 32, 34, 35, 36, 37, 39, 40, 42, 43, 44, 51, 52, 53, 54,
    57, 59, 60, 62, 63, 64, 66, 67, 69, 70, 71, 73, 74, 76, 77, 78, 80, 81, 83, 84, 85, 86, 88, 89, 91, 92, 93,
    94, 96, 97, 99, 100, 101, 102, 104, 105, 107, 108, 109, 110, 112, 113, 115, 116, 117, 119, 120, 122, 123, 124,
    126, 127, 129, 130, 131, 134, 135, 136, 139, 140, 141, 144, 145, 146, 149, 150, 151, 153, 154, 156, 157, 158,
    161, 162, 163, 166, 167, 168, 171, 172, 173, 176, 177, 178, 181, 182] (fun _ => by kernel_rfl)
noncomputable abbrev hdL : List Str := [Str.ofString "bytes_types", Str.ofString "a2b_base64", Str.ofString "b2a_base64", Str.ofString "b64encode", Str.ofString "b64decode"]
theorem hd_said : PySem.Challenge.rw_qh0043_01.wellSaid = true := by
  first
    | exact (congrFun PySem.W.Fast.te9446332074065402090 _).trans (by kernel_rfl)
    | kernel_rfl
/-- the code's own copy of a def, as a code object bears it -/
noncomputable def topTm (i : Nat) : Obj := match nthS PySem.Challenge.pw_qh0043_01.main.body i with
  | .FunctionDef n a b _ _ _ sc _ _ _ => { cls := .none, data := .func { name := n, qualname := n, params := a, body := .stmts b, scope := sc, globals := 0, closure := [], defaults := .none, kwdefaults := .none } }
  | _ => { cls := .none, data := .plain }
noncomputable def topNil : Obj := { cls := .none, data := .fields #[] }
/-- the other objects that the top leaves -/
noncomputable def topEx (p : Params) : Frag :=
  (nat_lit 0, boot_o_0 p) ::
  (nat_lit 1, boot_o_1 p) ::
  (nat_lit 4, boot_o_4 p) ::
  (nat_lit 5, boot_o_5 p) ::
  (nat_lit 6, boot_o_6 p) ::
  (nat_lit 7, boot_o_7 p) ::
  (nat_lit 8, boot_o_8 p) ::
  (nat_lit 9, boot_o_9 p) ::
  (nat_lit 10, boot_o_10 p) ::
  (nat_lit 11, { cls := Value.type "tuple", data := Data.seq #[] }) ::
  (nat_lit 12, { cls := Value.none, data := Data.fields #[Value.int 1 0, Value.int 0 0, Value.ref 20, Value.int 5 0, Value.int 0 0, Value.ref 27, Value.int 11 0, Value.int 0 0, Value.ref 34, Value.int 23 0, Value.int 0 0, Value.ref 42, Value.int 36 0, Value.int 0 0, Value.ref 49, Value.int 38 0, Value.int 0 0, Value.ref 62, Value.int 49 0, Value.int 0 0, Value.ref 69, Value.int 56 0, Value.int 0 0, Value.ref 76, Value.int 62 0, Value.int 0 0, Value.ref 83, Value.int 74 0, Value.int 0 0, Value.ref 91, Value.int 128 0, Value.int 0 0, Value.ref 99, Value.int 151 0, Value.int 0 0, Value.ref 107, Value.int 157 0, Value.int 0 0, Value.ref 115, Value.int 165 0, Value.int 0 0, Value.ref 122, Value.int 174 0, Value.int 0 0, Value.ref 129, Value.int 177 0, Value.int 0 0, Value.ref 134, Value.int 179 0, Value.int 0 0, Value.ref 139, Value.int 182 0, Value.int 0 0, Value.ref 144, Value.int 184 0, Value.int 0 0, Value.ref 149, Value.int 200 0, Value.int 0 0, Value.ref 156, Value.int 206 0, Value.int 0 0, Value.ref 161, Value.int 209 0, Value.int 0 0, Value.ref 166, Value.int 211 0, Value.int 0 0, Value.ref 171, Value.int 213 0, Value.int 0 0, Value.ref 176, Value.int 215 0, Value.int 0 0, Value.ref 181] }) ::
  (nat_lit 13, { cls := Value.type "code", data := Data.fields #[Value.str (Str.ofString "<module>") 182, Value.str (Str.ofString "<module>") 183, Value.str (Str.ofString "/claim/cut.py") 184, Value.int 1 0, Value.int 0 0, Value.int 0 0, Value.int 0 0, Value.int 0 0, Value.ref 11, Value.bool false, Value.int 181 0, Value.ref 12, Value.none, Value.none, Value.none, Value.none, Value.int 185 0, Value.int 1 0, Value.str (Str.ofString "/claim/cut.py") 186] }) ::
  (nat_lit 14, { cls := Value.type "frame", slots := #[some (Value.ref 13), some (Value.ref 3), some (Value.ref 3), none, some (Value.str (Str.ofString "__main__") 164), none, some (Value.ref 0)] }) ::
  (nat_lit 16, topNil) ::
  (nat_lit 19, topTm 0) ::
  (nat_lit 23, topNil) ::
  (nat_lit 26, topTm 2) ::
  (nat_lit 30, topNil) ::
  (nat_lit 33, topTm 3) ::
  (nat_lit 38, topNil) ::
  (nat_lit 41, topTm 6) ::
  (nat_lit 45, { cls := Value.type "builtin_function_or_method", data := Data.fields #[Value.builtin "type.__prepare__", Value.type "type"] }) ::
  (nat_lit 46, { cls := Value.type "dict", data := Data.dict #[{ hash := PyData.keyHash p (Str.ofString "__module__"), key := Value.str (Str.ofString "__module__") 236, val := Value.str (Str.ofString "binascii") 227 }, { hash := PyData.keyHash p (Str.ofString "__qualname__"), key := Value.str (Str.ofString "__qualname__") 238, val := Value.str (Str.ofString "Error") 237 }, { hash := PyData.keyHash p (Str.ofString "__firstlineno__"), key := Value.str (Str.ofString "__firstlineno__") 240, val := Value.int 36 239 }, { hash := PyData.keyHash p (Str.ofString "__static_attributes__"), key := Value.str (Str.ofString "__static_attributes__") 241, val := Value.ref 51 }] 4 }) ::
  (nat_lit 47, { cls := Value.type "tuple", data := Data.seq #[] }) ::
  (nat_lit 48, topNil) ::
  (nat_lit 49, { cls := Value.type "code", data := Data.fields #[Value.str (Str.ofString "Error") 231, Value.str (Str.ofString "Error") 232, Value.str (Str.ofString "/claim/cut.py") 233, Value.int 36 0, Value.int 0 0, Value.int 0 0, Value.int 0 0, Value.int 0 0, Value.ref 47, Value.bool false, Value.int 181 0, Value.ref 48, Value.none, Value.none, Value.none, Value.none, Value.int 234 0, Value.int 36 0, Value.str (Str.ofString "/claim/cut.py") 235] }) ::
  (nat_lit 50, { cls := Value.type "frame", slots := #[some (Value.ref 49), some (Value.ref 3), some (Value.ref 46), none, some (Value.str (Str.ofString "binascii") 227), none, some (Value.ref 0)] }) ::
  (nat_lit 55, { cls := Value.type "super", data := Data.fields #[Value.ref 53, Value.ref 53, Value.ref 53] }) ::
  (nat_lit 56, { cls := Value.type "builtin_function_or_method", data := Data.fields #[Value.builtin "object.__init_subclass__", Value.ref 53] }) ::
  (nat_lit 58, topNil) ::
  (nat_lit 61, topTm 9) ::
  (nat_lit 65, topNil) ::
  (nat_lit 68, topTm 10) ::
  (nat_lit 72, topNil) ::
  (nat_lit 75, topTm 11) ::
  (nat_lit 79, topNil) ::
  (nat_lit 82, topTm 13) ::
  (nat_lit 87, topNil) ::
  (nat_lit 90, topTm 14) ::
  (nat_lit 95, topNil) ::
  (nat_lit 98, topTm 15) ::
  (nat_lit 103, topNil) ::
  (nat_lit 106, topTm 17) ::
  (nat_lit 111, topNil) ::
  (nat_lit 114, topTm 18) ::
  (nat_lit 118, topNil) ::
  (nat_lit 121, topTm 20) ::
  (nat_lit 125, topNil) ::
  (nat_lit 128, topTm 21) ::
  (nat_lit 132, topNil) ::
  (nat_lit 133, topTm 23) ::
  (nat_lit 137, topNil) ::
  (nat_lit 138, topTm 24) ::
  (nat_lit 142, topNil) ::
  (nat_lit 143, topTm 25) ::
  (nat_lit 147, topNil) ::
  (nat_lit 148, topTm 26) ::
  (nat_lit 152, topNil) ::
  (nat_lit 155, topTm 27) ::
  (nat_lit 159, topNil) ::
  (nat_lit 160, topTm 28) ::
  (nat_lit 164, topNil) ::
  (nat_lit 165, topTm 29) ::
  (nat_lit 169, topNil) ::
  (nat_lit 170, topTm 30) ::
  (nat_lit 174, topNil) ::
  (nat_lit 175, topTm 31) ::
  (nat_lit 179, topNil) ::
  (nat_lit 180, topTm 32) :: []
noncomputable def topBoth : Nat → Nat → Frag → Frag → List Obj
  | 0, _, _, _ => []
  | f + 1, k, (i, o) :: a, b => match Nat.beq i k with
    | true => o :: topBoth f (k + 1) a b
    | false => match b with
      | (_, o') :: b' => o' :: topBoth f (k + 1) ((i, o) :: a) b'
      | [] => []
  | f + 1, k, [], (_, o') :: b' => o' :: topBoth f (k + 1) [] b'
  | _ + 1, _, [], [] => []
/-- all objects behind the top -/
noncomputable def topAll (p : Params) : List Obj := topBoth 183 0 (hd.heap_39 p) (topEx p)
/-- the module's names amid the top: the first m of them, by the module's name at that time -/
noncomputable def topAmidN (nm : Value) (m : Nat) : Obj → Obj
  | ⟨c, d, .dict es _, sl⟩ => ⟨c, d, .dict (Array.mk ((match es.toList with
      | e :: r => { e with val := nm } :: r
      | [] => []).take m)) m, sl⟩
  | o => o
noncomputable def topAmidC (m : Nat) : Obj → Obj
  | ⟨c, d, .fields vs, sl⟩ => ⟨c, d, .fields (Array.mk (vs.toList.take m)), sl⟩
  | o => o
/-- the objects amid the top -/
noncomputable def topAmidL (p : Params) (n m c : Nat) (nm : Value) : List Obj := (((topAll p).take n).modify 3 (topAmidN nm m)).modify 12 (topAmidC c)
noncomputable def topIns : List Obj → Nat → BT → BT
  | [], _, t => t
  | o :: l, n, t => topIns l (n + 1) (t.ins n o)
noncomputable def topAmidS (p : Params) (n m c : Nat) (nm : Value) (toks : Nat) (os : OsState) : SharedT := ⟨topIns (topAmidL p n m c nm) 0 .nil, n, {}, #[], {}, toks, os⟩
noncomputable def topP : Program := PySem.Challenge.rw_qh0043_01.row.prog
noncomputable def topE : Env := { scope := topP.main.scope, locals := mainNs, globals := mainNs, cells := [], code := .ref 13, frame := some 14 }
noncomputable def topB : List Stmt := behindTheImports topP
noncomputable abbrev topC : Code := .body topB topE
noncomputable abbrev topP0 : Pos := { line := 0, col := 0, endLine := 0, endCol := 0 }
noncomputable def topS0 (p : Params) (os : OsState) : SharedT := topAmidS p 15 9 0 (Value.str (Str.ofString "__main__") 164) 187 os
noncomputable def topS1 (p : Params) (os : OsState) : SharedT := topAmidS p 44 14 12 (Value.str (Str.ofString "binascii") 227) 229 os
noncomputable def topS2 (p : Params) (os : OsState) : SharedT := topAmidS p 57 15 15 (Value.str (Str.ofString "binascii") 227) 247 os
noncomputable def topS3 (p : Params) (os : OsState) : SharedT := topAmidS p 124 25 42 (Value.str (Str.ofString "cpy313.unittest.util") 330) 342 os
noncomputable def topS4 (p : Params) (os : OsState) : SharedT := ⟨topIns (topAll p) 0 .nil, 183, {}, #[], {}, 417, os⟩
noncomputable abbrev topP1 : Pos := { line := 35, col := 0, endLine := 35, endCol := 8 }
noncomputable abbrev topP2 : Pos := { line := 36, col := 0, endLine := 37, endCol := 8 }
noncomputable abbrev topP3 : Pos := { line := 165, col := 0, endLine := 173, endCol := 28 }
noncomputable abbrev topP4 : Pos := { line := 215, col := 0, endLine := 232, endCol := 68 }
noncomputable def topZ (p : Params) : Heap := ⟨Array.mk (topAll p), {}⟩
theorem top_pre (w : World) (os : OsState) : topGo treeTable topP w 11 (some (.ref 6)) 12 ⟨boot_heap w.params, #[], boot_drawn, boot_toks, os⟩ (topStub topP) = some ((topS0 w.params os).abs, ⟨denote treeTable topC, topC, topP0, [topFrame topP0]⟩) := by kernel_rfl
theorem top_block (w : World) (os : OsState) : segRun treeTable topP w 11 (some (.ref 6)) 1 1 (topS0 w.params os).abs (blockOf topB topE topC topP0 [topFrame topP0]) = some (.next, (topS0 w.params os).abs, topC, topP0) := by kernel_rfl
theorem top_1 (w : World) (os : OsState) : segRunT treeTable topP w 11 (some (.ref 6)) 1 167 (topS0 w.params os) (piecesOf (topB.take 8) topE topC topP0 [topFrame topP0]) = some (.next, topS1 w.params os, topC, topP1) := by
  (first | rw [PySem.W.Fast.te10110043849684766642, PySem.W.Fast.te14364793385576792824] | skip); kernel_rfl
theorem top_2 (w : World) (os : OsState) : segRunT treeTable topP w 11 (some (.ref 6)) 1 187 (topS1 w.params os) (piecesOf ((topB.drop 8).take 1) topE topC topP1 [topFrame topP0]) = some (.next, topS2 w.params os, topC, topP2) := by
  (first | rw [PySem.W.Fast.te10110043849684766642, PySem.W.Fast.te14364793385576792824] | skip); kernel_rfl
theorem top_3 (w : World) (os : OsState) : segRunT treeTable topP w 11 (some (.ref 6)) 1 353 (topS2 w.params os) (piecesOf ((topB.drop 9).take 12) topE topC topP2 [topFrame topP0]) = some (.next, topS3 w.params os, topC, topP3) := by
  (first | rw [PySem.W.Fast.te10110043849684766642, PySem.W.Fast.te14364793385576792824] | skip); kernel_rfl
theorem top_4 (w : World) (os : OsState) : segRunT treeTable topP w 11 (some (.ref 6)) 1 340 (topS3 w.params os) (piecesOf (topB.drop 21) topE topC topP3 [topFrame topP0]) = some (.next, topS4 w.params os, topC, topP4) := by
  (first | rw [PySem.W.Fast.te10110043849684766642, PySem.W.Fast.te14364793385576792824] | skip); kernel_rfl
theorem top_fin (w : World) (os : OsState) : topRun treeTable topP w 11 (some (.ref 6)) 2 (topS4 w.params os).abs ⟨doneF .next, topC, topP4, [topFrame topP0]⟩ = some ⟨topZ w.params, #[], {}, 417, os⟩ := by kernel_rfl
theorem top_parts : topB.take 8 ++ ((topB.drop 8).take 1 ++ ((topB.drop 9).take 12 ++ (topB.drop 21 ++ []))) = topB := by
  have e : ∀ {α : Type} (l : List α) (a b : Nat), (l.drop a).take b ++ l.drop (a + b) = l.drop a := fun l a b => by
    rw [← List.drop_drop]; exact List.take_append_drop b _
  rw [List.append_nil, e topB 9 12, e topB 8 1]
  exact List.take_append_drop 8 topB
theorem top_run (w : World) (os : OsState) : topRun treeTable topP w 11 (some (.ref 6)) (12 + (1 + (167 + (187 + (353 + (340 + 2)))))) ⟨boot_heap w.params, #[], boot_drawn, boot_toks, os⟩ (topStub topP) = some ⟨topZ w.params, #[], {}, 417, os⟩ := by
  refine go_top (top_pre w os) (piece_block (top_block w os) ?_)
  have h := piece_app (segRun_of (top_1 w os)) (piece_app (segRun_of (top_2 w os)) (piece_app (segRun_of (top_3 w os)) (piece_app (segRun_of (top_4 w os)) (piece_nil (top_fin w os)))))
  rwa [top_parts] at h
theorem top_looks1 (w : World) (os : OsState) : (staticsOk (importedModules topP.main.body) (boot_heap w.params) (topZ w.params) && namesBound topP (topZ w.params) && gensDone ⟨topZ w.params, #[], {}, 417, os⟩ && laidKept (boot_heap w.params) (topZ w.params)) = true := by kernel_rfl
theorem top_looks2 (w : World) (os : OsState) : openSeen hd.view_39 hdL (importedModules topP.main.body) (fun s => xlAt hd.view_39 [] s && recOk (RowW.records (OpenRow.toRowW PySem.Challenge.rw_qh0043_01.row)) s) true ⟨topZ w.params, #[], {}, 417, os⟩ = openGood hd.view_39 hdL := by kernel_rfl
theorem top_looks3 (w : World) (os : OsState) : Hook.obs hdH ⟨topZ w.params, #[], {}, 417, os⟩ = Hook.val hdH w := by kernel_rfl
theorem hd_left : LeftO PySem.Challenge.rw_qh0043_01.row.prog hd.view_39 hdL
    (fun s => xlAt hd.view_39 [] s && recOk (RowW.records (OpenRow.toRowW PySem.Challenge.rw_qh0043_01.row)) s) (Hook.obs hdH) (Hook.val hdH) 2090 :=
  LeftO.of_pieces (p := topP) (H₀ := boot_heap) (H₁ := topZ) (gs₀ := #[]) (gs₁ := #[]) (d₀ := boot_drawn) (d₁ := {}) (k₀ := boot_toks) (k₁ := 417) (m₀ := 11) (ann := some (.ref 6))
    (boot_open (by kernel_rfl) (by rfl) (fun s => by kernel_rfl)) (fun w => by kernel_rfl) top_run (by rfl)
    (fun w => funext fun os => by rw [top_looks1 w os, top_looks2 w os, top_looks3 w os])
theorem hd {d : DefRec} {kwd : List (Str × Expr)} (hdef : defOf hd.view_39 PySem.Challenge.rw_qh0043_01.row.name = some (d, kwd))
    (hp : PySem.Challenge.rw_qh0043_01.row.prog.theDef PySem.Challenge.rw_qh0043_01.row.name = some (d.params, d.body, d.scope)) (hk : kwWritten? d.params.kwonlyargs d.params.kw_defaults = some kwd)
    (walk : WalkO hd.view_39 hdL (XL hd.view_39 []) (Hook.says hdH) PySem.Challenge.rw_qh0043_01.row.toRowW d kwd fun f vs => PySem.call f vs) : PySem.Challenge.rw_qh0043_01.Holds := by
  w_on
  refine holds_law hd_said fun said => ?_
  refine holds_open (q := hd.view_39) (loose := hdL) (Xt := fun s => xlAt hd.view_39 [] s && recOk (RowW.records (OpenRow.toRowW PySem.Challenge.rw_qh0043_01.row)) s) (XP := XL hd.view_39 []) (Yf := Hook.obs hdH) (Ya := Hook.val hdH) (YP := Hook.says hdH) (N := 2090)
    hd_left (Hook.of hdH) (Hook.keeps hdH) (fun s e => xl_of s (Bool.and_eq_true_iff.mp e).1) XL.keeps hdef hp hk (fun s e => recFacts_of (Bool.and_eq_true_iff.mp e).2) (by rfl) said (by decide +kernel) ⟨rfl, rfl, rfl, rfl, rfl, by decide +kernel⟩ ?hw walk
  case hw => w_witness2

end
section -- QBase
open PySem.Calls PySem.Spec
theorem hideG {G : Prop} (h : let gk : Prop := G; gk) : G := h
theorem foldA {M : Model} {A : Around} {α : Type} {t : Sem α} {Q : α → Shared → Prop} {E : Value → Shared → Prop} {s : Shared} (h : let A1 : Around := A; wpAny M A1 t Q E s) : wpAny M A t Q E s := h
theorem foldEnv {M : Model} {A : Around} {b : List Stmt} {e : Env} {Q : Flow → Shared → Prop} {E : Value → Shared → Prop} {s : Shared} (h : let env1 : Env := e; wpAny M A (execs b env1) Q E s) : wpAny M A (execs b e) Q E s := h
noncomputable abbrev looseL : List Str := looseW hd.view_39
      [Str.ofString "bytes_types", Str.ofString "a2b_base64", Str.ofString "b2a_base64", Str.ofString "b64encode", Str.ofString "b64decode"]

def Grows (h h' : Heap) : Prop := ∀ b o, h.get? b = some o → h'.get? b = some o
theorem Grows.refl (h : Heap) : Grows h h := fun _ _ e => e
theorem Grows.trans {a b c : Heap} (x : Grows a b) (y : Grows b c) : Grows a c := fun i o e => y i o (x i o e)

/-- what a def does that changes nothing that stood -/
def Does (k : Nat) (w : World) (mean : ExcName → Option Value) (mg mb : Str → Option Value) (f : Addr) (vs : List Value) (kw : List (Str × Value)) (Pre : Heap → Prop) (Post : Heap → Value → Heap → Prop) : Prop :=
  ∀ (dp un : Nat) (gd : Option (List Code)) (cn : Str) (cs : Scope) (a : Addr) (ccd : Value) (cl : List (Str × Addr)) (outer : List Env) (A₀ : Around) (base h₀ : Heap) (L : Addr) (m : Str → Option Value) (s : Shared) (Q E : Value → Shared → Prop),
    Below A₀ base outer h₀ → Fr h₀ L s.heap m → (hd.heap_39 w.params).In h₀ → Top hd.view_39 looseL mean mg mb h₀ → cs.kind = .function → dp + k < recursionLimit → un + 16 * k < cLine → Pre s.heap →
    (∀ r h' tk', Grows s.heap h' → Post s.heap r h' → Q r { s with heap := h', toks := tk' }) →
    wpAny (model PySem.Challenge.pw_qh0043_01 w) (ktrTop dp un gd cn cs L a ccd cl outer) (call (.ref f) vs kw) Q E s

section
variable {w : World} {mean : ExcName → Option Value} {mg mb : Str → Option Value} {p : Program} {loose : List Str} {prog : Program} {A₀ A : Around} {s : Shared} {base h₀ : Heap} {outer : List Env} {L : Addr} {m : Str → Option Value} {env : Env} {K : Frag}
  {R : Result → Shared → Prop} {name qual : Str} {params : Arguments} {body : List Stmt} {scope : Scope} {dV kV doc pm cdv ct oc : Value} {an od : Option Addr} {osl : Array (Option Value)} {f : Addr} {args : Args}

theorem enterP (binds : List (Str × Value)) (B : Below A₀ base outer h₀) (F : Fr h₀ L s.heap m) (X₀ : K.In h₀) (T : Top p loose mean mg mb h₀) (hA : A.frames = some (env :: outer)) (hf : env.frame = some L) (hke : env.scope.kind = .function)
    (ho : K.lookup f = some ⟨oc, od, .func (fnOf name qual params body scope dV kV doc pm an cdv ct), osl⟩) (hcd : codeIn K cdv qual = true) (hroom : A.depth < recursionLimit)
    (hbind : BindsTo s (fnOf name qual params body scope dV kV doc pm an cdv ct) args binds) (hloc : ∀ y ∈ binds, scope.names.lookup y.1 = some .local)
    (h : ∀ L' h₁, Fr s.heap L' h₁ (fun y => binds.reverse.lookup y) → News s.heap L' h₁ [] → Below A base (env :: outer) s.heap → K.In s.heap → Top p loose mean mg mb s.heap →
      wpAny (model prog w) (A.deeper (envX qual scope L' f cdv [])) (execs body (envX qual scope L' f cdv []))
        (fun fl s' => R (.ok (.ret (match fl with | .ret v => v | _ => .none))) s')
        (fun e s' => wpAny (model prog w) (A.deeper (envX qual scope L' f cdv [])) (leaving (envX qual scope L' f cdv []) e) (fun _ s'' => R (.error e) s'') (fun e' s'' => R (.error e') s'') s')
        { s with heap := h₁, toks := s.toks + binds.length })
    (hco : scope.isCoroutine = false) (hgen : scope.isGenerator = false) (hk : scope.kind = .function)
    (hcell : ∀ x ∈ scope.names, x.2 ≠ .cell) : codeAny (model prog w) A (.call (.ref f) args) R s := by
  obtain ⟨FG, BG, st, lv⟩ := groundX (R := R) B F News.nil hA hf hke
  refine codeAny_call_def (fd := fnOf name qual params body scope dV kV doc pm an cdv ct) (body := body) (binds := binds) hroom ((X₀.keeps F.keep) _ _ ho) rfl (T.nolimit.keeps F.keep) (codeRec_of (X₀.keeps F.keep) hcd) rfl hbind hcell hloc (fun h₁ hns hk₁ => ?_) hco hgen hk
  exact h s.heap.objs.size h₁ ⟨hns, hk₁, Nat.le_refl _⟩ News.nil BG (X₀.keeps F.keep) (T.keeps F.keep)

theorem enterC (binds : List (Str × Value)) (B : Below A₀ base outer h₀) (F : Fr h₀ L s.heap m) (X₀ : K.In h₀) (T : Top p loose mean mg mb h₀) (hA : A.frames = some (env :: outer)) (hf : env.frame = some L) (hke : env.scope.kind = .function)
    (ho : K.lookup f = some ⟨oc, od, .func (fnOf name qual params body scope dV kV doc pm an cdv ct), osl⟩) (hcd : codeIn K cdv qual = true) (hroom : A.depth < recursionLimit)
    (hbind : BindsTo s (fnOf name qual params body scope dV kV doc pm an cdv ct) args binds)
    (hkind : (binds.all fun y => scope.names.lookup y.1 == some .local || scope.names.lookup y.1 == some .cell) = true)
    (hnd : ((cellsFrom 0 scope.names []).map (·.1)).Nodup)
    (h : ∀ L' h₁ tk cells, Fr s.heap L' h₁ (bindL (envOfC qual scope L' f cdv).kindOf binds fun _ => none) → News s.heap L' h₁ cells →
      CellsAre (bindC (envOfC qual scope L' f cdv).kindOf binds fun _ => none) (cellsFrom (L' + 1) scope.names []) cells → Below A base (env :: outer) s.heap → K.In s.heap → Top p loose mean mg mb s.heap →
      wpAny (model prog w) (A.deeper (envOfC qual scope L' f cdv)) (execs body (envOfC qual scope L' f cdv))
        (fun fl s' => R (.ok (.ret (match fl with | .ret v => v | _ => .none))) s')
        (fun e s' => wpAny (model prog w) (A.deeper (envOfC qual scope L' f cdv)) (leaving (envOfC qual scope L' f cdv) e) (fun _ s'' => R (.error e) s'') (fun e' s'' => R (.error e') s'') s')
        { s with heap := h₁, toks := tk })
    (hco : scope.isCoroutine = false) (hgen : scope.isGenerator = false) (hk : scope.kind = .function) : codeAny (model prog w) A (.call (.ref f) args) R s := by
  obtain ⟨FG, BG, st, lv⟩ := groundX (R := R) B F News.nil hA hf hke
  refine codeAny_call_function hroom ((X₀.keeps F.keep) _ _ ho) rfl hco hgen rfl (codeRec_of (X₀.keeps F.keep) hcd) (hbind _ _ _ _ ?_)
  refine wpAny_newFunctionEnv_cells hk (kindsX hkind _) fun env' he s' x => ?_
  subst he
  refine ⟨(T.nolimit.keeps F.keep).keeps x.toInCall.keep, codeAny_func ?_⟩
  obtain ⟨h₁, tk, rfl, _⟩ := x.done
  have hk₁ := x.toInCall.keep
  obtain ⟨cells, NC, Y⟩ := Cl.news (h₀ := s.heap) (Nat.le_refl _) fun n c hm => ⟨x.cell n c (lookup_of_mem_nodup (cellsFrom_names scope.names 0 (s.heap.objs.size + 1) [] [] rfl ▸ hnd) hm), x.above n c hm⟩
  exact h s.heap.objs.size h₁ tk cells ⟨x.toInCall.ns, hk₁, Nat.le_refl _⟩ NC Y BG (X₀.keeps F.keep) (T.keeps F.keep)
end
theorem Does.use {k : Nat} {w : World} {mean : ExcName → Option Value} {mg mb : Str → Option Value} {f : Addr} {vs : List Value} {kw : List (Str × Value)} {Pre : Heap → Prop} {Post : Heap → Value → Heap → Prop}
    (D : Does k w mean mg mb f vs kw Pre Post) {dp un : Nat} {gd : Option (List Code)} {cn : Str} {cs : Scope} {a : Addr} {ccd : Value} {cl : List (Str × Addr)} {outer : List Env} {A₀ : Around} {base h₀ : Heap} {L : Addr} {m : Str → Option Value} {s : Shared} {Q E : Value → Shared → Prop} {news : List (Addr × Obj)}
    (B : Below A₀ base outer h₀) (F : Fr h₀ L s.heap m) (X : (hd.heap_39 w.params).In h₀) (N : News h₀ L s.heap news) (T : Top hd.view_39 looseL mean mg mb h₀) (hk : cs.kind = .function) (h1 : dp + k < recursionLimit) (h2 : un + 16 * k < cLine) (hp : Pre s.heap)
    (ret : ∀ r h' tk', Grows s.heap h' → Post s.heap r h' → Fr h₀ L h' m → News h₀ L h' news → Q r { s with heap := h', toks := tk' }) :
    wpAny (model PySem.Challenge.pw_qh0043_01 w) (ktrTop dp un gd cn cs L a ccd cl outer) (call (.ref f) vs kw) Q E s :=
  D dp un gd cn cs a ccd cl outer A₀ base h₀ L m s Q E B F X T hk h1 h2 hp fun r h' tk' g q => ret r h' tk' g q (F.keeps g) (N.grown g)

end
section -- Q3
open PySem.Calls PySem.Spec
theorem fill : PySem.Challenge.rw_qh0043_01 = PySem.Challenge.rw_qh0043_01 ∧ hd.heap_39 = hd.heap_39 := by k_fill; exact ⟨rfl, rfl⟩
local macro_rules | `(tactic| walk_at "mine enter") => `(tactic| ((case k6 => k_is); (case k7 => k_is); (case k8 => ktr_room); (case k9 => exact BindsTo.of_eq rfl); (case c5 => decide); (case kB => exact locs rfl); (case c2 => exact rfl); (case c3 => exact rfl); (case c4 => exact rfl); intro L' h₁ F' N' B' X' T'; (try dsimp only); (try k_fold)))
local macro_rules | `(tactic| walk_at "mine steps") => `(tactic| repeat' (first | (k_unfold; (try dsimp only)) | walk1 | (dsimp only; walk1) | (leave1; walk_say "STEP leave1"; try dsimp only)))
local macro_rules | `(tactic| walk_at "mine used") => `(tactic| ((case k1 => k_asm); (case k2 => k_asm); (case k3 => k_asm); (case k4 => k_asm); (case k5 => k_asm); (case k6 => first | exact rfl | assumption); (case k7 => ktr_room); (case k8 => ktr_units); (case k9 => first | exact trivial | assumption); intro r' h' tk' G' P' F' N'; (try k_sweep)))
local macro_rules | `(tactic| walk_at "call type:type") => `(tactic| ((with_reducible show wpAny _ _ (call _ [Value.bytes _ _]) _ _ _); refine call_type_of (Tx := "bytes") rfl (by decide +kernel) ?_))
variable {w : World} {mean : ExcName → Option Value} {mg mb : Str → Option Value}
theorem val_does (x : Int) (tx : Tok) (hx : 65 ≤ x ∧ x ≤ 67) : Does 1 w mean mg mb 84 [.int x tx] [] (fun _ => True) (fun _ r _ => ∃ t, r = .int (x - 65) t) := by
  w_on
  unfold Does; intro dp un gd cn cs a ccd cl outer A₀ base h₀ L m s Q E B F X T hk hdp hun hpre hret
  w_strict (
  refine wpAny_call ?_
  k_dflt (refine' enterP [(Str.ofString "c", .int x tx)] B F X T rfl rfl hk ?k6 ?k7 ?k8 ?k9 ?kB ?_ ?c2 ?c3 ?c4 ?c5; (walk_at "mine enter"))
  walk_at "mine steps")
  all_goals exact hret _ _ _ (Fr.keep (by assumption)) ⟨_, rfl⟩
theorem truth_does : Does 1 w mean mg mb 77 [.bool false] [] (fun _ => True) (fun _ r _ => r = .bool false) := by
  w_on
  unfold Does; intro dp un gd cn cs a ccd cl outer A₀ base h₀ L m s Q E B F X T hk hdp hun hpre hret
  w_strict (
  refine wpAny_call ?_
  k_dflt (refine' enterP [(Str.ofString "x", .bool false)] B F X T rfl rfl hk ?k6 ?k7 ?k8 ?k9 ?kB ?_ ?c2 ?c3 ?c4 ?c5; (walk_at "mine enter"))
  walk_at "mine steps")
  all_goals exact hret _ _ _ (Fr.keep (by assumption)) rfl
theorem asc_does (b : Array UInt8) (t : Tok) : Does 1 w mean mg mb 63 [.bytes b t] [] (fun _ => True) (fun _ r _ => r = .bytes b t) := by
  w_on
  unfold Does; intro dp un gd cn cs a ccd cl outer A₀ base h₀ L m s Q E B F X T hk hdp hun hpre hret
  w_strict (
  refine wpAny_call ?_
  k_dflt (refine' enterP [(Str.ofString "data", .bytes b t)] B F X T rfl rfl hk ?k6 ?k7 ?k8 ?k9 ?kB ?_ ?c2 ?c3 ?c4 ?c5; (walk_at "mine enter"))
  walk_at "mine steps")
  all_goals exact hret _ _ _ (Fr.keep (by assumption)) rfl
theorem buf_does (b : Array UInt8) (t : Tok) : Does 1 w mean mg mb 70 [.bytes b t] [] (fun _ => True) (fun _ r _ => r = .bytes b t) := by
  w_on
  unfold Does; intro dp un gd cn cs a ccd cl outer A₀ base h₀ L m s Q E B F X T hk hdp hun hpre hret
  w_strict (
  refine wpAny_call ?_
  k_dflt (refine' enterP [(Str.ofString "data", .bytes b t)] B F X T rfl rfl hk ?k6 ?k7 ?k8 ?k9 ?kB ?_ ?c2 ?c3 ?c4 ?c5; (walk_at "mine enter"))
  walk_at "mine steps")
  all_goals exact hret _ _ _ (Fr.keep (by assumption)) rfl
theorem bfd_does (b : Array UInt8) (t : Tok) : Does 1 w mean mg mb 43 [.bytes b t] [] (fun _ => True) (fun _ r _ => r = .bytes b t) := by
  w_on
  unfold Does; intro dp un gd cn cs a ccd cl outer A₀ base h₀ L m s Q E B F X T hk hdp hun hpre hret
  w_strict (
  refine wpAny_call ?_
  k_dflt (refine' enterP [(Str.ofString "s", .bytes b t)] B F X T rfl rfl hk ?k6 ?k7 ?k8 ?k9 ?kB ?_ ?c2 ?c3 ?c4 ?c5; (walk_at "mine enter"))
  walk_at "mine steps")
  all_goals exact hret _ _ _ (Fr.keep (by assumption)) rfl

end
section -- Q4
open PySem.Calls PySem.Spec
local macro_rules | `(tactic| walk_at "mine enter") => `(tactic| ((case k6 => k_is); (case k7 => k_is); (case k8 => ktr_room); (case k9 => first | exact BindsTo.of_eq rfl | exact binds_K (by k_in) rfl (by k_is) rfl rfl rfl); (case c5 => decide); (case kB => exact locs rfl); (case c2 => exact rfl); (case c3 => exact rfl); (case c4 => exact rfl); intro L' h₁ F' N' B' X' T'; (try dsimp only); (try k_fold)))
local macro_rules | `(tactic| walk_at "mine steps") => `(tactic| repeat' (first | (k_unfold; (try dsimp only)) | (walk_at "mine first") | walk1 | (dsimp only [List.cons_append, List.nil_append]; walk1) | (leave1; walk_say "STEP leave1"; try dsimp only)))
local macro_rules | `(tactic| walk_at "mine used") => `(tactic| ((case k1 => k_asm); (case k2 => k_asm); (case k3 => k_asm); (case k4 => k_asm); (case k5 => k_asm); (case k6 => first | exact rfl | assumption); (case k7 => ktr_room); (case k8 => ktr_units); (case k9 => first | exact trivial | assumption); intro r' h' tk' G' P' F' N'; (try k_sweep)))
local macro_rules | `(tactic| walk_at "call type:type") => `(tactic| ((with_reducible show wpAny _ _ (call _ [Value.bytes _ _]) _ _ _); refine call_type_of (Tx := "bytes") rfl (by decide +kernel) ?_))
local macro_rules | `(tactic| walk_at "ite") => `(tactic| first | refine PySem.W.ite_neg (by (try simp only [decide_eq_true_eq, beq_iff_eq, bne_iff_ne, Bool.not_eq_true, decide_eq_false_iff_not]); omega) ?_ | refine PySem.W.ite_pos (by (try simp only [decide_eq_true_eq, beq_iff_eq, bne_iff_ne, Bool.not_eq_true, decide_eq_false_iff_not]); omega) ?_)
local macro_rules | `(tactic| walk_at "exec If") => `(tactic| refine wpAny_If ?_)
variable {w : World} {mean : ExcName → Option Value} {mg mb : Str → Option Value}

theorem fill2 : PySem.Challenge.rw_qh0043_01 = PySem.Challenge.rw_qh0043_01 ∧ hd.heap_39 = hd.heap_39 := by k_fill; exact ⟨rfl, rfl⟩

theorem bInts_of : ∀ {ns : List Int}, (∀ n ∈ ns, 0 ≤ n ∧ n < 256) → KBw.bInts (ns.map fun n => n.toNat.toUInt8).toArray = ns
  | [], _ => rfl
  | n :: r, h => by
    have ih := bInts_of (ns := r) fun x hx => h x (.tail _ hx)
    have hn := byte_back (h n (.head _)).1 (h n (.head _)).2
    simp only [KBw.bInts, List.map_cons, List.map_map] at ih ⊢
    rw [hn]
    exact congrArg _ ih
theorem bytes_of {A : Around} {s : Shared} {E : Value → Shared → Prop} {h₀ : Heap} {L l : Addr} {m : Str → Option Value} {news : List (Addr × Obj)} {its : Array Value} {n : Nat} {vs : List Value} {Q : Value → Shared → Prop} (ns : List Int)
    (F : Fr h₀ L s.heap m) (N : News h₀ L s.heap news) (hm : (l, W.listOf its n) ∈ news) (hv : its = vs.toArray) (hi : IntsAre vs ns) (hr : ∀ n ∈ ns, 0 ≤ n ∧ n < 256) (hz : vs.length ≤ sizeLine) (hh : A.handled = none)
    (h : ∀ h' b t k, Fr h₀ L h' m → News h₀ L h' news → KBw.bInts b = ns → Q (.bytes b t) { s with heap := h', toks := k }) : wpAny (model PySem.Challenge.pw_qh0043_01 w) A (call (.type "bytes") [.ref l]) Q E s := by
  subst hv
  exact bytes_K F N (N.isList hm) hi hr hz hh fun h' t k F' N' _ => h h' _ t k F' N' (bInts_of hr)

theorem bytes3 {A : Around} {s : Shared} {E : Value → Shared → Prop} {h₀ : Heap} {L l : Addr} {m : Str → Option Value} {news : List (Addr × Obj)} {its : Array Value} {n : Nat} {a b c : Int} {ta tb tc : Tok} {Q : Value → Shared → Prop}
    (F : Fr h₀ L s.heap m) (N : News h₀ L s.heap news) (hm : (l, W.listOf its n) ∈ news) (hv : its = #[.int a ta, .int b tb, .int c tc]) (hr : (0 ≤ a ∧ a < 256) ∧ (0 ≤ b ∧ b < 256) ∧ (0 ≤ c ∧ c < 256)) (hh : A.handled = none)
    (h : ∀ h' b' t k, Fr h₀ L h' m → News h₀ L h' news → KBw.bInts b' = [a, b, c] → Q (.bytes b' t) { s with heap := h', toks := k }) : wpAny (model PySem.Challenge.pw_qh0043_01 w) A (call (.type "bytes") [.ref l]) Q E s :=
  bytes_of (vs := [.int a ta, .int b tb, .int c tc]) [a, b, c] F N hm hv (.cons _ _ (.cons _ _ (.cons _ _ .nil))) (by simp only [List.forall_mem_cons, List.not_mem_nil, false_implies, implies_true, and_true]; omega) (Nat.le_of_ble_eq_true rfl) hh h
theorem bytes4 {A : Around} {s : Shared} {E : Value → Shared → Prop} {h₀ : Heap} {L l : Addr} {m : Str → Option Value} {news : List (Addr × Obj)} {its : Array Value} {n : Nat} {a b c d : Int} {ta tb tc td : Tok} {Q : Value → Shared → Prop}
    (F : Fr h₀ L s.heap m) (N : News h₀ L s.heap news) (hm : (l, W.listOf its n) ∈ news) (hv : its = #[.int a ta, .int b tb, .int c tc, .int d td]) (hr : (0 ≤ a ∧ a < 256) ∧ (0 ≤ b ∧ b < 256) ∧ (0 ≤ c ∧ c < 256) ∧ (0 ≤ d ∧ d < 256)) (hh : A.handled = none)
    (h : ∀ h' b' t k, Fr h₀ L h' m → News h₀ L h' news → KBw.bInts b' = [a, b, c, d] → Q (.bytes b' t) { s with heap := h', toks := k }) : wpAny (model PySem.Challenge.pw_qh0043_01 w) A (call (.type "bytes") [.ref l]) Q E s :=
  bytes_of (vs := [.int a ta, .int b tb, .int c tc, .int d td]) [a, b, c, d] F N hm hv (.cons _ _ (.cons _ _ (.cons _ _ (.cons _ _ .nil)))) (by simp only [List.forall_mem_cons, List.not_mem_nil, false_implies, implies_true, and_true]; omega) (Nat.le_of_ble_eq_true rfl) hh h

theorem three {x : Int} (h : 0 ≤ x ∧ x ≤ 2) : x = 0 ∨ x = 1 ∨ x = 2 := by omega
theorem sh0 {x : Int} (hx : 0 ≤ x ∧ x ≤ 2) : x * 2 ^ Int.toNat 2 = 4 * x := by rcases three hx with rfl | rfl | rfl <;> decide +kernel
theorem sh1 {x : Int} (hx : 0 ≤ x ∧ x ≤ 2) : x * 2 ^ Int.toNat 4 = 16 * x := by rcases three hx with rfl | rfl | rfl <;> decide +kernel
theorem sh2 {x : Int} (hx : 0 ≤ x ∧ x ≤ 2) : x * 2 ^ Int.toNat 6 = 64 * x := by rcases three hx with rfl | rfl | rfl <;> decide +kernel
theorem rs0 {x : Int} (hx : 0 ≤ x ∧ x ≤ 2) : x.fdiv (2 ^ Int.toNat 4) = 0 := by rcases three hx with rfl | rfl | rfl <;> decide +kernel
theorem rs1 {x : Int} (hx : 0 ≤ x ∧ x ≤ 2) : x.fdiv (2 ^ Int.toNat 2) = 0 := by rcases three hx with rfl | rfl | rfl <;> decide +kernel
theorem an0 {x : Int} (hx : 0 ≤ x ∧ x ≤ 2) : Builtin.bitAnd x 15 = x := by rcases three hx with rfl | rfl | rfl <;> decide +kernel
theorem an1 {x : Int} (hx : 0 ≤ x ∧ x ≤ 2) : Builtin.bitAnd x 3 = x := by rcases three hx with rfl | rfl | rfl <;> decide +kernel
theorem or0 {x : Int} (hx : 0 ≤ x ∧ x ≤ 2) : Builtin.bitOr (4 * x) 0 = 4 * x := by rcases three hx with rfl | rfl | rfl <;> decide +kernel
theorem or1 {x : Int} (hx : 0 ≤ x ∧ x ≤ 2) : Builtin.bitOr (16 * x) 0 = 16 * x := by rcases three hx with rfl | rfl | rfl <;> decide +kernel
theorem or2 {x : Int} (hx : 0 ≤ x ∧ x ≤ 2) : Builtin.bitOr (64 * x) (65 - 65) = 64 * x := by rcases three hx with rfl | rfl | rfl <;> decide +kernel
section
variable {A : Around} {E : Value → Shared → Prop} {s : Shared} {Q : Value → Shared → Prop} {a b c : Int} {t u : Tok}
theorem andE (e : Builtin.bitAnd a b = c) (h : Q (.int c s.toks) { s with toks := s.toks + 1 }) : wpAny (model PySem.Challenge.pw_qh0043_01 w) A (binaryOp .BitAnd (.int a t) (.int b u)) Q E s := and_int (e ▸ h)
theorem orE (e : Builtin.bitOr a b = c) (h : Q (.int c s.toks) { s with toks := s.toks + 1 }) : wpAny (model PySem.Challenge.pw_qh0043_01 w) A (binaryOp .BitOr (.int a t) (.int b u)) Q E s := or_int (e ▸ h)
theorem shlE (hn : 0 ≤ b) (hn2 : b ≤ 1000000) (ha : a.natAbs < 2 ^ 64) (e : a * 2 ^ b.toNat = c) (h : Q (.int c s.toks) { s with toks := s.toks + 1 }) : wpAny (model PySem.Challenge.pw_qh0043_01 w) A (binaryOp .LShift (.int a t) (.int b u)) Q E s := lshift_int_small hn hn2 ha (e ▸ h)
theorem shrE (hn : 0 ≤ b) (e : a.fdiv (2 ^ b.toNat) = c) (h : Q (.int c s.toks) { s with toks := s.toks + 1 }) : wpAny (model PySem.Challenge.pw_qh0043_01 w) A (binaryOp .RShift (.int a t) (.int b u)) Q E s := rshift_int hn (e ▸ h)
end
local macro_rules | `(tactic| walk_at "binaryOp BitAnd int int") => `(tactic| (refine' andE ?e ?_; (case e => first | ((with_reducible refine an0 ?_); omega) | ((with_reducible refine an1 ?_); omega))))
local macro_rules | `(tactic| walk_at "binaryOp BitOr int int") => `(tactic| (refine' orE ?e ?_; (case e => first | ((with_reducible refine or0 ?_); omega) | ((with_reducible refine or1 ?_); omega) | ((with_reducible refine or2 ?_); omega))))
local macro_rules | `(tactic| walk_at "binaryOp LShift int int") => `(tactic| (refine' shlE ?n1 ?n2 ?n3 ?e ?_; (case n1 => decide); (case n2 => decide); (case n3 => omega); (case e => first | ((with_reducible refine sh0 ?_); omega) | ((with_reducible refine sh1 ?_); omega) | ((with_reducible refine sh2 ?_); omega))))
local macro_rules | `(tactic| walk_at "binaryOp RShift int int") => `(tactic| (refine' shrE ?n1 ?e ?_; (case n1 => decide); (case e => first | ((with_reducible refine rs0 ?_); omega) | ((with_reducible refine rs1 ?_); omega))))
local macro_rules | `(tactic| walk_at "mine first") => `(tactic| (k_here; (with_reducible show wpAny _ _ (call (Value.ref 84) _ _) _ _ _); k_dflt (refine' Does.use (val_does _ _ ?pp) ?k1 ?k2 ?k3 ?k4 ?k5 ?k6 ?k7 ?k8 ?k9 ?_; (case pp => omega); (walk_at "mine used"); rename_i r9 h9 tk9 G9 P9 F9 N9; obtain ⟨t9, e9⟩ := P9; subst e9)))
local macro_rules | `(tactic| walk_at "mine first") => `(tactic| (k_here; (with_reducible show wpAny _ _ (call (Value.ref 77) _ _) _ _ _); k_dflt (refine' Does.use truth_does ?k1 ?k2 ?k3 ?k4 ?k5 ?k6 ?k7 ?k8 ?k9 ?_; (walk_at "mine used"); rename_i r9 h9 tk9 G9 P9 F9 N9; (try dsimp only at P9); subst P9)))
local macro_rules | `(tactic| walk_at "mine first") => `(tactic| (k_here; (with_reducible show wpAny _ _ (call (Value.ref 63) _ _) _ _ _); k_dflt (refine' Does.use (asc_does _ _) ?k1 ?k2 ?k3 ?k4 ?k5 ?k6 ?k7 ?k8 ?k9 ?_; (walk_at "mine used"); rename_i r9 h9 tk9 G9 P9 F9 N9; (try dsimp only at P9); subst P9)))
local macro_rules | `(tactic| walk_at "mine first") => `(tactic| ((with_reducible show wpAny _ _ (call (Value.type "bytes") _ _) _ _ _); (try dsimp only [List.cons_append, List.nil_append]); (refine' bytes3 ?F ?N ?m ?v ?r rfl ?_); (case F => assumption); (case N => assumption); (case m => k_mem); (case v => rfl); (case r => omega); intro h' b' t' k' F' N' hb'))

end
section -- Q5
open PySem.Calls PySem.Spec
local macro_rules | `(tactic| walk_at "mine enter") => `(tactic| ((case k6 => k_is); (case k7 => k_is); (case k8 => ktr_room); (case k9 => first | exact BindsTo.of_eq rfl | exact binds_K (by k_in) rfl (by k_is) rfl rfl rfl); (case c5 => decide); (case kB => exact locs rfl); (case c2 => exact rfl); (case c3 => exact rfl); (case c4 => exact rfl); intro L' h₁ F' N' B' X' T'; (try dsimp only); (try k_fold)))
local macro_rules | `(tactic| walk_at "mine steps") => `(tactic| repeat' (first | (k_unfold; (try dsimp only)) | (walk_at "mine first") | (dsimp only [List.cons_append, List.nil_append, Int.reduceAdd, Int.reduceSub]; walk1) | walk1 | (leave1; walk_say "STEP leave1"; try dsimp only)))
local macro_rules | `(tactic| walk_at "mine used") => `(tactic| ((case k1 => k_asm); (case k2 => k_asm); (case k3 => k_asm); (case k4 => k_asm); (case k5 => k_asm); (case k6 => first | exact rfl | assumption); (case k7 => ktr_room); (case k8 => ktr_units); (case k9 => first | exact trivial | assumption); intro r' h' tk' G' P' F' N'; (try k_sweep)))
local macro_rules | `(tactic| walk_at "call type:type") => `(tactic| ((with_reducible show wpAny _ _ (call _ [Value.bytes _ _]) _ _ _); refine call_type_of (Tx := "bytes") rfl (by decide +kernel) ?_))
local macro_rules | `(tactic| walk_at "ite") => `(tactic| first | refine PySem.W.ite_neg (by (try simp only [decide_eq_true_eq, beq_iff_eq, bne_iff_ne, Bool.not_eq_true, decide_eq_false_iff_not]); omega) ?_ | refine PySem.W.ite_pos (by (try simp only [decide_eq_true_eq, beq_iff_eq, bne_iff_ne, Bool.not_eq_true, decide_eq_false_iff_not]); omega) ?_)
local macro_rules | `(tactic| walk_at "exec If") => `(tactic| refine wpAny_If ?_)
variable {w : World} {mean : ExcName → Option Value} {mg mb : Str → Option Value}

theorem fill3 : PySem.Challenge.rw_qh0043_01 = PySem.Challenge.rw_qh0043_01 ∧ hd.heap_39 = hd.heap_39 := by k_fill; exact ⟨rfl, rfl⟩
section
variable {x y z : Int} (hx : 0 ≤ x ∧ x ≤ 2) (hy : 0 ≤ y ∧ y ≤ 2) (hz : 0 ≤ z ∧ z ≤ 2)
include hx
theorem eo1 : Builtin.bitOr (0 * 2 ^ Int.toNat 8) (4 * x) = 4 * x := by rcases three hx with rfl | rfl | rfl <;> decide +kernel
theorem ea1 : Builtin.bitAnd (4 * x) 65535 = 4 * x := by rcases three hx with rfl | rfl | rfl <;> decide +kernel
theorem er1 : (4 * x).fdiv (2 ^ Int.toNat 2) = x := by rcases three hx with rfl | rfl | rfl <;> decide +kernel
theorem em1 : Builtin.bitAnd x 63 = x := by rcases three hx with rfl | rfl | rfl <;> decide +kernel
include hy
theorem eo2 : Builtin.bitOr (4 * x * 2 ^ Int.toNat 8) (16 * y) = 1024 * x + 16 * y := by rcases three hx with rfl | rfl | rfl <;> rcases three hy with rfl | rfl | rfl <;> decide +kernel
theorem ea2 : Builtin.bitAnd (1024 * x + 16 * y) 65535 = 1024 * x + 16 * y := by rcases three hx with rfl | rfl | rfl <;> rcases three hy with rfl | rfl | rfl <;> decide +kernel
theorem er2 : (1024 * x + 16 * y).fdiv (2 ^ Int.toNat 4) = 64 * x + y := by rcases three hx with rfl | rfl | rfl <;> rcases three hy with rfl | rfl | rfl <;> decide +kernel
theorem em2 : Builtin.bitAnd (64 * x + y) 63 = y := by rcases three hx with rfl | rfl | rfl <;> rcases three hy with rfl | rfl | rfl <;> decide +kernel
theorem er3 : (4096 * x + 64 * y).fdiv (2 ^ Int.toNat 6) = 64 * x + y := by rcases three hx with rfl | rfl | rfl <;> rcases three hy with rfl | rfl | rfl <;> decide +kernel
theorem er4 : (4096 * x + 64 * y).fdiv (2 ^ Int.toNat 0) = 4096 * x + 64 * y := by rcases three hx with rfl | rfl | rfl <;> rcases three hy with rfl | rfl | rfl <;> decide +kernel
theorem em4 : Builtin.bitAnd (4096 * x + 64 * y) 63 = 0 := by rcases three hx with rfl | rfl | rfl <;> rcases three hy with rfl | rfl | rfl <;> decide +kernel
include hz
theorem eo3 : Builtin.bitOr ((1024 * x + 16 * y) * 2 ^ Int.toNat 8) (64 * z) = 262144 * x + 4096 * y + 64 * z := by rcases three hx with rfl | rfl | rfl <;> rcases three hy with rfl | rfl | rfl <;> rcases three hz with rfl | rfl | rfl <;> decide +kernel
theorem ea3 : Builtin.bitAnd (262144 * x + 4096 * y + 64 * z) 65535 = 4096 * y + 64 * z := by rcases three hx with rfl | rfl | rfl <;> rcases three hy with rfl | rfl | rfl <;> rcases three hz with rfl | rfl | rfl <;> decide +kernel
end
local macro_rules | `(tactic| walk_at "mine first") => `(tactic| ((with_reducible show wpAny _ _ (binaryOp Operator.BitAnd _ _) _ _ _); (try dsimp only); (refine' andE ?e ?_; (case e => first | ((with_reducible refine ea1 ?_) <;> omega) | ((with_reducible refine ea3 ?_ ?_ ?_) <;> omega) | ((with_reducible refine ea2 ?_ ?_) <;> omega) | ((with_reducible refine em4 ?_ ?_) <;> omega) | ((with_reducible refine em2 ?_ ?_) <;> omega) | ((with_reducible refine em1 ?_) <;> omega)))))
local macro_rules | `(tactic| walk_at "mine first") => `(tactic| ((with_reducible show wpAny _ _ (binaryOp Operator.BitOr _ _) _ _ _); (try dsimp only); (refine' orE ?e ?_; (case e => first | ((with_reducible refine eo1 ?_) <;> omega) | ((with_reducible refine eo3 ?_ ?_ ?_) <;> omega) | ((with_reducible refine eo2 ?_ ?_) <;> omega)))))
local macro_rules | `(tactic| walk_at "mine first") => `(tactic| ((with_reducible show wpAny _ _ (binaryOp Operator.LShift _ _) _ _ _); (try dsimp only); (refine' shlE ?n1 ?n2 ?n3 ?e ?_; (case n1 => decide); (case n2 => decide); (case n3 => omega); (case e => exact rfl))))
local macro_rules | `(tactic| walk_at "mine first") => `(tactic| ((with_reducible show wpAny _ _ (binaryOp Operator.RShift _ _) _ _ _); (try dsimp only [Int.reduceSub]); (refine' shrE ?n1 ?e ?_; (case n1 => decide); (case e => first | ((with_reducible refine er1 ?_) <;> omega) | ((with_reducible refine er3 ?_ ?_) <;> omega) | ((with_reducible refine er4 ?_ ?_) <;> omega) | ((with_reducible refine er2 ?_ ?_) <;> omega)))))
local macro_rules | `(tactic| walk_at "mine first") => `(tactic| ((with_reducible show wpAny _ _ (call (Value.ref 77) _ _) _ _ _); k_dflt (refine' Does.use truth_does ?k1 ?k2 ?k3 ?k4 ?k5 ?k6 ?k7 ?k8 ?k9 ?_; (walk_at "mine used"); rename_i r9 h9 tk9 G9 P9 F9 N9; (try dsimp only at P9); subst P9)))
local macro_rules | `(tactic| walk_at "mine first") => `(tactic| ((with_reducible show wpAny _ _ (call (Value.ref 70) _ _) _ _ _); k_dflt (refine' Does.use (buf_does _ _) ?k1 ?k2 ?k3 ?k4 ?k5 ?k6 ?k7 ?k8 ?k9 ?_; (walk_at "mine used"); rename_i r9 h9 tk9 G9 P9 F9 N9; (try dsimp only at P9); subst P9)))
local macro_rules | `(tactic| walk_at "mine first") => `(tactic| ((with_reducible show wpAny _ _ (call (Value.type "bytes") _ _) _ _ _); (try dsimp only [List.cons_append, List.nil_append]); (refine' bytes4 ?F ?N ?m ?v ?r rfl ?_); (case F => assumption); (case N => assumption); (case m => k_mem); (case v => rfl); (case r => omega); intro h' b' t' k' F' N' hb'))
theorem b64_item {A : Around} {E : Value → Shared → Prop} {s : Shared} {Q : Value → Shared → Prop} {l : List UInt8} {value slice : Expr} {i : Int} {ui t : Tok} (hi : 0 ≤ i ∧ i ≤ 2) (hl : l.length = 64) (e0 : l.getD 0 0 = 65) (e1 : l.getD 1 0 = 66) (e2 : l.getD 2 0 = 67)
    (h : Q (.int (65 + i) s.toks) { s with toks := s.toks + 1 })
    (hs : subscripted slice false (.bytes l.toArray t) (.int i ui) = operate [.bytes l.toArray t, .int i ui] (getItem (.bytes l.toArray t) (.int i ui)))
    (ht : ∀ r, letTemporaryGo value (.bytes l.toArray t) r = pure ()) : wpAny (model PySem.Challenge.pw_qh0043_01 w) A (subscriptTail value slice (.bytes l.toArray t) (.int i ui)) Q E s := by
  refine bytes_item_K (by omega) hi.1 (by omega) ?_ h hs ht
  rcases three hi with rfl | rfl | rfl
  · show (((l.getD 0 0).toNat : Nat) : Int) = _; rw [e0]; rfl
  · show (((l.getD 1 0).toNat : Nat) : Int) = _; rw [e1]; rfl
  · show (((l.getD 2 0).toNat : Nat) : Int) = _; rw [e2]; rfl
local macro_rules | `(tactic| walk_at "mine first") => `(tactic| ((with_reducible show wpAny _ _ (subscriptTail _ _ (Value.bytes _ _) _) _ _ _); (try dsimp only); (refine' b64_item ?i ?l ?a ?b ?c ?_ ?x ?y); (case i => omega); (case l => rfl); (case a => rfl); (case b => rfl); (case c => rfl); (case x => with_unfolding_all rfl); (case y => intro _; with_unfolding_all rfl)))
local macro_rules | `(tactic| walk_at "mine first") => `(tactic| ((with_reducible show wpAny _ _ (pyIter (Value.bytes _ _)) _ _ _); (try dsimp only); k_here; k_bytesUnr))
theorem b2a_does {b : Array UInt8} {x y z : Int} (t : Tok) (hb : KBw.bInts b = [4 * x, 16 * y, 64 * z]) (hx : 0 ≤ x ∧ x ≤ 2) (hy : 0 ≤ y ∧ y ≤ 2) (hz : 0 ≤ z ∧ z ≤ 2) :
    Does 2 w mean mg mb 100 [.bytes b t] [(Str.ofString "newline", .bool false)] (fun _ => True) (fun _ r _ => ∃ b t, r = .bytes b t ∧ KBw.bInts b = [65 + x, 65 + y, 65 + z, 65]) := by
  w_on
  unfold Does; intro dp un gd cn cs a ccd cl outer A₀ base h₀ L m s Q E B F X T hk hdp hun hpre hret
  w_strict (
  refine wpAny_call ?_
  k_dflt (refine' enterP [(Str.ofString "data", .bytes b t), (Str.ofString "newline", .bool false)] B F X T rfl rfl hk ?k6 ?k7 ?k8 ?k9 ?kB ?_ ?c2 ?c3 ?c4 ?c5; (walk_at "mine enter"))
  walk_at "mine steps")
  exact hret _ _ _ (Fr.keep (by assumption)) ⟨_, _, rfl, by assumption⟩

local macro_rules | `(tactic| walk_at "mine first") => `(tactic| ((with_reducible show wpAny _ _ (call (Value.ref 100) _ _) _ _ _); k_dflt (refine' Does.use (b2a_does _ ?b1 ?b2 ?b3 ?b4) ?k1 ?k2 ?k3 ?k4 ?k5 ?k6 ?k7 ?k8 ?k9 ?_; (case b1 => assumption); (case b2 => assumption); (case b3 => assumption); (case b4 => assumption); (walk_at "mine used"); rename_i r9 h9 tk9 G9 P9 F9 N9; obtain ⟨b9, t9, e9, q9⟩ := P9; subst e9)))
theorem b64e_does {b : Array UInt8} {x y z : Int} (t : Tok) (hb : KBw.bInts b = [4 * x, 16 * y, 64 * z]) (hx : 0 ≤ x ∧ x ≤ 2) (hy : 0 ≤ y ∧ y ≤ 2) (hz : 0 ≤ z ∧ z ≤ 2) :
    Does 3 w mean mg mb 108 [.bytes b t] [] (fun _ => True) (fun _ r _ => ∃ b t, r = .bytes b t ∧ KBw.bInts b = [65 + x, 65 + y, 65 + z, 65]) := by
  w_on
  unfold Does; intro dp un gd cn cs a ccd cl outer A₀ base h₀ L m s Q E B F X T hk hdp hun hpre hret
  w_strict (
  refine wpAny_call ?_
  k_dflt (refine' enterP [(Str.ofString "s", .bytes b t), (Str.ofString "altchars", .none)] B F X T rfl rfl hk ?k6 ?k7 ?k8 ?k9 ?kB ?_ ?c2 ?c3 ?c4 ?c5; (walk_at "mine enter"))
  walk_at "mine steps")
  exact hret _ _ _ (Fr.keep (by assumption)) ⟨_, _, rfl, by assumption⟩

end
section -- Q6
open PySem.Calls PySem.Spec
local macro_rules | `(tactic| walk_at "mine enter") => `(tactic| ((case k6 => k_is); (case k7 => k_is); (case k8 => ktr_room); (case k9 => first | exact BindsTo.of_eq rfl | exact binds_K (by k_in) rfl (by k_is) rfl rfl rfl); (case c5 => decide); (case kB => exact locs rfl); (case c2 => exact rfl); (case c3 => exact rfl); (case c4 => exact rfl); intro L' h₁ F' N' B' X' T'; (try dsimp only); (try k_fold)))
local macro_rules | `(tactic| walk_at "mine steps") => `(tactic| repeat' (first | (k_unfold; (try dsimp only)) | (walk_at "mine first") | (dsimp only [List.cons_append, List.nil_append, Int.reduceAdd, Int.reduceSub]; walk1) | walk1 | (leave1; walk_say "STEP leave1"; try dsimp only)))
local macro_rules | `(tactic| walk_at "mine used") => `(tactic| ((case k1 => k_asm); (case k2 => k_asm); (case k3 => k_asm); (case k4 => k_asm); (case k5 => k_asm); (case k6 => first | exact rfl | assumption); (case k7 => ktr_room); (case k8 => ktr_units); (case k9 => first | exact trivial | assumption); intro r' h' tk' G' P' F' N'; (try k_sweep)))
local macro_rules | `(tactic| walk_at "call type:type") => `(tactic| ((with_reducible show wpAny _ _ (call _ [Value.bytes _ _]) _ _ _); refine call_type_of (Tx := "bytes") rfl (by decide +kernel) ?_))
local macro_rules | `(tactic| walk_at "ite") => `(tactic| first | refine PySem.W.ite_neg (by (try simp only [decide_eq_true_eq, beq_iff_eq, bne_iff_ne, Bool.not_eq_true, decide_eq_false_iff_not]); omega) ?_ | refine PySem.W.ite_pos (by (try simp only [decide_eq_true_eq, beq_iff_eq, bne_iff_ne, Bool.not_eq_true, decide_eq_false_iff_not]); omega) ?_)
local macro_rules | `(tactic| walk_at "exec If") => `(tactic| refine wpAny_If ?_)
local macro_rules | `(tactic| walk_at "mine first") => `(tactic| ((with_reducible show wpAny _ _ (eval (Expr.ListComp _ _ _ _) _) _ _ _); k_dflt (first | (lct_look; refine LCt.ListComp_T (F₀ := by k_asm) (by with_unfolding_all rfl) (by decide) (by rfl) (by decide) (by rfl) ?_) | (refine LCg.ListComp_U (F₀ := by k_asm) (by with_unfolding_all rfl) (by decide) (by rfl) (by decide) (by rfl) ?_))))
local macro_rules | `(tactic| walk_at "mine first") => `(tactic| ((with_reducible show LCg.CompEnd _ _ _ _ _ _ _ _ _ _ _ _ _ _); (refine LCg.CompEnd.intro (by assumption) (by assumption) _ (fun _ hp => hp) (by assumption) (by lcg_src) ?_)))
local macro_rules | `(tactic| walk_at "mine first") => `(tactic| ((with_reducible show LCg.CompRest _ _ _ _ _ _ _ _ _ _ _ _ _ _ _ _ _ _ _); with_unfolding_all first
  | (refine LCg.CompRest.succ ?_; intro v' I' oI' C' oC' D' m' h' tk' E' hv' hC' hx' F' N' off' ne'; (first | lcg_open hv' | (obtain ⟨t9', hv9'⟩ := hv'; subst hv9')))
  | refine LCg.CompRest.zero ?_))
local macro_rules | `(tactic| walk_at "mine first") => `(tactic| ((with_reducible show LCt.CompRestT _ _ _ _ _ _ _ _ _ _ _ _ _ _ _ _ _ _ _ _); with_unfolding_all first
  | (refine LCt.CompRestT.succ ?_; intro v' I' oI' C' oC' D' m' h' tk' E' hv' hC' hx' F' N' off' ne'; (first | lcg_open hv' | (obtain ⟨t9', hv9'⟩ := hv'; subst hv9')))
  | refine LCt.CompRestT.zero ?_))
local macro_rules | `(tactic| walk_at "mine first") => `(tactic| ((with_reducible show wpAny _ _ (eval (Expr.Name _ _) (envX _ _ _ _ _ _)) _ _ _); k_dflt (refine' nameX_L ?F ?v ?_ ?a ?b; (case F => k_asm); (case a => rfl); (case b => rfl); (case v => rfl); k_whole)))
local macro_rules | `(tactic| walk_at "mine first") => `(tactic| ((with_reducible show wpAny _ _ (eval (Expr.Name _ _) (compEnvC _ _ _ _)) _ _ _); k_dflt (first
  | (refine' LCgL.ld_own ?N ?m ?c ?x ?_ ?a ?b; (case a => rfl); (case b => rfl); (case N => k_asm); (case m => exact List.Mem.tail _ (List.Mem.head _)); (case c => assumption); (case x => assumption))
  | (refine' lcf_cell ?N ?c ?m ?d ?_ ?a ?b; (case a => rfl); (case b => rfl); (case N => k_asm); (case c => rfl); (case m => k_mem); (case d => k_asm); k_whole))))
local macro_rules | `(tactic| walk_at "mine enterC") => `(tactic| ((case k6 => k_is); (case k7 => k_is); (case k8 => ktr_room); (case k9 => first | exact BindsTo.of_eq rfl | exact binds_K (by k_in) rfl (by k_is) rfl rfl rfl); (case kB => exact rfl); (case kD => decide +kernel); (case c2 => exact rfl); (case c3 => exact rfl); (case c4 => exact rfl); intro L' h₁ tk' cells' F' N' Y' B' X' T'; k_cells Y'; (try dsimp only); (try k_fold)))
variable {w : World} {mean : ExcName → Option Value} {mg mb : Str → Option Value}

theorem fill4 : PySem.Challenge.rw_qh0043_01 = PySem.Challenge.rw_qh0043_01 ∧ hd.heap_39 = hd.heap_39 := by k_fill; exact ⟨rfl, rfl⟩
/-- a new list of ints comes back -/
def NewInts (h : Heap) (ns : List Int) (r : Value) (h' : Heap) : Prop := ∃ l its n, r = .ref l ∧ h.get? l = none ∧ h'.get? l = some (W.listOf its n) ∧ IntsAre its.toList ns
theorem NewInts.of {h₀ h : Heap} {L l : Addr} {news : List (Addr × Obj)} {its : Array Value} {n : Nat} {ns : List Int} (N : News h₀ L h news) (hm : (l, W.listOf its n) ∈ news) (hi : IntsAre its.toList ns) : NewInts h₀ ns (.ref l) h := ⟨l, its, n, rfl, (N _ hm).2.2, (N _ hm).1, hi⟩
def rowOf (a b : Int) : List Int := [a] ++ ([b].filter fun c => c != a) ++ ([0, 1, 2].filter fun c => c != a && c != b)

end
section -- Q7
open PySem.Calls PySem.Spec
section
variable {prog : Program} {w : World} {A : Around} {E : Value → Shared → Prop} {s : Shared} {env : Env} {h₀ : Heap} {x : Str} {body : List Stmt} {Q : Flow → Shared → Prop}
/-- the turns of a for over a list that stood before the call -/
noncomputable def BaseRest (prog : Program) (w : World) (A : Around) (E : Value → Shared → Prop) (h₀ : Heap) (env : Env) (x : Str) (body : List Stmt) (Q : Flow → Shared → Prop) (s : Shared) (I : Addr) : List Value → (Str → Option Value) → List (Addr × Obj) → Prop
  | [], m, news => ∀ h tk, Fr h₀ env.locals h m → News h₀ env.locals h news → Q .next { s with heap := h, toks := tk }
  | v :: r, m, news => ∀ (it : Obj) h tk, Fr h₀ env.locals h (fun y => if y = x then some v else m y) → News h₀ env.locals h ((I, it) :: news) →
      wpAny (model prog w) A (execs body env) (UnrPost h₀ env.locals { s with heap := h, toks := tk } I it (BaseRest prog w A E h₀ env x body Q s I r) Q) E { s with heap := h, toks := tk }
theorem iter_base {ax : Addr} {vs : List Value} {m₀ : Str → Option Value} {news : List (Addr × Obj)}
    (hh : A.handled = none) (F : Fr h₀ env.locals s.heap m₀) (N : News h₀ env.locals s.heap news) (hb : h₀.IsList ax vs.toArray)
    (rest₀ : ∀ I : Addr, (∀ p ∈ news, p.1 < I) → BaseRest prog w A E h₀ env x body Q s I vs m₀ news) :
    wpAny (model prog w) A (pyIter (.ref ax)) (fun it s₂ => LoopAtV prog w A h₀ env x body Q E it s₂) E s := by
  have hl : s.heap.IsList ax vs.toArray := stays_list F.keep hb
  refine hideG ?_
  intro gk
  obtain ⟨oa, hoa, _⟩ := id hb
  k_unfold
  clear gk
  have hlt : ax < s.heap.objs.size := Heap.lt_size (F.keep _ _ hoa)
  have hne : ax ≠ s.heap.objs.size := Nat.ne_of_lt hlt
  refine wpAny_pyIter_list hl ?_
  have rest := rest₀ s.heap.objs.size fun p hp => Heap.lt_size (N p hp).1
  have W := Walks.list (prog := prog) (w := w) hh s.heap.objs.size ax hne vs.toArray
  have hnew := next_is_new F
  have hlen : vs.toArray.size = vs.length := by simp
  rw [hlen] at W
  let J : Nat → (Str → Option Value) → List (Addr × Obj) → Prop := fun i m₁ news₁ => BaseRest prog w A E h₀ env x body Q s s.heap.objs.size (vs.drop i) m₁ news₁
  have hJ0 : J 0 m₀ news := by
    show BaseRest prog w A E h₀ env x body Q s s.heap.objs.size (vs.drop 0) m₀ news
    rw [List.drop_zero]
    exact rest
  refine ⟨_, _, _, vs.length, _, _, m₀, news, J, rfl, W, ?_, ?_, ?_, ⟨⟨_, Heap.get?_push_size _ rfl, rfl, rfl⟩, hl.at fun o e => Heap.get?_push_of_some _ e⟩, F.push _, (fun p hp => ⟨Heap.get?_push_of_some _ (N p hp).1, (N p hp).2⟩), hJ0, ?_, ?_⟩
  · intro hmm
    rcases List.mem_cons.mp hmm with e | hmm
    · exact absurd F.ns.lt (e ▸ Nat.lt_irrefl _)
    · have := Heap.lt_size hoa
      rw [← List.mem_singleton.mp hmm] at this
      exact absurd (Nat.lt_of_lt_of_le this F.above) (Nat.lt_irrefl _)
  · intro b hb'
    rw [List.mem_singleton.mp hb']
    exact hnew
  · intro p hp hI
    exact absurd (Heap.lt_size (N p hp).1) ((List.mem_singleton.mp hI) ▸ Nat.lt_irrefl _)
  · intro i v m₁ news₁ s₁ own hR2 hin hP hJ hoff hown hget hall hst F₁ N₁
    refine hideG ?_
    intro gk
    obtain ⟨hh', tk', hE3⟩ := hR2
    k_unfold
    clear gk
    subst hE3
    refine hideG ?_
    intro gk
    obtain ⟨it, hit, hic, hid⟩ := hst.1
    k_unfold
    clear gk
    have hmemI := hall s.heap.objs.size (List.mem_cons_self ..) hnew _ hit
    have hdrop : vs.drop i = v :: vs.drop (i + 1) := by
      have hlt' : i < vs.length := hin
      have hv : vs[i]? = some v := by simpa using hP
      rw [List.drop_eq_getElem_cons hlt']
      congr 1
      exact Option.some.inj ((List.getElem?_eq_getElem hlt').symm.trans hv)
    have hJ' : BaseRest prog w A E h₀ env x body Q s s.heap.objs.size (vs.drop i) m₁ news₁ := hJ
    rw [hdrop] at hJ'
    have N₂ : News h₀ env.locals hh' ((s.heap.objs.size, it) :: news₁) := fun p hp => by
      rcases List.mem_cons.mp hp with rfl | hp
      · exact N₁ _ (List.mem_append_left _ hmemI)
      · exact N₁ _ (List.mem_append_right _ hp)
    refine wpAny_mono (hJ' it hh' tk' F₁ N₂) (fun f s₂ p => ?_) fun _ _ e => e
    have fin : UnrEnd h₀ env.locals { s with heap := hh', toks := tk' } s.heap.objs.size it (BaseRest prog w A E h₀ env x body Q s s.heap.objs.size (vs.drop (i + 1))) s₂ →
        LoopStepU h₀ env.locals [s.heap.objs.size] own (J (i + 1)) { s with heap := hh', toks := tk' } .next s₂ := by
      intro hR5
      refine hideG ?_
      intro gk
      obtain ⟨h', tk, m', news', e, F', N', ho, r⟩ := hR5
      k_unfold
      clear gk
      refine ⟨rfl, h', tk, m', news', e, F', fun p hp => ?_, fun p hp hI => ho p hp (List.mem_singleton.mp hI), r⟩
      rcases List.mem_append.mp hp with hp | hp
      · have h2 : hh'.get? p.1 = some p.2 := hget p hp
        rcases List.mem_cons.mp (hown p hp) with h1 | h1
        · have h3 : p = (s.heap.objs.size, it) := by
            rw [h1, hit] at h2
            exact Prod.ext h1 (Option.some.inj h2).symm
          rw [h3]; exact N' _ (List.mem_cons_self ..)
        · have h4 := (N₁ _ (List.mem_append_left _ hp)).2.2
          rw [List.mem_singleton.mp h1, hoa] at h4
          cases h4
      · exact N' _ (List.mem_cons_of_mem _ hp)
    cases f with
    | ret v => exact .ret p
    | brk => exact .brk p
    | next => exact .next (fin p)
    | cont => exact .cont (fin p)
  · rintro h' tk m' news' F' N' _ hJ
    have q : BaseRest prog w A E h₀ env x body Q s s.heap.objs.size (vs.drop vs.length) m' news' := hJ
    have z : vs.drop vs.length = [] := List.drop_length
    rw [z] at q
    exact q h' tk F' N'
end

end
-- lines 0 to 17
open PySem.Calls PySem.Spec
local macro_rules | `(tactic| walk_at "mine enter") => `(tactic| ((case k6 => k_is); (case k7 => k_is); (case k8 => ktr_room); (case k9 => first | exact BindsTo.of_eq rfl | exact binds_K (by k_in) rfl (by k_is) rfl rfl rfl); (case c5 => decide); (case kB => exact locs rfl); (case c2 => exact rfl); (case c3 => exact rfl); (case c4 => exact rfl); intro L' h₁ F' N' B' X' T'; (try dsimp only); (try k_fold)))
local macro_rules | `(tactic| walk_at "mine steps") => `(tactic| repeat' (first | (k_unfold; (try dsimp only)) | (walk_at "mine first") | (dsimp only [List.cons_append, List.nil_append, Int.reduceAdd, Int.reduceSub]; walk1) | walk1 | (leave1; walk_say "STEP leave1"; try dsimp only)))
local macro_rules | `(tactic| walk_at "mine upto iter") => `(tactic| repeat' ((fail_if_success (with_reducible show wpAny _ _ (pyIter _) _ _ _)); first | (k_unfold; (try dsimp only)) | (walk_at "mine first") | (dsimp only [List.cons_append, List.nil_append, Int.reduceAdd, Int.reduceSub]; walk1) | walk1 | (leave1; walk_say "STEP leave1"; try dsimp only)))
local macro_rules | `(tactic| walk_at "mine used") => `(tactic| ((case k1 => k_asm); (case k2 => k_asm); (case k3 => k_asm); (case k4 => k_asm); (case k5 => k_asm); (case k6 => first | exact rfl | assumption); (case k7 => ktr_room); (case k8 => ktr_units); (case k9 => first | exact trivial | assumption); intro r' h' tk' G' P' F' N'; (try k_sweep)))
local macro_rules | `(tactic| walk_at "call type:type") => `(tactic| ((with_reducible show wpAny _ _ (call _ [Value.bytes _ _]) _ _ _); refine call_type_of (Tx := "bytes") rfl (by decide +kernel) ?_))
local macro_rules | `(tactic| walk_at "ite") => `(tactic| first | refine PySem.W.ite_neg (by (try simp only [decide_eq_true_eq, beq_iff_eq, bne_iff_ne, Bool.not_eq_true, decide_eq_false_iff_not]); omega) ?_ | refine PySem.W.ite_pos (by (try simp only [decide_eq_true_eq, beq_iff_eq, bne_iff_ne, Bool.not_eq_true, decide_eq_false_iff_not]); omega) ?_)
local macro_rules | `(tactic| walk_at "exec If") => `(tactic| refine wpAny_If ?_)
local macro_rules | `(tactic| walk_at "mine first") => `(tactic| ((with_reducible show wpAny _ _ (eval (Expr.ListComp _ _ _ _) _) _ _ _); k_dflt (first | (lct_look; refine LCt.ListComp_T (F₀ := by k_asm) (by with_unfolding_all rfl) (by decide) (by rfl) (by decide) (by rfl) ?_) | (refine LCg.ListComp_U (F₀ := by k_asm) (by with_unfolding_all rfl) (by decide) (by rfl) (by decide) (by rfl) ?_))))
local macro_rules | `(tactic| walk_at "mine first") => `(tactic| ((with_reducible show LCg.CompEnd _ _ _ _ _ _ _ _ _ _ _ _ _ _); (refine LCg.CompEnd.intro (by assumption) (by assumption) _ (fun _ hp => hp) (by assumption) (by lcg_src) ?_)))
local macro_rules | `(tactic| walk_at "mine first") => `(tactic| ((with_reducible show LCg.CompRest _ _ _ _ _ _ _ _ _ _ _ _ _ _ _ _ _ _ _); with_unfolding_all first
  | (refine LCg.CompRest.succ ?_; intro v' I' oI' C' oC' D' m' h' tk' E' hv' hC' hx' F' N' off' ne'; (first | lcg_open hv' | (obtain ⟨t9', hv9'⟩ := hv'; subst hv9')))
  | refine LCg.CompRest.zero ?_))
local macro_rules | `(tactic| walk_at "mine first") => `(tactic| ((with_reducible show LCt.CompRestT _ _ _ _ _ _ _ _ _ _ _ _ _ _ _ _ _ _ _ _); with_unfolding_all first
  | (refine LCt.CompRestT.succ ?_; intro v' I' oI' C' oC' D' m' h' tk' E' hv' hC' hx' F' N' off' ne'; (first | lcg_open hv' | (obtain ⟨t9', hv9'⟩ := hv'; subst hv9')))
  | refine LCt.CompRestT.zero ?_))
local macro_rules | `(tactic| walk_at "mine first") => `(tactic| ((with_reducible show wpAny _ _ (eval (Expr.Name _ _) (envX _ _ _ _ _ _)) _ _ _); k_dflt (refine' nameX_L ?F ?v ?_ ?a ?b; (case F => k_asm); (case a => rfl); (case b => rfl); (case v => rfl); k_whole)))
local macro_rules | `(tactic| walk_at "mine first") => `(tactic| ((with_reducible show wpAny _ _ (eval (Expr.Name _ _) (compEnvC _ _ _ _)) _ _ _); k_dflt (first
  | (refine' LCgL.ld_own ?N ?m ?c ?x ?_ ?a ?b; (case a => rfl); (case b => rfl); (case N => k_asm); (case m => exact List.Mem.tail _ (List.Mem.head _)); (case c => assumption); (case x => assumption))
  | (refine' lcf_cell ?N ?c ?m ?d ?_ ?a ?b; (case a => rfl); (case b => rfl); (case N => k_asm); (case c => rfl); (case m => k_mem); (case d => k_asm); k_whole))))
local macro_rules | `(tactic| walk_at "mine enterC") => `(tactic| ((case k6 => k_is); (case k7 => k_is); (case k8 => ktr_room); (case k9 => first | exact BindsTo.of_eq rfl | exact binds_K (by k_in) rfl (by k_is) rfl rfl rfl); (case kB => exact rfl); (case kD => decide +kernel); (case c2 => exact rfl); (case c3 => exact rfl); (case c4 => exact rfl); intro L' h₁ tk' cells' F' N' Y' B' X' T'; k_cells Y'; (try dsimp only); (try k_fold)))
local macro_rules | `(tactic| walk_at "mine first") => `(tactic| ((with_reducible show wpAny _ _ (eval (Expr.Name _ _) (envX _ _ _ _ _ _)) _ _ _); k_dflt (refine' nameX_L ?F ?v ?_ ?a ?b; (case F => k_asm); (case a => rfl); (case b => rfl); (case v => first | exact rfl | assumption | (dsimp only; rw [if_neg (by decide)]; assumption)); k_whole)))
local macro_rules | `(tactic| walk_at "mine first") => `(tactic| ((with_reducible show wpAny _ _ (compareOp CmpOp.NotIn (Value.int _ _) (Value.ref _)) _ _ _); (refine' notin_made ?N ?m ?i ?_; (case N => k_asm); (case m => k_mem); (case i => assumption))))
local macro_rules | `(tactic| walk_at "mine first") => `(tactic| ((with_reducible show wpAny _ _ (call (Value.builtin "list.append") _) _ _ _); (try dsimp only [List.cons_append, List.nil_append]); k_dflt (refine' append_K ?k1 ?k2 ?k3 ?_ ?z; (case k1 => k_asm); (case k2 => k_asm); (case k3 => k_upd); (case z => first | (rw [sizeLine_eq]; omega) | size_fits); k_whole); intro h' F' N'; (try k_sweep)))
section -- Q8
variable {w : World} {mean : ExcName → Option Value} {mg mb : Str → Option Value}

theorem fill5 : PySem.Challenge.rw_qh0043_01 = PySem.Challenge.rw_qh0043_01 ∧ hd.heap_39 = hd.heap_39 := by k_fill; exact ⟨rfl, rfl⟩
def dedupFrom (acc : List Int) (ns : List Int) : List Int := ns.foldl (fun acc t => if acc.any (· == t) = true then acc else acc ++ [t]) acc
theorem dedup_in {acc : List Int} {k : Int} {ns : List Int} (h : acc.any (· == k) = true) : dedupFrom acc (k :: ns) = dedupFrom acc ns := by unfold dedupFrom; rw [List.foldl_cons, if_pos h]
theorem dedup_out {acc : List Int} {k : Int} {ns : List Int} (h : ¬ (acc.any (· == k) = true)) : dedupFrom acc (k :: ns) = dedupFrom (acc ++ [k]) ns := by unfold dedupFrom; rw [List.foldl_cons, if_neg h]
theorem ints_push {its : Array Value} {acc : List Int} {k : Int} {t : Tok} (h : IntsAre its.toList acc) : IntsAre (its.push (.int k t)).toList (acc ++ [k]) := by rw [Array.toList_push]; exact h.append (.cons _ _ .nil)
theorem notin_made {A : Around} {E : Value → Shared → Prop} {s : Shared} {h₀ : Heap} {L l : Addr} {news : List (Addr × Obj)} {its : Array Value} {n : Nat} {acc : List Int} {k : Int} {t : Tok} {Q : Value → Shared → Prop}
    (N : News h₀ L s.heap news) (hm : (l, W.listOf its n) ∈ news) (hi : IntsAre its.toList acc) (h : Q (.bool (!acc.any (· == k))) s) : wpAny (model PySem.Challenge.pw_qh0043_01 w) A (compareOp .NotIn (.int k t) (.ref l)) Q E s := by
  have hl : s.heap.IsList l its.toList.toArray := by rw [Array.toArray_toList]; exact N.isList hm
  exact notin_list_ints hl hi h
theorem dedup_does {p : Addr} {vs : List Value} {ns : List Int} (hi : IntsAre vs ns) (hl : ns.length ≤ 1000) :
    Does 1 w mean mg mb 28 [.ref p] [] (fun h => h.IsList p vs.toArray) (fun h r h' => NewInts h (dedupFrom [] ns) r h') := by
  w_on
  unfold Does; intro dp un gd cn cs a' ccd cl outer A₀ base h₀ L m s Q E B F X T hk hdp hun hpre hret
  have hz : ns.length ≤ 1000 := hl
  generalize hD : dedupFrom [] ns = D at hret
  w_strict (
    refine wpAny_call ?_
    k_dflt (refine' enterP [(Str.ofString "unhashable_params", .ref p)] B F X T rfl rfl hk ?k6 ?k7 ?k8 ?k9 ?kB ?_ ?c2 ?c3 ?c4 ?c5; (walk_at "mine enter"))
    walk_at "mine upto iter")
  refine iter_base rfl (by assumption) (by assumption) hpre (fun I hI => ?_)
  rename_i l' _ _ _ F1 N1
  rename IntsAre vs ns => hi
  have hm1 : (fun y => if y = Str.ofString "new_unhashable" then some (Value.ref l') else List.lookup y [(Str.ofString "unhashable_params", Value.ref p)].reverse) (Str.ofString "new_unhashable") = some (.ref l') := rfl
  have hI1 : @LT.lt Nat _ l' I := hI _ (.head _)
  have hacc : IntsAre (#[] : Array Value).toList [] := .nil
  have hsz : (#[] : Array Value).size + vs.length ≤ 1000 := by rw [hi.length]; simpa using hz
  clear hI hpre F1 N1 hl hz
  revert hm1 hacc hsz hD
  generalize (fun y => if y = Str.ofString "new_unhashable" then some (Value.ref l') else List.lookup y [(Str.ofString "unhashable_params", Value.ref p)].reverse) = m1
  generalize (#[] : Array Value) = its
  generalize (0 : Nat) = n
  generalize ([] : List Int) = acc
  induction hi generalizing m1 its n acc with
  | nil =>
    intro hD hm1 hacc hsz h tk F2 N2
    dsimp only at F2 N2 ⊢
    w_strict (walk_at "mine steps")
    subst hD
    exact hret _ _ _ (Fr.keep (by assumption)) (NewInts.of (by assumption) (by k_mem) hacc)
  | cons k tk0 hr ih =>
    intro hD hm1 hacc hsz it h tk F2 N2
    dsimp only at F2 N2 ⊢
    simp only [List.length_cons] at hsz
    w_strict (walk_at "mine steps")
    · refine UnrEnd.intro (by assumption) (by assumption) [(l', W.listOf its n)] (fun _ hp => hp) (by k_all) ?_
      refine ih _ _ _ acc ((dedup_in (by assumption)).symm.trans hD) ?_ hacc (by omega)
      exact (if_neg (by decide)).trans hm1
    · refine UnrEnd.intro (by assumption) (by assumption) [(l', W.listOf (its.push (.int k tk0)) (n + 1))] (fun _ hp => hp) (by k_all) ?_
      refine ih _ _ _ (acc ++ [k]) ((dedup_out (by first | assumption | (rw [Bool.not_eq_true]; assumption))).symm.trans hD) ?_ (ints_push hacc) (by rw [Array.size_push]; omega)
      exact (if_neg (by decide)).trans hm1

end
section -- Q9
variable {w : World} {mean : ExcName → Option Value} {mg mb : Str → Option Value}

theorem fill6 : PySem.Challenge.rw_qh0043_01 = PySem.Challenge.rw_qh0043_01 ∧ hd.heap_39 = hd.heap_39 := by k_fill; exact ⟨rfl, rfl⟩
theorem news_add {h₀ h h' : Heap} {L l : Addr} {m : Str → Option Value} {news : List (Addr × Obj)} {o : Obj} (F : Fr h₀ L h m) (N : News h₀ L h' news) (hn : h.get? l = none) (ho : h'.get? l = some o) : News h₀ L h' ((l, o) :: news) := fun p hp => by
  rcases List.mem_cons.mp hp with rfl | hp
  · refine ⟨ho, ?_, ?_⟩
    · rintro rfl
      refine hideG ?_
      intro gk
      obtain ⟨oL, _, _, hL, _⟩ := F.ns
      k_unfold
      clear gk
      rw [hL] at hn; cases hn
    · cases q : h₀.get? l with
      | none => rfl
      | some o' => have := F.keep _ _ q; rw [hn] at this; cases this
  · exact N p hp
theorem off_add {h₀ h : Heap} {L l : Addr} {news : List (Addr × Obj)} (N : News h₀ L h news) (hn : h.get? l = none) : LCg.Off1 l news := by
  induction news with
  | nil => trivial
  | cons p r ih =>
    refine ⟨?_, ih fun q hq => N q (.tail _ hq)⟩
    intro e
    have := (N p (.head _)).1
    rw [show p.1 = l from e, hn] at this
    cases this
theorem Does.useInts {k : Nat} {mean : ExcName → Option Value} {mg mb : Str → Option Value} {f : Addr} {vs : List Value} {kw : List (Str × Value)} {Pre : Heap → Prop} {ns : List Int}
    (D : Does k w mean mg mb f vs kw Pre (fun h r h' => NewInts h ns r h')) {dp un : Nat} {gd : Option (List Code)} {cn : Str} {cs : Scope} {a : Addr} {ccd : Value} {cl : List (Str × Addr)} {outer : List Env} {A₀ : Around} {base h₀ : Heap} {L : Addr} {m : Str → Option Value} {s : Shared} {Q E : Value → Shared → Prop} {news : List (Addr × Obj)}
    (B : Below A₀ base outer h₀) (F : Fr h₀ L s.heap m) (X : (hd.heap_39 w.params).In h₀) (N : News h₀ L s.heap news) (T : Top hd.view_39 looseL mean mg mb h₀) (hk : cs.kind = .function) (h1 : dp + k < recursionLimit) (h2 : un + 16 * k < cLine) (hp : Pre s.heap)
    (ret : ∀ l its n h' tk', IntsAre its.toList ns → Fr h₀ L h' m → News h₀ L h' ((l, W.listOf its n) :: news) → LCg.Off1 l news → Q (.ref l) { s with heap := h', toks := tk' }) :
    wpAny (model PySem.Challenge.pw_qh0043_01 w) (ktrTop dp un gd cn cs L a ccd cl outer) (call (.ref f) vs kw) Q E s :=
  D.use B F X N T hk h1 h2 hp fun r h' tk' g q F' N' => by
    refine hideG ?_
    intro gk
    obtain ⟨l, its, n, hE4, hn, ho, hi⟩ := q
    k_unfold
    clear gk
    subst hE4
    exact ret l its n h' tk' hi F' (news_add F N' hn ho) (off_add N hn)
theorem dedup_row {a b : Int} (ha : 0 ≤ a ∧ a ≤ 2) (hb : 0 ≤ b ∧ b ≤ 2) : dedupFrom [] [a, b, 0, 1, 2] = rowOf a b := by
  rcases three ha with rfl | rfl | rfl <;> rcases three hb with rfl | rfl | rfl <;> decide
theorem row_three {a b : Int} (ha : 0 ≤ a ∧ a ≤ 2) (hb : 0 ≤ b ∧ b ≤ 2) : ∃ x y z, rowOf a b = [x, y, z] ∧ (0 ≤ x ∧ x ≤ 2) ∧ (0 ≤ y ∧ y ≤ 2) ∧ (0 ≤ z ∧ z ≤ 2) := by
  rcases three ha with rfl | rfl | rfl <;> rcases three hb with rfl | rfl | rfl <;> exact ⟨_, _, _, rfl, by decide, by decide, by decide⟩
theorem ints3 {its : Array Value} {x y z : Int} (h : IntsAre its.toList [x, y, z]) : ∃ t0 t1 t2, its = #[.int x t0, .int y t1, .int z t2] := by
  obtain ⟨l⟩ := its
  dsimp only at h
  cases h with | cons _ t0 h => cases h with | cons _ t1 h => cases h with | cons _ t2 h => cases h; exact ⟨t0, t1, t2, rfl⟩
local macro_rules | `(tactic| walk_at "mine first") => `(tactic| ((with_reducible show wpAny _ _ (call (Value.type "bytes") _ _) _ _ _); (try dsimp only [List.cons_append, List.nil_append]); (refine' bytes4 ?F ?N ?m ?v ?r rfl ?_); (case F => assumption); (case N => assumption); (case m => k_mem); (case v => rfl); (case r => omega); intro h' b' t' k' F' N' hb'))
local macro_rules | `(tactic| walk_at "mine first") => `(tactic| ((with_reducible show LCg.CompSrc _ _ _ _ _ _ _ _ _ _ _ _ _ _); k_dflt (refine' LCg.CompSrc.ledger ?hh ?F ?N ?m ?z ?_; (case hh => rfl); (case F => k_asm); (case N => k_asm); (case m => k_mem); (case z => exact Nat.le_of_ble_eq_true rfl); intro g'; lcg_lit)))

end
section -- R0
open PySem.SeqAt
/-- a list object with these items -/
def LO (h : Heap) (p : Addr) (vs : List Value) : Prop := ∃ n, h.get? p = some (W.listOf vs.toArray n)
theorem LO.isList {h : Heap} {p : Addr} {vs : List Value} (x : LO h p vs) : h.IsList p vs.toArray := let ⟨n, e⟩ := x; ⟨_, e, rfl, n, rfl⟩
theorem LO.keep {h h' : Heap} {p : Addr} {vs : List Value} (k : ∀ b o, h.get? b = some o → h'.get? b = some o) (x : LO h p vs) : LO h' p vs := let ⟨n, e⟩ := x; ⟨n, k _ _ e⟩
theorem LO.news {h₀ h : Heap} {L l : Addr} {news : List (Addr × Obj)} {its : Array Value} {n : Nat} (N : News h₀ L h news) (hm : (l, W.listOf its n) ∈ news) : LO h l its.toList := ⟨n, by rw [Array.toArray_toList]; exact (N _ hm).1⟩
theorem LO.lst {h₀ h : Heap} {L l : Addr} {news : List (Addr × Obj)} {vs : List Value} (N : News h₀ L h news) (hm : (l, LCg.lst vs) ∈ news) : LO h l vs := ⟨_, (N _ hm).1⟩
section
variable {prog : Program} {w : World} {A : Around} {E : Value → Shared → Prop} {s : Shared}
theorem meth_lo {l : Addr} {vs : List Value} {name : Str} {id : String} {pl : Sem Bool} {Q : Value × List Value → Shared → Prop} (hl : LO s.heap l vs) (slot : Slot "list" name id) (hty : typeOf (.builtin id) = pure (.type "method_descriptor"))
    (h : Q (.builtin id, [.ref l]) s) : wpAny (model prog w) A (getMethod (.ref l) name pl) Q E s := by
  obtain ⟨n, e⟩ := hl
  exact getMethod_builtin ⟨_, e, rfl⟩ PySem.F.plainAttrs_list slot hty (fun a q => by cases q; exact ⟨_, e, rfl⟩) h
theorem index_small {l : Addr} {vs : List Value} {ns : List Int} {k : Int} {t : Tok} {Q : Value → Shared → Prop} (hl : LO s.heap l vs) (hi : IntsAre vs ns) (hz : ns.length ≤ 1000) (hk : k ∈ ns)
    (h : Q (.int (ns.idxOf k : Nat) s.toks) { s with toks := s.toks + 1 }) :
    wpAny (model prog w) A (call (.builtin "list.index") [.ref l, .int k t]) Q E s := by
  obtain ⟨n, ho⟩ := hl
  have hlen := hi.length
  have hj : ns.idxOf k < ns.length := List.idxOf_lt_length_iff.mpr hk
  refine call_meets PySem.F.slot_list_index ⟨_, ho, rfl⟩ PySem.F.entry_list_index (PySem.F.args_list_index_2 _ _)
    (list_indexAt l vs.toArray n none #[] (.int k t) (isInt k) (ns.idxOf k) (by simpa [hlen] using hj) (by omega) ?_ ?_) ⟨ho, fun y hy => (eq_isInt k t hi y (by simpa using hy)).at _ _, h⟩
  · show isInt k vs[ns.idxOf k] = true
    rw [isInt_at k hi _ (by omega) hj]
    simpa using List.getElem_idxOf hj
  · intro j hjs hlt
    show isInt k vs[j] = false
    rw [isInt_at k hi j (by simpa using hjs) (by simp at hjs; omega)]
    exact ne_of_lt_idxOf hlt _
theorem item_small {value slice : PySem.Expr} {l : Addr} {vs : List Value} {ns : List Int} {k : Int} {u : Tok} {Q : Value → Shared → Prop} (hl : LO s.heap l vs) (hi : IntsAre vs ns) (hz : ns.length ≤ 1000) (h0 : 0 ≤ k) (h1 : k < ns.length)
    (hs : subscripted slice false (.ref l) (.int k u) = operate [.ref l, .int k u] (getItem (.ref l) (.int k u))) (hg : ∀ r, letTemporaryGo value (.ref l) r = pure ())
    (h : ∀ t, Q (.int (ns.getD k.toNat 0) t) s) : wpAny (model prog w) A (subscriptTail value slice (.ref l) (.int k u)) Q E s :=
  item_list_ints hl.isList hi h0 h1 (by omega) h hs hg
theorem item_any {value slice : PySem.Expr} {l : Addr} {vs : List Value} {v : Value} {k : Int} {u : Tok} {Q : Value → Shared → Prop} (hl : LO s.heap l vs) (h0 : 0 ≤ k) (h1 : k < 1000) (hv : vs[k.toNat]? = some v)
    (hs : subscripted slice false (.ref l) (.int k u) = operate [.ref l, .int k u] (getItem (.ref l) (.int k u)))
    (h : Q v s) : wpAny (model prog w) A (subscriptTail value slice (.ref l) (.int k u)) Q E s :=
  tail_any hl.isList.typeIs slot_list_getitem.lookup (wpAny_getItem_list hl.isList h0 (by omega) (by simpa using hv) h) hs
theorem notin_lo {l : Addr} {vs : List Value} {acc : List Int} {k : Int} {t : Tok} {Q : Value → Shared → Prop}
    (hl : LO s.heap l vs) (hi : IntsAre vs acc) (h : Q (.bool (!acc.any (· == k))) s) : wpAny (model prog w) A (compareOp .NotIn (.int k t) (.ref l)) Q E s := notin_list_ints hl.isList hi h
end

end
-- lines 17 to 27
local macro_rules | `(tactic| walk_at "mine first") => `(tactic| ((with_reducible show wpAny _ _ (call (Value.type "bytes") _ _) _ _ _); (try dsimp only [List.cons_append, List.nil_append]); (refine' bytes4 ?F ?N ?m ?v ?r rfl ?_); (case F => assumption); (case N => assumption); (case m => k_mem); (case v => rfl); (case r => omega); intro h' b' t' k' F' N' hb'))
local macro_rules | `(tactic| walk_at "mine first") => `(tactic| ((with_reducible show LCg.CompSrc _ _ _ _ _ _ _ _ _ _ _ _ _ _); k_dflt (first
  | (refine' LCg.CompSrc.ledger ?hh ?F ?N ?m ?z ?_; (case hh => rfl); (case F => k_asm); (case N => k_asm); (case m => k_mem); (case z => exact Nat.le_of_ble_eq_true rfl); intro g'; lcg_lit)
  | (refine' LCg.CompSrc.range ?hh ?F ?N ?r ?sm ?n ?z ?_; (case hh => rfl); (case F => k_asm); (case N => k_asm); (case r => assumption); (case sm => first | decide | rfl); (case n => first | rfl | decide); (case z => exact Nat.le_of_ble_eq_true rfl); intro g'; lcg_lit))))
local macro_rules | `(tactic| walk_at "mine list") => `(tactic| first | exact LO.keep (Fr.keep (by k_asm)) (by assumption) | exact LO.news (by k_asm) (by k_mem))
local macro_rules | `(tactic| walk_at "mine first") => `(tactic| ((with_reducible show wpAny _ _ (getMethod (Value.ref _) (Str.ofString "index") _) _ _ _); k_dflt (refine' meth_lo ?l PySem.F.slot_list_index PySem.F.type_list_index ?_; (case l => walk_at "mine list"); k_whole)))
local macro_rules | `(tactic| walk_at "mine ints") => `(tactic| first | assumption | exact .nil | exact .cons _ _ .nil | exact .cons _ _ (.cons _ _ .nil) | exact .cons _ _ (.cons _ _ (.cons _ _ .nil)))
local macro_rules | `(tactic| walk_at "mine first") => `(tactic| ((with_reducible show wpAny _ _ (call (Value.builtin "list.index") _) _ _ _); (try dsimp only [List.cons_append, List.nil_append]); k_dflt (refine' index_small ?l ?i ?z ?k ?_; (case l => walk_at "mine list"); (case i => walk_at "mine ints"); (case z => walk_at "mine size"); (case k => walk_at "mine in"); k_whole)))
local macro_rules | `(tactic| walk_at "mine size") => `(tactic| first | omega | (simp only [List.length_cons, List.length_nil]; omega))
local macro_rules | `(tactic| walk_at "mine in") => `(tactic| first | assumption | (simp; done) | (apply_assumption; omega))
local macro_rules | `(tactic| walk_at "mine first") => `(tactic| ((with_reducible show wpAny _ _ (subscriptTail _ _ (Value.ref _) (Value.int _ _)) _ _ _); k_dflt (refine' item_small ?l ?i ?z ?h0 ?h1 ?a ?b ?_; (case l => walk_at "mine list"); (case i => walk_at "mine ints"); (case z => walk_at "mine size"); (case h0 => first | decide | omega); (case h1 => walk_at "mine size"); (case a => with_unfolding_all rfl); (case b => intro _; with_unfolding_all rfl); k_whole); intro t9))
section -- R1
variable {w : World} {mean : ExcName → Option Value} {mg mb : Str → Option Value}
theorem fill7 : PySem.Challenge.rw_qh0043_01 = PySem.Challenge.rw_qh0043_01 ∧ hd.heap_39 = hd.heap_39 := by k_fill; exact ⟨rfl, rfl⟩
def turnedP (ns : List Int) : List Int := [(ns.idxOf 0 : Nat), (ns.idxOf 1 : Nat), (ns.idxOf 2 : Nat)]
theorem turned_does {p : Addr} {vs : List Value} {ns : List Int} (hi : IntsAre vs ns) (hl : ns.length ≤ 1000) (h0 : 0 ∈ ns) (h1 : 1 ∈ ns) (h2 : 2 ∈ ns) :
    Does 1 w mean mg mb 167 [.ref p] [] (fun h => LO h p vs) (fun h r h' => NewInts h (turnedP ns) r h') := by
  w_on
  unfold Does; intro dp un gd cn cs a' ccd cl outer A₀ base h₀ L m s Q E B F X T hk hdp hun hpre hret
  w_strict (
    refine wpAny_call ?_
    k_dflt (refine' enterC [(Str.ofString "plan", .ref p)] B F X T rfl rfl hk ?k6 ?k7 ?k8 ?k9 ?kB ?kD ?_ ?c2 ?c3 ?c4; (walk_at "mine enterC"))
    walk_at "mine steps")
  all_goals (refine hret _ _ _ (Fr.keep (by assumption)) (NewInts.of (by assumption) (by k_mem) ?_))
  all_goals (exact .cons _ _ (.cons _ _ (.cons _ _ .nil)))

end
section -- R2
open PySem.SeqAt
def plans6 : List (List Int) := [[0, 1, 2], [0, 2, 1], [1, 0, 2], [1, 2, 0], [2, 0, 1], [2, 1, 0]]
def Perm3 (l : List Int) : Prop := l ∈ plans6
def ten : List Int := [0, 1, 2]
theorem in_ten {k : Int} (h0 : 0 ≤ k) (h2 : k ≤ 2) : k ∈ ten := by rcases three ⟨h0, h2⟩ with rfl | rfl | rfl <;> decide
theorem Perm3.length {l : List Int} (h : Perm3 l) : l.length = 3 := (by decide : ∀ l ∈ plans6, l.length = 3) l h
theorem Perm3.small {l : List Int} (h : Perm3 l) : l.length ≤ 1000 := by rw [h.length]; decide
theorem Perm3.mem {l : List Int} {k : Int} (h : Perm3 l) (h0 : 0 ≤ k) (h2 : k ≤ 2) : k ∈ l := (by decide : ∀ l ∈ plans6, ∀ k ∈ ten, k ∈ l) l h k (in_ten h0 h2)
theorem Perm3.bnd {l : List Int} {k : Int} (h : Perm3 l) (hk : k ∈ l) : 0 ≤ k ∧ k ≤ 2 := (by decide : ∀ l ∈ plans6, ∀ k ∈ l, 0 ≤ k ∧ k ≤ 2) l h k hk
theorem Perm3.get {l : List Int} {k : Int} (h : Perm3 l) (h0 : 0 ≤ k) (h2 : k ≤ 2) : 0 ≤ l.getD k.toNat 0 ∧ l.getD k.toNat 0 ≤ 2 := (by decide : ∀ l ∈ plans6, ∀ k ∈ ten, 0 ≤ l.getD k.toNat 0 ∧ l.getD k.toNat 0 ≤ 2) l h k (in_ten h0 h2)
theorem Perm3.idx {l : List Int} {k : Int} (h : Perm3 l) (h0 : 0 ≤ k) (h2 : k ≤ 2) : (l.idxOf k : Int) ≤ 2 := (by decide : ∀ l ∈ plans6, ∀ k ∈ ten, (l.idxOf k : Int) ≤ 2) l h k (in_ten h0 h2)
/-- a list of three rows -/
def Rows3 (h : Heap) (p : Addr) (W : List (List Int)) : Prop := ∃ vW, LO h p vW ∧ ∀ k : Int, 0 ≤ k → k ≤ 2 → ∃ a va, vW[k.toNat]? = some (.ref a) ∧ LO h a va ∧ IntsAre va (W.getD k.toNat []) ∧ Perm3 (W.getD k.toNat [])
theorem Rows3.keep {h h' : Heap} {p : Addr} {W : List (List Int)} (k : ∀ b o, h.get? b = some o → h'.get? b = some o) (x : Rows3 h p W) : Rows3 h' p W := by
  obtain ⟨vW, a, b⟩ := x
  refine ⟨vW, a.keep k, fun j h0 h2 => ?_⟩
  obtain ⟨c, va, e1, e2, e3⟩ := b j h0 h2
  exact ⟨c, va, e1, e2.keep k, e3⟩
section
variable {prog : Program} {w : World} {A : Around} {E : Value → Shared → Prop} {s : Shared} {h₀ : Heap} {L : Addr} {m : Str → Option Value} {news : List (Addr × Obj)}
theorem item_row {value slice : PySem.Expr} {p : Addr} {W : List (List Int)} {k : Int} {u : Tok} {Q : Value → Shared → Prop} (F : Fr h₀ L s.heap m) (R : Rows3 h₀ p W) (h0 : 0 ≤ k) (h2 : k ≤ 2)
    (hs : subscripted slice false (.ref p) (.int k u) = operate [.ref p, .int k u] (getItem (.ref p) (.int k u)))
    (h : ∀ a va, LO h₀ a va → IntsAre va (W.getD k.toNat []) → Perm3 (W.getD k.toNat []) → Q (.ref a) s) : wpAny (model prog w) A (subscriptTail value slice (.ref p) (.int k u)) Q E s := by
  obtain ⟨vW, l, r⟩ := R
  obtain ⟨a, va, e1, e2, e3, e4⟩ := r k h0 h2
  exact item_any (l.keep F.keep) h0 (by omega) e1 hs (h a va e2 e3 e4)
theorem item_perm {value slice : PySem.Expr} {l : Addr} {vs : List Value} {ns : List Int} {k : Int} {u : Tok} {Q : Value → Shared → Prop} (hl : LO s.heap l vs) (hi : IntsAre vs ns) (hp : Perm3 ns) (h0 : 0 ≤ k) (h2 : k ≤ 2)
    (hs : subscripted slice false (.ref l) (.int k u) = operate [.ref l, .int k u] (getItem (.ref l) (.int k u))) (hg : ∀ r, letTemporaryGo value (.ref l) r = pure ())
    (h : ∀ t z, z = ns.getD k.toNat 0 → 0 ≤ z → z ≤ 2 → Q (.int z t) s) : wpAny (model prog w) A (subscriptTail value slice (.ref l) (.int k u)) Q E s :=
  item_small hl hi hp.small h0 (by have := hp.length; omega) hs hg fun t => h t _ rfl (hp.get h0 h2).1 (hp.get h0 h2).2
theorem index_perm {l : Addr} {vs : List Value} {ns : List Int} {k : Int} {t : Tok} {Q : Value → Shared → Prop} (hl : LO s.heap l vs) (hi : IntsAre vs ns) (hp : Perm3 ns) (h0 : 0 ≤ k) (h2 : k ≤ 2)
    (h : ∀ z, z = (ns.idxOf k : Int) → 0 ≤ z → z ≤ 2 → Q (.int z s.toks) { s with toks := s.toks + 1 }) :
    wpAny (model prog w) A (call (.builtin "list.index") [.ref l, .int k t]) Q E s :=
  index_small hl hi hp.small (hp.mem h0 h2) (h _ rfl (Int.natCast_nonneg _) (hp.idx h0 h2))
theorem slice_upto {value slice : PySem.Expr} {l : Addr} {vs : List Value} {ns : List Int} {y : Int} {u : Tok} {Q : Value → Shared → Prop} {hh : Heap} {gs : Array GenState} {dr : Drawn} {tk : Nat} {os : OsState} (F : Fr h₀ L hh m) (N : News h₀ L hh news) (hl : LO hh l vs) (hi : IntsAre vs ns) (hz : ns.length ≤ 1000) (h0 : 0 ≤ y)
    (hs : subscripted slice false (.ref l) (.ref hh.objs.size) = operate [.ref hh.objs.size, .ref l] (getItem (.ref l) (.ref hh.objs.size))) (ht : ∀ r, letTemporaryGo value (.ref l) r = pure ())
    (h : ∀ D ws h', IntsAre ws (ns.take y.toNat) → Fr h₀ L h' m → News h₀ L h' ((D, W.listOf (List.toArray ws) 0) :: news) → (∀ p ∈ news, p.1 < D) → Q (.ref D) { heap := h', gens := gs, drawn := dr, toks := tk, os := os }) :
    wpAny (model prog w) A (subscriptTail value slice (.ref l) (.ref hh.objs.size)) Q E { heap := hh.push { cls := .type "slice", data := .fields #[.none, .int y u, .none] }, gens := gs, drawn := dr, toks := tk, os := os } :=
  kmk_slice_ints (s := { heap := hh, gens := gs, drawn := dr, toks := tk, os := os }) F N hl.isList .none (.int _ _) hi (kmk_upto hi h0) rfl (fun D ws h' F' N' l1 hw _ _ => h D ws h' hw F' N' l1) hs ht (by rw [List.size_toArray, hi.length, sizeLine_eq]; omega)
end

end
section -- R4
open PySem.SeqAt
/-- what is asked behind a turn -/
def TurnPost (Q : Flow → Shared → Prop) (C : Shared → Prop) (f : Flow) (s₂ : Shared) : Prop :=
  match f with
  | .ret v => Q (.ret v) s₂
  | .brk => Q .next s₂
  | _ => C s₂
theorem TurnPost.unr {h₀ : Heap} {L I : Addr} {s₁ : Shared} {it : Obj} {rest : (Str → Option Value) → List (Addr × Obj) → Prop} {Q : Flow → Shared → Prop} {f : Flow} {s₂ : Shared} (h : TurnPost Q (UnrEnd h₀ L s₁ I it rest) f s₂) : UnrPost h₀ L s₁ I it rest Q f s₂ := by
  cases f <;> exact h
section
variable {prog : Program} {w : World} {A : Around} {E : Value → Shared → Prop} {s : Shared} {env : Env} {h₀ : Heap} {x : Str} {body : List Stmt} {Q : Flow → Shared → Prop} {news : List (Addr × Obj)} {I : Addr} {m : Str → Option Value}
theorem range_fix {a : Int} {n : Nat} (Inv : Nat → (Str → Option Value) → Prop) (hI : ∀ p ∈ news, p.1 < I)
    (turn : ∀ i t m h tk (it : Obj), i < n → Inv i m → Fr h₀ env.locals h (fun y => if y = x then some (.int (a + (i : Int)) t) else m y) → News h₀ env.locals h ((I, it) :: news) → ∀ C : Shared → Prop,
      (∀ h' tk' m' all, Fr h₀ env.locals h' m' → News h₀ env.locals h' all → (∀ p ∈ (I, it) :: news, p ∈ all) → Inv (i + 1) m' → C { s with heap := h', toks := tk' }) →
      wpAny (model prog w) A (execs body env) (TurnPost Q C) E { s with heap := h, toks := tk })
    (fin : ∀ m h tk, Inv n m → Fr h₀ env.locals h m → News h₀ env.locals h news → Q .next { s with heap := h, toks := tk }) :
    ∀ k i m, i + k = n → Inv i m → RangeRest prog w A E h₀ env x body Q s I a n k i m news := by
  intro k
  induction k with
  | zero =>
    intro i m e hv
    obtain rfl : i = n := by omega
    exact RangeRest.zero fun h tk F N => fin m h tk hv F N
  | succ k ih =>
    intro i m e hv
    refine RangeRest.succ fun t h tk F N => ?_
    refine wpAny_mono (turn i t m h tk _ (by omega) hv F N _ fun h' tk' m' all F' N' sub hv' => ?_) (fun f s₂ p => p.unr) fun _ _ e => e
    exact UnrEnd.intro F' N' news sub (fun p hp => Nat.ne_of_lt (hI p hp)) (ih (i + 1) m' (by omega) hv')
theorem list_fix {lp : Addr × Obj} (Inv : List Int → (Str → Option Value) → Prop) (hI : ∀ p ∈ news, p.1 < I) (hlp : lp ∈ news)
    (turn : ∀ k t ns m it h tk, Inv (k :: ns) m → Fr h₀ env.locals h (fun y => if y = x then some (.int k t) else m y) → News h₀ env.locals h ((I, it) :: news) → ∀ C : Shared → Prop,
      (∀ h' tk' m' all, Fr h₀ env.locals h' m' → News h₀ env.locals h' all → (∀ p ∈ (I, it) :: news, p ∈ all) → Inv ns m' → C { s with heap := h', toks := tk' }) →
      wpAny (model prog w) A (execs body env) (TurnPost Q C) E { s with heap := h, toks := tk })
    (fin : ∀ m h tk, Inv [] m → Fr h₀ env.locals h m → News h₀ env.locals h news → Q .next { s with heap := h, toks := tk }) {vs : List Value} {ns : List Int} (hi : IntsAre vs ns) :
    ∀ m, Inv ns m → ListRest prog w A E h₀ env x body Q s I lp vs m news := by
  induction hi with
  | nil => exact fun m hv => ListRest.zero fun h tk F N => fin m h tk hv F N
  | cons k t _ ih =>
    intro m hv
    refine ListRest.succ fun it h tk _ F N => ?_
    refine wpAny_mono (turn k t _ m it h tk hv F N _ fun h' tk' m' all F' N' sub hv' => ?_) (fun f s₂ p => p.unr) fun _ _ e => e
    exact UnrEnd.intro F' N' news sub (fun p hp => Nat.ne_of_lt (hI p hp)) ⟨hlp, ih m' hv'⟩
end

end
-- lines 27 to 34
local macro_rules | `(tactic| walk_at "mine first") => `(tactic| ((with_reducible show wpAny _ _ (call (Value.builtin "list.index") _) _ _ _); (try dsimp only [List.cons_append, List.nil_append]); k_dflt (refine' index_perm ?l ?i ?p ?h0 ?h2 ?_; (case l => walk_at "mine list"); (case i => walk_at "mine ints"); (case p => assumption); (case h0 => first | assumption | decide | omega); (case h2 => first | assumption | decide | omega); k_whole); intro z9 hz9 hz0 hz2))
local macro_rules | `(tactic| walk_at "mine first") => `(tactic| ((with_reducible show wpAny _ _ (subscriptTail _ _ (Value.ref _) (Value.int _ _)) _ _ _); k_dflt (refine' item_perm ?l ?i ?p ?h0 ?h2 ?a ?b ?_; (case l => walk_at "mine list"); (case i => walk_at "mine ints"); (case p => assumption); (case h0 => first | assumption | decide | omega); (case h2 => first | assumption | decide | omega); (case a => with_unfolding_all rfl); (case b => intro _; with_unfolding_all rfl); k_whole); intro t9 z9 hz9 hz0 hz2))
local macro_rules | `(tactic| walk_at "mine first") => `(tactic| ((with_reducible show wpAny _ _ (subscriptTail _ _ (Value.ref _) (Value.int _ _)) _ _ _); k_dflt (refine' item_row ?F ?R ?h0 ?h2 ?a ?_; (case F => k_asm); (case R => assumption); (case h0 => first | assumption | decide | omega); (case h2 => first | assumption | decide | omega); (case a => with_unfolding_all rfl); k_whole); intro a9 va9 hl9 hi9 hp9))
local macro_rules | `(tactic| walk_at "mine first") => `(tactic| ((with_reducible show wpAny _ _ (subscriptTail _ (PySem.Expr.Slice _ _ none _) (Value.ref _) (Value.ref _)) _ _ _); k_dflt (refine' slice_upto ?F ?N ?l ?i ?z ?h0 ?a ?b ?_; (case F => k_asm); (case N => k_asm); (case l => walk_at "mine list"); (case i => walk_at "mine ints"); (case z => first | exact Perm3.small (by assumption) | walk_at "mine size"); (case h0 => first | assumption | decide | omega); (case a => with_unfolding_all rfl); (case b => intro _; with_unfolding_all rfl); k_whole); intro D9 ws9 h9 hw9 F9 N9 l9))
local macro_rules | `(tactic| walk_at "mine name") => `(tactic| first | exact rfl | assumption | (dsimp only; (repeat (first | exact if_pos rfl | (refine (if_neg (by decide)).trans ?_))); assumption))
local macro_rules | `(tactic| walk_at "mine first") => `(tactic| ((with_reducible show wpAny _ _ (eval (Expr.Name _ _) (envX _ _ _ _ _ _)) _ _ _); k_dflt (refine' nameX_L ?F ?v ?_ ?a ?b; (case F => k_asm); (case a => rfl); (case b => rfl); (case v => walk_at "mine name"); k_whole)))
local macro_rules | `(tactic| walk_at "mine first") => `(tactic| ((with_reducible show wpAny _ _ (exec (Stmt.For _ _ _ _ _) _) _ _ _); (with_unfolding_all refine' For_invVF ?kF ?k1 ?k2 ?_; (case kF => assumption); (case k1 => exact rfl); (case k2 => exact rfl); k_whole)))
section -- R3
variable {w : World} {mean : ExcName → Option Value} {mg mb : Str → Option Value}
theorem fill8 : PySem.Challenge.rw_qh0043_01 = PySem.Challenge.rw_qh0043_01 ∧ hd.heap_39 = hd.heap_39 := by k_fill; exact ⟨rfl, rfl⟩
def badAt (P : List Int) (W : List (List Int)) (man woman : Int) : Bool := decide (((W.getD woman.toNat []).idxOf man : Int) < ((W.getD woman.toNat []).idxOf (P.idxOf woman : Int) : Int))
def menOk (P : List Int) (M W : List (List Int)) (man : Int) : Bool := ((M.getD man.toNat []).take ((M.getD man.toNat []).idxOf (P.getD man.toNat 0) : Int).toNat).all fun woman => !badAt P W man woman
def holdsP (P : List Int) (M W : List (List Int)) : Bool := menOk P M W 0 && (menOk P M W 1 && menOk P M W 2)
theorem holds_false {P : List Int} {M W : List (List Int)} {i : Nat} (hi : i < 3) (h : menOk P M W i = false) : holdsP P M W = false := by
  unfold holdsP
  match i, hi with
  | 0, _ => rw [show menOk P M W 0 = false from h]; rfl
  | 1, _ => rw [show menOk P M W 1 = false from h]; simp
  | 2, _ => rw [show menOk P M W 2 = false from h]; simp
theorem holds_does {p pm pw : Addr} {vp : List Value} {P : List Int} {M W : List (List Int)} (hi : IntsAre vp P) (hP : Perm3 P) :
    Does 1 w mean mg mb 157 [.ref p, .ref pm, .ref pw] [] (fun h => LO h p vp ∧ Rows3 h pm M ∧ Rows3 h pw W) (fun _ r _ => r = .bool (holdsP P M W)) := by
  w_on
  unfold Does; intro dp un gd cn cs a' ccd cl outer A₀ base h₀ L m s Q E B F X T hk hdp hun hpre hret
  refine hideG ?_
  intro gk
  obtain ⟨hq1, hq2, hq3⟩ := hpre
  k_unfold
  clear gk
  generalize hD : holdsP P M W = D at hret
  w_strict (
    refine wpAny_call ?_
    k_dflt (refine' enterP [(Str.ofString "plan", .ref p), (Str.ofString "men", .ref pm), (Str.ofString "women", .ref pw)] B F X T rfl rfl hk ?k6 ?k7 ?k8 ?k9 ?kB ?_ ?c2 ?c3 ?c4 ?c5; (walk_at "mine enter"))
    walk_at "mine upto iter")
  rename_i hr F1 N1 hkp1
  refine iter_rangeUnr (n := 3) rfl hr (by decide) (by decide) F1 N1 (fun I hI => ?_)
  refine range_fix (fun i m1 => m1 (Str.ofString "plan") = some (.ref p) ∧ m1 (Str.ofString "men") = some (.ref pm) ∧ m1 (Str.ofString "women") = some (.ref pw) ∧ (∀ j : Int, 0 ≤ j → j < i → menOk P M W j = true)) hI ?_ ?_ 3 0 _ rfl ⟨rfl, rfl, rfl, fun j h0 h1 => absurd h1 (by omega)⟩
  · clear F1 N1 hr hkp1
    intro i t m1 h tk it hlt hR2 F1 N1 C hC
    refine hideG ?_
    intro gk
    obtain ⟨hm1, hm2, hm3, hm4⟩ := hR2
    k_unfold
    clear gk
    dsimp only at F1 N1 ⊢
    w_strict (walk_at "mine upto iter")
    rename_i a1 va1 hl1 hi1 hp1 a2 va2 hl2 hi2 hp2 t1 z1 e1 z10 z12 z2 e2 z20 z22 D9 ws h9 hw F2 N2 l2
    have hw' : IntsAre ws ((M.getD i []).take z2.toNat) := by simpa using hw
    have hb : ∀ x ∈ (M.getD i []).take z2.toNat, 0 ≤ x ∧ x ≤ 2 := fun x hx => Perm3.bnd (l := M.getD i []) (by simpa using hp1) (List.mem_of_mem_take hx)
    have hmen : menOk P M W i = ((M.getD i []).take z2.toNat).all fun woman => !badAt P W i woman := by
      unfold menOk; rw [e2, e1]; simp
    refine iter_listUnr rfl F2 N2 (List.Mem.head _) rfl rfl (fun I2 hI2 => ?_)
    refine list_fix (fun ns m2 => (∀ x ∈ ns, 0 ≤ x ∧ x ≤ 2) ∧ menOk P M W i = (ns.all fun woman => !badAt P W i woman) ∧ m2 (Str.ofString "plan") = some (.ref p) ∧ m2 (Str.ofString "men") = some (.ref pm) ∧ m2 (Str.ofString "women") = some (.ref pw) ∧ m2 (Str.ofString "man") = some (.int (0 + (i : Int)) t)) hI2 (List.Mem.head _) ?_ ?_ hw' _ ⟨hb, hmen, ?_, ?_, ?_, ?_⟩
    · clear hmen hb hw' hw hm1 hm2 hm3 F2 N2 hI2
      intro k t3 ns m3 it3 h3 tk3 hR3 F1 N1 C3 hC3
      refine hideG ?_
      intro gk
      obtain ⟨hb, hmen, hm1, hm2, hm3, hm5⟩ := hR3
      k_unfold
      clear gk
      have hk0 := (hb k (List.mem_cons_self ..)).1
      have hk2 := (hb k (List.mem_cons_self ..)).2
      dsimp only at F1 N1 ⊢
      w_strict (walk_at "mine steps")
      · rename_i z1 e1 z10 z12 a6 va6 l6 i6 p6 z2 e2 z20 z22 z3 e3 z30 z32 hlt3
        dsimp only [TurnPost]
        w_strict (walk_at "mine steps")
        refine hret _ _ _ (Fr.keep (by assumption)) ?_
        rw [← hD, holds_false hlt]
        rw [hmen, List.all_cons]
        have hbad : badAt P W i k = true := by
          unfold badAt
          rw [decide_eq_true_eq, ← e2]
          have q := e1; rw [Int.zero_add] at q
          rw [← e3, ← q]; exact hlt3
        rw [hbad]; rfl
      · rename_i z1 e1 z10 z12 a6 va6 l6 i6 p6 z2 e2 z20 z22 z3 e3 z30 z32 hlt3
        dsimp only [TurnPost]
        refine hC3 _ _ _ _ (by assumption) (by assumption) (fun _ hp => hp) ⟨fun x hx => hb x (List.mem_cons_of_mem _ hx), ?_, ?_, ?_, ?_, ?_⟩
        · rw [hmen, List.all_cons]
          have hbad : badAt P W i k = false := by
            unfold badAt
            rw [decide_eq_false_iff_not, ← e2]
            have q := e1; rw [Int.zero_add] at q
            rw [← e3, ← q]; exact hlt3
          rw [hbad]; rfl
        all_goals (walk_at "mine name")
    · intro m3 h3 tk3 hR4 F1 N1
      refine hideG ?_
      intro gk
      obtain ⟨_, hmen, hm1, hm2, hm3, hm5⟩ := hR4
      k_unfold
      clear gk
      dsimp only
      w_strict (walk_at "mine steps")
      dsimp only [TurnPost]
      refine hC _ _ _ _ (by assumption) (by assumption) (by intro p hp; first | exact hp | exact List.mem_cons_of_mem _ hp) ⟨hm1, hm2, hm3, fun j h0 h1 => ?_⟩
      by_cases hj : j < i
      · exact hm4 j h0 hj
      · obtain rfl : j = i := by omega
        rw [hmen]; rfl
    all_goals (walk_at "mine name")
  · intro m1 h tk hR5 F2 N2
    refine hideG ?_
    intro gk
    obtain ⟨hm1, hm2, hm3, hm4⟩ := hR5
    k_unfold
    clear gk
    dsimp only
    w_strict (walk_at "mine steps")
    refine hret _ _ _ (Fr.keep (by assumption)) ?_
    rw [← hD]
    unfold holdsP
    rw [hm4 0 (by decide) (by decide), hm4 1 (by decide) (by decide), hm4 2 (by decide) (by decide)]
    rfl

end
section -- R5
open PySem.SeqAt
inductive All2 {α β : Type} (R : α → β → Prop) : List α → List β → Prop
  | nil : All2 R [] []
  | cons {a b as bs} : R a b → All2 R as bs → All2 R (a :: as) (b :: bs)
namespace All2
variable {α β : Type} {R T : α → β → Prop}
theorem mono (h : ∀ a b, R a b → T a b) : ∀ {as : List α} {bs : List β}, All2 R as bs → All2 T as bs
  | _, _, .nil => .nil
  | _, _, .cons x r => .cons (h _ _ x) (mono h r)
theorem length : ∀ {as : List α} {bs : List β}, All2 R as bs → as.length = bs.length
  | _, _, .nil => rfl
  | _, _, .cons _ r => congrArg (· + 1) (length r)
theorem get : ∀ {as : List α} {bs : List β}, All2 R as bs → ∀ {i : Nat} {a : α}, as[i]? = some a → ∃ b, bs[i]? = some b ∧ R a b
  | _, _, .nil, _, _, h => by cases h
  | _, _, .cons x r, 0, _, h => by cases h; exact ⟨_, rfl, x⟩
  | _, _, .cons _ r, i + 1, _, h => get r (i := i) h
theorem snoc : ∀ {as : List α} {bs : List β} {a : α} {b : β}, All2 R as bs → R a b → All2 R (as ++ [a]) (bs ++ [b])
  | _, _, _, _, .nil, h => .cons h .nil
  | _, _, _, _, .cons x r, h => .cons x (snoc r h)
end All2
theorem IntsAre.of_all2 : ∀ {vs : List Value} {ns : List Int}, All2 (fun v n => ∃ t, v = .int n t) vs ns → IntsAre vs ns
  | _, _, .nil => .nil
  | _, _, .cons ⟨t, e⟩ r => by subst e; exact .cons _ _ (IntsAre.of_all2 r)
theorem IntsAre.all2 : ∀ {vs : List Value} {ns : List Int}, IntsAre vs ns → All2 (fun v n => ∃ t, v = .int n t) vs ns
  | _, _, .nil => .nil
  | _, _, .cons n t r => .cons ⟨t, rfl⟩ (IntsAre.all2 r)
theorem News.sub {h₀ h : Heap} {L : Addr} {a b : List (Addr × Obj)} (N : News h₀ L h a) (hs : ∀ p ∈ b, p ∈ a) : News h₀ L h b := fun p hp => N p (hs p hp)
section
open LCg
variable {prog : Program} {w : World} {A : Around} {s : Shared} {h₀ : Heap} {L : Addr} {m : Str → Option Value} {env : Env} {elt ct : Expr} {x : Str} {scope : Scope} {cl : List (Str × Addr)} {S : List (Addr × Obj) → Prop} {P : Nat → Value → Prop}
  {Fin : List Value → List (Addr × Obj) → Prop} {n : Nat}
theorem comp_inv (Inv : Nat → List Value → List (Addr × Obj) → Prop)
    (turn : ∀ i v ys news I oI C oC D m₂ h tk E', i < n → P i v → Inv i ys news → NsObj oC m₂ → m₂ x = some v → Fr h₀ L h m → News h₀ L h ((I, oI) :: (C, oC) :: (D, lst ys) :: news) → Off3 I C D news → ((@Ne Nat I C) ∧ (@Ne Nat I D) ∧ (@Ne Nat C D)) → ∀ K : Value → Shared → Prop,
      (∀ y h' tk' all news', Fr h₀ L h' m → News h₀ L h' all → (∀ p ∈ (I, oI) :: (C, oC) :: (D, lst ys) :: news', p ∈ all) → Off3 I C D news' → S news' → Inv (i + 1) (ys ++ [y]) news' → K y { s with heap := h', toks := tk' }) →
      wpAny (model prog w) A (eval elt (compEnvC scope cl C env)) K E' { s with heap := h, toks := tk })
    (fin : ∀ ys news, Inv n ys news → Fin ys news) {news : List (Addr × Obj)} (h0 : Inv 0 [] news) : CompRest prog w A h₀ L m env elt x scope cl s S P Fin n 0 [] news := by
  have key : ∀ k i ys news, i + k = n → Inv i ys news → CompRest prog w A h₀ L m env elt x scope cl s S P Fin k i ys news := by
    intro k
    induction k with
    | zero =>
      intro i ys news e hv
      obtain rfl : i = n := by omega
      exact fin ys news hv
    | succ k ih =>
      intro i ys news e hv v I oI C oC D m₂ h tk E' hP hC hx F N off ne
      refine turn i v ys news I oI C oC D m₂ h tk E' (by omega) hP hv hC hx F N off ne _ fun y h' tk' all news' F' N' sub off' hS hv' => ?_
      exact CompEnd.intro F' N' news' sub off' hS (ih (i + 1) (ys ++ [y]) news' (by omega) hv')
  exact key n 0 [] news (by omega) h0
theorem compT_inv (f : Nat → Bool) (Inv : Nat → List Value → List (Addr × Obj) → Prop)
    (test : ∀ i v ys news I oI C oC D m₂ h tk E', i < n → P i v → Inv i ys news → NsObj oC m₂ → m₂ x = some v → Fr h₀ L h m → News h₀ L h ((I, oI) :: (C, oC) :: (D, lst ys) :: news) → Off3 I C D news → ((@Ne Nat I C) ∧ (@Ne Nat I D) ∧ (@Ne Nat C D)) → ∀ K : Bool → Shared → Prop,
      (∀ h' tk' all, Fr h₀ L h' m → News h₀ L h' all → (∀ p ∈ (I, oI) :: (C, oC) :: (D, lst ys) :: news, p ∈ all) → K (f i) { s with heap := h', toks := tk' }) →
      wpAny (model prog w) A (isTrue ct (compEnvC scope cl C env) (eval ct (compEnvC scope cl C env))) K E' { s with heap := h, toks := tk })
    (turn : ∀ i v ys news I oI C oC D m₂ h tk E', i < n → P i v → f i = true → Inv i ys news → NsObj oC m₂ → m₂ x = some v → Fr h₀ L h m → News h₀ L h ((I, oI) :: (C, oC) :: (D, lst ys) :: news) → Off3 I C D news → ((@Ne Nat I C) ∧ (@Ne Nat I D) ∧ (@Ne Nat C D)) → ∀ K : Value → Shared → Prop,
      (∀ y h' tk' all news', Fr h₀ L h' m → News h₀ L h' all → (∀ p ∈ (I, oI) :: (C, oC) :: (D, lst ys) :: news', p ∈ all) → Off3 I C D news' → S news' → Inv (i + 1) (ys ++ [y]) news' → K y { s with heap := h', toks := tk' }) →
      wpAny (model prog w) A (eval elt (compEnvC scope cl C env)) K E' { s with heap := h, toks := tk })
    (skip : ∀ i v ys news, i < n → P i v → f i = false → Inv i ys news → S news ∧ Inv (i + 1) ys news)
    (fin : ∀ ys news, Inv n ys news → Fin ys news) {news : List (Addr × Obj)} (h0 : Inv 0 [] news) : LCt.CompRestT prog w A h₀ L m env ct elt x scope cl s S P Fin n 0 [] news := by
  have key : ∀ k i ys news, i + k = n → Inv i ys news → LCt.CompRestT prog w A h₀ L m env ct elt x scope cl s S P Fin k i ys news := by
    intro k
    induction k with
    | zero =>
      intro i ys news e hv
      obtain rfl : i = n := by omega
      exact fin ys news hv
    | succ k ih =>
      intro i ys news e hv v I oI C oC D m₂ h tk E' hP hC hx F N off ne
      refine test i v ys news I oI C oC D m₂ h tk E' (by omega) hP hv hC hx F N off ne _ fun h' tk' all F' N' sub => ?_
      split
      · rename_i hf
        refine turn i v ys news I oI C oC D m₂ h' tk' E' (by omega) hP hf hv hC hx F' (News.sub N' sub) off ne _ fun y h'' tk'' all' news' F'' N'' sub' off' hS hv' => ?_
        exact CompEnd.intro (s₁ := { s with heap := h, toks := tk }) F'' N'' news' sub' off' hS (ih (i + 1) (ys ++ [y]) news' (by omega) hv')
      · rename_i hf
        refine hideG ?_
        intro gk
        obtain ⟨hS, hv'⟩ := skip i v ys news (by omega) hP (by simpa using hf) hv
        k_unfold
        clear gk
        exact CompEnd.intro (s₁ := { s with heap := h, toks := tk }) F' N' news sub off hS (ih (i + 1) ys news (by omega) hv')
  exact key n 0 [] news (by omega) h0
end
/-- a list of int lists within a ledger; within a heap -/
def RowIn (ls : List (Addr × Obj)) (v : Value) (P : List Int) : Prop := ∃ a va n, v = .ref a ∧ (a, W.listOf (List.toArray va) n) ∈ ls ∧ IntsAre va P
def RowAt (h : Heap) (v : Value) (P : List Int) : Prop := ∃ a va, v = .ref a ∧ LO h a va ∧ IntsAre va P
def PlansIn (ls : List (Addr × Obj)) (l : Addr) (S : List (List Int)) : Prop := ∃ vs n, (l, W.listOf (List.toArray vs) n) ∈ ls ∧ All2 (RowIn ls) vs S
def Plans (h : Heap) (l : Addr) (S : List (List Int)) : Prop := ∃ vs, LO h l vs ∧ All2 (RowAt h) vs S
theorem PlansIn.at {h₀ h : Heap} {L l : Addr} {ls : List (Addr × Obj)} {S : List (List Int)} (N : News h₀ L h ls) (x : PlansIn ls l S) : Plans h l S := by
  refine hideG ?_
  intro gk
  obtain ⟨vs, n, hm, r⟩ := x
  k_unfold
  clear gk
  exact ⟨vs, ⟨n, (N _ hm).1⟩, r.mono fun v P ⟨a, va, n, e, hm, hi⟩ => ⟨a, va, e, ⟨n, (N _ hm).1⟩, hi⟩⟩
theorem PlansIn.sub {ls all : List (Addr × Obj)} {l : Addr} {S : List (List Int)} (hs : ∀ p ∈ ls, p ∈ all) (x : PlansIn ls l S) : PlansIn all l S := by
  refine hideG ?_
  intro gk
  obtain ⟨vs, n, hm, r⟩ := x
  k_unfold
  clear gk
  exact ⟨vs, n, hs _ hm, r.mono fun v P ⟨a, va, n, e, hm, hi⟩ => ⟨a, va, n, e, hs _ hm, hi⟩⟩
theorem Plans.keep {h h' : Heap} {l : Addr} {S : List (List Int)} (k : ∀ b o, h.get? b = some o → h'.get? b = some o) (x : Plans h l S) : Plans h' l S := by
  refine hideG ?_
  intro gk
  obtain ⟨vs, hm, r⟩ := x
  k_unfold
  clear gk
  exact ⟨vs, hm.keep k, r.mono fun v P ⟨a, va, e, hm, hi⟩ => ⟨a, va, e, hm.keep k, hi⟩⟩
theorem Plans.rows3 {h : Heap} {l : Addr} {a b c : List Int} (x : Plans h l [a, b, c]) (ha : Perm3 a) (hb : Perm3 b) (hc : Perm3 c) : Rows3 h l [a, b, c] := by
  refine hideG ?_
  intro gk
  obtain ⟨vs, hm, r⟩ := x
  k_unfold
  clear gk
  refine ⟨vs, hm, fun k h0 h2 => ?_⟩
  cases r with | cons ra r => cases r with | cons rb r => cases r with | cons rc r => cases r with | nil =>
  refine hideG ?_
  intro gk
  obtain ⟨a1, va, e1, l1, i1⟩ := ra
  k_unfold
  clear gk
  refine hideG ?_
  intro gk
  obtain ⟨a2, vb, e2, l2, i2⟩ := rb
  k_unfold
  clear gk
  refine hideG ?_
  intro gk
  obtain ⟨a3, vc, e3, l3, i3⟩ := rc
  k_unfold
  clear gk
  subst e1 e2 e3
  rcases three ⟨h0, h2⟩ with rfl | rfl | rfl
  · exact ⟨a1, va, rfl, l1, i1, ha⟩
  · exact ⟨a2, vb, rfl, l2, i2, hb⟩
  · exact ⟨a3, vc, rfl, l3, i3, hc⟩
/-- what a call has made -/
def Fresh (h h' : Heap) (ls : List (Addr × Obj)) : Prop := ∀ p ∈ ls, h.get? p.1 = none ∧ h'.get? p.1 = some p.2
theorem Fresh.news {h₀ h h' : Heap} {L : Addr} {m : Str → Option Value} {ls news : List (Addr × Obj)} (F : Fr h₀ L h m) (N : News h₀ L h' news) (x : Fresh h h' ls) : News h₀ L h' (ls ++ news) := fun p hp => by
  rcases List.mem_append.mp hp with hp | hp
  · exact news_add F N (x p hp).1 (x p hp).2 _ (List.mem_cons_self ..)
  · exact N p hp
theorem Fresh.of {h h' : Heap} {L : Addr} {ls : List (Addr × Obj)} (N : News h L h' ls) : Fresh h h' ls := fun p hp => ⟨(N p hp).2.2, (N p hp).1⟩
theorem Fresh.off {h₀ h h' : Heap} {L : Addr} {ls news : List (Addr × Obj)} (N : News h₀ L h news) (x : Fresh h h' ls) : ∀ p ∈ ls, ∀ q ∈ news, q.1 ≠ p.1 := fun p hp q hq e => by
  have := (N q hq).1
  rw [e, (x p hp).1] at this
  cases this

end
-- lines 34 to 35
local macro_rules | `(tactic| walk_at "mine upto comp") => `(tactic| repeat' ((fail_if_success (with_reducible show LCt.CompSrcT _ _ _ _ _ _ _ _ _ _ _ _ _ _ _)); (fail_if_success (with_reducible show LCg.CompSrc _ _ _ _ _ _ _ _ _ _ _ _ _ _)); first | (k_unfold; (try dsimp only)) | (walk_at "mine first") | (dsimp only [List.cons_append, List.nil_append, Int.reduceAdd, Int.reduceSub]; walk1) | walk1 | (leave1; walk_say "STEP leave1"; try dsimp only)))
section -- R6
variable {w : World} {mean : ExcName → Option Value} {mg mb : Str → Option Value}
theorem fill9 : PySem.Challenge.rw_qh0043_01 = PySem.Challenge.rw_qh0043_01 ∧ hd.heap_39 = hd.heap_39 := by k_fill; exact ⟨rfl, rfl⟩
def soundP (M V : List (List Int)) : List (List Int) := plans6.filter fun P => holdsP P M V
theorem sound_does {pm pw : Addr} {M V : List (List Int)} :
    Does 2 w mean mg mb 162 [.ref pm, .ref pw] [] (fun h => Rows3 h pm M ∧ Rows3 h pw V) (fun h r h' => ∃ ls l, Fresh h h' ls ∧ r = .ref l ∧ PlansIn ls l (soundP M V)) := by
  w_on
  unfold Does; intro dp un gd cn cs a' ccd cl outer A₀ base h₀ L m s Q E B F X T hk hdp hun hpre hret
  obtain ⟨hq2, hq3⟩ := hpre
  w_strict (
    refine wpAny_call ?_
    k_dflt (refine' enterC [(Str.ofString "men", .ref pm), (Str.ofString "women", .ref pw)] B F X T rfl rfl hk ?k6 ?k7 ?k8 ?k9 ?kB ?kD ?_ ?c2 ?c3 ?c4; (walk_at "mine enterC"))
    walk_at "mine upto comp")
  rename_i p0 _ _ p1 _ _ p2 _ _ p3 _ _ p4 _ _ p5 _ _ pl _ _ _ F1 N1
  refine LCt.CompSrcT.ledger rfl F1 N1 (List.Mem.head _) (Nat.le_of_ble_eq_true rfl) (fun g => ?_)
  generalize hN : ((pl, W.listOf #[Value.ref p0, Value.ref p1, Value.ref p2, Value.ref p3, Value.ref p4, Value.ref p5] 0) :: _ : List (Addr × Obj)) = N0 at N1 ⊢
  have hrel : All2 (RowIn N0) [Value.ref p0, Value.ref p1, Value.ref p2, Value.ref p3, Value.ref p4, Value.ref p5] plans6 := by
    subst hN
    refine .cons ⟨p0, _, _, rfl, by k_mem, .cons _ _ (.cons _ _ (.cons _ _ .nil))⟩ (.cons ⟨p1, _, _, rfl, by k_mem, .cons _ _ (.cons _ _ (.cons _ _ .nil))⟩ (.cons ⟨p2, _, _, rfl, by k_mem, .cons _ _ (.cons _ _ (.cons _ _ .nil))⟩ (.cons ⟨p3, _, _, rfl, by k_mem, .cons _ _ (.cons _ _ (.cons _ _ .nil))⟩ (.cons ⟨p4, _, _, rfl, by k_mem, .cons _ _ (.cons _ _ (.cons _ _ .nil))⟩ (.cons ⟨p5, _, _, rfl, by k_mem, .cons _ _ (.cons _ _ (.cons _ _ .nil))⟩ .nil)))))
  clear F1 N1
  refine compT_inv (fun i => holdsP (plans6.getD i []) M V) (fun i ys news => news = N0 ∧ All2 (RowIn N0) ys ((plans6.take i).filter fun P => holdsP P M V)) ?_ ?_ ?_ ?_ ⟨rfl, .nil⟩
  · rintro i v ys news I oI C oC D m₂ h tk E' hi hP ⟨rfl, hys⟩ hC hx F1 N1 off ne K hK
    obtain ⟨P, hp, a, va, n, rfl, hm, hva⟩ := hrel.get (i := i) (by simpa using hP)
    have hP3 : Perm3 P := List.mem_of_getElem? hp
    have hPd : plans6.getD i [] = P := by rw [List.getD_eq_getElem?_getD, hp]; rfl
    rw [hPd] at hK
    subst hN
    have hla := LO.news N1 (List.Mem.tail _ (List.Mem.tail _ (List.Mem.tail _ hm)))
    w_strict (walk_at "mine steps")
    refine' Does.use (holds_does hva hP3 (M := M) (W := V)) ?k1 ?k2 ?k3 ?k4 ?k5 ?k6 ?k7 ?k8 ?k9 ?_
    (case k1 => k_asm)
    (case k2 => k_asm)
    (case k3 => k_asm)
    (case k4 => k_asm)
    (case k5 => k_asm)
    (case k6 => first | exact rfl | assumption)
    (case k7 => ktr_room)
    (case k8 => ktr_units)
    (case k9 => exact ⟨by simpa using hla, Rows3.keep (Fr.keep (by assumption)) hq2, Rows3.keep (Fr.keep (by assumption)) hq3⟩)
    intro r' h' tk' G' P' F' N'
    subst P'
    w_strict (walk_at "mine steps")
    exact hK _ _ _ F' N' (fun _ hp => hp)
  · rintro i v ys news I oI C oC D m₂ h tk E' hi hP hf ⟨rfl, hys⟩ hC hx F1 N1 off ne K hK
    obtain ⟨P, hp, hv⟩ := hrel.get (i := i) (by simpa using hP)
    have hPd : plans6.getD i [] = P := by rw [List.getD_eq_getElem?_getD, hp]; rfl
    w_strict (walk_at "mine steps")
    refine hK _ _ _ _ news F1 N1 (fun _ hp => hp) off (Or.inr ⟨_, by rw [← hN]; exact List.Mem.head _, rfl, _, rfl⟩) ⟨rfl, ?_⟩
    have hf' : holdsP P M V = true := by rw [← hPd]; exact hf
    rw [List.take_add_one, hp, List.filter_append]
    simp only [Option.toList_some, List.filter_cons, hf', if_true, List.filter_nil]
    exact hys.snoc hv
  · rintro i v ys news hi hP hf ⟨rfl, hys⟩
    obtain ⟨P, hp, hv⟩ := hrel.get (i := i) (by simpa using hP)
    have hPd : plans6.getD i [] = P := by rw [List.getD_eq_getElem?_getD, hp]; rfl
    have hf' : holdsP P M V = false := by rw [← hPd]; exact hf
    refine ⟨Or.inr ⟨_, by rw [← hN]; exact List.Mem.head _, rfl, _, rfl⟩, rfl, ?_⟩
    rw [List.take_add_one, hp, List.filter_append]
    simp only [Option.toList_some, List.filter_cons, hf', Bool.false_eq_true, if_false, List.filter_nil, List.append_nil]
    exact hys
  · rintro ys news ⟨rfl, hys⟩
    intro D h tk F1 N1 off
    w_strict (walk_at "mine steps")
    refine hret _ _ _ (Fr.keep (by assumption)) ⟨_, _, Fresh.of N1, rfl, ys, ys.length, List.Mem.head _, ?_⟩
    exact All2.mono (fun v P ⟨a, va, n, e, hm, hi⟩ => ⟨a, va, n, e, List.Mem.tail _ hm, hi⟩) hys

end
section -- R7
open PySem.SeqAt
open LCg
section
variable {prog : Program} {w : World} {A : Around} {E : Value → Shared → Prop} {s : Shared} {h₀ : Heap} {L : Addr} {m : Str → Option Value} {env : Env}
/-- a comprehension's bytes -/
def CompSrcB (prog : Program) (w : World) (A : Around) (h₀ : Heap) (L : Addr) (m : Str → Option Value) (env : Env) (elt : Expr) (x : Str) (scope : Scope) (cl : List (Str × Addr)) (Fin : Shared → List Value → List (Addr × Obj) → Prop) (xv : Value) (s₁ : Shared) : Prop :=
  ∃ b t news, xv = .bytes b t ∧ A.handled = none ∧ Fr h₀ L s₁.heap m ∧ News h₀ L s₁.heap news ∧ b.size ≤ sizeLine ∧
    ∀ s₂ : Shared, (∃ h, s₂ = { s₁ with heap := h }) → CompRest prog w A h₀ L m env elt x scope cl s₂ (fun _ => True) (fun i v => ∃ c u, b[i]? = some c ∧ v = .int (c.toNat : Int) u) (Fin s₂) b.size 0 [] news
theorem CompSrcB.intro {elt : Expr} {x : Str} {scope : Scope} {cl : List (Str × Addr)} {Fin : Shared → List Value → List (Addr × Obj) → Prop} {b : Array UInt8} {t : Tok} {news : List (Addr × Obj)} {s₁ : Shared}
    (hh : A.handled = none) (F : Fr h₀ L s₁.heap m) (N : News h₀ L s₁.heap news) (hsz : b.size ≤ sizeLine)
    (h : ∀ g, CompRest prog w A h₀ L m env elt x scope cl { s₁ with heap := g } (fun _ => True) (fun i v => ∃ c u, b[i]? = some c ∧ v = .int (c.toNat : Int) u) (Fin { s₁ with heap := g }) b.size 0 [] news) :
    CompSrcB prog w A h₀ L m env elt x scope cl Fin (.bytes b t) s₁ := ⟨b, t, news, rfl, hh, F, N, hsz, fun _ ⟨g, e⟩ => e ▸ h g⟩
theorem ListComp_B {elt iter : Expr} {x : Str} {px : Pos} {scope : Scope} {cl : List (Str × Addr)} {pos : Pos} {Q : Value → Shared → Prop} (F₀ : Fr h₀ L s.heap m)
    (hclos : closureFor scope env = pure cl) (hcell : ∀ y ∈ scope.names, y.2 ≠ .cell) (hkind : scope.kind = .function)
    (hnames : ∀ y ∈ scope.names, y.2 = .local → scope.names.lookup y.1 = some .local) (hx : scope.names.lookup x = some .local)
    (h : wpAny (model prog w) A (eval iter env) (CompSrcB prog w A h₀ L m env elt x scope cl (fun s₂ => FinE h₀ L m s₂ Q)) E s)
    (hs : ∀ x, foldedSetIterable iter env x = pure x := by intro _; rfl) :
    wpAny (model prog w) A (eval (.ListComp elt [⟨.Name x px, iter, [], 0⟩] scope pos) env) Q E s := by
  rw [eval_ListComp]
  refine wpAny_comprehension_free (use := none) rfl hs hclos hkind hnames (wpAny_mono h (fun xv s₁ h₁ => ?_) fun _ _ e => e)
  refine hideG ?_
  intro gk
  obtain ⟨b, t, news, hE2, hh, F, N, hsz, R⟩ := h₁
  k_unfold
  clear gk
  subst hE2
  refine KBw.pyIter_bytes ?_
  have up : ∀ c o, s₁.heap.get? c = some o → (s₁.heap.push { cls := .type "bytes_iterator", data := .fields #[.bytes b t, .int 0 0] }).get? c = some o := fun c o e => Heap.get?_push_of_some _ e
  refine block_U (KBw.walks hh s₁.heap.objs.size b t) hsz (fun i h st => by obtain ⟨o, e, _⟩ := st; exact ⟨o, e⟩) (fun i h h' o nw st e e' _ _ _ => by obtain ⟨o', q, r⟩ := st; rw [e] at q; cases q; exact ⟨o, e', r⟩)
    hcell hkind hx ⟨_, Heap.get?_push_size _ rfl, rfl, rfl⟩ (fun c hb => ?_) (F.keeps up) (N.grown up) (Nat.ne_of_lt F.ns.lt) (next_is_new F) (fun p hp => Nat.ne_of_lt (Heap.lt_size (N p hp).1)) trivial (R _ ⟨_, rfl⟩) ?_
  · rw [List.mem_singleton.mp hb]
    show s₁.heap.objs.size < (s₁.heap.push _).objs.size
    rw [Heap.size_push]; exact Nat.lt_succ_self _
  · intro D C h' tk m' ys news' F' N' o1 hn hC₀ hD₀ hCL hDL hCD offC fin
    refine ⟨m', hn, fun h'' hs'' => fin D h'' tk (F'.change hs'' hCL hC₀) (fun p hp => ?_) o1⟩
    refine ⟨hs''.extBut _ _ ?_ (N' p hp).1, (N' p hp).2⟩
    rcases List.mem_cons.mp hp with rfl | hp
    · exact Ne.symm hCD
    · exact offC p hp
end

end
section -- R8
variable {w : World} {mean : ExcName → Option Value} {mg mb : Str → Option Value}
theorem fill10 : PySem.Challenge.rw_qh0043_01 = PySem.Challenge.rw_qh0043_01 ∧ hd.heap_39 = hd.heap_39 := by k_fill; exact ⟨rfl, rfl⟩
local macro_rules | `(tactic| walk_at "mine first") => `(tactic| ((with_reducible show wpAny _ _ (eval (Expr.ListComp _ _ _ _) _) _ _ _); k_dflt (refine ListComp_B (F₀ := by k_asm) (by with_unfolding_all rfl) (by decide) (by rfl) (by decide) (by rfl) ?_)))
local macro_rules | `(tactic| walk_at "mine first") => `(tactic| ((with_reducible show wpAny _ _ (call (Value.ref 108) _ _) _ _ _); k_dflt (refine' Does.use (b64e_does _ ?b1 ?b2 ?b3 ?b4) ?k1 ?k2 ?k3 ?k4 ?k5 ?k6 ?k7 ?k8 ?k9 ?_; (case b1 => assumption); (case b2 => assumption); (case b3 => assumption); (case b4 => assumption); (walk_at "mine used"); rename_i r9 h9 tk9 G9 P9 F9 N9; obtain ⟨b9, t9, e9, q9⟩ := P9; subst e9)))
theorem opened_does {b : Array UInt8} {t : Tok} {x y z : Int} (hb : KBw.bInts b = [4 * x, 16 * y, 64 * z]) (hx : 0 ≤ x ∧ x ≤ 2) (hy : 0 ≤ y ∧ y ≤ 2) (hz : 0 ≤ z ∧ z ≤ 2) :
    Does 4 w mean mg mb 145 [.bytes b t] [] (fun _ => True) (fun h r h' => NewInts h [x, y, z] r h') := by
  w_on
  unfold Does; intro dp un gd cn cs a' ccd cl outer A₀ base h₀ L m s Q E B F X T hk hdp hun hpre hret
  w_strict (
    refine wpAny_call ?_
    k_dflt (refine' enterP [(Str.ofString "letter", .bytes b t)] B F X T rfl rfl hk ?k6 ?k7 ?k8 ?k9 ?kB ?_ ?c2 ?c3 ?c4 ?c5; (walk_at "mine enter"))
    walk_at "mine steps")
  rename_i h9 tk9 G9 F9 N9 b9 t9 q9
  have hsz : b9.size = 4 := by rw [← KBw.ints_length, q9]; rfl
  refine CompSrcB.intro rfl F9 N9 (by rw [hsz]; exact Nat.le_of_ble_eq_true rfl) (fun g => ?_)
  rw [hsz]
  clear F9 N9
  refine comp_inv (fun i ys news => news = [] ∧ IntsAre ys (([65 + x, 65 + y, 65 + z, 65].take i).map fun c => c - 65)) ?_ ?_ ⟨rfl, .nil⟩
  · intro i v ys news I oI C oC D m₂ h tk E' hi hR1 hR2 hC hx F1 N1 off ne K hK
    refine hideG ?_
    intro gk
    obtain ⟨c, u, hc, hE3⟩ := hR1
    obtain ⟨hE4, hys⟩ := hR2
    k_unfold
    clear gk
    subst hE3
    subst hE4
    have e := KBw.ints_get hc
    rw [q9] at e
    w_strict (walk_at "mine steps")
    refine hK _ _ _ _ [] (by assumption) (by assumption) (fun _ hp => hp) off trivial ⟨rfl, ?_⟩
    rw [List.take_add_one, e, List.map_append]
    exact hys.append (.cons _ _ .nil)
  · intro ys news hR5
    refine hideG ?_
    intro gk
    obtain ⟨hE6, hys⟩ := hR5
    k_unfold
    clear gk
    subst hE6
    have hys' : IntsAre ys [65 + x - 65, 65 + y - 65, 65 + z - 65, 65 - 65] := hys
    intro D h tk F1 N1 off
    w_strict (walk_at "mine steps")
    rename_i D9 ws h9 hw F9 N9 l9
    refine hret _ _ _ (Fr.keep (by assumption)) (NewInts.of N9 (List.Mem.head _) ?_)
    have e : ∀ u : Int, 65 + u - 65 = u := fun u => by omega
    rw [e, e, e] at hw
    exact hw

end
section -- R9
open PySem.SeqAt
open LCg
theorem lt_ne {c z : Nat} (k : Nat) (h : c < z) : c ≠ z + k := by omega
theorem lt_en {c z : Nat} (k : Nat) (h : c < z) : z + k ≠ c := by omega
theorem add_ne {z : Nat} (j k : Nat) (h : j ≠ k) : z + j ≠ z + k := by omega
def Off4 (I C D K : Addr) (news : List (Addr × Obj)) : Prop := ∀ p ∈ news, p.1 ≠ I ∧ p.1 ≠ C ∧ p.1 ≠ D ∧ p.1 ≠ K
section
variable {prog : Program} {w : World} {A : Around} {E : Value → Shared → Prop} {s : Shared} {h₀ : Heap} {L : Addr} {m : Str → Option Value} {env : Env}
/-- the turns of a comprehension over a range whose name is a cell -/
def CellTurns (prog : Program) (w : World) (A : Around) (h₀ : Heap) (L : Addr) (m : Str → Option Value) (env : Env) (elt : Expr) (x : Str) (scope : Scope) (cl : List (Str × Addr)) (s₂ : Shared) (a : Int) (n : Nat) (news : List (Addr × Obj)) (Q : Value → Shared → Prop) : Prop :=
  ∃ Inv : Nat → List Value → Prop, Inv 0 [] ∧
    (∀ i t ys I oI C oC D K oK h tk E', i < n → Inv i ys → oK.data = .cell (some (.int (a + (i : Int)) t)) → Fr h₀ L h m → News h₀ L h ((I, oI) :: (C, oC) :: (D, lst ys) :: (K, oK) :: news) → Off4 I C D K news → (@Ne Nat I C ∧ @Ne Nat I D ∧ @Ne Nat I K ∧ @Ne Nat C D ∧ @Ne Nat C K ∧ @Ne Nat D K) → ∀ R : Value → Shared → Prop,
      (∀ y h' tk' all, Fr h₀ L h' m → News h₀ L h' all → (∀ p ∈ (I, oI) :: (C, oC) :: (D, lst ys) :: (K, oK) :: news, p ∈ all) → Inv (i + 1) (ys ++ [y]) → R y { s₂ with heap := h', toks := tk' }) →
      wpAny (model prog w) A (eval elt (compEnvC scope ((x, K) :: cl) C env)) R E' { s₂ with heap := h, toks := tk }) ∧
    (∀ ys D h tk, Inv n ys → Fr h₀ L h m → News h₀ L h ((D, lst ys) :: news) → (∀ p ∈ news, p.1 ≠ D) → Q (.ref D) { s₂ with heap := h, toks := tk })
inductive CellSrc (prog : Program) (w : World) (A : Around) (h₀ : Heap) (L : Addr) (m : Str → Option Value) (env : Env) (elt : Expr) (x : Str) (scope : Scope) (cl : List (Str × Addr)) (Q : Value → Shared → Prop) : Value → Shared → Prop
  | mk (r : Addr) (a b : Int) (t u v : Tok) (n : Nat) (news : List (Addr × Obj)) (s₁ : Shared) (hh : A.handled = none) (F : Fr h₀ L s₁.heap m) (N : News h₀ L s₁.heap news) (hr : IsRange s₁.heap r a b 1 t u v) (hsm : Builtin.Range.small a b 1 = true) (hn : Builtin.Range.rangeSize a b 1 = ((n : Nat) : Int)) (hsz : n ≤ sizeLine)
      (R : ∀ g tk, CellTurns prog w A h₀ L m env elt x scope cl { s₁ with heap := g, toks := tk } a n news Q) : CellSrc prog w A h₀ L m env elt x scope cl Q (.ref r) s₁
/-- the comprehension's loop before a turn -/
inductive LoopK (z n : Nat) (a : Int) (s₁ : Shared) (h₀ : Heap) (L : Addr) (m : Str → Option Value) (news : List (Addr × Obj)) (Inv : Nat → List Value → Prop) : Nat → Shared → Prop
  | mk (h' : Heap) (tk i : Nat) (ys : List Value) (oK : Obj) (c0 : Option Value) (hi : i ≤ n) (hyl : ys.length = i) (hI : IsRangeIter h' z (a + (i : Nat) * 1) ((n : Int) - (i : Nat)) 1) (hD : h'.get? (z + 1) = some (lst ys)) (hC : h'.Ns (z + 2) fun _ => none)
      (hK : h'.get? (z + 3) = some oK) (hKd : oK.data = .cell c0) (F' : Fr h₀ L h' m) (N' : News h₀ L h' news) (hv : Inv i ys) : LoopK z n a s₁ h₀ L m news Inv (n + 1 - i) { s₁ with heap := h', toks := tk }
/-- and behind its element -/
inductive EltK (z n i : Nat) (a : Int) (s₁ : Shared) (h₀ : Heap) (L : Addr) (m : Str → Option Value) (news : List (Addr × Obj)) (Inv : Nat → List Value → Prop) (oC oK : Obj) (ys : List Value) (y : Value) : Shared → Prop
  | mk (h₄ : Heap) (tk₄ : Nat) (F₄ : Fr h₀ L h₄ m) (N₄ : News h₀ L h₄ ((z, itR (a + ((i + 1 : Nat) : Int) * 1) ((n : Int) - ((i + 1 : Nat) : Int))) :: (z + 2, oC) :: (z + 1, lst ys) :: (z + 3, oK) :: news)) (hv' : Inv (i + 1) (ys ++ [y])) : EltK z n i a s₁ h₀ L m news Inv oC oK ys y { s₁ with heap := h₄, toks := tk₄ }
theorem ListComp_K {elt iter : Expr} {x : Str} {px : Pos} {scope : Scope} {cl : List (Str × Addr)} {pos : Pos} {Q : Value → Shared → Prop} (_F₀ : Fr h₀ L s.heap m)
    (hclos : closureFor scope env = pure cl) (hkind : scope.kind = .function)
    (hnames : ∀ y ∈ scope.names, y.2 = .local → scope.names.lookup y.1 = some .local) (hx : (relabel scope env).names.lookup x = some .cell)
    (hcells : ∀ c, cellsFrom c scope.names cl = (x, c) :: cl) (hpush : ∀ h, pushCells h scope.names = h.push { cls := .type "cell", data := .cell none })
    (h : wpAny (model prog w) A (eval iter env) (CellSrc prog w A h₀ L m env elt x scope cl Q) E s)
    (hs : ∀ x, foldedSetIterable iter env x = pure x := by intro _; rfl) :
    wpAny (model prog w) A (eval (.ListComp elt [⟨.Name x px, iter, [], 0⟩] scope pos) env) Q E s := by
  rw [eval_ListComp]
  refine wpAny_comprehension_free (use := none) rfl hs hclos hkind hnames (wpAny_mono h (fun xv s₁ h₁ => ?_) fun _ _ e => e)
  cases h₁ with | mk r a b t u v n news _ hh F N hr hsm hn hsz R =>
  refine wpAny_pyIter_range hr hsm ?_
  refine wpAny_newObj_type ?_
  simp only [newFunctionEnv]
  refine wpAny_bind (wpAny_alloc ?_)
  refine wpAny_bind (wpAny_layCells _ (fun name kind cells => by cases hkc : kind == NameKind.cell <;> simp [hkc]) _ _ _ _ ?_)
  rw [hcells, hpush]
  dsimp only
  rw [hn]
  generalize hH1 : s₁.heap.push { cls := .type "range_iterator", data := .fields #[rawInt a, rawInt ((n : Nat) : Int), rawInt 1] } = H1
  generalize hH2 : H1.push { cls := .type "list", dict := none, data := .seq ([] : List Value).toArray } = H2
  generalize hH3 : H2.push { cls := .type (if (some env).isSome = true then "dict" else "frame"), data := .dict #[] } = H3
  generalize hH4 : H3.push { cls := .type "cell", data := .cell none } = H4
  have z1 : H1.objs.size = s₁.heap.objs.size + 1 := by rw [← hH1, Heap.size_push]
  have z2 : H2.objs.size = s₁.heap.objs.size + 2 := by rw [← hH2, Heap.size_push, z1]
  have z3 : H3.objs.size = s₁.heap.objs.size + 3 := by rw [← hH3, Heap.size_push, z2]
  generalize hz : s₁.heap.objs.size = z at z1 z2 z3
  have up1 : ∀ c o, s₁.heap.get? c = some o → H1.get? c = some o := fun c o e => hH1 ▸ Heap.get?_push_of_some _ e
  have up2 : ∀ c o, H1.get? c = some o → H2.get? c = some o := fun c o e => hH2 ▸ Heap.get?_push_of_some _ e
  have up3 : ∀ c o, H2.get? c = some o → H3.get? c = some o := fun c o e => hH3 ▸ Heap.get?_push_of_some _ e
  have up4 : ∀ c o, H3.get? c = some o → H4.get? c = some o := fun c o e => hH4 ▸ Heap.get?_push_of_some _ e
  have up : ∀ c o, s₁.heap.get? c = some o → H4.get? c = some o := fun c o e => up4 _ _ (up3 _ _ (up2 _ _ (up1 _ _ e)))
  have eI : H4.get? z = some { cls := .type "range_iterator", data := .fields #[rawInt a, rawInt ((n : Nat) : Int), rawInt 1] } :=
    up4 _ _ (up3 _ _ (up2 _ _ (by rw [← hH1, ← hz]; exact Heap.get?_push_size _ rfl)))
  have eD : H4.get? (z + 1) = some (lst []) := up4 _ _ (up3 _ _ (by rw [← hH2, ← z1]; exact Heap.get?_push_size _ rfl))
  have eC : H4.Ns (z + 2) fun _ => none := by
    have q : H3.Ns H2.objs.size fun _ => none := hH3 ▸ Heap.Ns.new H2 _
    rw [z2] at q
    exact q.at' (up4 _)
  have eK : H4.IsCell (z + 3) none := ⟨_, by rw [← hH4, ← z3]; exact Heap.get?_push_size _ rfl, rfl⟩
  have fresh₀ : ∀ c, z ≤ c → h₀.get? c = none := fun c hc => by
    cases e : h₀.get? c with
    | none => rfl
    | some o => have := Heap.lt_size (F.keep c o e); rw [hz] at this; exact absurd this (Nat.not_lt.mpr hc)
  have hLz : L < z := hz ▸ F.ns.lt
  have hNz : ∀ p ∈ news, p.1 < z := fun p hp => hz ▸ Heap.lt_size (N p hp).1
  have W := range_walks (prog := prog) (w := w) (I := z) hh a n
  refine hideG ?_
  intro gk
  obtain ⟨Inv, inv0, turn, fin⟩ := R H4 s₁.toks
  k_unfold
  clear gk
  refine wpAny_bind (wpAny_pure ?_)
  refine wpAny_pure ?_
  simp only [z1, z2, z3]
  have loop : codeAny (model prog w) A (.compLoop (.ListComp elt [⟨.Name x px, iter, [], 0⟩] scope pos) 0 (.ref z) (.ref (z + 1)) (compEnvC scope ((x, z + 3) :: cl) (z + 2) env))
      (compPost (model prog w) A E none Q (.ref (z + 1)) (z + 2)) { s₁ with heap := H4 } := by
    refine codeAny_compLoop_tests
      (fun k s' => LoopK z n a s₁ h₀ L m news Inv k s') ?_ (n + 1)
      (LoopK.mk (z := z) (n := n) (a := a) H4 s₁.toks 0 [] _ _ (Nat.zero_le _) rfl ?_ eD eC eK.choose_spec.1 eK.choose_spec.2 (F.keeps up) (N.grown up) inv0)
    · intro k s' hLK
      cases hLK with | mk h' tk i ys oK c0 hi hyl hI hD hC hK hKd F' N' hv =>
      by_cases hlt : i < n
      · refine W.item i _ _ _ hlt hI fun v h₂ tk₂ hPv hI₂ hk₂ => ?_
        refine hideG ?_
        intro gk
        obtain ⟨t, hE3⟩ := hPv
        k_unfold
        clear gk
        subst hE3
        have ne : ∀ c : Nat, z < c → c ∉ [z] := fun c hc hm => by rw [List.mem_singleton.mp hm] at hc; exact Nat.lt_irrefl _ hc
        have lo : ∀ c : Nat, c < z → c ∉ [z] := fun c hc hm => by rw [List.mem_singleton.mp hm] at hc; exact Nat.lt_irrefl _ hc
        have hK₂ : h₂.get? (z + 3) = some oK := hk₂ _ _ (ne _ (by omega)) hK
        refine wpAny_assign_Name (wpAny_storeName_cell (c := z + 3) (v₀ := c0) hkind hx (by simp [compEnvC]) ⟨_, hK₂, hKd⟩ fun h₃ hK₃ hs₃ => ?_)
        refine wpAny_tests_nil ?_
        simp only [if_true]
        refine hideG ?_
        intro gk
        obtain ⟨oK₃, hK₃, hKd₃⟩ := hK₃
        k_unfold
        clear gk
        have st : ∀ c o, c ≠ z + 3 → h₂.get? c = some o → h₃.get? c = some o := fun c o hc e => (hs₃.2 c hc).trans e
        have all : ∀ c o, c ≠ z → c ≠ z + 3 → h'.get? c = some o → h₃.get? c = some o := fun c o h1 h2 e => st c o h2 (hk₂ c o (fun hm => h1 (List.mem_singleton.mp hm)) e)
        have old : ∀ c o, c < z → h'.get? c = some o → h₃.get? c = some o := fun c o hc e => all c o (Nat.ne_of_lt hc) (by omega) e
        have hI₃ : h₃.get? z = some _ := st z _ (by omega) hI₂
        refine hideG ?_
        intro gk
        obtain ⟨oC, hC₀, hCo⟩ := ns_obj hC
        k_unfold
        clear gk
        have hC₃ := all (z + 2) oC (by omega) (by omega) hC₀
        have hD₃ := all (z + 1) _ (by omega) (by omega) hD
        have F₃ : Fr h₀ L h₃ m := ⟨F'.ns.at' fun o e => old L o hLz e, fun c o e => old c o (hz ▸ Heap.lt_size (F.keep c o e)) (F'.keep c o e), F'.above⟩
        have N₃ : News h₀ L h₃ ((z, itR (a + ((i + 1 : Nat) : Int) * 1) ((n : Int) - ((i + 1 : Nat) : Int))) :: (z + 2, oC) :: (z + 1, lst ys) :: (z + 3, oK₃) :: news) := fun p hp => by
          have nL : ∀ c, z ≤ c → c ≠ L := fun c hc e => by rw [e] at hc; exact absurd hLz (Nat.not_lt.mpr hc)
          rcases List.mem_cons.mp hp with rfl | hp
          · exact ⟨hI₃, nL _ (Nat.le_refl _), fresh₀ _ (Nat.le_refl _)⟩
          rcases List.mem_cons.mp hp with rfl | hp
          · exact ⟨hC₃, nL _ (Nat.le_add_right _ _), fresh₀ _ (Nat.le_add_right _ _)⟩
          rcases List.mem_cons.mp hp with rfl | hp
          · exact ⟨hD₃, nL _ (Nat.le_add_right _ _), fresh₀ _ (Nat.le_add_right _ _)⟩
          rcases List.mem_cons.mp hp with rfl | hp
          · exact ⟨hK₃, nL _ (Nat.le_add_right _ _), fresh₀ _ (Nat.le_add_right _ _)⟩
          · exact ⟨old _ _ (hNz p hp) (N' p hp).1, (N' p hp).2⟩
        refine wpAny_mono (turn i t ys z _ (z + 2) oC (z + 1) (z + 3) oK₃ h₃ tk₂ _ hlt hv hKd₃ F₃ N₃ (fun p hp => ?_) ⟨by omega, by omega, by omega, by omega, by omega, by omega⟩
          (fun y s₄ => EltK z n i a s₁ h₀ L m news Inv oC oK₃ ys y s₄) ?_) (fun y s₄ q => ?_) fun _ _ e => e
        · have := hNz p hp
          exact ⟨Nat.ne_of_lt this, lt_ne 2 this, lt_ne 1 this, lt_ne 3 this⟩
        · intro y h₄ tk₄ all' F₄ N₄ sub hv'
          exact ⟨h₄, tk₄, F₄, fun p hp => N₄ p (sub p hp), hv'⟩
        · cases q with | mk h₄ tk₄ F₄ N₄ hv' =>
          have g1 := (N₄ _ (List.Mem.head _)).1
          have g2 := (N₄ _ (List.Mem.tail _ (List.Mem.head _))).1
          have g3 := (N₄ _ (List.Mem.tail _ (List.Mem.tail _ (List.Mem.head _)))).1
          have g4 := (N₄ _ (List.Mem.tail _ (List.Mem.tail _ (List.Mem.tail _ (List.Mem.head _))))).1
          have N₄' : News h₀ L h₄ news := fun p hp => N₄ p (List.Mem.tail _ (List.Mem.tail _ (List.Mem.tail _ (List.Mem.tail _ hp))))
          refine append_at (hsz := by show ys.toArray.size ≤ sizeLine; rw [List.size_toArray, hyl]; exact Nat.le_trans hi hsz) g3 fun h₅ hs₅ hD₅ => ?_
          refine ⟨n + 1 - (i + 1), by omega, h₅, tk₄, i + 1, ys ++ [y], oK₃, _, hlt, by rw [List.length_append, List.length_singleton, hyl], (hs₅.2 z (add_ne 0 1 (by decide))).trans g1, hD₅.trans (congrArg some (lst_snoc ys y)),
            (hCo.ns g2).sameBut hs₅ (add_ne 2 1 (by decide)), (hs₅.2 _ (add_ne 3 1 (by decide))).trans g4, hKd₃, F₄.change hs₅ (lt_en 1 hLz) (fresh₀ _ (Nat.le_add_right _ _)), fun p hp => ⟨(hs₅.2 _ (lt_ne 1 (hNz p hp))).trans (N₄' p hp).1, (N₄' p hp).2⟩, hv'⟩
      · obtain rfl : i = n := Nat.le_antisymm hi (Nat.not_lt.mp hlt)
        refine W.done _ _ _ hI fun h₂ tk₂ hk₂ => ?_
        have old : ∀ c o, c ≠ z → h'.get? c = some o → h₂.get? c = some o := fun c o hc e => hk₂ c o (fun hm => hc (List.mem_singleton.mp hm)) e
        refine ⟨_, hC.at' fun o e => old _ _ (by omega) e, fun h₃ hs₃ => ?_⟩
        have st : ∀ c o, c ≠ z → c ≠ z + 2 → h'.get? c = some o → h₃.get? c = some o := fun c o h1 h2 e => (hs₃.2 c h2).trans (old c o h1 e)
        refine fin ys (z + 1) h₃ tk₂ hv ⟨F'.ns.at' fun o e => st L o (Nat.ne_of_lt hLz) (lt_ne 2 hLz) e, fun c o e => ?_, F'.above⟩ (fun p hp => ?_) (fun p hp e => ?_)
        · have hc : c < z := hz ▸ Heap.lt_size (F.keep c o e)
          exact st c o (Nat.ne_of_lt hc) (lt_ne 2 hc) (F'.keep c o e)
        · rcases List.mem_cons.mp hp with rfl | hp
          · exact ⟨st _ _ (add_ne 1 0 (by decide)) (add_ne 1 2 (by decide)) hD, lt_en 1 hLz, fresh₀ _ (Nat.le_add_right _ _)⟩
          · have := hNz p hp
            exact ⟨st _ _ (Nat.ne_of_lt this) (lt_ne 2 this) (N' p hp).1, (N' p hp).2⟩
        · exact lt_ne 1 (hNz p hp) e
    · show H4.get? z = some _
      rw [eI]; simp
  exact codeAny_compStart_list loop (W.self 0 _ _ _ (by show H4.get? z = some _; rw [eI]; simp) loop)
end

end
section -- R10
variable {w : World} {mean : ExcName → Option Value} {mg mb : Str → Option Value}
theorem fill11 : PySem.Challenge.rw_qh0043_01 = PySem.Challenge.rw_qh0043_01 ∧ hd.heap_39 = hd.heap_39 := by k_fill; exact ⟨rfl, rfl⟩
local macro_rules | `(tactic| walk_at "mine first") => `(tactic| ((with_reducible show wpAny _ _ (eval (Expr.ListComp _ _ _ _) _) _ _ _); k_dflt (first | (refine LCg.ListComp_U (F₀ := by k_asm) (by with_unfolding_all rfl) (by decide) (by rfl) (by decide) (by rfl) ?_) | (refine' ListComp_K (by k_asm) (by with_unfolding_all rfl) (by rfl) (by decide) (by rfl) (fun _ => by rfl) (fun _ => by rfl) ?_))))
local macro_rules | `(tactic| walk_at "mine first") => `(tactic| ((with_reducible show wpAny _ _ (call (Value.builtin "min") _) _ _ _); (try dsimp only [List.cons_append, List.nil_append]); k_dflt (refine' kso_min ?F ?N ?l ?i ?n ?h ?_; (case F => k_asm); (case N => k_asm); (case l => exact LO.isList (LO.lst (by k_asm) (List.Mem.head _))); (case i => assumption); (case n => assumption); (case h => exact rfl); k_whole); intro h9 M9 t9 k9 F9 N9 hm9 hle9; (have hb9 := (by assumption : ∀ a ∈ _, (0 : Int) ≤ a ∧ a ≤ 2) M9 hm9); obtain ⟨hb0, hb2⟩ := hb9))
local macro_rules | `(tactic| walk_at "mine first") => `(tactic| ((with_reducible show wpAny _ _ (call (Value.builtin "max") _) _ _ _); (try dsimp only [List.cons_append, List.nil_append]); k_dflt (refine' kso_max ?F ?N ?l ?i ?n ?h ?_; (case F => k_asm); (case N => k_asm); (case l => exact LO.isList (LO.lst (by k_asm) (List.Mem.head _))); (case i => assumption); (case n => assumption); (case h => exact rfl); k_whole); intro h9 M9 t9 k9 F9 N9 hm9 hle9; (have hb9 := (by assumption : ∀ a ∈ _, (0 : Int) ≤ a ∧ a ≤ 2) M9 hm9); obtain ⟨hb0, hb2⟩ := hb9))
def placesP (R S : List (List Int)) (k : Int) : List Int := S.map fun P => ((R.getD k.toNat []).idxOf (P.getD k.toNat 0) : Int)
def dearP (R S : List (List Int)) (k d : Int) : Prop := ∃ M, M ∈ placesP R S k ∧ (∀ a ∈ placesP R S k, M ≤ a) ∧ d = (R.getD k.toNat []).getD M.toNat 0
theorem dearest_does {pr pp : Addr} {R S : List (List Int)} (hS : S ≠ []) (hlen : S.length ≤ 1000) (hp : ∀ P ∈ S, Perm3 P) :
    Does 1 w mean mg mb 172 [.ref pr, .ref pp] [] (fun h => Rows3 h pr R ∧ Plans h pp S) (fun h r h' => ∃ d0 d1 d2, NewInts h [d0, d1, d2] r h' ∧ dearP R S 0 d0 ∧ dearP R S 1 d1 ∧ dearP R S 2 d2) := by
  w_on
  unfold Does; intro dp un gd cn cs a' ccd cl outer A₀ base h₀ L m s Q E B F X T hk hdp hun hpre hret
  refine hideG ?_
  intro gk
  obtain ⟨hq1, hq2⟩ := hpre
  k_unfold
  clear gk
  w_strict (
    refine wpAny_call ?_
    k_dflt (refine' enterC [(Str.ofString "rows", .ref pr), (Str.ofString "plans", .ref pp)] B F X T rfl rfl hk ?k6 ?k7 ?k8 ?k9 ?kB ?kD ?_ ?c2 ?c3 ?c4; (walk_at "mine enterC"))
    walk_at "mine steps")
  rename_i hr F1 N1 hk1
  refine hideG ?_
  intro gk
  obtain ⟨vS, hl2, hall⟩ := hq2
  k_unfold
  clear gk
  refine ⟨_, 0, 3, _, _, _, 3, _, _, rfl, F1, N1, hr, by decide, by decide, Nat.le_of_ble_eq_true rfl, fun g tk => ⟨fun i ys => ∃ ds, IntsAre ys ds ∧ ds.length = i ∧ ∀ j : Nat, j < i → dearP R S j (ds.getD j 0), ⟨[], .nil, rfl, fun j hj => absurd hj (Nat.not_lt_zero j)⟩, ?_, ?_⟩⟩
  · clear F1 N1 hk1 hr
    intro i t ys I oI C oC D K oK h tk E' hi hR3 hKd F1 N1 off ne Z hZ
    refine hideG ?_
    intro gk
    obtain ⟨ds, hds, hdl, hdd⟩ := hR3
    k_unfold
    clear gk
    w_strict (walk_at "mine upto comp")
    refine LCg.CompSrc.base rfl (by assumption) (by assumption) hl2.isList (by rw [List.size_toArray, hall.length, sizeLine_eq]; omega) (fun g2 => ?_)
    have hsz : vS.toArray.size = S.length := by rw [List.size_toArray, hall.length]
    rw [hsz]
    clear F1 N1
    refine comp_inv (fun j zs news => news = (I, oI) :: (C, oC) :: (D, LCg.lst ys) :: (K, oK) :: _ ∧ IntsAre zs ((S.take j).map fun P => ((R.getD i []).idxOf (P.getD i 0) : Int))) ?_ ?_ ⟨rfl, .nil⟩
    · intro j v zs news I2 oI2 C2 oC2 D2 m2 h2 tk2 E2 hj hP hR4 hC2 hx2 F2 N2 off2 ne2 Z2 hZ2
      refine hideG ?_
      intro gk
      obtain ⟨hE5, hzs⟩ := hR4
      k_unfold
      clear gk
      subst hE5
      refine hideG ?_
      intro gk
      obtain ⟨P, hPj, a, va, hE7, hla, hva⟩ := hall.get (i := j) (by simpa using hP)
      k_unfold
      clear gk
      subst hE7
      have hP3 := hp P (List.mem_of_getElem? hPj)
      w_strict (walk_at "mine steps")
      rename_i z1 e1 z10 z12 z2 e2 z20 z22
      refine hZ2 _ _ _ _ _ (by assumption) (by assumption) (fun _ hp => hp) off2 (Or.inl hl2.isList) ⟨rfl, ?_⟩
      rw [List.take_add_one, hPj, List.map_append]
      have q : z2 = ((R.getD i []).idxOf (P.getD i 0) : Int) := by rw [e2, e1]; simp
      exact hzs.append (q ▸ .cons _ _ .nil)
    · intro zs news hR8
      refine hideG ?_
      intro gk
      obtain ⟨hE9, hzs⟩ := hR8
      k_unfold
      clear gk
      subst hE9
      rw [List.take_length] at hzs
      have hne : 0 < (S.map fun P => ((R.getD i []).idxOf (P.getD i 0) : Int)).length := by rw [List.length_map]; exact List.length_pos_iff.mpr hS
      have hR3 : Perm3 (R.getD i []) := by rename_i q; simpa using q
      have hbnd : ∀ a ∈ (S.map fun P => ((R.getD i []).idxOf (P.getD i 0) : Int)), 0 ≤ a ∧ a ≤ 2 := fun a ha => by
        refine hideG ?_
        intro gk
        obtain ⟨P, hP, hE11⟩ := List.mem_map.mp ha
        k_unfold
        clear gk
        subst hE11
        have q := Perm3.get (hp P hP) (k := i) (by omega) (by omega)
        exact ⟨Int.natCast_nonneg _, hR3.idx q.1 q.2⟩
      intro D3 h3 tk3 F3 N3 off3
      w_strict (walk_at "mine steps")
      rename_i M9 _ _ _ _ hm9 hle9 hb0 hb2 t9 z9 e9 _ _
      refine hZ _ _ _ _ (by assumption) (by assumption) (fun _ hp => List.Mem.tail _ hp) ⟨ds ++ [z9], hds.append (.cons _ _ .nil), by rw [List.length_append, hdl]; rfl, fun j hj => ?_⟩
      by_cases hji : j < i
      · rw [show (ds ++ [z9]).getD j 0 = ds.getD j 0 from by rw [List.getD_eq_getElem?_getD, List.getD_eq_getElem?_getD, List.getElem?_append_left (by omega)]]
        exact hdd j hji
      · obtain rfl : j = i := by omega
        rw [show (ds ++ [z9]).getD j 0 = z9 from by rw [List.getD_eq_getElem?_getD, List.getElem?_append_right (by omega), hdl, Nat.sub_self]; rfl]
        refine ⟨M9, by simpa [placesP] using hm9, by simpa [placesP] using hle9, ?_⟩
        show z9 = _
        rw [e9]; simp
  · intro ys D h tk hR12 F1 N1 off
    refine hideG ?_
    intro gk
    obtain ⟨ds, hds, hdl, hdd⟩ := hR12
    k_unfold
    clear gk
    w_strict (walk_at "mine steps")
    match ds, hdl with
    | [d0, d1, d2], _ => exact hret _ _ _ (Fr.keep (by assumption)) ⟨d0, d1, d2, NewInts.of N1 (List.Mem.head _) hds, hdd 0 (by decide), hdd 1 (by decide), hdd 2 (by decide)⟩
def leastP (R S : List (List Int)) (k d : Int) : Prop := ∃ M, M ∈ placesP R S k ∧ (∀ a ∈ placesP R S k, a ≤ M) ∧ d = (R.getD k.toNat []).getD M.toNat 0
theorem least_does {pr pp : Addr} {R S : List (List Int)} (hS : S ≠ []) (hlen : S.length ≤ 1000) (hp : ∀ P ∈ S, Perm3 P) :
    Does 1 w mean mg mb 177 [.ref pr, .ref pp] [] (fun h => Rows3 h pr R ∧ Plans h pp S) (fun h r h' => ∃ d0 d1 d2, NewInts h [d0, d1, d2] r h' ∧ leastP R S 0 d0 ∧ leastP R S 1 d1 ∧ leastP R S 2 d2) := by
  w_on
  unfold Does; intro dp un gd cn cs a' ccd cl outer A₀ base h₀ L m s Q E B F X T hk hdp hun hpre hret
  refine hideG ?_
  intro gk
  obtain ⟨hq1, hq2⟩ := hpre
  k_unfold
  clear gk
  w_strict (
    refine wpAny_call ?_
    k_dflt (refine' enterC [(Str.ofString "rows", .ref pr), (Str.ofString "plans", .ref pp)] B F X T rfl rfl hk ?k6 ?k7 ?k8 ?k9 ?kB ?kD ?_ ?c2 ?c3 ?c4; (walk_at "mine enterC"))
    walk_at "mine steps")
  rename_i hr F1 N1 hk1
  refine hideG ?_
  intro gk
  obtain ⟨vS, hl2, hall⟩ := hq2
  k_unfold
  clear gk
  refine ⟨_, 0, 3, _, _, _, 3, _, _, rfl, F1, N1, hr, by decide, by decide, Nat.le_of_ble_eq_true rfl, fun g tk => ⟨fun i ys => ∃ ds, IntsAre ys ds ∧ ds.length = i ∧ ∀ j : Nat, j < i → leastP R S j (ds.getD j 0), ⟨[], .nil, rfl, fun j hj => absurd hj (Nat.not_lt_zero j)⟩, ?_, ?_⟩⟩
  · clear F1 N1 hk1 hr
    intro i t ys I oI C oC D K oK h tk E' hi hR15 hKd F1 N1 off ne Z hZ
    refine hideG ?_
    intro gk
    obtain ⟨ds, hds, hdl, hdd⟩ := hR15
    k_unfold
    clear gk
    w_strict (walk_at "mine upto comp")
    refine LCg.CompSrc.base rfl (by assumption) (by assumption) hl2.isList (by rw [List.size_toArray, hall.length, sizeLine_eq]; omega) (fun g2 => ?_)
    have hsz : vS.toArray.size = S.length := by rw [List.size_toArray, hall.length]
    rw [hsz]
    clear F1 N1
    refine comp_inv (fun j zs news => news = (I, oI) :: (C, oC) :: (D, LCg.lst ys) :: (K, oK) :: _ ∧ IntsAre zs ((S.take j).map fun P => ((R.getD i []).idxOf (P.getD i 0) : Int))) ?_ ?_ ⟨rfl, .nil⟩
    · intro j v zs news I2 oI2 C2 oC2 D2 m2 h2 tk2 E2 hj hP hR16 hC2 hx2 F2 N2 off2 ne2 Z2 hZ2
      refine hideG ?_
      intro gk
      obtain ⟨hE17, hzs⟩ := hR16
      k_unfold
      clear gk
      subst hE17
      refine hideG ?_
      intro gk
      obtain ⟨P, hPj, a, va, hE19, hla, hva⟩ := hall.get (i := j) (by simpa using hP)
      k_unfold
      clear gk
      subst hE19
      have hP3 := hp P (List.mem_of_getElem? hPj)
      w_strict (walk_at "mine steps")
      rename_i z1 e1 z10 z12 z2 e2 z20 z22
      refine hZ2 _ _ _ _ _ (by assumption) (by assumption) (fun _ hp => hp) off2 (Or.inl hl2.isList) ⟨rfl, ?_⟩
      rw [List.take_add_one, hPj, List.map_append]
      have q : z2 = ((R.getD i []).idxOf (P.getD i 0) : Int) := by rw [e2, e1]; simp
      exact hzs.append (q ▸ .cons _ _ .nil)
    · intro zs news hR20
      refine hideG ?_
      intro gk
      obtain ⟨hE21, hzs⟩ := hR20
      k_unfold
      clear gk
      subst hE21
      rw [List.take_length] at hzs
      have hne : 0 < (S.map fun P => ((R.getD i []).idxOf (P.getD i 0) : Int)).length := by rw [List.length_map]; exact List.length_pos_iff.mpr hS
      have hR3 : Perm3 (R.getD i []) := by rename_i q; simpa using q
      have hbnd : ∀ a ∈ (S.map fun P => ((R.getD i []).idxOf (P.getD i 0) : Int)), 0 ≤ a ∧ a ≤ 2 := fun a ha => by
        refine hideG ?_
        intro gk
        obtain ⟨P, hP, hE23⟩ := List.mem_map.mp ha
        k_unfold
        clear gk
        subst hE23
        have q := Perm3.get (hp P hP) (k := i) (by omega) (by omega)
        exact ⟨Int.natCast_nonneg _, hR3.idx q.1 q.2⟩
      intro D3 h3 tk3 F3 N3 off3
      w_strict (walk_at "mine steps")
      rename_i M9 _ _ _ _ hm9 hle9 hb0 hb2 t9 z9 e9 _ _
      refine hZ _ _ _ _ (by assumption) (by assumption) (fun _ hp => List.Mem.tail _ hp) ⟨ds ++ [z9], hds.append (.cons _ _ .nil), by rw [List.length_append, hdl]; rfl, fun j hj => ?_⟩
      by_cases hji : j < i
      · rw [show (ds ++ [z9]).getD j 0 = ds.getD j 0 from by rw [List.getD_eq_getElem?_getD, List.getD_eq_getElem?_getD, List.getElem?_append_left (by omega)]]
        exact hdd j hji
      · obtain rfl : j = i := by omega
        rw [show (ds ++ [z9]).getD j 0 = z9 from by rw [List.getD_eq_getElem?_getD, List.getElem?_append_right (by omega), hdl, Nat.sub_self]; rfl]
        refine ⟨M9, by simpa [placesP] using hm9, by simpa [placesP] using hle9, ?_⟩
        show z9 = _
        rw [e9]; simp
  · intro ys D h tk hR24 F1 N1 off
    refine hideG ?_
    intro gk
    obtain ⟨ds, hds, hdl, hdd⟩ := hR24
    k_unfold
    clear gk
    w_strict (walk_at "mine steps")
    match ds, hdl with
    | [d0, d1, d2], _ => exact hret _ _ _ (Fr.keep (by assumption)) ⟨d0, d1, d2, NewInts.of N1 (List.Mem.head _) hds, hdd 0 (by decide), hdd 1 (by decide), hdd 2 (by decide)⟩

end
section -- R11
open PySem.SeqAt
open AutoSeq1 (wpAny_loadPart')
open MeetsSeq
/-- list.remove: the place from i on, or a ValueError -/
theorem remove_from (l : Addr) (items : Array Value) (n : Nat) (x : Value) (e : Value → Bool) (hz : items.size ≤ sizeLine) (k : Nat) :
    ∀ i : Nat, items.size - i = k → Meets (Builtin.«list.remove.loop» ⟨[.ref l, x, rawInt i], []⟩)
      (fun A R s => s.heap.get? l = some (W.listOf items n) ∧ (∀ y, y ∈ items → EqAt A.in1 s y x (e y)) ∧
        (∀ j (hj : j < items.size), i ≤ j → e items[j] = true → (∀ q (hq : q < items.size), i ≤ q → q < j → e items[q] = false) → R (.ok (.ret .none)) { s with heap := s.heap.update l (Obj.mapSeq fun xs => xs.eraseIdxIfInBounds j) }) ∧
        ((∀ q (hq : q < items.size), i ≤ q → e items[q] = false) → raisesNew "ValueError" A R s)) := by
  induction k with
  | zero =>
    intro i hk prog w A R s h
    refine hideG ?_
    intro gk
    obtain ⟨hp, g, d, tk, os⟩ := s; obtain ⟨hl, _, _, h⟩ := h
    k_unfold
    clear gk
    have h := h fun q hq hi => by omega
    wp_walk using wpAny_loadPart' hl
    have hi : items[((i : Nat) : Int).toNat]? = none := by simp; omega
    rw [hi]
    wp_walk
    exact_raiseError plainExc_ValueError h.1 h.2
  | succ k ih =>
    intro i hk prog w A R s h
    refine hideG ?_
    intro gk
    obtain ⟨hp, g, d, tk, os⟩ := s; obtain ⟨hl, he, hf, hm⟩ := h
    k_unfold
    clear gk
    have hlt : i < items.size := by omega
    wp_walk using wpAny_loadPart' hl
    have hi : items[((i : Nat) : Int).toNat]? = some items[i] := by simp [hlt]
    have hc : ((i : Int) + 1) = ((i + 1 : Nat) : Int) := by push_cast; rfl
    rw [hi]
    refine wpAny_bind (he _ (Array.getElem_mem hlt) prog w _ _ ?_)
    cases hb : e items[i] with
    | true =>
      have h := hf i hlt (Nat.le_refl _) hb fun q _ h1 h2 => by omega
      have hz' : (items.eraseIdxIfInBounds i).size ≤ sizeLine + 1 := Nat.le_trans (size_erased items _) (Nat.le_succ_of_le hz)
      wp_walk using (wpAny_updateSeq hl rfl (hz := hz) (_hz' := hz')), wpAny_loadPart' hl
      simpa using h
    | false =>
      wp_walk
      rw [hc]
      have step : ∀ q (hq : q < items.size), i ≤ q → (i + 1 ≤ q → e items[q] = false) → e items[q] = false := fun q hq h1 h2 => by
        by_cases e0 : q = i
        · subst e0; exact hb
        · exact h2 (by omega)
      exact ⟨plainId_quiet plain_remove_loop _, codeAny_builtin entry_remove_loop (by
        rw [Around.under_plainId plain_remove_loop _]
        exact ih (i + 1) (by omega) prog w A R _ ⟨hl, he, fun j hj hij hej hno => hf j hj (by omega) hej fun q hq h1 h2 => step q hq h1 fun h3 => hno q hq h3 h2, fun hno => hm fun q hq h1 => step q hq h1 fun h3 => hno q hq h3⟩)⟩
theorem remove_any (l : Addr) (items : Array Value) (n : Nat) (x : Value) (e : Value → Bool) (hz : items.size ≤ sizeLine) :
    Meets (Builtin.«list.remove» ⟨[.ref l, x], []⟩)
      (fun A R s => s.heap.get? l = some (W.listOf items n) ∧ (∀ y, y ∈ items → EqAt A.in1 s y x (e y)) ∧
        (∀ j (hj : j < items.size), e items[j] = true → (∀ q (hq : q < items.size), q < j → e items[q] = false) → R (.ok (.ret .none)) { s with heap := s.heap.update l (Obj.mapSeq fun xs => xs.eraseIdxIfInBounds j) }) ∧
        ((∀ q (hq : q < items.size), e items[q] = false) → raisesNew "ValueError" A R s)) := by
  intro prog w A R s h
  refine hideG ?_
  intro gk
  obtain ⟨hp, g, d, tk, os⟩ := s; obtain ⟨hl, he, hf, hm⟩ := h
  k_unfold
  clear gk
  wp_walk using wpAny_loadPart' hl
  exact ⟨plainId_quiet plain_remove_loop _, codeAny_builtin entry_remove_loop (by
    rw [Around.under_plainId plain_remove_loop _]
    exact remove_from l items n x e hz _ 0 rfl prog w A R _ ⟨hl, he, fun j hj _ hej hno => hf j hj hej fun q hq h => hno q hq (Nat.zero_le _) h, fun hno => hm fun q hq => hno q hq (Nat.zero_le _)⟩)⟩
theorem LO.inj {h : Heap} {a : Addr} {v u : List Value} (x : LO h a v) (y : LO h a u) : v = u := by
  refine hideG ?_
  intro gk
  obtain ⟨n, e⟩ := x
  k_unfold
  clear gk
  refine hideG ?_
  intro gk
  obtain ⟨k, f⟩ := y
  k_unfold
  clear gk
  rw [e] at f
  have q := congrArg Obj.data (Option.some.inj f)
  injection q with q1 q2
  have := congrArg Array.toList q1
  simpa using this
theorem ints_inj : ∀ {v : List Value} {a b : List Int}, IntsAre v a → IntsAre v b → a = b
  | _, _, _, .nil, .nil => rfl
  | _, _, _, .cons n t r, .cons _ _ q => by rw [ints_inj r q]
theorem RowAt.inj {h : Heap} {y : Value} {P P' : List Int} (x : RowAt h y P) (z : RowAt h y P') : P = P' := by
  refine hideG ?_
  intro gk
  obtain ⟨a, va, e, l, i⟩ := x
  k_unfold
  clear gk
  refine hideG ?_
  intro gk
  obtain ⟨b, vb, f, l', i'⟩ := z
  k_unfold
  clear gk
  rw [e] at f
  injection f with f
  subst f
  obtain rfl := l.inj l'
  exact ints_inj i i'
theorem RowAt.keep {h h' : Heap} {v : Value} {P : List Int} (k : ∀ b o, h.get? b = some o → h'.get? b = some o) (x : RowAt h v P) : RowAt h' v P := by
  refine hideG ?_
  intro gk
  obtain ⟨a, va, e, l, i⟩ := x
  k_unfold
  clear gk
  exact ⟨a, va, e, l.keep k, i⟩
open Classical in
noncomputable def isRow (h : Heap) (P : List Int) (y : Value) : Bool := decide (RowAt h y P)
theorem isRow_eq {h : Heap} {y : Value} {P P' : List Int} (x : RowAt h y P') : isRow h P y = (P' == P) := by
  unfold isRow
  by_cases e : P' = P
  · subst e; simp [x]
  · have : ¬ RowAt h y P := fun z => e (x.inj z)
    simp [this, e]
theorem eq_rows {A : Around} {s : Shared} {y x : Value} {P P' : List Int} (a : RowAt s.heap y P') (b : RowAt s.heap x P) (hu : A.in1.units + 64 < cLine) : EqAt A.in1 s y x (isRow s.heap P y) := by
  rw [isRow_eq a]
  refine hideG ?_
  intro gk
  obtain ⟨c, vc, hE10, lc, ic⟩ := a
  k_unfold
  clear gk
  subst hE10
  refine hideG ?_
  intro gk
  obtain ⟨d, vd, hE12, ld, id⟩ := b
  k_unfold
  clear gk
  subst hE12
  have q := keq_ints (A := A) lc.isList ic ld.isList id hu
  have e : (P' == P) = decide (P' = P) := by
    by_cases e : P' = P
    · simp [e]
    · simp [e]
  rw [e]
  exact q
theorem any_rows {h : Heap} {P : List Int} : ∀ {vs : List Value} {Ps : List (List Int)}, All2 (RowAt h) vs Ps → vs.any (isRow h P) = Ps.any (· == P)
  | _, _, .nil => rfl
  | _, _, .cons x r => by rw [List.any_cons, List.any_cons, isRow_eq x, any_rows r]
theorem All2.mem {α β : Type} {R : α → β → Prop} : ∀ {as : List α} {bs : List β} {a : α}, All2 R as bs → a ∈ as → ∃ b, b ∈ bs ∧ R a b
  | _, _, _, .cons x r, h => by
    rcases List.mem_cons.mp h with rfl | h
    · exact ⟨_, List.mem_cons_self .., x⟩
    · refine hideG ?_
      intro gk
      obtain ⟨b, hb, hr⟩ := All2.mem r h
      k_unfold
      clear gk
      exact ⟨b, List.mem_cons_of_mem _ hb, hr⟩
section
variable {prog : Program} {w : World} {A : Around} {E : Value → Shared → Prop} {s : Shared} {h₀ : Heap} {L : Addr} {m : Str → Option Value} {news : List (Addr × Obj)}
theorem notin_rows {l : Addr} {vs : List Value} {Ps : List (List Int)} {x : Value} {P : List Int} {Q : Value → Shared → Prop} (hl : LO s.heap l vs) (hv : All2 (RowAt s.heap) vs Ps) (hx : RowAt s.heap x P) (hu : A.in1.units + 64 < cLine)
    (h : Q (.bool (!Ps.any (· == P))) s) : wpAny (model prog w) A (compareOp .NotIn x (.ref l)) Q E s := by
  refine notIn_listAt (isRow s.heap P) hl.isList (fun y hy => ?_) ?_
  · refine hideG ?_
    intro gk
    obtain ⟨P', _, hr⟩ := hv.mem (by simpa using hy)
    k_unfold
    clear gk
    exact eq_rows hr hx hu
  · have e := any_rows (P := P) hv
    have e' : vs.toArray.any (isRow s.heap P) = vs.any (isRow s.heap P) := by simp
    rw [e', e]; exact h
theorem all2_erase {h : Heap} {P : List Int} : ∀ {vs : List Value} {Ps : List (List Int)}, All2 (RowAt h) vs Ps → ∀ j (hj : j < vs.length), isRow h P vs[j] = true → (∀ q (hq : q < vs.length), q < j → isRow h P vs[q] = false) → P ∈ Ps ∧ All2 (RowAt h) (vs.eraseIdx j) (Ps.erase P)
  | _, _, .nil, j, hj, _, _ => absurd hj (Nat.not_lt_zero _)
  | v :: vs, P' :: Ps, .cons x r, 0, _, he, _ => by
    have e : (P' == P) = true := by rw [← isRow_eq x]; exact he
    have e' : P' = P := by simpa using e
    subst e'
    refine ⟨List.mem_cons_self .., ?_⟩
    rw [List.erase_cons_head]
    exact r
  | v :: vs, P' :: Ps, .cons x r, j + 1, hj, he, hno => by
    have e : (P' == P) = false := by rw [← isRow_eq x]; exact hno 0 (Nat.zero_lt_succ _) (Nat.zero_lt_succ _)
    refine hideG ?_
    intro gk
    obtain ⟨a, b⟩ := all2_erase r j (Nat.lt_of_succ_lt_succ hj) he fun q hq hqj => hno (q + 1) (Nat.succ_lt_succ hq) (Nat.succ_lt_succ hqj)
    k_unfold
    clear gk
    refine ⟨List.mem_cons_of_mem _ a, ?_⟩
    rw [List.erase_cons_tail (by rw [e]; decide)]
    exact .cons x b
theorem all2_not {h : Heap} {P : List Int} : ∀ {vs : List Value} {Ps : List (List Int)}, All2 (RowAt h) vs Ps → (∀ q (hq : q < vs.length), isRow h P vs[q] = false) → P ∉ Ps
  | _, _, .nil, _ => List.not_mem_nil
  | v :: vs, P' :: Ps, .cons x r, hno => by
    have e : (P' == P) = false := by rw [← isRow_eq x]; exact hno 0 (Nat.zero_lt_succ _)
    have a := all2_not r fun q hq => hno (q + 1) (Nat.succ_lt_succ hq)
    intro hm
    rcases List.mem_cons.mp hm with rfl | hm
    · simp at e
    · exact a hm
theorem remove_rows {D : Addr} {its : Array Value} {n : Nat} {rest : List (Addr × Obj)} {x : Value} {P : List Int} {Ps : List (List Int)} {Q : Value → Shared → Prop} (F : Fr h₀ L s.heap m) (N : News h₀ L s.heap ((D, W.listOf its n) :: rest)) (off : ∀ p ∈ rest, p.1 ≠ D)
    (hv : All2 (RowAt h₀) its.toList Ps) (hx : RowAt h₀ x P) (hu : A.in1.units + 64 < cLine) (hA : A.handled = none) (hz : Ps.length ≤ 1000)
    (h : P ∈ Ps → ∀ h' its' n', Fr h₀ L h' m → News h₀ L h' ((D, W.listOf its' n') :: rest) → All2 (RowAt h₀) its'.toList (Ps.erase P) → Q .none { s with heap := h' })
    (hE : P ∉ Ps → ∀ h' tk e, Heap.NewExc s.heap h' e "ValueError" → E (.ref e) { s with heap := h', toks := tk }) :
    wpAny (model prog w) A (call (.builtin "list.remove") [.ref D, x]) Q E s := by
  have hg := (N _ (List.Mem.head _)).1
  have hv' : All2 (RowAt s.heap) its.toList Ps := hv.mono fun _ _ r => r.keep F.keep
  have hx' : RowAt s.heap x P := hx.keep F.keep
  have hs : its.size = Ps.length := by rw [← hv.length, Array.length_toList]
  refine call_meets PySem.F.slot_list_remove ⟨_, hg, rfl⟩ PySem.F.entry_list_remove (PySem.F.args_list_remove_2 _ _)
    (remove_any D its n x (isRow s.heap P) (by rw [hs, sizeLine_eq]; omega)) ⟨hg, fun y hy => ?_, fun j hj hej hno => ?_, fun hno => ⟨hA, ?_⟩⟩
  · refine hideG ?_
    intro gk
    obtain ⟨P', _, hr⟩ := hv'.mem (by simpa using hy)
    k_unfold
    clear gk
    exact eq_rows hr hx' hu
  · refine hideG ?_
    intro gk
    obtain ⟨a, _⟩ := all2_erase hv' j (by rw [Array.length_toList]; exact hj) (by simpa using hej) fun q hq hqj => by simpa using hno q (by simpa using hq) hqj
    k_unfold
    clear gk
    have b : All2 (RowAt h₀) (its.toList.eraseIdx j) (Ps.erase P) := by
      have key : ∀ q (hq : q < its.toList.length), isRow h₀ P its.toList[q] = isRow s.heap P its.toList[q] := fun q hq => by
        refine hideG ?_
        intro gk
        obtain ⟨P', _, hr⟩ := hv.mem (List.getElem_mem hq)
        k_unfold
        clear gk
        rw [isRow_eq hr, isRow_eq (hr.keep F.keep)]
      exact (all2_erase hv j (by rw [Array.length_toList]; exact hj) (by rw [key]; simpa using hej) fun q hq hqj => by rw [key]; simpa using hno q (by simpa using hq) hqj).2
    refine h a _ (its.eraseIdxIfInBounds j) (if (its.eraseIdxIfInBounds j).size == its.size then n else n + 1) (F.change (Heap.SameBut.update ..) (N _ (List.Mem.head _)).2.1 (N _ (List.Mem.head _)).2.2) ?_ ?_
    · exact ki_turn (pre := []) (fun xs => xs.eraseIdxIfInBounds j) N (fun _ hp => nomatch hp) off rfl rfl
    · have e : (its.eraseIdxIfInBounds j).toList = its.toList.eraseIdx j := by simp [Array.toList_eraseIdxIfInBounds]
      rw [e]; exact b
  · have a := all2_not hv' fun q hq => by simpa using hno q (by simpa using hq)
    exact hE a
end
section
variable {prog : Program} {w : World} {A : Around} {E : Value → Shared → Prop} {s : Shared} {env : Env} {h₀ : Heap} {x : Str} {body : List Stmt} {Q : Flow → Shared → Prop} {I : Addr}
theorem base_inv (Inv : List Value → (Str → Option Value) → List (Addr × Obj) → Prop)
    (turn : ∀ v r m news it h tk, Inv (v :: r) m news → Fr h₀ env.locals h (fun y => if y = x then some v else m y) → News h₀ env.locals h ((I, it) :: news) → ∀ C : Shared → Prop,
      (∀ h' tk' m' all news', Fr h₀ env.locals h' m' → News h₀ env.locals h' all → (∀ p ∈ (I, it) :: news', p ∈ all) → (∀ p ∈ news', p.1 ≠ I) → Inv r m' news' → C { s with heap := h', toks := tk' }) →
      wpAny (model prog w) A (execs body env) (TurnPost Q C) E { s with heap := h, toks := tk })
    (fin : ∀ m news h tk, Inv [] m news → Fr h₀ env.locals h m → News h₀ env.locals h news → Q .next { s with heap := h, toks := tk }) :
    ∀ vs m news, Inv vs m news → BaseRest prog w A E h₀ env x body Q s I vs m news := by
  intro vs
  induction vs with
  | nil => exact fun m news hv h tk F N => fin m news h tk hv F N
  | cons v r ih =>
    intro m news hv it h tk F N
    refine wpAny_mono (turn v r m news it h tk hv F N _ fun h' tk' m' all news' F' N' sub off hv' => ?_) (fun f s₂ p => p.unr) fun _ _ e => e
    exact UnrEnd.intro F' N' news' sub off (ih m' news' hv')
theorem ledger_inv {lp : Addr × Obj} (Inv : List Value → (Str → Option Value) → List (Addr × Obj) → Prop)
    (turn : ∀ v r m news it h tk, Inv (v :: r) m news → Fr h₀ env.locals h (fun y => if y = x then some v else m y) → News h₀ env.locals h ((I, it) :: news) → ∀ C : Shared → Prop,
      (∀ h' tk' m' all news', Fr h₀ env.locals h' m' → News h₀ env.locals h' all → (∀ p ∈ (I, it) :: news', p ∈ all) → (∀ p ∈ news', p.1 ≠ I) → lp ∈ news' → Inv r m' news' → C { s with heap := h', toks := tk' }) →
      wpAny (model prog w) A (execs body env) (TurnPost Q C) E { s with heap := h, toks := tk })
    (fin : ∀ m news h tk, Inv [] m news → Fr h₀ env.locals h m → News h₀ env.locals h news → Q .next { s with heap := h, toks := tk }) :
    ∀ vs m news, Inv vs m news → ListRest prog w A E h₀ env x body Q s I lp vs m news := by
  intro vs
  induction vs with
  | nil => exact fun m news hv => ListRest.zero fun h tk F N => fin m news h tk hv F N
  | cons v r ih =>
    intro m news hv
    refine ListRest.succ fun it h tk _ F N => ?_
    refine wpAny_mono (turn v r m news it h tk hv F N _ fun h' tk' m' all news' F' N' sub off hlp hv' => ?_) (fun f s₂ p => p.unr) fun _ _ e => e
    exact UnrEnd.intro F' N' news' sub off ⟨hlp, ih m' news' hv'⟩
end

end
section -- R13
open PySem.SeqAt
section
variable {M : Model} {A : Around} {E : Value → Shared → Prop} {s : Shared}
theorem noted_first {base : Heap} {env : Env} {outer : List Env} {L e : Addr} {oe : Obj} {vs : Array Value} {a0 : Value} {Q : Unit → Shared → Prop}
    (hfr : A.frames = some (env :: outer)) (hl : s.heap.FunFrames base (env :: outer)) (hf : env.frame = some L)
    (he : s.heap.get? e = some oe) (hkb : base.StaysIn s.heap) (hen : base.get? e = none) (hd : oe.data = .fields vs) (h1 : vs[1]? = some .none) (h0 : vs[0]? = some a0)
    (h : ∀ h', Heap.LeftW base (env :: outer) e oe.cls a0 s.heap h' → Q () { s with heap := h' }) :
    wpAny M A (noteFrame (.ref e) env) (fun _ s₂ => wpAny M A (setFlight (.ref e) none) Q E s₂) E s := by
  unfold noteFrame
  simp only [hf]
  refine wpAny_bind (wpAny_field he hd h1 ?_)
  rw [if_neg (by decide)]
  exact wpAny_newEntryW hfr hl hf he hkb hen hd (Array.getElem?_eq_some_iff.mp h1).1 h0 h
end
section
variable {prog : Program} {w : World} {A₀ : Around} {E : Value → Shared → Prop} {s' : Shared} {base g h : Heap} {outer : List Env} {L a e : Addr} {m : Str → Option Value} {name : Str} {scope : Scope} {cd : Value}
  {b₀ : Stmt} {suite : List Stmt} {pos np : Pos} {rest : List ExceptHandler} {Q : Flow → Shared → Prop} {news : List (Addr × Obj)} {KF : Frag}
  {p : Program} {loose : List Str} {mean : ExcName → Option Value} {mg mb : Str → Option Value} {x : Str} {X T' : String}
/-- an exception that a built-in has raised is taken in the frame where it was raised, whatever frames stand around -/
theorem caught_first (K : Below A₀ base outer g) (hx0 : Heap.NewExc h s'.heap e X) (F : Fr g L h m) (N : News g L h news) (XB : KF.In base) (TB : Top p loose mean mg mb base)
    (ex : nsIn KF mainGlobals x = some none) (hv : bootBuiltins x = some (.type T')) (hn' : x ≠ "__name__")
    (hexc : isSubtype (.type T') (.type "BaseException") = pure true) (hnt : isSubtype (.type ((Manifest.find? T').elim "type" fun y => y.metatype)) (.type "tuple") = pure false) (hsub : isSubtype (.type X) (.type T') = pure true)
    (k : ∀ h' g', KtsTurn (outer.filterMap (·.frame)) g g' → Fr g' L h' m → News g' L h' news → Below A₀ base outer g' → KF.In g' → Top p loose mean mg mb g' →
      wpAny (model prog w) ((A₀.deeper (envOf name scope L a cd)).mark (some (.ref e))) (execs (b₀ :: suite) (envOf name scope L a cd)) Q E { s' with heap := h' })
    (hk : scope.kind = .function := by rfl) (hx : (envOf name scope L a cd).kindOf x = some .globalImplicit := by rfl) (hd : (x == ("__debug__" : Str)) = false := by decide)
    (hE : PassesOwnAt (model prog w) ((A₀.deeper (envOf name scope L a cd)).mark (some (.ref e))) (A₀.deeper (envOf name scope L a cd)) (envOf name scope L a cd) E := by passes_own) :
    wpAny (model prog w) (A₀.deeper (envOf name scope L a cd)) (noteFrame (.ref e) (envOf name scope L a cd))
      (fun _ s₂ => wpAny (model prog w) (A₀.deeper (envOf name scope L a cd)) (setFlight (.ref e) none) (fun _ s₃ =>
        wpAny (model prog w) (A₀.deeper (envOf name scope L a cd)) (handleBy (.ref e) (envOf name scope L a cd) (.ExceptHandler (some (.Name x np)) none (b₀ :: suite) pos :: rest)) Q E s₃) E s₂) E s' := by
  have K' := K.push (name := name) (a := a) (cd := cd) F hk
  have hin : ∀ env ∈ (envOf name scope L a cd :: outer), ∀ b, env.frame = some b → b ∈ (envOf name scope L a cd :: outer).filterMap (·.frame) := fun env he b hb => List.mem_filterMap.mpr ⟨env, he, hb⟩
  have hl : ∀ q ∈ news, (hideAll h ((envOf name scope L a cd :: outer).filterMap (·.frame))).get? q.1 = some q.2 := fun q hq => by
    refine hideAll_get _ (N q hq).1 fun hm => ?_
    rcases kts_mem hm with z | z
    · exact (N q hq).2.1 z
    · refine hideG ?_
      intro gk
      obtain ⟨o, ho, _⟩ := (K.frames.mem z).2
      k_unfold
      clear gk
      rw [(N q hq).2.2] at ho; cases ho
  have hBG : ∀ b o, h.get? b = some o → b ∉ (envOf name scope L a cd :: outer).filterMap (·.frame) → (hideAll h ((envOf name scope L a cd :: outer).filterMap (·.frame))).get? b = some o := fun b o q nm => hideAll_get _ q nm
  refine hideG ?_
  intro gk
  obtain ⟨ob, tp, he, hcls, hdd⟩ := hx0.there
  k_unfold
  clear gk
  have hen : (hideAll h ((envOf name scope L a cd :: outer).filterMap (·.frame))).get? e = none := by
    cases q : (hideAll h ((envOf name scope L a cd :: outer).filterMap (·.frame))).get? e with
    | none => rfl
    | some o => have := of_hideAll _ q; rw [hx0.new] at this; cases this
  refine noted_first (a0 := tp) K'.stack ((funFrames_hide K'.frames hin).of_keeps fun b o hb _ => ⟨o, hx0.keeps b o hb, rfl⟩) rfl he (fun b o hb => hx0.keeps b o (of_hideAll _ hb)) hen hdd rfl rfl fun h₅ hL => ?_
  refine hideG ?_
  intro gk
  obtain ⟨k1, k2, k3, k4⟩ := hL
  k_unfold
  clear gk
  have hheld : Heap.FlyingW (hideAll h ((envOf name scope L a cd :: outer).filterMap (·.frame))) (envOf name scope L a cd :: outer) e (.type X) tp h₅ := ⟨k1, hen, k2, by rw [← hcls]; exact k3⟩
  have hsm₅ : h.UpToSlots h₅ := (Heap.UpToSlots.of_keeps hx0.keeps).trans k4
  refine hideG ?_
  intro gk
  obtain ⟨g₅, T₅, F₅, K₅⟩ := kts_ground K F hBG k1 hsm₅
  k_unfold
  clear gk
  have X₅ : KF.In g₅ := XB.keeps K₅.stays
  have P₅ : TopRead p loose mg mb g₅ := topRead_of (TB.keeps K₅.stays)
  refine hideG ?_
  intro gk
  obtain ⟨ob', hob, hobc⟩ := hheld.there
  k_unfold
  clear gk
  refine wpAny_handleBy_builtin (X := X) (T := T') (b := true) hexc hnt hsub (name_B F₅ X₅ P₅ ex hv hn' ⟨rfl, ⟨ob', hob, hobc⟩, ?_⟩ hk hx hd)
  refine lands_againW hheld fun h₆ hfl₆ hsm₆ => ?_
  refine hideG ?_
  intro gk
  obtain ⟨g₆, T₆, F₆, K₆⟩ := kts_ground K F hBG hfl₆.1 (hsm₅.trans hsm₆)
  k_unfold
  clear gk
  have Nl : News g₆ L h₆ news := fun q hq => ⟨hfl₆.1 _ _ (hl q hq), (N q hq).2.1, T₆.none_ _ (N q hq).2.2⟩
  exact wpAny_passesOwnAt hE (k h₆ g₆ T₆ F₆ Nl K₆ (XB.keeps K₆.stays) (TB.keeps K₆.stays))
end
section
variable {w : World} {mean : ExcName → Option Value} {mg mb : Str → Option Value} {p : Program} {loose : List Str} {prog : Program} {A₀ A : Around} {s : Shared} {base h₀ g g' h' : Heap} {outer : List Env} {L L' : Addr} {m m' : Str → Option Value} {env : Env} {K : Frag}
  {own all : List (Addr × Obj)}
/-- back from a def whose ground has turned: the caller's ground turns with it -/
theorem turn_back (B : Below A₀ base outer h₀) (FG : Fr h₀ L g m) (XB : K.In base) (TB : Top p loose mean mg mb base) (hf : env.frame = some L) (T : KtsTurn ((env :: outer).filterMap (·.frame)) g g') (F' : Fr g' L' h' m') (N' : News g' L' h' all) :
    ∃ h₀', KtsTurn (outer.filterMap (·.frame)) h₀ h₀' ∧ Fr h₀' L h' m ∧ Below A₀ base outer h₀' ∧ K.In h₀' ∧ Top p loose mean mg mb h₀' ∧ News h₀' L h' all ∧
      ∀ news, News h₀ L g news → News h₀' L h' news := by
  have hL₀ : h₀.get? L = none := kts_self FG
  have mem : ∀ b, b ∈ (env :: outer).filterMap (·.frame) → b = L ∨ b ∈ outer.filterMap (·.frame) := fun b hb => by
    rw [List.filterMap_cons, hf] at hb
    exact List.mem_cons.mp hb
  have keepG : ∀ b o, g.get? b = some o → b ∉ (env :: outer).filterMap (·.frame) → h'.get? b = some o := fun b o e nm => F'.keep b o (T.other b o e nm)
  have hO7 := kts_turn_at (h := h') (fs := outer.filterMap (·.frame)) (g := h₀)
    (fun b hb => by
      obtain ⟨_, o, ho, _⟩ := B.frames.mem hb
      exact ⟨o, ho⟩)
    (fun b o e nm => keepG b o (FG.keep b o e) fun hm => by
      rcases mem b hm with rfl | z
      · rw [hL₀] at e; cases e
      · exact nm z)
    (fun b o e hm => by
      obtain ⟨sl, hs⟩ := T.up (FG.keep b o e)
      exact ⟨sl, F'.keep b _ hs⟩)
  refine hideG ?_
  intro gk
  obtain ⟨T₀, S₀⟩ := hO7
  k_unfold
  clear gk
  have B' : Below A₀ base outer (ktsHeap h' (outer.filterMap (·.frame)) h₀) := ⟨B.stack, fun b o e => T₀.other b o (B.stays b o e) (fun hm => by
    rw [(B.frames.mem hm).1] at e
    cases e), B.frames.of_keeps fun b o e _ => by
      refine hideG ?_
      intro gk
      obtain ⟨sl, hs⟩ := T₀.up e
      k_unfold
      clear gk
      exact ⟨_, hs, rfl⟩⟩
  have none₀ : ∀ b, h₀.get? b = none → (ktsHeap h' (outer.filterMap (·.frame)) h₀).get? b = none := fun b e => T₀.none_ b e
  have nsL : h'.Ns L m := by
    refine hideG ?_
    intro gk
    obtain ⟨oL, es, ep, hL, hd, r⟩ := FG.ns
    k_unfold
    clear gk
    refine hideG ?_
    intro gk
    obtain ⟨sl, hs⟩ := T.up hL
    k_unfold
    clear gk
    exact ⟨_, es, ep, F'.keep L _ hs, hd, r⟩
  refine ⟨_, T₀, ⟨nsL, S₀, by rw [T₀.size]; exact FG.above⟩, B', XB.keeps B'.stays, TB.keeps B'.stays, fun q hq => ?_, fun news N q hq => ?_⟩
  · have hg' := (N' q hq).2.2
    have ng : g.get? q.1 = none := by
      cases e : g.get? q.1 with
      | none => rfl
      | some o =>
        refine hideG ?_
        intro gk
        obtain ⟨sl, hs⟩ := T.up e
        k_unfold
        clear gk
        rw [hg'] at hs; cases hs
    refine ⟨(N' q hq).1, ?_, none₀ _ (kts_none FG.keep ng)⟩
    rintro e
    refine hideG ?_
    intro gk
    obtain ⟨oL, _, _, hL, _⟩ := FG.ns
    k_unfold
    clear gk
    rw [e, hL] at ng; cases ng
  · refine ⟨keepG _ _ (N q hq).1 fun hm => ?_, (N q hq).2.1, none₀ _ (N q hq).2.2⟩
    rcases mem _ hm with z | z
    · exact (N q hq).2.1 z
    · refine hideG ?_
      intro gk
      obtain ⟨_, o, ho, _⟩ := B.frames.mem z
      k_unfold
      clear gk
      rw [(N q hq).2.2] at ho; cases ho
end
/-- what a def does that may raise and take exceptions within (the frames' slots turn), and that may change the objects of own -/
def DoesT (k : Nat) (w : World) (mean : ExcName → Option Value) (mg mb : Str → Option Value) (f : Addr) (vs : List Value) (kw : List (Str × Value)) (own : List (Addr × Obj)) (Pre : Heap → Prop) (Post : Value → List (Addr × Obj) → Prop) : Prop :=
  ∀ (dp un : Nat) (gd : Option (List Code)) (cn : Str) (cs : Scope) (a : Addr) (ccd : Value) (cl : List (Str × Addr)) (outer : List Env) (A₀ : Around) (base h₀ : Heap) (L : Addr) (m : Str → Option Value) (s : Shared) (Q E : Value → Shared → Prop),
    Below A₀ base outer h₀ → Fr h₀ L s.heap m → (hd.heap_39 w.params).In h₀ → Top hd.view_39 looseL mean mg mb h₀ → (hd.heap_39 w.params).In base → Top hd.view_39 looseL mean mg mb base → cs.kind = .function → dp + k < recursionLimit → un + 16 * k < cLine →
    News h₀ L s.heap own → Pre s.heap →
    (∀ r h' tk' h₀' all, KtsTurn (outer.filterMap (·.frame)) h₀ h₀' → Fr h₀' L h' m → Below A₀ base outer h₀' → (hd.heap_39 w.params).In h₀' → Top hd.view_39 looseL mean mg mb h₀' → News h₀' L h' all →
      (∀ news, News h₀ L s.heap news → (∀ p ∈ news, p.1 ∉ own.map (·.1)) → News h₀' L h' news) → Post r all → Q r { s with heap := h', toks := tk' }) →
    wpAny (model PySem.Challenge.pw_qh0043_01 w) (ktrTop dp un gd cn cs L a ccd cl outer) (call (.ref f) vs kw) Q E s
section
variable {w : World} {mean : ExcName → Option Value} {mg mb : Str → Option Value} {p : Program} {loose : List Str} {prog : Program} {A₀ A : Around} {s : Shared} {base h₀ : Heap} {outer : List Env} {L : Addr} {m : Str → Option Value} {env : Env} {K : Frag}
  {R : Result → Shared → Prop} {name qual : Str} {params : Arguments} {body : List Stmt} {scope : Scope} {dV kV doc pm cdv ct oc : Value} {an od : Option Addr} {osl : Array (Option Value)} {f : Addr} {args : Args} {own : List (Addr × Obj)}
theorem enterT (binds : List (Str × Value)) (B : Below A₀ base outer h₀) (F : Fr h₀ L s.heap m) (N : News h₀ L s.heap own) (X₀ : K.In h₀) (T : Top p loose mean mg mb h₀) (hA : A.frames = some (env :: outer)) (hf : env.frame = some L) (hke : env.scope.kind = .function)
    (ho : K.lookup f = some ⟨oc, od, .func (fnOf name qual params body scope dV kV doc pm an cdv ct), osl⟩) (hcd : codeIn K cdv qual = true) (hroom : A.depth < recursionLimit)
    (hbind : BindsTo s (fnOf name qual params body scope dV kV doc pm an cdv ct) args binds) (hloc : ∀ y ∈ binds, scope.names.lookup y.1 = some .local)
    (h : ∀ g L' h₁, Fr h₀ L g m → (∀ news, News h₀ L s.heap news → (∀ p ∈ news, p.1 ∉ own.map (·.1)) → News h₀ L g news) → Fr g L' h₁ (fun y => binds.reverse.lookup y) → News g L' h₁ own → Below A base (env :: outer) g → K.In g → Top p loose mean mg mb g →
      wpAny (model prog w) (A.deeper (envX qual scope L' f cdv [])) (execs body (envX qual scope L' f cdv []))
        (fun fl s' => R (.ok (.ret (match fl with | .ret v => v | _ => .none))) s')
        (fun e s' => wpAny (model prog w) (A.deeper (envX qual scope L' f cdv [])) (leaving (envX qual scope L' f cdv []) e) (fun _ s'' => R (.error e) s'') (fun e' s'' => R (.error e') s'') s')
        { s with heap := h₁, toks := s.toks + binds.length })
    (hco : scope.isCoroutine = false) (hgen : scope.isGenerator = false) (hk : scope.kind = .function)
    (hcell : ∀ x ∈ scope.names, x.2 ≠ .cell) : codeAny (model prog w) A (.call (.ref f) args) R s := by
  refine hideG ?_
  intro gk
  obtain ⟨FG, BG, st, lv⟩ := groundX (R := R) B F N hA hf hke
  k_unfold
  clear gk
  refine codeAny_call_def (fd := fnOf name qual params body scope dV kV doc pm an cdv ct) (body := body) (binds := binds) hroom ((X₀.keeps F.keep) _ _ ho) rfl (T.nolimit.keeps F.keep) (codeRec_of (X₀.keeps F.keep) hcd) rfl hbind hcell hloc (fun h₁ hns hk₁ => ?_) hco hgen hk
  exact h _ s.heap.objs.size h₁ FG (fun news N' off p hp => ⟨hideAll_get _ (N' p hp).1 (off p hp), (N' p hp).2⟩) ⟨hns, fun b o e => hk₁ b o (of_hideAll _ e), Nat.le_of_eq (hideAll_size _ _)⟩
    (fun p hp => ⟨hk₁ _ _ (N p hp).1, Nat.ne_of_lt (Heap.lt_size (N p hp).1), hideAll_none _ (List.mem_map_of_mem hp)⟩) BG (X₀.keeps st) (T.keeps st)
end

end
section -- R14
open PySem.SeqAt
noncomputable def rmInt (k : Int) (its : Array Value) : Array Value := its.eraseIdxIfInBounds (its.toList.findIdx (isInt k))
theorem ints_erase {k : Int} : ∀ {vs : List Value} {ns : List Int}, IntsAre vs ns → IntsAre (vs.eraseIdx (vs.findIdx (isInt k))) (ns.erase k)
  | _, _, .nil => .nil
  | _, _, .cons n t r => by
    by_cases e : n = k
    · subst e
      rw [List.findIdx_cons, show isInt n (Value.int n t) = true from by simp [isInt], List.erase_cons_head]
      exact r
    · have e' : isInt k (Value.int n t) = false := by simp [isInt, e]
      rw [List.findIdx_cons, e', List.erase_cons_tail (by simpa using e)]
      exact .cons n t (ints_erase r)
theorem ints_rm {k : Int} {its : Array Value} {ns : List Int} (h : IntsAre its.toList ns) : IntsAre (rmInt k its).toList (ns.erase k) := by
  have e : (rmInt k its).toList = its.toList.eraseIdx (its.toList.findIdx (isInt k)) := by simp [rmInt, Array.toList_eraseIdxIfInBounds]
  rw [e]; exact ints_erase h
theorem isInt_mem {k : Int} : ∀ {vs : List Value} {ns : List Int}, IntsAre vs ns → ∀ v ∈ vs, isInt k v = true → k ∈ ns
  | _, _, .cons n t r, v, hv, h => by
    rcases List.mem_cons.mp hv with rfl | hv
    · have : n = k := by simpa [isInt] using h
      subst this; exact List.mem_cons_self ..
    · exact List.mem_cons_of_mem _ (isInt_mem r v hv h)
theorem isInt_not {k : Int} : ∀ {vs : List Value} {ns : List Int}, IntsAre vs ns → (∀ v ∈ vs, isInt k v = false) → k ∉ ns
  | _, _, .nil, _ => List.not_mem_nil
  | _, _, .cons n t r, h => fun hm => by
    rcases List.mem_cons.mp hm with rfl | hm
    · have := h _ (List.mem_cons_self ..); simp [isInt] at this
    · exact isInt_not r (fun v hv => h v (List.mem_cons_of_mem _ hv)) hm
section
variable {prog : Program} {w : World} {A : Around} {E : Value → Shared → Prop} {s : Shared} {h₀ : Heap} {L : Addr} {m : Str → Option Value} {news news' : List (Addr × Obj)}
theorem remove_ints {D : Addr} {its : Array Value} {n : Nat} {k : Int} {t : Tok} {fl : List Int} {Q : Value → Shared → Prop} (F : Fr h₀ L s.heap m) (N : News h₀ L s.heap news) (U : Upd D (W.listOf its n) (W.listOf (rmInt k its) (n + 1)) news news')
    (hi : IntsAre its.toList fl) (hA : A.handled = none) (hz : fl.length ≤ 1000)
    (h : k ∈ fl → ∀ h', Fr h₀ L h' m → News h₀ L h' news' → IntsAre (rmInt k its).toList (fl.erase k) → (fl.erase k).length ≤ 1000 → Q .none { s with heap := h' })
    (hE : k ∉ fl → ∀ h' tk e, Heap.NewExc s.heap h' e "ValueError" → E (.ref e) { s with heap := h', toks := tk }) :
    wpAny (model prog w) A (call (.builtin "list.remove") [.ref D, .int k t]) Q E s := by
  obtain ⟨pre, post, rfl, rfl, a', b'⟩ := U.split
  have z := N (D, W.listOf its n) (List.mem_append.mpr (.inr (.head _)))
  have hg := z.1
  have hs : its.size = fl.length := by rw [← hi.length, Array.length_toList]
  refine call_meets PySem.F.slot_list_remove ⟨_, hg, rfl⟩ PySem.F.entry_list_remove (PySem.F.args_list_remove_2 _ _)
    (remove_any D its n (.int k t) (isInt k) (by rw [hs, sizeLine_eq]; omega)) ⟨hg, fun y hy => (eq_isInt k t hi y (by simpa using hy)).at _ _, fun j hj hej hno => ?_, fun hno => ⟨hA, ?_⟩⟩
  · have hj' : j < its.toList.length := by rw [Array.length_toList]; exact hj
    have hidx : its.toList.findIdx (isInt k) = j := by
      rw [List.findIdx_eq hj']
      refine ⟨by simpa using hej, fun q hq => ?_⟩
      simpa using hno q (by omega) hq
    have hmem : k ∈ fl := isInt_mem hi its.toList[j] (List.getElem_mem hj') (by simpa using hej)
    have e : its.eraseIdxIfInBounds j = rmInt k its := by unfold rmInt; rw [hidx]
    refine h hmem _ (F.change (Heap.SameBut.update ..) z.2.1 z.2.2) (ki_turn _ N a' b' e ?_) (ints_rm hi) (Nat.le_trans List.length_erase_le hz)
    have hsz : (rmInt k its).size ≠ its.size := by
      rw [← e]
      unfold Array.eraseIdxIfInBounds
      rw [dif_pos hj, Array.size_eraseIdx]
      omega
    rw [if_neg (by simpa using hsz)]
  · refine hE (isInt_not hi fun v hv => ?_)
    obtain ⟨q, hq, rfl⟩ := List.getElem_of_mem hv
    simpa using hno q (by simpa using hq)
end

end
-- lines 35 to 37
local macro_rules | `(tactic| walk_at "mine upto call") => `(tactic| repeat' ((fail_if_success (with_reducible show wpAny _ _ (call (Value.ref _) _ _) _ _ _)); first | (k_unfold; (try dsimp only)) | (walk_at "mine first") | (dsimp only [List.cons_append, List.nil_append, Int.reduceAdd, Int.reduceSub]; walk1) | walk1 | (leave1; walk_say "STEP leave1"; try dsimp only)))
local macro_rules | `(tactic| walk_at "mine use8") => `(tactic| ((case k1 => k_asm); (case k2 => k_asm); (case k3 => k_asm); (case k4 => k_asm); (case k5 => k_asm); (case k6 => first | exact rfl | assumption); (case k7 => ktr_room); (case k8 => ktr_units)))
section -- R12
variable {w : World} {mean : ExcName → Option Value} {mg mb : Str → Option Value}
theorem fill12 : PySem.Challenge.rw_qh0043_01 = PySem.Challenge.rw_qh0043_01 ∧ hd.heap_39 = hd.heap_39 := by k_fill; exact ⟨rfl, rfl⟩
local macro_rules | `(tactic| walk_at "mine first") => `(tactic| ((with_reducible show wpAny _ _ (compareOp CmpOp.NotIn (Value.ref _) (Value.ref _)) _ _ _); (refine' notin_rows ?l ?v ?x ?u ?_; (case l => walk_at "mine list"); (case v => exact All2.mono (fun _ _ r => RowAt.keep (Fr.keep (by assumption)) r) (by assumption)); (case x => exact RowAt.keep (Fr.keep (by assumption)) (by assumption)); (case u => ktr_units))))
theorem dedup_rows {p : Addr} {vs : List Value} {Ps : List (List Int)} (hnd : Ps.Nodup) (hl : Ps.length ≤ 1000) :
    Does 8 w mean mg mb 28 [.ref p] [] (fun h => LO h p vs ∧ All2 (RowAt h) vs Ps) (fun h r h' => ∃ l its n, r = .ref l ∧ h.get? l = none ∧ h'.get? l = some (W.listOf its n) ∧ its.toList = vs) := by
  w_on
  unfold Does; intro dp un gd cn cs a' ccd cl outer A₀ base h₀ L m s Q E B F X T hk hdp hun hpre hret
  refine hideG ?_
  intro gk
  obtain ⟨hq1, hq2⟩ := hpre
  k_unfold
  clear gk
  w_strict (
    refine wpAny_call ?_
    k_dflt (refine' enterP [(Str.ofString "unhashable_params", .ref p)] B F X T rfl rfl hk ?k6 ?k7 ?k8 ?k9 ?kB ?_ ?c2 ?c3 ?c4 ?c5; (walk_at "mine enter"))
    walk_at "mine upto iter")
  refine iter_base rfl (by assumption) (by assumption) hq1.isList (fun I hI => ?_)
  rename_i l' _ _ _ F1 N1
  have hI1 : @LT.lt Nat _ l' I := hI _ (.head _)
  refine base_inv (fun rest m1 news => ∃ its n acc rs, news = [(l', W.listOf its n)] ∧ m1 (Str.ofString "new_unhashable") = some (.ref l') ∧ its.toList ++ rest = vs ∧ All2 (RowAt s.heap) its.toList acc ∧ All2 (RowAt s.heap) rest rs ∧ acc ++ rs = Ps) ?_ ?_ _ _ _ ⟨#[], 0, [], Ps, rfl, rfl, rfl, .nil, hq2, rfl⟩
  · clear F1 N1 hI
    intro v r m1 news it h tk hR2 F1 N1 C hC
    refine hideG ?_
    intro gk
    obtain ⟨its, n, acc, rs, hE3, hm1, hvs, hacc, hrs, hPs⟩ := hR2
    k_unfold
    clear gk
    subst hE3
    cases hrs with
    | cons hv hrs =>
      rename_i P rs
      have hin : acc.any (· == P) = false := by
        rw [← hPs] at hnd
        have := List.nodup_append.mp hnd
        rw [List.any_eq_false]
        intro y hy
        have := this.2.2 y hy P (List.mem_cons_self ..)
        simpa using this
      have hsz : its.size ≤ 1000 := by
        have e : its.size = acc.length := by rw [← hacc.length, Array.length_toList]
        rw [← hPs, List.length_append] at hl; omega
      have hv0 := hv
      refine hideG ?_
      intro gk
      obtain ⟨av, va, hE5, lv, iv⟩ := hv
      k_unfold
      clear gk
      subst hE5
      w_strict (walk_at "mine steps")
      dsimp only [TurnPost]
      refine hC _ _ _ _ [(l', W.listOf (its.push (Value.ref av)) (n + 1))] (by assumption) (by assumption) (fun _ hp => hp) (fun p hp => by rw [List.mem_singleton.mp hp]; exact Nat.ne_of_lt hI1) ⟨_, _, acc ++ [P], rs, rfl, by exact (if_neg (by decide)).trans hm1, ?_, ?_, hrs, ?_⟩
      · rw [Array.toList_push, ← hvs, List.append_assoc]; rfl
      · rw [Array.toList_push]; exact hacc.snoc hv0
      · rw [List.append_assoc]; exact hPs
  · intro m1 news h tk hR6 F2 N2
    refine hideG ?_
    intro gk
    obtain ⟨its, n, acc, rs, hE7, hm1, hvs, hacc, hrs, hPs⟩ := hR6
    k_unfold
    clear gk
    subst hE7
    dsimp only
    w_strict (walk_at "mine steps")
    refine hret _ _ _ (Fr.keep (by assumption)) ⟨l', its, n, rfl, (N2 _ (List.Mem.head _)).2.2, (N2 _ (List.Mem.head _)).1, by simpa using hvs⟩
local macro_rules | `(tactic| walk_at "mine first") => `(tactic| ((with_reducible show wpAny _ _ (call (Value.ref 28) _ _) _ _ _); k_dflt (refine' Does.use (dedup_rows (vs := _) (Ps := _) ?d1 ?d2) ?k1 ?k2 ?k3 ?k4 ?k5 ?k6 ?k7 ?k8 ?k9 ?_)))
local macro_rules | `(tactic| walk_at "mine first") => `(tactic| ((with_reducible show wpAny _ _ (call (Value.type "list") [Value.ref _]) _ _ _); (with_unfolding_all refine' list_copyK ?k1 ?k2 ?k3 ?_ ?z; (case k1 => k_asm); (case k2 => k_asm); (case k3 => exact News.isList (by k_asm) (by k_mem)); (case z => assumption); k_whole); intro D' c' h' F' N' l1; (try k_lt l1)))
theorem erase_all {P : List Int} {Rs Us : List (List Int)} (hnd : (P :: Rs).Nodup) (hm : P ∈ Us) : ((P :: Rs).all fun R => Us.any (· == R)) = Rs.all fun R => (Us.erase P).any (· == R) := by
  have h1 : Us.any (· == P) = true := List.any_eq_true.mpr ⟨P, hm, by simp⟩
  rw [List.all_cons, h1, Bool.true_and]
  have hn := (List.nodup_cons.mp hnd).1
  apply Bool.eq_iff_iff.mpr
  simp only [List.all_eq_true, List.any_eq_true, beq_iff_eq, exists_eq_right]
  constructor
  · intro h R hR
    have : R ≠ P := fun e => hn (e ▸ hR)
    exact (List.mem_erase_of_ne this).mpr (h R hR)
  · intro h R hR
    exact List.mem_of_mem_erase (h R hR)
theorem all2_len {α β : Type} {R : α → β → Prop} {as : List α} {bs : List β} (h : All2 R as bs) : as.length = bs.length := h.length
theorem compare_does {p q : Addr} {vs us : List Value} {Ps Ts : List (List Int)} (hP : Ps.Nodup) (hT : Ts.Nodup) (hPl : Ps.length = 3) (hTl : Ts.length = 3) :
    DoesT 10 w mean mg mb 35 [.ref p, .ref q] [] [] (fun h => (LO h p vs ∧ All2 (RowAt h) vs Ps) ∧ (LO h q us ∧ All2 (RowAt h) us Ts)) (fun r _ => r = .bool (Ps.all fun P => Ts.any (· == P))) := by
  w_on
  unfold DoesT; intro dp un gd cn cs a' ccd cl outer A₀ base h₀ L m s Q E B F X T XB TB hk hdp hun hown hpre hret
  clear hown
  refine hideG ?_
  intro gk
  obtain ⟨⟨hq1, hq2⟩, ⟨hq3, hq4⟩⟩ := hpre
  k_unfold
  clear gk
  w_strict (
    refine wpAny_call ?_
    k_dflt (refine' enterP [(Str.ofString "first_args", .ref p), (Str.ofString "second_args", .ref q)] B F X T rfl rfl hk ?k6 ?k7 ?k8 ?k9 ?kB ?_ ?c2 ?c3 ?c4 ?c5; (walk_at "mine enter"))
    walk_at "mine upto call")
  refine' Does.use (dedup_rows (vs := vs) (Ps := Ps) hP (by omega)) ?k1 ?k2 ?k3 ?k4 ?k5 ?k6 ?k7 ?k8 ?k9 ?_
  walk_at "mine use8"
  (case k9 => exact ⟨hq1.keep (Fr.keep (by assumption)), hq2.mono fun _ _ r => r.keep (Fr.keep (by assumption))⟩)
  intro r1 h1 tk1 G1 P1 F1 N1
  refine hideG ?_
  intro gk
  obtain ⟨l1, its1, n1, hE10, hn1, ho1, e1⟩ := P1
  k_unfold
  clear gk
  subst hE10
  have N1 := news_add (by assumption) N1 hn1 ho1
  w_strict (walk_at "mine upto call")
  rename News _ _ _ _ => Nx
  have hx1 := (Nx _ (List.Mem.head _)).1
  refine' Does.use (dedup_rows (vs := us) (Ps := Ts) hT (by omega)) ?k1 ?k2 ?k3 ?k4 ?k5 ?k6 ?k7 ?k8 ?k9 ?_
  walk_at "mine use8"
  (case k9 => exact ⟨hq3.keep (Fr.keep (by assumption)), hq4.mono fun _ _ r => r.keep (Fr.keep (by assumption))⟩)
  intro r2 h2 tk2 G2 P2 F2 N2
  refine hideG ?_
  intro gk
  obtain ⟨l2, its2, n2, hE12, hn2, ho2, e2⟩ := P2
  k_unfold
  clear gk
  subst hE12
  have off2 : l1 ≠ l2 := by
    rintro rfl
    rw [hx1] at hn2; cases hn2
  have N2 := news_add (by assumption) N2 hn2 ho2
  have hz2 : its2.size ≤ sizeLine := by rw [← Array.length_toList, e2, hq4.length, hTl]; exact Nat.le_of_ble_eq_true rfl
  w_strict (walk_at "mine upto iter")
  rename_i D c h9 l9 h8 F8 N8
  have hD1 : @Ne Nat D l1 := Nat.ne_of_gt l9.2
  have e8 : its1.toList.toArray = its1 := by simp
  refine iter_listUnr (vs := its1.toList) (lo := W.listOf its1 n1) (n := n1) (news := [(D, W.listOf its2 c), (l1, W.listOf its1 n1)]) rfl F8 (News.sub N8 (fun p hp => by rcases List.mem_cons.mp hp with rfl | hp <;> first | exact List.Mem.head _ | exact List.Mem.tail _ (List.Mem.tail _ hp))) (List.Mem.tail _ (List.Mem.head _)) rfl (by rw [e8]) (fun I hI => ?_)
  have hI1 : @LT.lt Nat _ D I := hI _ (.head _)
  have hI2 : @LT.lt Nat _ l1 I := hI _ (.tail _ (.head _))
  refine ledger_inv (fun rest m1 news => ∃ its c Us Rs, news = [(D, W.listOf its c), (l1, W.listOf its1 n1)] ∧ m1 (Str.ofString "t") = some (.ref D) ∧ All2 (RowAt s.heap) rest Rs ∧ All2 (RowAt s.heap) its.toList Us ∧ (Ps.all fun P => Ts.any (· == P)) = (Rs.all fun P => Us.any (· == P)) ∧ Us.length = Rs.length ∧ Us.length ≤ 3 ∧ Rs.Nodup ∧ Us.Nodup) ?_ ?_ _ _ _ ⟨its2, c, Ts, Ps, rfl, rfl, by rw [e1]; exact hq2, by rw [e2]; exact hq4, rfl, by omega, by omega, hP, hT⟩
  · clear F8 N8 hI
    intro v r m1 news it h tk hR14 F1 N1 C hC
    refine hideG ?_
    intro gk
    obtain ⟨its, c, Us, Rs, hE15, hm1, hrs, hus, heq, hlen, hle, hnd1, hnd2⟩ := hR14
    k_unfold
    clear gk
    subst hE15
    cases hrs with
    | cons hv hrs =>
      rename_i P Rs
      have hv0 := hv
      refine hideG ?_
      intro gk
      obtain ⟨av, va, hE17, lv, iv⟩ := hv
      k_unfold
      clear gk
      subst hE17
      w_strict (walk_at "mine steps")
      have hle' : Us.length ≤ 1000 := by omega
      refine remove_rows (rest := [(I, it), (l1, W.listOf its1 n1)]) F1 (News.sub N1 (fun p hp => by
        rcases List.mem_cons.mp hp with rfl | hp
        · exact List.Mem.tail _ (List.Mem.head _)
        · rcases List.mem_cons.mp hp with rfl | hp
          · exact List.Mem.head _
          · exact List.Mem.tail _ (List.Mem.tail _ hp))) (fun p hp => by
        rcases List.mem_cons.mp hp with rfl | hp
        · exact Nat.ne_of_gt hI1
        · rw [List.mem_singleton.mp hp]; exact Ne.symm hD1) hus hv0 (by ktr_units) rfl hle' ?_ ?_
      · intro hmem h' its' n' F' N' hus'
        w_strict (walk_at "mine steps")
        dsimp only [TurnPost]
        have hel : (Us.erase P).length = Us.length - 1 := List.length_erase_of_mem hmem
        simp only [List.length_cons] at hlen
        refine hC _ _ _ _ [(D, W.listOf its' n'), (l1, W.listOf its1 n1)] (by assumption) (by assumption) (fun p hp => by
          rcases List.mem_cons.mp hp with rfl | hp
          · exact List.Mem.tail _ (List.Mem.head _)
          · rcases List.mem_cons.mp hp with rfl | hp
            · exact List.Mem.head _
            · exact List.Mem.tail _ (List.Mem.tail _ hp)) (fun p hp => by
          rcases List.mem_cons.mp hp with rfl | hp
          · exact Nat.ne_of_lt hI1
          · rw [List.mem_singleton.mp hp]; exact Nat.ne_of_lt hI2) (List.Mem.tail _ (List.Mem.head _)) ⟨its', n', Us.erase P, Rs, rfl, by exact (if_neg (by decide)).trans hm1, hrs, hus', ?_, by omega, by omega, (List.nodup_cons.mp hnd1).2, hnd2.erase P⟩
        rw [heq, erase_all hnd1 hmem]
      · intro hmem h' tk' e hx
        dsimp only at hx F1 N1 ⊢
        refine caught_first (T' := "ValueError") (KF := hd.heap_39 w.params) (p := hd.view_39) (loose := looseL) (mean := mean) (mg := mg) (mb := mb) (by assumption) hx F1 N1 XB TB (by k_is) PyProof.Rows.Boot.«ValueError» (by decide) PySem.F.isExc_ValueError PySem.F.notTuple_ValueError (by rw [isSubtype_type]; kernel_rfl) (fun h4 g4 T4 F4 N4 B4 X4 P4 => ?_)
        w_strict (walk_at "mine steps")
        refine hideG ?_
        intro gk
        obtain ⟨h₀', T₀, F₀, B₀, X₀, P₀, N₀, kp⟩ := turn_back (env := envX cn cs L a' ccd cl) B F XB TB rfl T4 F4 N4
        k_unfold
        clear gk
        refine hret _ _ _ h₀' _ T₀ F₀ B₀ X₀ P₀ N₀ (fun news N _ => kp news N) ?_
        rw [heq, List.all_cons]
        have : Us.any (· == P) = false := by
          rw [List.any_eq_false]
          intro R hR
          simp only [beq_iff_eq]
          rintro rfl
          exact hmem hR
        rw [this]; rfl
  · intro m1 news h tk hR20 F2 N2
    refine hideG ?_
    intro gk
    obtain ⟨its, c, Us, Rs, hE21, hm1, hrs, hus, heq, hlen, hle, hnd1, hnd2⟩ := hR20
    k_unfold
    clear gk
    subst hE21
    dsimp only
    cases hrs
    have hus0 : its = #[] := by
      have : its.toList.length = 0 := by rw [hus.length, hlen]; rfl
      have q := List.length_eq_zero_iff.mp this
      have := congrArg List.toArray q
      simpa using this
    subst hus0
    w_strict (walk_at "mine steps")
    refine hideG ?_
    intro gk
    obtain ⟨h₀', T₀, F₀, B₀, X₀, P₀, N₀, kp⟩ := turn_back (env := envX cn cs L a' ccd cl) B F XB TB rfl (KtsTurn.refl) (by assumption) (by assumption)
    k_unfold
    clear gk
    refine hret _ _ _ h₀' _ T₀ F₀ B₀ X₀ P₀ N₀ (fun news N _ => kp news N) ?_
    rw [heq]; rfl

end
section -- R15
variable {w : World} {mean : ExcName → Option Value} {mg mb : Str → Option Value}
theorem fill13 : PySem.Challenge.rw_qh0043_01 = PySem.Challenge.rw_qh0043_01 ∧ hd.heap_39 = hd.heap_39 := by k_fill; exact ⟨rfl, rfl⟩
local macro_rules | `(tactic| walk_at "mine first") => `(tactic| ((with_reducible show wpAny _ _ (call (Value.builtin "list.remove") _) _ _ _); (try dsimp only [List.cons_append, List.nil_append]); k_dflt (refine' remove_ints ?F ?N ?U ?i ?A ?z ?h ?hE; (case F => k_asm); (case N => k_asm); (case U => k_upd); (case i => assumption); (case A => rfl); (case z => assumption)); (case' h => intro hm9 h9 F9 N9 hi9 hz9); (case' hE => intro hm9 h9 tk9 e9 hx9)))
local macro_rules | `(tactic| walk_at "mine first") => `(tactic| ((with_reducible show wpAny _ _ (noteFrame _ _) (fun _ s₂ => wpAny _ _ (setFlight _ none) _ _ s₂) _ _); (refine caught_first (T' := "ValueError") (KF := hd.heap_39 _) (p := hd.view_39) (loose := looseL) (by assumption) (by assumption) (by assumption) (by assumption) (by assumption) (by assumption) (by k_is) PyProof.Rows.Boot.«ValueError» (by decide) PySem.F.isExc_ValueError PySem.F.notTuple_ValueError (by rw [isSubtype_type]; kernel_rfl) (fun h4 g4 T4 F4 N4 B4 X4 P4 => ?_)); (have T5 := KtsTurn.trans (by assumption) T4)))
theorem any_of_mem {k : Int} {fl : List Int} (h : k ∈ fl) : fl.any (· == k) = true := List.any_eq_true.mpr ⟨k, h, by simp⟩
theorem any_of_not {k : Int} {fl : List Int} (h : ¬ k ∈ fl) : fl.any (· == k) = false := by
  rw [List.any_eq_false]
  intro x hx
  simp only [beq_iff_eq]
  rintro rfl
  exact h hx
theorem any_of_mem1 {k j : Int} {fl : List Int} (h : k ∈ fl.erase j) : fl.any (· == k) = true := any_of_mem (List.mem_of_mem_erase h)
theorem any_of_mem2 {k j i : Int} {fl : List Int} (h : k ∈ (fl.erase j).erase i) : fl.any (· == k) = true := any_of_mem1 (List.mem_of_mem_erase h)
theorem any_of_not1 {k j : Int} {fl : List Int} (n : k ≠ j) (h : ¬ k ∈ fl.erase j) : fl.any (· == k) = false := any_of_not fun q => h ((List.mem_erase_of_ne n).mpr q)
theorem any_of_not2 {k j i : Int} {fl : List Int} (n : k ≠ j) (n' : k ≠ i) (h : ¬ k ∈ (fl.erase j).erase i) : fl.any (· == k) = false := any_of_not1 n fun q => h ((List.mem_erase_of_ne n').mpr q)
theorem diff_does {e a : Addr} {ne na : Nat} {t0 t1 t2 : Tok} {its : Array Value} {fl : List Int} (hea : @Ne Nat e a) (hi : IntsAre its.toList fl) (hz : fl.length ≤ 1000) :
    DoesT 8 w mean mg mb 123 [.ref e, .ref a] [] [(e, W.listOf #[.int 0 t0, .int 1 t1, .int 2 t2] ne), (a, W.listOf its na)] (fun _ => True)
      (fun r all => ∃ t mi ms nt nm, r = .ref t ∧ (t, ({ cls := .type "tuple", data := .seq #[.ref mi, .ref a] nt } : Obj)) ∈ all ∧ (mi, W.listOf ms nm) ∈ all ∧ IntsAre ms.toList ([2, 1, 0].filter fun k => !fl.any (· == k))) := by
  w_on
  unfold DoesT; intro dp un gd cn cs a' ccd cl outer A₀ base h₀ L m s Q E B F X T XB TB hk hdp hun hown hpre hret
  w_strict (
    refine wpAny_call ?_
    k_dflt (refine' enterT [(Str.ofString "expected", .ref e), (Str.ofString "actual", .ref a)] B F hown X T rfl rfl hk ?k6 ?k7 ?k8 ?k9 ?kB ?_ ?c2 ?c3 ?c4 ?c5; (case k6 => k_is); (case k7 => k_is); (case k8 => ktr_room); (case k9 => first | exact BindsTo.of_eq rfl | exact binds_K (by k_in) rfl (by k_is) rfl rfl rfl); (case c5 => decide); (case kB => exact locs rfl); (case c2 => exact rfl); (case c3 => exact rfl); (case c4 => exact rfl)))
  intro g L' h₁ FG keepg F' N' B' X' T'
  have T0 : KtsTurn ((envX cn cs L a' ccd cl :: outer).filterMap (·.frame)) g g := KtsTurn.refl
  clear X T hown
  w_strict (
    (try dsimp only); (try k_fold)
    walk_at "mine steps")
  all_goals (
    refine hideG ?_
    intro gk
    obtain ⟨h₀', T₀, F₀, B₀, X₀, P₀, N₀, kp⟩ := turn_back (env := envX cn cs L a' ccd cl) B FG XB TB rfl (by assumption) (by assumption) (by assumption)
    k_unfold
    clear gk
    refine hret _ _ _ h₀' _ T₀ F₀ B₀ X₀ P₀ N₀ (fun news N off => kp news (keepg news N off)) ⟨_, _, _, _, _, rfl, List.Mem.head _, List.Mem.tail _ (List.Mem.head _), ?_⟩
    first | have k2 := any_of_mem (k := 2) (by assumption : (2 : Int) ∈ fl) | have k2 := any_of_not (k := 2) (by assumption : ¬ (2 : Int) ∈ fl)
    first | have k1 := any_of_mem (k := 1) (by assumption : (1 : Int) ∈ fl) | have k1 := any_of_not (k := 1) (by assumption : ¬ (1 : Int) ∈ fl) | have k1 := any_of_mem1 (k := 1) (by assumption : (1 : Int) ∈ fl.erase 2) | have k1 := any_of_not1 (k := 1) (by decide) (by assumption : ¬ (1 : Int) ∈ fl.erase 2)
    first | have k0 := any_of_mem (k := 0) (by assumption : (0 : Int) ∈ fl) | have k0 := any_of_not (k := 0) (by assumption : ¬ (0 : Int) ∈ fl) | have k0 := any_of_mem1 (k := 0) (by assumption : (0 : Int) ∈ fl.erase _) | have k0 := any_of_not1 (k := 0) (by decide) (by assumption : ¬ (0 : Int) ∈ fl.erase 2) | have k0 := any_of_not1 (k := 0) (by decide) (by assumption : ¬ (0 : Int) ∈ fl.erase 1) | have k0 := any_of_mem2 (k := 0) (by assumption : (0 : Int) ∈ (fl.erase 2).erase 1) | have k0 := any_of_not2 (k := 0) (by decide) (by decide) (by assumption : ¬ (0 : Int) ∈ (fl.erase 2).erase 1)
    simp only [List.filter_cons, k2, k1, k0, Bool.not_true, Bool.not_false, if_true, Bool.false_eq_true, if_false, List.filter_nil]
    first | exact .nil | exact .cons _ _ .nil | exact .cons _ _ (.cons _ _ .nil) | exact .cons _ _ (.cons _ _ (.cons _ _ .nil)))

end
section -- R16
open PySem.SeqAt
open LCg
theorem turn_outer (elt t1 i1 t2 i2 : Expr) (scope : Scope) (pos : Pos) (it acc : Value) (env : Env) :
    compTurn (.ListComp elt [⟨t1, i1, [], 0⟩, ⟨t2, i2, [], 0⟩] scope pos) 0 it acc env = (standAt i1.pos >>= fun _ => pyNext it >>= fun r => match r with
      | none => pure (.done .next)
      | some v => letOwnedTupleGo t1 it v >>= fun _ => assign t1 env v >>= fun _ => eval i2 env >>= fun x => standAt i2.pos >>= fun _ => foldedSetIterable i2 env x >>= fun x => holding [x] (pyIter x) >>= fun it2 =>
        runOwn (.compStart (.ListComp elt [⟨t1, i1, [], 0⟩, ⟨t2, i2, [], 0⟩] scope pos) 1 it2 acc env) env >>= fun _ => again (.compLoop (.ListComp elt [⟨t1, i1, [], 0⟩, ⟨t2, i2, [], 0⟩] scope pos) 0 it acc env)) := by rfl
theorem turn_inner (elt t1 i1 t2 i2 : Expr) (scope : Scope) (pos : Pos) (it acc : Value) (env : Env) :
    compTurn (.ListComp elt [⟨t1, i1, [], 0⟩, ⟨t2, i2, [], 0⟩] scope pos) 1 it acc env = (standAt i2.pos >>= fun _ => pyNext it >>= fun r => match r with
      | none => pure (.done .next)
      | some v => letOwnedTupleGo t2 it v >>= fun _ => assign t2 env v >>= fun _ => (eval elt env >>= fun x => call (.builtin "list.append") [acc, x] >>= fun _ => pure ()) >>= fun _ =>
          again (.compLoop (.ListComp elt [⟨t1, i1, [], 0⟩, ⟨t2, i2, [], 0⟩] scope pos) 1 it acc env)) := by rfl
section
variable {prog : Program} {w : World} {A : Around} {R : Result → Shared → Prop} {s : Shared}
theorem start_inner {elt t1 i1 t2 i2 : Expr} {scope : Scope} {pos : Pos} {it acc : Value} {env : Env}
    (h0 : codeAny (model prog w) A (.compLoop (.ListComp elt [⟨t1, i1, [], 0⟩, ⟨t2, i2, [], 0⟩] scope pos) 1 it acc env) R s)
    (h : wpAny (model prog w) A (pyIter it) (fun it' s' => codeAny (model prog w) A (.compLoop (.ListComp elt [⟨t1, i1, [], 0⟩, ⟨t2, i2, [], 0⟩] scope pos) 1 it' acc env) R s')
      (notedBy (model prog w) A env fun x s' => R (.error x) s') s) :
    codeAny (model prog w) A (.compStart (.ListComp elt [⟨t1, i1, [], 0⟩, ⟨t2, i2, [], 0⟩] scope pos) 1 it acc env) R s := by
  refine codeAny_of_tree ?_
  show wpAny _ _ ((compStart (.ListComp elt [⟨t1, i1, [], 0⟩, ⟨t2, i2, [], 0⟩] scope pos) 1 it acc env).onRaise (fun x => do noteFrame x env; standAt theWindowsPlace)) _ _ s
  refine wpAny_notedAt ?_
  unfold compStart
  show wpAny _ _ (ask >>= _) _ _ s
  refine wpAny_bind (wpAny_askSetting (wpAny_ite ?_))
  split
  · first
      | exact wpAny_bind (wpAny_pure (wpAny_pure (And.intro rfl h0)))
      | exact wpAny_pure (And.intro rfl h0)
  · first
      | exact wpAny_bind (wpAny_rule (wpAny_bind (wpAny_standAt (wpAny_bind (wpAny_mono h (fun it' s' h' => wpAny_pure (And.intro rfl h')) fun _ _ x => x)))))
      | (refine wpAny_bind (wpAny_rule ?_); show wpAny _ _ (standAt i2.pos >>= _) _ _ s; exact wpAny_bind (wpAny_standAt (wpAny_bind (wpAny_mono h (fun it' s' h' => wpAny_pure (And.intro rfl h')) fun _ _ x => x))))
/-- the inner turns: one item after the other is laid into the accumulator -/
theorem loop_inner {x y : Str} {px py pe : Pos} {i1 i2 : Expr} {scope : Scope} {pos : Pos} {cenv : Env} {J c D C : Addr} {us : List Value} (P : List Value → Heap → Prop)
    (hh : A.handled = none) (hk : cenv.scope.kind = .function) (hy : cenv.kindOf y = some .local) (hC : cenv.locals = C) (hyd : (y == ("__debug__" : Str)) = false)
    (hcJ : @Ne Nat c J) (hcC : @Ne Nat c C) (hcD : @Ne Nat c D) (hJC : @Ne Nat J C) (hJD : @Ne Nat J D) (hCD : @Ne Nat C D)
    (hP : ∀ ys h h', P ys h → (∀ b o, b ≠ J → b ≠ C → h.get? b = some o → h'.get? b = some o) → P ys h')
    (hA : ∀ ys u h h', P ys h → Heap.SameBut D h h' → P (ys ++ [u]) h')
    {ys : List Value} (hlen : ys.length + us.length ≤ 1000) {m' : Str → Option Value} {h : Heap} {tk : Nat}
    (h1 : h.IsListIter J c 0) (h2 : h.IsList c us.toArray) (h3 : h.get? D = some (lst ys)) (h4 : h.Ns C m') (h5 : P ys h)
    (fin : ∀ h' tk' m'', h'.Ns C m'' → h'.get? D = some (lst (ys ++ us)) → P (ys ++ us) h' → R (.ok .next) { s with heap := h', toks := tk' }) :
    codeAny (model prog w) A (.compLoop (.ListComp (.Name y pe) [⟨.Name x px, i1, [], 0⟩, ⟨.Name y py, i2, [], 0⟩] scope pos) 1 (.ref J) (.ref D) cenv) R { s with heap := h, toks := tk } := by
  subst hC
  have W := Walks.list (prog := prog) (w := w) hh J c hcJ us.toArray
  have hsz : us.toArray.size = us.length := by simp
  rw [hsz] at W
  refine codeAny_loop rfl (fun k s' => ∃ h tk j m', s' = { s with heap := h, toks := tk } ∧ j ≤ us.length ∧ k = us.length + 1 - j ∧ h.IsListIter J c j ∧ h.IsList c us.toArray ∧ h.get? D = some (lst (ys ++ us.take j)) ∧ h.Ns cenv.locals m' ∧ P (ys ++ us.take j) h)
    (fun n s' hI => ?_) (us.length + 1) ⟨h, tk, 0, m', rfl, Nat.zero_le _, rfl, h1, h2, by simpa using h3, h4, by simpa using h5⟩
  refine hideG ?_
  intro gk
  obtain ⟨h, tk, j, m', hE2, hj, hE3, g1, g2, g3, g4, g5⟩ := hI
  k_unfold
  clear gk
  subst hE2
  subst hE3
  show wpAny _ A ((compTurn (.ListComp (.Name y pe) [⟨.Name x px, i1, [], 0⟩, ⟨.Name y py, i2, [], 0⟩] scope pos) 1 (.ref J) (.ref D) cenv).onRaise (fun x => do noteFrame x cenv; theTreesLotGoes x)) _ _ _
  refine wpAny_noted ?_
  rw [turn_inner]
  refine wpAny_bind (wpAny_standAt (wpAny_bind ?_))
  by_cases hlt : j < us.length
  · refine W.item j _ _ _ hlt ⟨g1, g2⟩ fun v h₂ tk₂ hv st₂ hk₂ => ?_
    have hv' : us[j]? = some v := by simpa using hv
    dsimp only
    refine wpAny_bind (wpAny_of_eq (a := ()) rfl ?_)
    have o2 : ∀ b o, b ≠ J → h.get? b = some o → h₂.get? b = some o := fun b o hb e => hk₂ b o (by simpa using hb) e
    refine wpAny_bind (wpAny_assign_Name (wpAny_storeName_local hy (g4.at' fun o e => o2 _ o (Ne.symm hJC) e) (fun h₃ hn₃ hs₃ => ?_) (by rw [hk]; rfl)))
    refine wpAny_bind (wpAny_bind (wpAny_Name (wpAny_loadName_local hk hy hn₃ (v := v) (by simp) ?_) hyd))
    have d3 : h₃.get? D = some (lst (ys ++ us.take j)) := (hs₃.2 D (Ne.symm hCD)).trans (o2 D _ (Ne.symm hJD) g3)
    refine wpAny_bind (append_at (hsz := by show (ys ++ us.take j).toArray.size ≤ sizeLine; rw [List.size_toArray, List.length_append, List.length_take, sizeLine_eq]; omega) d3 fun h₄ hs₄ hD₄ => wpAny_pure (wpAny_pure ⟨rfl, ?_⟩))
    have e : us.take (j + 1) = us.take j ++ [v] := by rw [List.take_add_one, hv']; rfl
    have p3 : P (ys ++ us.take j) h₃ := hP _ h h₃ g5 fun b o h1 h2 e => (hs₃.2 b h2).trans (o2 b o h1 e)
    refine ⟨us.length + 1 - (j + 1), by omega, h₄, _, j + 1, _, rfl, hlt, rfl, (st₂.1.extBut hs₃.extBut hJC).extBut hs₄.extBut hJD, (st₂.2.extBut hs₃.extBut hcC).extBut hs₄.extBut hcD, ?_, hn₃.sameBut hs₄ hCD, ?_⟩
    · rw [hD₄, e, ← List.append_assoc]; exact congrArg some (lst_snoc _ v)
    · rw [e, ← List.append_assoc]; exact hA _ v _ _ p3 hs₄
  · obtain rfl : j = us.length := Nat.le_antisymm hj (Nat.not_lt.mp hlt)
    refine W.done _ _ _ ⟨g1, g2⟩ fun h₂ tk₂ hk₂ => ?_
    have o2 : ∀ b o, b ≠ J → h.get? b = some o → h₂.get? b = some o := fun b o hb e => hk₂ b o (by simpa using hb) e
    rw [List.take_length] at g3 g5
    exact wpAny_pure (fin h₂ tk₂ m' (g4.at' fun o e => o2 _ o (Ne.symm hJC) e) (o2 D _ (Ne.symm hJD) g3) (hP _ h h₂ g5 fun b o h1 _ e => o2 b o h1 e))
end
def CellIn (news : List (Addr × Obj)) (v : Value) (us : List Value) : Prop := ∃ c k, v = .ref c ∧ (c, W.listOf (List.toArray us) k) ∈ news
section
variable {prog : Program} {w : World} {A : Around} {E : Value → Shared → Prop} {s : Shared} {h₀ : Heap} {L : Addr} {m : Str → Option Value} {env : Env}
def FlatSrc (A : Around) (h₀ : Heap) (L : Addr) (m : Str → Option Value) (Q : Value → Shared → Prop) (xv : Value) (s₁ : Shared) : Prop :=
  ∃ ax k vs uss news, xv = .ref ax ∧ A.handled = none ∧ Fr h₀ L s₁.heap m ∧ News h₀ L s₁.heap news ∧ (ax, W.listOf (List.toArray vs) k) ∈ news ∧ All2 (CellIn news) vs uss ∧ (List.flatten uss).length ≤ 1000 ∧
    ∀ D h tk, Fr h₀ L h m → News h₀ L h ((D, lst (List.flatten uss)) :: news) → (∀ p ∈ news, p.1 ≠ D) → Q (.ref D) { s₁ with heap := h, toks := tk }
theorem flat_len : ∀ (l : List (List Value)) (i : Nat) (us : List Value), l[i]? = some us → (List.flatten (l.take i)).length + us.length ≤ (List.flatten l).length
  | [], _, _, h => by cases h
  | a :: l, 0, us, h => by cases h; simp
  | a :: l, i + 1, us, h => by
    have := flat_len l i us h
    simp only [List.take_succ_cons, List.flatten_cons, List.length_append]
    omega
theorem ListComp_F {iter : Expr} {x y : Str} {px py pe pi : Pos} {scope : Scope} {cl : List (Str × Addr)} {pos : Pos} {Q : Value → Shared → Prop} (_F₀ : Fr h₀ L s.heap m)
    (hclos : closureFor scope env = pure cl) (hcell : ∀ y ∈ scope.names, y.2 ≠ .cell) (hkind : scope.kind = .function)
    (hnames : ∀ y ∈ scope.names, y.2 = .local → scope.names.lookup y.1 = some .local) (hx : scope.names.lookup x = some .local) (hy : scope.names.lookup y = some .local)
    (hxd : (x == ("__debug__" : Str)) = false) (hyd : (y == ("__debug__" : Str)) = false)
    (h : wpAny (model prog w) A (eval iter env) (FlatSrc A h₀ L m Q) E s)
    (hs : ∀ x, foldedSetIterable iter env x = pure x := by intro _; rfl) :
    wpAny (model prog w) A (eval (.ListComp (.Name y pe) [⟨.Name x px, iter, [], 0⟩, ⟨.Name y py, .Name x pi, [], 0⟩] scope pos) env) Q E s := by
  rw [eval_ListComp]
  refine wpAny_comprehension_free (use := none) rfl hs hclos hkind hnames (wpAny_mono h (fun xv s₁ h₁ => ?_) fun _ _ e => e)
  refine hideG ?_
  intro gk
  obtain ⟨ax, k, vs, uss, news, hE5, hh, F, N, hm, hall, hlen, fin⟩ := h₁
  k_unfold
  clear gk
  subst hE5
  have hax := N _ hm
  have hl : s₁.heap.IsList ax vs.toArray := ⟨_, hax.1, rfl, _, rfl⟩
  refine wpAny_pyIter_list hl ?_
  refine wpAny_newObj_type (wpAny_newFunctionEnv hcell (by intro y hy; simp at hy) (fun h₁ hns₁ hsb₁ => ?_) hkind)
  dsimp only at hns₁ hsb₁ ⊢
  generalize hH1 : s₁.heap.push { cls := .type "list_iterator", data := .fields #[.ref ax, .int 0 0] } = H1 at hns₁ hsb₁ ⊢
  generalize hH2 : H1.push { cls := .type "list", dict := none, data := .seq ([] : List Value).toArray } = H2 at hns₁ hsb₁ ⊢
  have z1 : H1.objs.size = s₁.heap.objs.size + 1 := by rw [← hH1, Heap.size_push]
  have z2 : H2.objs.size = s₁.heap.objs.size + 2 := by rw [← hH2, Heap.size_push, z1]
  generalize hz : s₁.heap.objs.size = z at z1 z2 ⊢
  rw [z2] at hns₁ hsb₁
  have up1 : ∀ c o, s₁.heap.get? c = some o → H1.get? c = some o := fun c o e => hH1 ▸ Heap.get?_push_of_some _ e
  have up2 : ∀ c o, H1.get? c = some o → H2.get? c = some o := fun c o e => hH2 ▸ Heap.get?_push_of_some _ e
  have lt2 : ∀ c o, H2.get? c = some o → @Ne Nat c (z + 2) := fun c o e => Nat.ne_of_lt (z2 ▸ Heap.lt_size e)
  have up3 : ∀ c o, H2.get? c = some o → h₁.get? c = some o := fun c o e => hsb₁.extBut c o (lt2 c o e) (Heap.get?_push_of_some _ e)
  have up : ∀ c o, s₁.heap.get? c = some o → h₁.get? c = some o := fun c o e => up3 _ _ (up2 _ _ (up1 _ _ e))
  have eI : h₁.IsListIter z ax 0 := ⟨_, up3 _ _ (up2 _ _ (by rw [← hH1, ← hz]; exact Heap.get?_push_size _ rfl)), rfl, rfl⟩
  have eD : h₁.get? (z + 1) = some (lst []) := up3 _ _ (by rw [← hH2, ← z1]; exact Heap.get?_push_size _ rfl)
  have fresh₀ : ∀ c, z ≤ c → h₀.get? c = none := fun c hc => by
    cases e : h₀.get? c with
    | none => rfl
    | some o => have := Heap.lt_size (F.keep c o e); rw [hz] at this; exact absurd this (Nat.not_lt.mpr hc)
  have hLz : L < z := hz ▸ F.ns.lt
  have hNz : ∀ p ∈ news, p.1 < z := fun p hp => hz ▸ Heap.lt_size (N p hp).1
  have hB : ∀ b o, h₀.get? b = some o → b < z := fun b o e => hz ▸ Heap.lt_size (F.keep b o e)
  have haz : ax < z := hNz _ hm
  have hlv : vs.length = uss.length := hall.length
  have W := Walks.list (prog := prog) (w := w) hh z ax (Nat.ne_of_lt haz) vs.toArray
  have hsz : vs.toArray.size = vs.length := by simp
  rw [hsz] at W
  simp only [z1, z2]
  have hkx : (compEnvC scope cl (z + 2) env).kindOf x = some .local := lookup_relabel_local hx
  have hky : (compEnvC scope cl (z + 2) env).kindOf y = some .local := lookup_relabel_local hy
  have keepF : ∀ g g' : Heap, Fr h₀ L g m → (∀ b o, b < z → g.get? b = some o → g'.get? b = some o) → Fr h₀ L g' m := fun g g' Fg kk =>
    ⟨Fg.ns.at' fun o e => kk L o hLz e, fun b o e => kk b o (hB b o e) (Fg.keep b o e), Fg.above⟩
  have keepN : ∀ g g' : Heap, News h₀ L g news → (∀ b o, b < z → g.get? b = some o → g'.get? b = some o) → News h₀ L g' news := fun g g' Ng kk p hp =>
    ⟨kk _ _ (hNz p hp) (Ng p hp).1, (Ng p hp).2⟩
  have loop : codeAny (model prog w) A (.compLoop (.ListComp (.Name y pe) [⟨.Name x px, iter, [], 0⟩, ⟨.Name y py, .Name x pi, [], 0⟩] scope pos) 0 (.ref z) (.ref (z + 1)) (compEnvC scope cl (z + 2) env))
      (compPost (model prog w) A E none Q (.ref (z + 1)) (z + 2)) { s₁ with heap := h₁, toks := s₁.toks + ([] : List (Str × Value)).length } := by
    refine codeAny_loop rfl (fun k s' => ∃ h tk i m', s' = { s₁ with heap := h, toks := tk } ∧ i ≤ vs.length ∧ k = vs.length + 1 - i ∧ h.IsListIter z ax i ∧ h.get? (z + 1) = some (lst (List.flatten (uss.take i))) ∧ h.Ns (z + 2) m' ∧ Fr h₀ L h m ∧ News h₀ L h news)
      (fun n s' hI => ?_) (vs.length + 1) ⟨h₁, _, 0, _, rfl, Nat.zero_le _, rfl, eI, eD, hns₁, F.keeps up, N.grown up⟩
    refine hideG ?_
    intro gk
    obtain ⟨h, tk, i, m', hE7, hi, hE8, g1, g2, g3, g4, g5⟩ := hI
    k_unfold
    clear gk
    subst hE7
    subst hE8
    have g6 : h.IsList ax vs.toArray := ⟨_, (g5 _ hm).1, rfl, _, rfl⟩
    show wpAny _ A ((compTurn (.ListComp (.Name y pe) [⟨.Name x px, iter, [], 0⟩, ⟨.Name y py, .Name x pi, [], 0⟩] scope pos) 0 (.ref z) (.ref (z + 1)) (compEnvC scope cl (z + 2) env)).onRaise (fun e => do noteFrame e (compEnvC scope cl (z + 2) env); theTreesLotGoes e)) _ _ _
    refine wpAny_noted ?_
    rw [turn_outer]
    refine wpAny_bind (wpAny_standAt (wpAny_bind ?_))
    by_cases hlt : i < vs.length
    · refine W.item i _ _ _ hlt ⟨g1, g6⟩ fun v h₂ tk₂ hv st₂ hk₂ => ?_
      have hv' : vs[i]? = some v := by simpa using hv
      refine hideG ?_
      intro gk
      obtain ⟨us, hus, c, kc, hE10, hcm⟩ := hall.get hv'
      k_unfold
      clear gk
      subst hE10
      have o2 : ∀ b o, b ≠ z → h.get? b = some o → h₂.get? b = some o := fun b o hb e => hk₂ b o (by simpa using hb) e
      dsimp only
      refine wpAny_bind (wpAny_of_eq (a := ()) rfl ?_)
      refine wpAny_bind (wpAny_assign_Name (wpAny_storeName_local hkx (g3.at' fun o e => o2 _ o (add_ne 2 0 (by decide)) e) (fun h₃ hn₃ hs₃ => ?_) (by rw [show (compEnvC scope cl (z + 2) env).scope.kind = .function from hkind]; rfl)))
      refine wpAny_bind (wpAny_Name (wpAny_loadName_local (v := .ref c) hkind hkx hn₃ (by simp) ?_) hxd)
      refine wpAny_bind (wpAny_standAt (wpAny_bind (wpAny_of_eq (a := .ref c) rfl ?_)))
      have o3 : ∀ b o, b ≠ z → b ≠ z + 2 → h.get? b = some o → h₃.get? b = some o := fun b o h1 h2 e => (hs₃.2 b h2).trans (o2 b o h1 e)
      have lo3 : ∀ b o, b < z → h.get? b = some o → h₃.get? b = some o := fun b o hb e => o3 b o (Nat.ne_of_lt hb) (lt_ne 2 hb) e
      have F₃ := keepF h h₃ g4 lo3
      have N₃ := keepN h h₃ g5 lo3
      have D₃ : h₃.get? (z + 1) = _ := o3 _ _ (add_ne 1 0 (by decide)) (add_ne 1 2 (by decide)) g2
      have I₃ : h₃.IsListIter z ax (i + 1) := st₂.1.extBut hs₃.extBut (add_ne 0 2 (by decide))
      have hcz : c < z := hNz _ hcm
      have c₃ : h₃.IsList c us.toArray := ⟨_, (N₃ _ hcm).1, rfl, _, rfl⟩
      have hC3 : @LT.lt Nat _ (z + 2) h₃.objs.size := hn₃.lt
      refine wpAny_bind (wpAny_holding (wpAny_pyIter_list c₃ ?_))
      generalize hJ : h₃.objs.size = J at hC3
      refine wpAny_bind (wpAny_runOwn ?_)
      have up4 : ∀ b o, h₃.get? b = some o → (h₃.push { cls := .type "list_iterator", data := .fields #[.ref c, .int 0 0] }).get? b = some o := fun b o e => Heap.get?_push_of_some _ e
      have bigJ : ∀ b : Nat, b ≤ z + 2 → b ≠ J := fun b hb => by omega
      have inner : ∀ R : Result → Shared → Prop, (∀ h' tk' m'', h'.Ns (z + 2) m'' → h'.get? (z + 1) = some (lst (List.flatten (uss.take i) ++ us)) → (h'.IsListIter z ax (i + 1) ∧ Fr h₀ L h' m ∧ News h₀ L h' news) → R (.ok .next) { s₁ with heap := h', toks := tk' }) →
          codeAny (model prog w) A (.compLoop (.ListComp (.Name y pe) [⟨.Name x px, iter, [], 0⟩, ⟨.Name y py, .Name x pi, [], 0⟩] scope pos) 1 (.ref J) (.ref (z + 1)) (compEnvC scope cl (z + 2) env)) R { s₁ with heap := h₃.push { cls := .type "list_iterator", data := .fields #[.ref c, .int 0 0] }, toks := tk₂ + 1 } := fun R finR => by
        refine loop_inner (c := c) (us := us) (ys := List.flatten (uss.take i)) (fun _ g => g.IsListIter z ax (i + 1) ∧ Fr h₀ L g m ∧ News h₀ L g news) hh hkind hky rfl hyd (bigJ c (Nat.le_of_lt (Nat.lt_add_right 2 hcz))) (lt_ne 2 hcz) (lt_ne 1 hcz) (Ne.symm (bigJ (z + 2) (Nat.le_refl _))) (Ne.symm (bigJ (z + 1) (by omega))) (add_ne 2 1 (by decide))
          (fun ys g g' hg kk => ⟨hg.1.at fun o e => kk _ o (bigJ z (Nat.le_add_right _ _)) (add_ne 0 2 (by decide)) e, keepF g g' hg.2.1 fun b o hb e => kk b o (bigJ b (Nat.le_of_lt (Nat.lt_add_right 2 hb))) (lt_ne 2 hb) e, keepN g g' hg.2.2 fun b o hb e => kk b o (bigJ b (Nat.le_of_lt (Nat.lt_add_right 2 hb))) (lt_ne 2 hb) e⟩)
          (fun ys u g g' hg sb => ⟨hg.1.extBut sb.extBut (add_ne 0 1 (by decide)), keepF g g' hg.2.1 fun b o hb e => (sb.2 b (lt_ne 1 hb)).trans e, keepN g g' hg.2.2 fun b o hb e => (sb.2 b (lt_ne 1 hb)).trans e⟩)
          (Nat.le_trans (flat_len uss i us hus) hlen) ⟨_, by rw [← hJ]; exact Heap.get?_push_size _ rfl, rfl, rfl⟩ (c₃.at (up4 _)) (up4 _ _ D₃) (hn₃.at' (up4 _)) ⟨I₃.at (up4 _), F₃.keeps up4, N₃.grown up4⟩ ?_
        intro h' tk' m'' a1 a2 a3
        exact finR h' tk' m'' a1 a2 a3
      have fl : List.flatten (uss.take (i + 1)) = List.flatten (uss.take i) ++ us := by rw [List.take_add_one, hus]; simp
      have post : ∀ h' tk' m'', h'.Ns (z + 2) m'' → h'.get? (z + 1) = some (lst (List.flatten (uss.take i) ++ us)) → (h'.IsListIter z ax (i + 1) ∧ Fr h₀ L h' m ∧ News h₀ L h' news) →
          ∃ mm, mm < vs.length + 1 - i ∧ ∃ h tk i m', ({ s₁ with heap := h', toks := tk' } : Shared) = { s₁ with heap := h, toks := tk } ∧ i ≤ vs.length ∧ mm = vs.length + 1 - i ∧ h.IsListIter z ax i ∧ h.get? (z + 1) = some (lst (List.flatten (uss.take i))) ∧ h.Ns (z + 2) m' ∧ Fr h₀ L h m ∧ News h₀ L h news :=
        fun h' tk' m'' a1 a2 a3 => ⟨vs.length + 1 - (i + 1), by omega, h', tk', i + 1, m'', rfl, hlt, rfl, a3.1, by rw [fl]; exact a2, a1, a3.2.1, a3.2.2⟩
      refine start_inner (inner _ fun h' tk' m'' a1 a2 a3 => ?_) (wpAny_pyIter_listiter (l := c) (i := 0) ⟨_, by rw [← hJ]; exact Heap.get?_push_size _ rfl, rfl, rfl⟩ (inner _ fun h' tk' m'' a1 a2 a3 => ?_))
      · exact wpAny_pure ⟨rfl, post h' tk' m'' a1 a2 a3⟩
      · exact wpAny_pure ⟨rfl, post h' tk' m'' a1 a2 a3⟩
    · obtain rfl : i = vs.length := Nat.le_antisymm hi (Nat.not_lt.mp hlt)
      refine W.done _ _ _ ⟨g1, g6⟩ fun h₂ tk₂ hk₂ => ?_
      have o2 : ∀ b o, b ≠ z → h.get? b = some o → h₂.get? b = some o := fun b o hb e => hk₂ b o (by simpa using hb) e
      refine wpAny_pure ⟨m', g3.at' fun o e => o2 _ o (add_ne 2 0 (by decide)) e, fun h₃ hs₃ => ?_⟩
      have o3 : ∀ b o, b ≠ z → b ≠ z + 2 → h.get? b = some o → h₃.get? b = some o := fun b o h1 h2 e => (hs₃.2 b h2).trans (o2 b o h1 e)
      have lo3 : ∀ b o, b < z → h.get? b = some o → h₃.get? b = some o := fun b o hb e => o3 b o (Nat.ne_of_lt hb) (lt_ne 2 hb) e
      have D₃ := o3 _ _ (add_ne 1 0 (by decide)) (add_ne 1 2 (by decide)) g2
      rw [hlv, List.take_length] at D₃
      refine fin (z + 1) h₃ tk₂ (keepF h h₃ g4 lo3) (fun p hp => ?_) fun p hp => lt_ne 1 (hNz p hp)
      rcases List.mem_cons.mp hp with rfl | hp
      · exact ⟨D₃, lt_en 1 hLz, fresh₀ _ (Nat.le_add_right _ _)⟩
      · exact keepN h h₃ g5 lo3 p hp
  exact codeAny_compStart_list loop (W.self 0 _ _ _ ⟨eI, ⟨_, up _ _ hax.1, rfl, _, rfl⟩⟩ loop)
end

end
section -- R17
open PySem.SeqAt
section
variable {prog : Program} {w : World} {A : Around} {E : Value → Shared → Prop} {s : Shared} {h₀ : Heap} {L : Addr} {m : Str → Option Value} {news news' : List (Addr × Obj)}
theorem cut_int {t : Sem Value} {z : Int} {K : Value → Shared → Prop} (h : ∀ P : Value → Shared → Prop, (∀ tt tk, P (.int z tt) { s with toks := tk }) → wpAny (model prog w) A t P E s) (k : ∀ tt tk, K (.int z tt) { s with toks := tk }) : wpAny (model prog w) A t K E s := h K k
theorem pop_zero {D : Addr} {v : Value} {r : List Value} {n : Nat} {u : Tok} {Q : Value → Shared → Prop} (F : Fr h₀ L s.heap m) (N : News h₀ L s.heap news) (U : Upd D (W.listOf (List.toArray (v :: r)) n) (W.listOf (List.toArray r) (n + 1)) news news') (hz : r.length ≤ 1000)
    (h : ∀ h', Fr h₀ L h' m → News h₀ L h' news' → Q v { s with heap := h' }) : wpAny (model prog w) A (call (.builtin "list.pop") [.ref D, .int 0 u]) Q E s :=
  kl_popAt (its := List.toArray (v :: r)) (k := 0) (p := []) (y := v) (q := r) F N (by decide) (by simp [seqIndex?]) rfl U (by simp only [sizeLine_eq, List.length_cons]; omega) h
theorem item_last {value slice : PySem.Expr} {l : Addr} {vs : List Value} {ns : List Int} {u : Tok} {Q : Value → Shared → Prop} (hl : LO s.heap l vs) (hi : IntsAre vs ns) (hz : ns.length ≤ 1000) (hne : ns ≠ [])
    (hs : subscripted slice false (.ref l) (.int (-1) u) = operate [.ref l, .int (-1) u] (getItem (.ref l) (.int (-1) u)))
    (h : ∀ t, Q (.int (ns.getD (ns.length - 1) 0) t) s) : wpAny (model prog w) A (subscriptTail value slice (.ref l) (.int (-1) u)) Q E s := by
  have hlen := hi.length
  have hpos : 0 < ns.length := List.length_pos_iff.mpr hne
  obtain ⟨t, hx⟩ := hi.get (ns.length - 1) (ns.getD (ns.length - 1) 0) (by rw [List.getD_eq_getElem?_getD, List.getElem?_eq_getElem (by omega)]; rfl)
  refine tail_any hl.isList.typeIs slot_list_getitem.lookup (wpAny_getItem_list_neg (x := .int (ns.getD (ns.length - 1) 0) t) hl.isList (by decide) (by rw [List.size_toArray, hlen]; omega) (by decide) ?_ (h t)) hs
  rw [List.size_toArray, hlen, show (-1 + (ns.length : Int)).toNat = ns.length - 1 by omega]
  simpa using hx
theorem eq_lo {a b : Addr} {vs us : List Value} {ns ms : List Int} {Q : Value → Shared → Prop} (ha : LO s.heap a vs) (hb : LO s.heap b us) (hi : IntsAre vs ns) (hj : IntsAre us ms) (hu : A.units + 64 < cLine) (h : Q (.bool (decide (ns = ms))) s) :
    wpAny (model prog w) A (compareOp .Eq (.ref a) (.ref b)) Q E s := ke_eq_ints ha.isList hb.isList hi hj hu h
theorem ne_lo {a b : Addr} {vs us : List Value} {ns ms : List Int} {Q : Value → Shared → Prop} (ha : LO s.heap a vs) (hb : LO s.heap b us) (hi : IntsAre vs ns) (hj : IntsAre us ms) (hu : A.units + 64 < cLine) (h : Q (.bool (!decide (ns = ms))) s) :
    wpAny (model prog w) A (compareOp .NotEq (.ref a) (.ref b)) Q E s := ke_ne_ints ha.isList hb.isList hi hj hu h
end
section
variable {prog : Program} {w : World} {A : Around} {E : Value → Shared → Prop} {s : Shared} {env : Env} {h₀ : Heap} {x : Str} {body : List Stmt} {Q : Flow → Shared → Prop} {I : Addr}
theorem range_inv {a : Int} {n : Nat} (Inv : Nat → (Str → Option Value) → List (Addr × Obj) → Prop)
    (turn : ∀ i t m news h tk (it : Obj), i < n → it.cls = .type "range_iterator" → Inv i m news → Fr h₀ env.locals h (fun y => if y = x then some (.int (a + (i : Int)) t) else m y) → News h₀ env.locals h ((I, it) :: news) → ∀ C : Shared → Prop,
      (∀ h' tk' m' all news', Fr h₀ env.locals h' m' → News h₀ env.locals h' all → (∀ p ∈ (I, it) :: news', p ∈ all) → (∀ p ∈ news', p.1 ≠ I) → Inv (i + 1) m' news' → C { s with heap := h', toks := tk' }) →
      wpAny (model prog w) A (execs body env) (TurnPost Q C) E { s with heap := h, toks := tk })
    (fin : ∀ m news h tk, Inv n m news → Fr h₀ env.locals h m → News h₀ env.locals h news → Q .next { s with heap := h, toks := tk }) :
    ∀ k i m news, i + k = n → Inv i m news → RangeRest prog w A E h₀ env x body Q s I a n k i m news := by
  intro k
  induction k with
  | zero =>
    intro i m news e hv
    obtain rfl : i = n := by omega
    exact RangeRest.zero fun h tk F N => fin m news h tk hv F N
  | succ k ih =>
    intro i m news e hv
    refine RangeRest.succ fun t h tk F N => ?_
    refine wpAny_mono (turn i t m news h tk _ (by omega) rfl hv F N _ fun h' tk' m' all news' F' N' sub off hv' => ?_) (fun f s₂ p => p.unr) fun _ _ e => e
    exact UnrEnd.intro F' N' news' sub off (ih (i + 1) m' news' (by omega) hv')
end
section
variable {prog : Program} {w : World} {A : Around} {E : Value → Shared → Prop} {s : Shared} {env : Env} {h₀ : Heap} {x : Str} {body : List Stmt} {Q : Flow → Shared → Prop} {I : Addr}
theorem range_inv2 {a : Int} {n : Nat} (Inv : Nat → (Str → Option Value) → List (Addr × Obj) → Prop) (Fin : (Str → Option Value) → List (Addr × Obj) → Prop) (hIF : ∀ m news, Inv n m news → Fin m news)
    (turn : ∀ i t m news h tk (it : Obj), i < n → it.cls = .type "range_iterator" → Inv i m news → Fr h₀ env.locals h (fun y => if y = x then some (.int (a + (i : Int)) t) else m y) → News h₀ env.locals h ((I, it) :: news) → ∀ P : Flow → Shared → Prop,
      (∀ f h' tk' m' all news', (f = .next ∨ f = .cont) → Fr h₀ env.locals h' m' → News h₀ env.locals h' all → (∀ p ∈ (I, it) :: news', p ∈ all) → (∀ p ∈ news', p.1 ≠ I) → Inv (i + 1) m' news' → P f { s with heap := h', toks := tk' }) →
      (∀ h' tk' m' all news', Fr h₀ env.locals h' m' → News h₀ env.locals h' all → (∀ p ∈ news', p ∈ all) → Fin m' news' → P .brk { s with heap := h', toks := tk' }) →
      wpAny (model prog w) A (execs body env) P E { s with heap := h, toks := tk })
    (fin : ∀ m news h tk, Fin m news → Fr h₀ env.locals h m → News h₀ env.locals h news → Q .next { s with heap := h, toks := tk }) :
    ∀ k i m news, i + k = n → Inv i m news → RangeRest prog w A E h₀ env x body Q s I a n k i m news := by
  refine range_inv Inv (fun i t m news h tk it hi hc hv F N C hC => ?_) (fun m news h tk hv F N => fin m news h tk (hIF m news hv) F N)
  refine turn i t m news h tk it hi hc hv F N (TurnPost Q C) (fun f h' tk' m' all news' hf F' N' sub off hv' => ?_) (fun h' tk' m' all news' F' N' sub hv' => ?_)
  · rcases hf with rfl | rfl <;> exact hC h' tk' m' all news' F' N' sub off hv'
  · exact fin m' news' h' tk' hv' F' (fun p hp => N' p (sub p hp))
end
/-- the frames' objects as a ledger -/
def frsOf (g : Heap) (fs : List Addr) : List (Addr × Obj) := fs.filterMap fun b => (g.get? b).map fun o => (b, o)
theorem mem_frs {g : Heap} {fs : List Addr} {p : Addr × Obj} (h : p ∈ frsOf g fs) : p.1 ∈ fs ∧ g.get? p.1 = some p.2 := by
  obtain ⟨b, hb, e⟩ := List.mem_filterMap.mp h
  cases q : g.get? b with
  | none => rw [q] at e; cases e
  | some o =>
    rw [q] at e
    cases Option.some.inj e
    exact ⟨hb, q⟩
theorem frs_mem {g : Heap} {fs : List Addr} {b : Addr} {o : Obj} (hb : b ∈ fs) (e : g.get? b = some o) : (b, o) ∈ frsOf g fs := List.mem_filterMap.mpr ⟨b, hb, by rw [e]; rfl⟩
section
variable {p : Program} {loose : List Str} {mean : ExcName → Option Value} {mg mb : Str → Option Value} {A₀ : Around} {base g g0 h : Heap} {outer : List Env} {L : Addr} {m : Str → Option Value} {K : Frag} {conc : List (Addr × Obj)}
/-- the ground without the frames around, and back -/
theorem reground (B : Below A₀ base outer g0) (XB : K.In base) (TB : Top p loose mean mg mb base) (T : KtsTurn (outer.filterMap (·.frame)) g0 g) (F : Fr (hideAll g0 (outer.filterMap (·.frame))) L h m) (N : News (hideAll g0 (outer.filterMap (·.frame))) L h (conc ++ frsOf g (outer.filterMap (·.frame))))
    (hc : ∀ q ∈ conc, g0.get? q.1 = none) : ∃ g', KtsTurn (outer.filterMap (·.frame)) g0 g' ∧ Fr g' L h m ∧ News g' L h conc ∧ Below A₀ base outer g' ∧ K.In g' ∧ Top p loose mean mg mb g' := by
  have hab : g0.objs.size ≤ L := by rw [← hideAll_size (outer.filterMap (·.frame)) g0]; exact F.above
  obtain ⟨T', S⟩ := kts_turn_at (h := h) (fs := outer.filterMap (·.frame)) (g := g0)
    (fun b hb => by
      obtain ⟨_, o, ho, _⟩ := B.frames.mem hb
      exact ⟨o, ho⟩)
    (fun b o e nm => F.keep b o (hideAll_get _ e nm))
    (fun b o e hm => by
      obtain ⟨sl, hs⟩ := T.frame b o e hm
      exact ⟨sl, (N _ (List.mem_append_right _ (frs_mem hm hs))).1⟩)
  have B' : Below A₀ base outer (ktsHeap h (outer.filterMap (·.frame)) g0) := ⟨B.stack, fun b o e => T'.other b o (B.stays b o e) (fun hm => by
    rw [(B.frames.mem hm).1] at e
    cases e), B.frames.of_keeps fun b o e _ => by
      obtain ⟨sl, hs⟩ := T'.up e
      exact ⟨_, hs, rfl⟩⟩
  refine ⟨_, T', ⟨F.ns, S, by rw [T'.size]; exact hab⟩, fun q hq => ⟨(N q (List.mem_append_left _ hq)).1, (N q (List.mem_append_left _ hq)).2.1, T'.none_ _ (hc q hq)⟩, B', XB.keeps B'.stays, TB.keeps B'.stays⟩
theorem unground (B : Below A₀ base outer g0) (T : KtsTurn (outer.filterMap (·.frame)) g0 g) (F : Fr g L h m) (N : News g L h conc) :
    Fr (hideAll g0 (outer.filterMap (·.frame))) L h m ∧ News (hideAll g0 (outer.filterMap (·.frame))) L h (conc ++ frsOf g (outer.filterMap (·.frame))) ∧ (∀ q ∈ conc, g0.get? q.1 = none) := by
  have hz : (hideAll g0 (outer.filterMap (·.frame))).objs.size = g.objs.size := by rw [hideAll_size, T.size]
  have nf : ∀ b o, (hideAll g0 (outer.filterMap (·.frame))).get? b = some o → b ∉ outer.filterMap (·.frame) := fun b o e hm => by rw [hideAll_none _ hm] at e; cases e
  have n0 : ∀ b, g.get? b = none → g0.get? b = none := fun b e => by
    cases q : g0.get? b with
    | none => rfl
    | some o => obtain ⟨sl, hs⟩ := T.up q; rw [e] at hs; cases hs
  have nh : ∀ b, g0.get? b = none → (hideAll g0 (outer.filterMap (·.frame))).get? b = none := fun b e => by
    cases q : (hideAll g0 (outer.filterMap (·.frame))).get? b with
    | none => rfl
    | some o => have := of_hideAll _ q; rw [e] at this; cases this
  refine ⟨⟨F.ns, fun b o e => F.keep b o (T.other b o (of_hideAll _ e) (nf b o e)), by rw [hz]; exact F.above⟩, fun q hq => ?_, fun q hq => n0 _ (N q hq).2.2⟩
  rcases List.mem_append.mp hq with hq | hq
  · exact ⟨(N q hq).1, (N q hq).2.1, nh _ (n0 _ (N q hq).2.2)⟩
  · obtain ⟨h1, h2⟩ := mem_frs hq
    refine ⟨F.keep _ _ h2, fun e => ?_, hideAll_none _ h1⟩
    have := Heap.lt_size h2
    rw [e] at this
    exact absurd F.above (Nat.not_le.mpr this)
end
theorem compEnd_made {h₀ : Heap} {L I C D l : Addr} {m : Str → Option Value} {s₁ : Shared} {oI oC oD o : Obj} {S : List (Addr × Obj) → Prop} {rest : Value → List (Addr × Obj) → Prop} {y : Value} {h' : Heap} {tk : Nat} {news : List (Addr × Obj)}
    (F : Fr h₀ L h' m) (N : News h₀ L h' ((l, o) :: (I, oI) :: (C, oC) :: (D, oD) :: news)) (o9 : LCg.Off1 l ((I, oI) :: (C, oC) :: (D, oD) :: news)) (off : LCg.Off3 I C D news) (hS : S ((l, o) :: news)) (r : rest y ((l, o) :: news)) :
    LCg.CompEnd h₀ L m s₁ I oI C oC D oD S rest y { s₁ with heap := h', toks := tk } :=
  LCg.CompEnd.intro F N ((l, o) :: news) (fun p hp => by
    rcases List.mem_cons.mp hp with rfl | hp
    · exact List.Mem.tail _ (List.Mem.head _)
    rcases List.mem_cons.mp hp with rfl | hp
    · exact List.Mem.tail _ (List.Mem.tail _ (List.Mem.head _))
    rcases List.mem_cons.mp hp with rfl | hp
    · exact List.Mem.tail _ (List.Mem.tail _ (List.Mem.tail _ (List.Mem.head _)))
    rcases List.mem_cons.mp hp with rfl | hp
    · exact List.Mem.head _
    · exact List.Mem.tail _ (List.Mem.tail _ (List.Mem.tail _ (List.Mem.tail _ hp)))) ⟨⟨Ne.symm o9.1, Ne.symm o9.2.1, Ne.symm o9.2.2.1⟩, off⟩ hS r
theorem DoesT.use {k : Nat} {w : World} {mean : ExcName → Option Value} {mg mb : Str → Option Value} {f : Addr} {vs : List Value} {kw : List (Str × Value)} {own : List (Addr × Obj)} {Pre : Heap → Prop} {Post : Value → List (Addr × Obj) → Prop}
    (D : DoesT k w mean mg mb f vs kw own Pre Post) {dp un : Nat} {gd : Option (List Code)} {cn : Str} {cs : Scope} {a : Addr} {ccd : Value} {cl : List (Str × Addr)} {outer : List Env} {A₀ : Around} {base h₀ : Heap} {L : Addr} {m : Str → Option Value} {s : Shared} {Q E : Value → Shared → Prop}
    (B : Below A₀ base outer h₀) (F : Fr h₀ L s.heap m) (X : (hd.heap_39 w.params).In h₀) (T : Top hd.view_39 looseL mean mg mb h₀) (XB : (hd.heap_39 w.params).In base) (TB : Top hd.view_39 looseL mean mg mb base) (hk : cs.kind = .function) (h1 : dp + k < recursionLimit) (h2 : un + 16 * k < cLine)
    (N : News h₀ L s.heap own) (hp : Pre s.heap)
    (ret : ∀ r h' tk' h₀' all, KtsTurn (outer.filterMap (·.frame)) h₀ h₀' → Fr h₀' L h' m → Below A₀ base outer h₀' → (hd.heap_39 w.params).In h₀' → Top hd.view_39 looseL mean mg mb h₀' → News h₀' L h' all →
      (∀ news, News h₀ L s.heap news → (∀ p ∈ news, p.1 ∉ own.map (·.1)) → News h₀' L h' news) → Post r all → Q r { s with heap := h', toks := tk' }) :
    wpAny (model PySem.Challenge.pw_qh0043_01 w) (ktrTop dp un gd cn cs L a ccd cl outer) (call (.ref f) vs kw) Q E s :=
  D dp un gd cn cs a ccd cl outer A₀ base h₀ L m s Q E B F X T XB TB hk h1 h2 N hp ret
theorem IntsAre.app3 {a b c : List Value} {x y z : List Int} (ha : IntsAre a x) (hb : IntsAre b y) (hc : IntsAre c z) : IntsAre (List.flatten [a, b, c]) (x ++ (y ++ z)) := by
  simp only [List.flatten_cons, List.flatten_nil, List.append_nil]
  exact ha.append (hb.append hc)

end
section -- R20
open PySem.SeqAt
section
variable {prog : Program} {w : World} {A : Around} {E : Value → Shared → Prop} {s : Shared} {h₀ : Heap} {L : Addr} {m : Str → Option Value} {news : List (Addr × Obj)}
theorem slice_is {value slice : PySem.Expr} {l : Addr} {vs : List Value} {ns : List Int} {y : Int} {u : Tok} {Q : Value → Shared → Prop} {hh : Heap} {gs : Array GenState} {dr : Drawn} {tk : Nat} {os : OsState} (F : Fr h₀ L hh m) (N : News h₀ L hh news) (hl : hh.IsList l vs.toArray) (hi : IntsAre vs ns) (hz : ns.length ≤ 1000) (h0 : 0 ≤ y)
    (hs : subscripted slice false (.ref l) (.ref hh.objs.size) = operate [.ref hh.objs.size, .ref l] (getItem (.ref l) (.ref hh.objs.size))) (ht : ∀ r, letTemporaryGo value (.ref l) r = pure ())
    (h : ∀ D ws h', IntsAre ws (ns.take y.toNat) → Fr h₀ L h' m → News h₀ L h' ((D, W.listOf (List.toArray ws) 0) :: news) → (∀ p ∈ news, p.1 < D) → Q (.ref D) { heap := h', gens := gs, drawn := dr, toks := tk, os := os }) :
    wpAny (model prog w) A (subscriptTail value slice (.ref l) (.ref hh.objs.size)) Q E { heap := hh.push { cls := .type "slice", data := .fields #[.none, .int y u, .none] }, gens := gs, drawn := dr, toks := tk, os := os } :=
  kmk_slice_ints (s := { heap := hh, gens := gs, drawn := dr, toks := tk, os := os }) F N hl .none (.int _ _) hi (kmk_upto hi h0) rfl (fun D ws h' F' N' l1 hw _ _ => h D ws h' hw F' N' l1) hs ht (by rw [List.size_toArray, hi.length, sizeLine_eq]; omega)
theorem add_is {l b : Addr} {vs us : List Value} {ns ms : List Int} {Q : Value → Shared → Prop} (F : Fr h₀ L s.heap m) (N : News h₀ L s.heap news) (hl : s.heap.IsList l vs.toArray) (hb : s.heap.IsList b us.toArray)
    (hi : IntsAre vs ns) (hj : IntsAre us ms) (hz : ns.length ≤ 1000) (hy : ms.length ≤ 1000)
    (h : ∀ D h', Fr h₀ L h' m → News h₀ L h' ((D, W.listOf (List.toArray (vs ++ us)) 0) :: news) → (∀ p ∈ news, p.1 < D) → IntsAre (vs ++ us) (ns ++ ms) → Q (.ref D) { s with heap := h' }) :
    wpAny (model prog w) A (binaryOp .Add (.ref l) (.ref b)) Q E s :=
  add_arrays_ints (its := vs.toArray) (its2 := us.toArray) (hsz := by rw [sizeLine_eq]; omega) F N hl hb hi hj fun h' F' N' hij => h _ h' F' N' (fun p hp => Heap.lt_size (N p hp).1) hij
/-- a tail upon a temporary: as upon a name -/
theorem tail_tmp {value slice : PySem.Expr} {n : Str} {pp : Pos} {o i : Value} {Q : Value → Shared → Prop} (h : wpAny (model prog w) A (subscriptTail (.Name n pp) slice o i) Q E s) : wpAny (model prog w) A (subscriptTail value slice o i) Q E s := by
  intro Γ pr hΓ
  have h1 := h Γ pr hΓ
  unfold subscriptTail at h1 ⊢
  simp only [Sem.wp_bind', Sem.wp_pure'] at h1 ⊢
  refine Sem.wp_mono _ Γ _ (fun g p1 s1 h2 => Sem.wp_mono _ Γ _ (fun r p2 s2 h3 => wpAny_letTemporaryGo (Q := fun _ s => Q r s) ?_ Γ p2 hΓ) (fun _ _ _ x => x) _ _ h2) (fun _ _ _ x => x) _ _ h1
  simpa only [letTemporaryGo, Sem.wp_pure'] using h3
/-- a slice of a list of any items -/
theorem slice_any {value slice : PySem.Expr} {l : Addr} {vs zs : List Value} {vl vu : Value} {lo hi : Option Int} {Q : Value → Shared → Prop} {hh : Heap} {gs : Array GenState} {dr : Drawn} {tk : Nat} {os : OsState} (F : Fr h₀ L hh m) (N : News h₀ L hh news) (hl : LO hh l vs) (pl : IsPart vl lo) (pu : IsPart vu hi) (hz : vs.length ≤ 1000)
    (e : (slicePick vs.toArray lo hi none).toList = zs)
    (hs : subscripted slice false (.ref l) (.ref hh.objs.size) = operate [.ref hh.objs.size, .ref l] (getItem (.ref l) (.ref hh.objs.size))) (ht : ∀ r, letTemporaryGo value (.ref l) r = pure ())
    (h : ∀ D h', Fr h₀ L h' m → News h₀ L h' ((D, W.listOf (List.toArray zs) 0) :: news) → (∀ p ∈ news, p.1 < D) → Q (.ref D) { heap := h', gens := gs, drawn := dr, toks := tk, os := os }) :
    wpAny (model prog w) A (subscriptTail value slice (.ref l) (.ref hh.objs.size)) Q E { heap := hh.push { cls := .type "slice", data := .fields #[vl, vu, .none] }, gens := gs, drawn := dr, toks := tk, os := os } :=
  kmk_slice_lit (s := { heap := hh, gens := gs, drawn := dr, toks := tk, os := os }) F N hl.isList pl pu e (fun D h' F' N' l1 => h D h' F' N' l1) hs ht (by rw [List.size_toArray, sizeLine_eq]; omega)
end
theorem Rows3.of_plansIn {h₀ h : Heap} {L l : Addr} {ls : List (Addr × Obj)} {a b c : List Int} (N : News h₀ L h ls) (x : PlansIn ls l [a, b, c]) (ha : Perm3 a) (hb : Perm3 b) (hc : Perm3 c) : Rows3 h l [a, b, c] := (x.at N).rows3 ha hb hc

end
-- lines 37 to 39
local macro_rules | `(tactic| walk_at "mine upto for") => `(tactic| repeat' ((fail_if_success (with_reducible show wpAny _ _ (exec (Stmt.For _ _ _ _ _) _) _ _ _)); first | (k_unfold; (try dsimp only)) | (walk_at "mine first") | (dsimp only [List.cons_append, List.nil_append, Int.reduceAdd, Int.reduceSub]; walk1) | walk1 | (leave1; walk_say "STEP leave1"; try dsimp only)))
local macro_rules | `(tactic| walk_at "mine first") => `(tactic| ((with_reducible show wpAny _ _ (exec (Stmt.Assign _ (Expr.ListComp _ _ _ _) _) _) _ _ _); k_dflt (refine LCg.Assign_ListComp_U (F₀ := by k_asm) (by rfl) (by with_unfolding_all rfl) (by with_unfolding_all rfl) (by decide) (by rfl) (by decide) (by rfl) (by rfl) (by rfl) ?_)))
section -- R21
variable {w : World} {mean : ExcName → Option Value} {mg mb : Str → Option Value}
local macro_rules | `(tactic| walk_at "mine upto add") => `(tactic| repeat' ((fail_if_success (with_reducible show wpAny _ _ (binaryOp Operator.Add (Value.ref _) (Value.ref _)) _ _ _)); first | (k_unfold; (try dsimp only)) | (walk_at "mine first") | (dsimp only [List.cons_append, List.nil_append, Int.reduceAdd, Int.reduceSub]; walk1) | walk1 | (leave1; walk_say "STEP leave1"; try dsimp only)))
theorem fill40 : PySem.Challenge.rw_qh0043_01 = PySem.Challenge.rw_qh0043_01 ∧ hd.heap_39 = hd.heap_39 := by k_fill; exact ⟨rfl, rfl⟩
theorem row2_does {a b : Int} (ta tb : Tok) (ha : 0 ≤ a ∧ a ≤ 2) (hb : 0 ≤ b ∧ b ≤ 2) :
    Does 1 w mean mg mb 135 [.int a ta, .int b tb] [] (fun _ => True) (fun h r h' => NewInts h (rowOf a b) r h') := by
  w_on
  unfold Does; intro dp un gd cn cs a' ccd cl outer A₀ base h₀ L m s Q E B F X T hk hdp hun hpre hret
  w_strict (
    refine wpAny_call ?_
    k_dflt (refine' enterC [(Str.ofString "a", .int a ta), (Str.ofString "b", .int b tb)] B F X T rfl rfl hk ?k6 ?k7 ?k8 ?k9 ?kB ?kD ?_ ?c2 ?c3 ?c4; (walk_at "mine enterC"))
    walk_at "mine upto comp")
  rename_i L1 h1 tk1 B1 X1 T1 o1 o2 d1 d2 l1 h2 lt1 l2 h3 F1 N1 lt2
  refine LCt.CompSrcT.ledger rfl F1 N1 (List.Mem.head _) (Nat.le_of_ble_eq_true rfl) (fun g => ?_)
  clear F1 N1
  refine compT_inv (fun i => b != a) (fun i ys news => news = [(l2, W.listOf #[Value.int b tb] 0), (l1, W.listOf #[Value.int a ta] 0), (L1 + 1 + 1, o1), (L1 + 1, o2)] ∧ IntsAre ys (([b].take i).filter fun c => c != a)) ?_ ?_ ?_ ?_ ⟨rfl, .nil⟩
  · rintro i v ys news I oI C oC D m₂ h tk E' hi hP ⟨rfl, hys⟩ hC hx F2 N2 off ne K hK
    obtain rfl : i = 0 := Nat.lt_one_iff.mp hi
    obtain rfl : Value.int b tb = v := Option.some.inj hP
    w_strict (walk_at "mine steps")
    exact hK _ _ _ F2 N2 (fun _ hp => hp)
  · rintro i v ys news I oI C oC D m₂ h tk E' hi hP hf ⟨rfl, hys⟩ hC hx F2 N2 off ne K hK
    obtain rfl : i = 0 := Nat.lt_one_iff.mp hi
    obtain rfl : Value.int b tb = v := Option.some.inj hP
    w_strict (walk_at "mine steps")
    refine hK _ _ _ _ _ F2 N2 (fun _ hp => hp) off (Or.inr ⟨_, List.Mem.head _, rfl, _, rfl⟩) ⟨rfl, ?_⟩
    cases hys
    rw [show ([b].take (0 + 1)).filter (fun c => c != a) = [b] from by simp only [List.take_succ_cons, List.take_zero, List.filter_cons, hf, if_true, List.filter_nil]]
    exact .cons _ _ .nil
  · rintro i v ys news hi hP hf ⟨rfl, hys⟩
    obtain rfl : i = 0 := Nat.lt_one_iff.mp hi
    refine ⟨Or.inr ⟨_, List.Mem.head _, rfl, _, rfl⟩, rfl, ?_⟩
    rw [show ([b].take (0 + 1)).filter (fun c => c != a) = [] from by simp only [List.take_succ_cons, List.take_zero, List.filter_cons, hf, Bool.false_eq_true, if_false, List.filter_nil]]
    exact hys
  · rintro ys news ⟨rfl, hys⟩
    intro D h tk F1 N1 off
    rw [show ([b].take #[Value.int b tb].size) = [b] from rfl] at hys
    obtain ⟨m2, F2⟩ : ∃ m2, Fr s.heap L1 h m2 := ⟨_, F1⟩
    clear F1
    w_strict (walk_at "mine upto add")
    refine add_is (vs := [.int a ta]) (us := ys) (ns := [a]) F2 N1 (LO.news N1 (List.Mem.tail _ (List.Mem.tail _ (List.Mem.head _)))).isList (LO.lst N1 (List.Mem.head _)).isList (.cons _ _ .nil) hys (Nat.le_of_ble_eq_true rfl) (Nat.le_trans (List.length_filter_le ..) (Nat.le_of_ble_eq_true rfl)) fun D2 h2 F2 N2 lt2 hi2 => ?_
    dsimp only
    w_strict (walk_at "mine upto comp")
    rename_i h9 tk9 t1 u1 v1 hr9 F10 N10 G9
    have N11 : News s.heap L1 h9 [(D2, W.listOf (List.toArray ([Value.int a ta] ++ ys)) 0), (L1 + 1 + 1, o1), (L1 + 1, o2)] := News.sub N10 (by
      intro p hp
      rcases List.mem_cons.mp hp with rfl | hp
      · exact List.Mem.head _
      · exact List.Mem.tail _ (List.Mem.tail _ (List.Mem.tail _ (List.Mem.tail _ hp))))
    refine' LCt.CompSrcT.range rfl F10 N11 hr9 ?sm ?n ?z (fun g2 => ?_)
    (case sm => first | decide | rfl)
    (case n => first | rfl | decide)
    (case z => exact Nat.le_of_ble_eq_true rfl)
    clear N10 N11 F10 hr9 G9
    refine compT_inv (fun i => (i : Int) != a && (i : Int) != b) (fun i zs news => news = [(D2, W.listOf (List.toArray ([Value.int a ta] ++ ys)) 0), (L1 + 1 + 1, o1), (L1 + 1, o2)] ∧ IntsAre zs (([0, 1, 2].take i).filter fun c => c != a && c != b)) ?_ ?_ ?_ ?_ ⟨rfl, .nil⟩
    · rintro i v zs news I oI C oC D9 m₂ h tk E' hi ⟨t, rfl⟩ ⟨rfl, hzs⟩ hC hx F2 N2 off ne K hK
      rw [Int.zero_add] at hx
      w_strict (walk_at "mine steps")
      · rename_i n1 n2
        rw [bne_iff_ne.mpr n1, bne_iff_ne.mpr n2] at hK
        exact hK _ _ _ F2 N2 (fun _ hp => hp)
      · rename_i n1 n2
        rw [bne_eq_false_iff_eq.mpr n2, Bool.and_false] at hK
        exact hK _ _ _ F2 N2 (fun _ hp => hp)
      · rename_i n1
        rw [bne_eq_false_iff_eq.mpr n1, Bool.false_and] at hK
        exact hK _ _ _ F2 N2 (fun _ hp => hp)
    · rintro i v zs news I oI C oC D9 m₂ h tk E' hi ⟨t, rfl⟩ hf ⟨rfl, hzs⟩ hC hx F2 N2 off ne K hK
      rw [Int.zero_add] at hx
      have hP : ([0, 1, 2] : List Int)[i]? = some (i : Int) := match i, hi with
        | 0, _ => rfl
        | 1, _ => rfl
        | 2, _ => rfl
      w_strict (walk_at "mine steps")
      refine hK _ _ _ _ _ F2 N2 (fun _ hp => hp) off trivial ⟨rfl, ?_⟩
      rw [List.take_add_one, hP, List.filter_append]
      simp only [Option.toList_some, List.filter_cons, hf, if_true, List.filter_nil]
      exact hzs.append (.cons _ _ .nil)
    · rintro i v zs news hi ⟨t, rfl⟩ hf ⟨rfl, hzs⟩
      have hP : ([0, 1, 2] : List Int)[i]? = some (i : Int) := match i, hi with
        | 0, _ => rfl
        | 1, _ => rfl
        | 2, _ => rfl
      refine ⟨trivial, rfl, ?_⟩
      rw [List.take_add_one, hP, List.filter_append]
      simp only [Option.toList_some, List.filter_cons, hf, Bool.false_eq_true, if_false, List.filter_nil, List.append_nil]
      exact hzs
    · rintro zs news ⟨rfl, hzs⟩
      intro D9 h tk F1 N1 off
      dsimp only
      refine add_is (vs := [.int a ta] ++ ys) (us := zs) F1 N1 (LO.news N1 (List.Mem.tail _ (List.Mem.head _))).isList (LO.lst N1 (List.Mem.head _)).isList hi2 hzs (Nat.le_trans (Nat.succ_le_succ (List.length_filter_le ..)) (Nat.le_of_ble_eq_true rfl)) (Nat.le_trans (List.length_filter_le ..) (Nat.le_of_ble_eq_true rfl)) fun D3 h3 F3 N3 lt3 hi3 => ?_
      dsimp only
      exact hret _ _ _ (Fr.keep F3) (NewInts.of N3 (List.Mem.head _) hi3)

end
section -- R22
variable {w : World} {mean : ExcName → Option Value} {mg mb : Str → Option Value}
theorem fill41 : PySem.Challenge.rw_qh0043_01 = PySem.Challenge.rw_qh0043_01 ∧ hd.heap_39 = hd.heap_39 := by k_fill; exact ⟨rfl, rfl⟩
theorem bytes_inv {prog : Program} {A : Around} {E : Value → Shared → Prop} {s : Shared} {env : Env} {h₀ : Heap} {x : Str} {body : List Stmt} {Q : Flow → Shared → Prop} {I : Addr} (Inv : List Int → (Str → Option Value) → List (Addr × Obj) → Prop)
    (turn : ∀ c r u m news it h tk, Inv (c :: r) m news → 0 ≤ c → c < 256 → Fr h₀ env.locals h (fun y => if y = x then some (.int c u) else m y) → News h₀ env.locals h ((I, it) :: news) → ∀ C : Shared → Prop,
      (∀ h' tk' m' all news', Fr h₀ env.locals h' m' → News h₀ env.locals h' all → (∀ p ∈ (I, it) :: news', p ∈ all) → (∀ p ∈ news', p.1 ≠ I) → Inv r m' news' → C { s with heap := h', toks := tk' }) →
      wpAny (model prog w) A (execs body env) (TurnPost Q C) E { s with heap := h, toks := tk })
    (fin : ∀ m news h tk, Inv [] m news → Fr h₀ env.locals h m → News h₀ env.locals h news → Q .next { s with heap := h, toks := tk }) :
    ∀ l m news, Inv l m news → BytesRest prog w A E h₀ env x body Q s I l m news := by
  intro l
  induction l with
  | nil => exact fun m news hv => BytesRest.zero fun h tk F N => fin m news h tk hv F N
  | cons v r ih =>
    intro m news hv
    refine BytesRest.succ fun h0 h1 u it h tk F N => ?_
    refine wpAny_mono (turn v r u m news it h tk hv h0 h1 F N _ fun h' tk' m' all news' F' N' sub off hv' => ?_) (fun f s₂ p => p.unr) fun _ _ e => e
    exact UnrEnd.intro F' N' news' sub off (ih m' news' hv')
/-- the reader's state before each octet -/
def A2bSt (c0 c1 c2 : Int) (rest : List Int) (q lc : Int) (outs : List Int) : Prop :=
  (rest = [c0, c1, c2, 65] ∧ q = 0 ∧ lc = 0 ∧ outs = []) ∨ (rest = [c1, c2, 65] ∧ q = 1 ∧ lc = c0 - 65 ∧ outs = []) ∨
  (rest = [c2, 65] ∧ q = 2 ∧ lc = c1 - 65 ∧ outs = [4 * (c0 - 65)]) ∨ (rest = [65] ∧ q = 3 ∧ lc = c2 - 65 ∧ outs = [4 * (c0 - 65), 16 * (c1 - 65)]) ∨
  (rest = [] ∧ q = 0 ∧ lc = 0 ∧ outs = [4 * (c0 - 65), 16 * (c1 - 65), 64 * (c2 - 65)])
/-- the reader's frame and ledger before each octet -/
inductive A2bI (c0 c1 c2 : Int) (D : Addr) (rest : List Int) (m : Str → Option Value) : List (Addr × Obj) → Prop
  | mk (q lc : Int) (outs : List Int) (its : Array Value) (n : Nat) (tq tl tp : Tok) (i : Int) (ti : Tok) (hst : A2bSt c0 c1 c2 rest q lc outs) (his : IntsAre its.toList outs) (hm1 : m (Str.ofString "quad_pos") = some (.int q tq)) (hm2 : m (Str.ofString "leftchar") = some (.int lc tl))
      (hm3 : m (Str.ofString "pads") = some (.int 0 tp)) (hm4 : m (Str.ofString "i") = some (.int i ti)) (hm5 : m (Str.ofString "strict_mode") = some (.bool false)) (hm6 : m (Str.ofString "out") = some (.ref D)) : A2bI c0 c1 c2 D rest m [(D, W.listOf its n)]
theorem A2bSt.bnd {c0 c1 c2 c q lc : Int} {r outs : List Int} (h0 : 65 ≤ c0 ∧ c0 ≤ 67) (h1 : 65 ≤ c1 ∧ c1 ≤ 67) (h2 : 65 ≤ c2 ∧ c2 ≤ 67) (h : A2bSt c0 c1 c2 (c :: r) q lc outs) : 65 ≤ c ∧ c ≤ 67 := by
  rcases h with ⟨e, _⟩ | ⟨e, _⟩ | ⟨e, _⟩ | ⟨e, _⟩ | ⟨e, _⟩
  · rw [(List.cons.inj e).1]; exact h0
  · rw [(List.cons.inj e).1]; exact h1
  · rw [(List.cons.inj e).1]; exact h2
  · rw [(List.cons.inj e).1]; decide
  · cases e
local macro_rules | `(tactic| walk_at "mine upto quad") => `(tactic| repeat' ((fail_if_success (with_reducible show wpAny _ _ (execs (Stmt.If (PySem.Expr.Compare (PySem.Expr.Name (Str.ofString "quad_pos") _) _ _ _) _ _ _ :: _) _) _ _ _)); first | (k_unfold; (try dsimp only)) | (walk_at "mine first") | (dsimp only [List.cons_append, List.nil_append, Int.reduceAdd, Int.reduceSub]; walk1) | walk1 | (leave1; walk_say "STEP leave1"; try dsimp only)))
local macro_rules | `(tactic| walk_at "binaryOp BitAnd int int") => `(tactic| (refine' andE ?e ?_; (case e => first | ((with_reducible refine an0 ?_); omega) | ((with_reducible refine an1 ?_); omega))))
local macro_rules | `(tactic| walk_at "binaryOp BitOr int int") => `(tactic| (refine' orE ?e ?_; (case e => first | ((with_reducible refine or0 ?_); omega) | ((with_reducible refine or1 ?_); omega) | ((with_reducible refine or2 ?_); omega))))
local macro_rules | `(tactic| walk_at "binaryOp LShift int int") => `(tactic| (refine' shlE ?n1 ?n2 ?n3 ?e ?_; (case n1 => decide); (case n2 => decide); (case n3 => omega); (case e => first | ((with_reducible refine sh0 ?_); omega) | ((with_reducible refine sh1 ?_); omega) | ((with_reducible refine sh2 ?_); omega))))
local macro_rules | `(tactic| walk_at "binaryOp RShift int int") => `(tactic| (refine' shrE ?n1 ?e ?_; (case n1 => decide); (case e => first | ((with_reducible refine rs0 ?_); omega) | ((with_reducible refine rs1 ?_); omega))))
local macro_rules | `(tactic| walk_at "mine upto bytes") => `(tactic| repeat' ((fail_if_success (with_reducible show wpAny _ _ (call (Value.type "bytes") _ _) _ _ _)); first | (k_unfold; (try dsimp only)) | (walk_at "mine first") | (dsimp only [List.cons_append, List.nil_append, Int.reduceAdd, Int.reduceSub]; walk1) | walk1 | (leave1; walk_say "STEP leave1"; try dsimp only)))
theorem or3 {x : Int} (hx : 0 ≤ x ∧ x ≤ 2) : Builtin.bitOr (64 * x) 0 = 64 * x := or2 hx
theorem a2b2_does {b : Array UInt8} {c0 c1 c2 : Int} (t : Tok) (hb : KBw.bInts b = [c0, c1, c2, 65]) (h0 : 65 ≤ c0 ∧ c0 ≤ 67) (h1 : 65 ≤ c1 ∧ c1 ≤ 67) (h2 : 65 ≤ c2 ∧ c2 ≤ 67) :
    Does 2 w mean mg mb 92 [.bytes b t] [(Str.ofString "strict_mode", .bool false)] (fun _ => True) (fun _ r _ => ∃ b t, r = .bytes b t ∧ KBw.bInts b = [4 * (c0 - 65), 16 * (c1 - 65), 64 * (c2 - 65)]) := by
  w_on
  unfold Does; intro dp un gd cn cs a ccd cl outer A₀ base h₀ L m s Q E B F X T hk hdp hun hpre hret
  w_strict (
  refine wpAny_call ?_
  k_dflt (refine' enterP [(Str.ofString "data", .bytes b t), (Str.ofString "strict_mode", .bool false)] B F X T rfl rfl hk ?k6 ?k7 ?k8 ?k9 ?kB ?_ ?c2 ?c3 ?c4 ?c5; (walk_at "mine enter")))
  rename_i L1 hh1 FF1 NN1 BB1 XX1 TT1
  w_strict (walk_at "mine upto call")
  refine' Does.use (asc_does _ _) ?k1 ?k2 ?k3 ?k4 ?k5 ?k6 ?k7 ?k8 ?k9 ?_
  walk_at "mine use8"
  (case k9 => trivial)
  rintro r9 h9 tk9 G9 rfl F9 N9
  w_strict (walk_at "mine upto call")
  refine' Does.use truth_does ?k1 ?k2 ?k3 ?k4 ?k5 ?k6 ?k7 ?k8 ?k9 ?_
  walk_at "mine use8"
  (case k9 => trivial)
  rintro r9 h9 tk9 G9 rfl F9 N9
  w_strict (walk_at "mine upto iter")
  rename_i D j1 j2 j3 j4 j5 j6 j7 j8 j9 j10 j11 F10 N10
  refine iter_bytesUnr (l := [c0, c1, c2, 65]) rfl F10 N10 hb (fun I hI => ?_)
  have hDI : @Ne Nat D I := Nat.ne_of_lt (hI _ (List.Mem.head _))
  refine bytes_inv (fun rest m news => A2bI c0 c1 c2 D rest m news) ?_ ?_ _ _ _ (.mk 0 0 [] #[] 0 _ _ _ 0 _ (.inl ⟨rfl, rfl, rfl, rfl⟩) .nil (by walk_at "mine name") (by walk_at "mine name") (by walk_at "mine name") (by walk_at "mine name") (by walk_at "mine name") (by walk_at "mine name"))
  · intro c r u m news it h tk hI2 hc0 hc1 F1 N1 C hC
    cases hI2 with | mk q lc outs its n tq tl tp i ti hst his hm1 hm2 hm3 hm4 hm5 hm6 =>
    have hc := hst.bnd h0 h1 h2
    w_strict (walk_at "mine upto call")
    refine' Does.use (val_does _ _ hc) ?k1 ?k2 ?k3 ?k4 ?k5 ?k6 ?k7 ?k8 ?k9 ?_
    walk_at "mine use8"
    (case k9 => trivial)
    rintro r9 h9 tk9 G9 ⟨t9, rfl⟩ F9 N9
    w_strict (walk_at "mine upto quad")
    rename_i F2 N2
    obtain ⟨m2, F3, e1, e2, ⟨tp3, e3⟩, e4, e5, e6, e7⟩ : ∃ m2, Fr s.heap L1 _ m2 ∧ m2 (Str.ofString "quad_pos") = some (.int q tq) ∧ m2 (Str.ofString "leftchar") = some (.int lc tl) ∧ (∃ tp, m2 (Str.ofString "pads") = some (.int 0 tp)) ∧ m2 (Str.ofString "i") = some (.int i ti) ∧ m2 (Str.ofString "strict_mode") = some (.bool false) ∧ m2 (Str.ofString "out") = some (.ref D) ∧ m2 (Str.ofString "this_ch") = some (.int (c - 65) t9) := ⟨_, F2, by walk_at "mine name", by walk_at "mine name", ⟨_, by walk_at "mine name"⟩, by walk_at "mine name", by walk_at "mine name", by walk_at "mine name", by walk_at "mine name"⟩
    clear F2
    rcases hst with ⟨e, rfl, rfl, rfl⟩ | ⟨e, rfl, rfl, rfl⟩ | ⟨e, rfl, rfl, rfl⟩ | ⟨e, rfl, rfl, rfl⟩ | ⟨e, _⟩
    · obtain ⟨rfl, rfl⟩ := List.cons.inj e
      w_strict (walk_at "mine steps")
      refine hC _ _ _ _ _ (by assumption) (by assumption) (fun _ hp => hp) (fun p hp => by rw [List.mem_singleton.mp hp]; exact hDI) (.mk _ _ _ _ _ _ _ _ _ _ (.inr (.inl ⟨rfl, rfl, rfl, rfl⟩)) his (by walk_at "mine name") (by walk_at "mine name") (by walk_at "mine name") (by walk_at "mine name") (by walk_at "mine name") (by walk_at "mine name"))
    · obtain ⟨rfl, rfl⟩ := List.cons.inj e
      w_strict (walk_at "mine steps")
      refine hC _ _ _ _ _ (by assumption) (by assumption) (fun _ hp => hp) (fun p hp => by rw [List.mem_singleton.mp hp]; exact hDI) (.mk _ _ _ _ _ _ _ _ _ _ (.inr (.inr (.inl ⟨rfl, rfl, rfl, rfl⟩))) (by rw [Array.toList_push]; exact his.append (.cons _ _ .nil)) (by walk_at "mine name") (by walk_at "mine name") (by walk_at "mine name") (by walk_at "mine name") (by walk_at "mine name") (by walk_at "mine name"))
    · obtain ⟨rfl, rfl⟩ := List.cons.inj e
      w_strict (walk_at "mine steps")
      refine hC _ _ _ _ _ (by assumption) (by assumption) (fun _ hp => hp) (fun p hp => by rw [List.mem_singleton.mp hp]; exact hDI) (.mk _ _ _ _ _ _ _ _ _ _ (.inr (.inr (.inr (.inl ⟨rfl, rfl, rfl, rfl⟩)))) (by rw [Array.toList_push]; exact his.append (.cons _ _ .nil)) (by walk_at "mine name") (by walk_at "mine name") (by walk_at "mine name") (by walk_at "mine name") (by walk_at "mine name") (by walk_at "mine name"))
    · obtain ⟨rfl, rfl⟩ := List.cons.inj e
      w_strict (walk_at "mine steps")
      refine hC _ _ _ _ _ (by assumption) (by assumption) (fun _ hp => hp) (fun p hp => by rw [List.mem_singleton.mp hp]; exact hDI) (.mk _ _ _ _ _ _ _ _ _ _ (.inr (.inr (.inr (.inr ⟨rfl, rfl, rfl, rfl⟩)))) (by rw [Array.toList_push]; (try rw [or3 (by omega)]); exact his.append (.cons _ _ .nil)) (by walk_at "mine name") (by walk_at "mine name") (by walk_at "mine name") (by walk_at "mine name") (by walk_at "mine name") (by walk_at "mine name"))
    · cases e
  · intro m news h tk hI2 F1 N1
    cases hI2 with | mk q lc outs its n tq tl tp i ti hst his hm1 hm2 hm3 hm4 hm5 hm6 =>
    rcases hst with ⟨e, _⟩ | ⟨e, _⟩ | ⟨e, _⟩ | ⟨e, _⟩ | ⟨_, rfl, rfl, rfl⟩
    · cases e
    · cases e
    · cases e
    · cases e
    · dsimp only
      w_strict (walk_at "mine upto bytes")
      refine bytes_of (vs := its.toList) (its := its) [4 * (c0 - 65), 16 * (c1 - 65), 64 * (c2 - 65)] F1 N1 (List.Mem.head _) (by simp) his (by simp only [List.forall_mem_cons, List.not_mem_nil, false_implies, implies_true, and_true]; omega) (by rw [his.length]; exact Nat.le_of_ble_eq_true rfl) rfl (fun h' b' t' k F5 N5 hb5 => ?_)
      dsimp only
      w_strict (walk_at "mine steps")
      exact hret _ _ _ (Fr.keep F5) ⟨_, _, rfl, hb5⟩
local macro_rules | `(tactic| walk_at "mine first") => `(tactic| ((with_reducible show wpAny _ _ (call (Value.ref 43) _ _) _ _ _); k_dflt (refine' Does.use (bfd_does _ _) ?k1 ?k2 ?k3 ?k4 ?k5 ?k6 ?k7 ?k8 ?k9 ?_; (walk_at "mine used"); rename_i r9 h9 tk9 G9 P9 F9 N9; (try dsimp only at P9); subst P9)))
local macro_rules | `(tactic| walk_at "mine first") => `(tactic| ((with_reducible show wpAny _ _ (call (Value.ref 92) _ _) _ _ _); k_dflt (refine' Does.use (a2b2_does _ ?b1 ?b2 ?b3 ?b4) ?k1 ?k2 ?k3 ?k4 ?k5 ?k6 ?k7 ?k8 ?k9 ?_; (case b1 => assumption); (case b2 => assumption); (case b3 => assumption); (case b4 => assumption); (walk_at "mine used"); rename_i r9 h9 tk9 G9 P9 F9 N9; obtain ⟨b9, t9, e9, q9⟩ := P9; subst e9)))
theorem b64d_does {b : Array UInt8} {c0 c1 c2 : Int} (t : Tok) (hb : KBw.bInts b = [c0, c1, c2, 65]) (h0 : 65 ≤ c0 ∧ c0 ≤ 67) (h1 : 65 ≤ c1 ∧ c1 ≤ 67) (h2 : 65 ≤ c2 ∧ c2 ≤ 67) :
    Does 3 w mean mg mb 116 [.bytes b t] [] (fun _ => True) (fun _ r _ => ∃ b t, r = .bytes b t ∧ KBw.bInts b = [4 * (c0 - 65), 16 * (c1 - 65), 64 * (c2 - 65)]) := by
  w_on
  unfold Does; intro dp un gd cn cs a ccd cl outer A₀ base h₀ L m s Q E B F X T hk hdp hun hpre hret
  w_strict (
  refine wpAny_call ?_
  k_dflt (refine' enterP [(Str.ofString "s", .bytes b t), (Str.ofString "altchars", .none), (Str.ofString "validate", .bool false)] B F X T rfl rfl hk ?k6 ?k7 ?k8 ?k9 ?kB ?_ ?c2 ?c3 ?c4 ?c5; (walk_at "mine enter"))
  walk_at "mine steps")
  exact hret _ _ _ (Fr.keep (by assumption)) ⟨_, _, rfl, by assumption⟩

end
section -- R25
theorem fill60 : PySem.Challenge.rw_qh0043_01 = PySem.Challenge.rw_qh0043_01 ∧ hd.heap_39 = hd.heap_39 := by k_fill; exact ⟨rfl, rfl⟩
local macro_rules | `(tactic| walk_at "mine first") => `(tactic| ((with_reducible show wpAny _ _ (call (Value.ref 116) _ _) _ _ _); k_dflt (refine' Does.use (b64d_does _ ?b1 ?b2 ?b3 ?b4) ?k1 ?k2 ?k3 ?k4 ?k5 ?k6 ?k7 ?k8 ?k9 ?_; (case b1 => assumption); (case b2 => omega); (case b3 => omega); (case b4 => omega); (walk_at "mine used"); rename_i r9 h9 tk9 G9 P9 F9 N9; obtain ⟨b9, t9, e9, q9⟩ := P9; subst e9)))
local macro_rules | `(tactic| walk_at "mine first") => `(tactic| ((with_reducible show LCg.CompSrc _ _ _ _ _ _ _ _ _ _ _ _ _ _); k_dflt (refine' LCg.CompSrc.ledger ?hh ?F ?N ?m ?z ?_; (case hh => rfl); (case F => k_asm); (case N => k_asm); (case m => k_mem); (case z => exact Nat.le_of_ble_eq_true rfl); intro g'; lcg_lit)))
variable {w : World} {mean : ExcName → Option Value} {mg mb : Str → Option Value}
theorem letter_does {a b x y z : Int} (ta tb : Tok) (ha : 0 ≤ a ∧ a ≤ 2) (hb : 0 ≤ b ∧ b ≤ 2) (hr : rowOf a b = [x, y, z]) (hx : 0 ≤ x ∧ x ≤ 2) (hy : 0 ≤ y ∧ y ≤ 2) (hz : 0 ≤ z ∧ z ≤ 2) :
    Does 4 w mean mg mb 140 [.int a ta, .int b tb] [] (fun _ => True) (fun _ r _ => ∃ b t, r = .bytes b t ∧ KBw.bInts b = [4 * x, 16 * y, 64 * z]) := by
  w_on
  unfold Does; intro dp un gd cn cs a' ccd cl outer A₀ base h₀ L m s Q E B F X T hk hdp hun hpre hret
  w_strict (
    refine wpAny_call ?_
    k_dflt (refine' enterP [(Str.ofString "a", .int a ta), (Str.ofString "b", .int b tb)] B F X T rfl rfl hk ?k6 ?k7 ?k8 ?k9 ?kB ?_ ?c2 ?c3 ?c4 ?c5; (walk_at "mine enter"))
    walk_at "mine steps")
  refine' Does.useInts (dedup_does (ns := _) ?i ?l) ?k1 ?k2 ?k3 ?k4 ?k5 ?k6 ?k7 ?k8 ?k9 ?_
  (case k1 => k_asm)
  (case k2 => k_asm)
  (case k3 => k_asm)
  (case k4 => k_asm)
  (case k5 => k_asm)
  (case k6 => first | exact rfl | assumption)
  (case k7 => ktr_room)
  (case k8 => ktr_units)
  (case k9 => exact News.isList (by assumption) (List.Mem.head _))
  (case i => exact .cons _ _ (.cons _ _ (.cons _ _ (.cons _ _ (.cons _ _ .nil)))))
  (case l => exact Nat.le_of_ble_eq_true rfl)
  intro l its n h' tk' hi F' N' off'
  rw [dedup_row ha hb, hr] at hi
  refine hideG ?_
  intro gk
  obtain ⟨t0, t1, t2, hE6⟩ := ints3 hi
  k_unfold
  clear gk
  subst hE6
  simp only [LCg.Off1, and_true] at off'
  dsimp only
  w_strict (walk_at "mine steps")
  refine hret _ _ _ (Fr.keep (by assumption)) ⟨_, _, rfl, ?_⟩
  refine' Eq.trans ?h9 ?g9
  case h9 => assumption
  have e : ∀ u : Int, 65 + u - 65 = u := fun u => by omega
  rw [e, e, e]

end
section -- P1
/-- the courting's state: what is left of the askers' rows, and the asked ones' cells -/
structure Co where
  w0 : List Int
  w1 : List Int
  w2 : List Int
  c0 : List Int
  c1 : List Int
  c2 : List Int
namespace Co
def w (S : Co) (k : Int) : List Int := if k = 0 then S.w0 else if k = 1 then S.w1 else S.w2
def c (S : Co) (k : Int) : List Int := if k = 0 then S.c0 else if k = 1 then S.c1 else S.c2
def setW (S : Co) (k : Int) (l : List Int) : Co := if k = 0 then { S with w0 := l } else if k = 1 then { S with w1 := l } else { S with w2 := l }
def setC (S : Co) (k : Int) (l : List Int) : Co := if k = 0 then { S with c0 := l } else if k = 1 then { S with c1 := l } else { S with c2 := l }
theorem setW_c0 (S : Co) (k : Int) (l : List Int) : (S.setW k l).c0 = S.c0 := by unfold setW; split <;> (try split) <;> rfl
theorem setW_c1 (S : Co) (k : Int) (l : List Int) : (S.setW k l).c1 = S.c1 := by unfold setW; split <;> (try split) <;> rfl
theorem setW_c2 (S : Co) (k : Int) (l : List Int) : (S.setW k l).c2 = S.c2 := by unfold setW; split <;> (try split) <;> rfl
theorem setC_w0 (S : Co) (k : Int) (l : List Int) : (S.setC k l).w0 = S.w0 := by unfold setC; split <;> (try split) <;> rfl
theorem setC_w1 (S : Co) (k : Int) (l : List Int) : (S.setC k l).w1 = S.w1 := by unfold setC; split <;> (try split) <;> rfl
theorem setC_w2 (S : Co) (k : Int) (l : List Int) : (S.setC k l).w2 = S.w2 := by unfold setC; split <;> (try split) <;> rfl
end Co
def freeP (S : Co) : List Int := [2, 1, 0].filter fun k => !(S.c0 ++ (S.c1 ++ S.c2)).any (· == k)
def whoP (hm : Bool) (fr : List Int) : Int := if hm then fr.getD 0 0 else fr.getD (fr.length - 1) 0
def keepP (row : List Int) (who : Int) (cell : List Int) : Int := cell.foldl (fun keeps rival => if row.idxOf rival < row.idxOf who then rival else keeps) who
def stepP (T : List (List Int)) (hm : Bool) (S : Co) : Co :=
  if freeP S = [] then S else
    (S.setW (whoP hm (freeP S)) (S.w (whoP hm (freeP S))).tail).setC ((S.w (whoP hm (freeP S))).headD 0)
      [keepP (T.getD ((S.w (whoP hm (freeP S))).headD 0).toNat []) (whoP hm (freeP S)) (S.c ((S.w (whoP hm (freeP S))).headD 0))]
noncomputable def runP (T : List (List Int)) (hm : Bool) (S : Co) : Nat → Co
  | 0 => S
  | n + 1 => stepP T hm (runP T hm S n)
theorem runP_stop {T : List (List Int)} {hm : Bool} {S : Co} {i : Nat} (h : freeP (runP T hm S i) = []) : ∀ k, runP T hm S (i + k) = runP T hm S i
  | 0 => rfl
  | k + 1 => by
    show stepP T hm (runP T hm S (i + k)) = _
    rw [runP_stop h k]
    unfold stepP
    rw [if_pos h]
def GoodP (hm : Bool) (S : Co) : Prop := (S.c0 ++ (S.c1 ++ S.c2)).length ≤ 1000 ∧ (S.w0.length ≤ 1000 ∧ S.w1.length ≤ 1000 ∧ S.w2.length ≤ 1000) ∧ (∀ x ∈ S.c0 ++ (S.c1 ++ S.c2), 0 ≤ x ∧ x ≤ 2) ∧
  (freeP S ≠ [] → ∃ x r, S.w (whoP hm (freeP S)) = x :: r ∧ 0 ≤ x ∧ x ≤ 2)
theorem freeP_bnd {S : Co} : ∀ k ∈ freeP S, 0 ≤ k ∧ k ≤ 2 := fun k hk => by
  have := (List.mem_filter.mp hk).1
  simp only [List.mem_cons, List.not_mem_nil, or_false] at this
  omega
theorem whoP_bnd {hm : Bool} {S : Co} (h : freeP S ≠ []) : 0 ≤ whoP hm (freeP S) ∧ whoP hm (freeP S) ≤ 2 := by
  have hpos : 0 < (freeP S).length := List.length_pos_iff.mpr h
  unfold whoP
  cases hm
  · simp only [Bool.false_eq_true, if_false]
    rw [List.getD_eq_getElem?_getD, List.getElem?_eq_getElem (by omega)]
    exact freeP_bnd _ (List.getElem_mem _)
  · simp only [if_true]
    rw [List.getD_eq_getElem?_getD, List.getElem?_eq_getElem hpos]
    exact freeP_bnd _ (List.getElem_mem _)

end
section -- R19
open PySem.SeqAt
def pick3 {α : Type} (k : Int) (a b c : α) : α := if k = 0 then a else if k = 1 then b else c
abbrev concL (pH h0 h1 h2 pT t0 t1 t2 pW w0 w1 w2 : Addr) (kH k0 k1 k2 n0 n1 n2 nt0 nt1 nt2 : Nat) (c0 c1 c2 v0 v1 v2 : List Value) (at0 at1 at2 : Array Value) : List (Addr × Obj) :=
  [(pH, W.listOf #[.ref h0, .ref h1, .ref h2] kH), (h2, W.listOf c2.toArray k2), (h1, W.listOf c1.toArray k1), (h0, W.listOf c0.toArray k0), (pT, LCg.lst [.ref t0, .ref t1, .ref t2]), (t2, W.listOf at2 nt2), (t1, W.listOf at1 nt1), (t0, W.listOf at0 nt0),
    (pW, LCg.lst [.ref w0, .ref w1, .ref w2]), (w2, W.listOf v2.toArray n2), (w1, W.listOf v1.toArray n1), (w0, W.listOf v0.toArray n0)]
theorem upd_nodup {d : Addr} {o o' : Obj} {post : List (Addr × Obj)} : ∀ {pre : List (Addr × Obj)}, ((pre ++ (d, o) :: post).map fun p => (p.1 : Nat)).Nodup → Upd d o o' (pre ++ (d, o) :: post) (pre ++ (d, o') :: post)
  | [], h => .head fun p hp e => by
    have := (List.nodup_cons.mp h).1
    exact this (List.mem_map.mpr ⟨p, hp, e⟩)
  | q :: pre, h => .tail (fun e => by
      have := (List.nodup_cons.mp h).1
      exact this (List.mem_map.mpr ⟨(d, o), List.mem_append_right _ (List.mem_cons_self ..), e.symm⟩)) (upd_nodup (List.nodup_cons.mp h).2)
theorem ne_it {h₀ h : Heap} {L I : Addr} {it : Obj} {all conc : List (Addr × Obj)} (N : News h₀ L h all) (hI : (I, it) ∈ all) (hc : ∀ p ∈ conc, p ∈ all) (hit : it.cls = .type "range_iterator") (hl : ∀ p ∈ conc, p.2.cls = .type "list") : ∀ p ∈ conc, @Ne Nat p.1 I := fun p hp e => by
  have h1 := (N _ (hc p hp)).1
  have h2 := (N _ hI).1
  rw [show p.1 = I from e, h2] at h1
  have h3 := hl p hp
  rw [← Option.some.inj h1, hit] at h3
  exact absurd (Value.type.inj h3) (by decide)
theorem concL_cls {pH h0 h1 h2 pT t0 t1 t2 pW w0 w1 w2 : Addr} {kH k0 k1 k2 n0 n1 n2 nt0 nt1 nt2 : Nat} {c0 c1 c2 v0 v1 v2 : List Value} {at0 at1 at2 : Array Value} :
    ∀ p ∈ concL pH h0 h1 h2 pT t0 t1 t2 pW w0 w1 w2 kH k0 k1 k2 n0 n1 n2 nt0 nt1 nt2 c0 c1 c2 v0 v1 v2 at0 at1 at2, p.2.cls = .type "list" := by
  repeat' (first | exact List.forall_mem_nil _ | refine List.forall_mem_cons.mpr ⟨rfl, ?_⟩)
section
variable {prog : Program} {w : World} {A : Around} {E : Value → Shared → Prop} {s : Shared} {h₀ : Heap} {L : Addr} {m : Str → Option Value}
theorem item_pick {value slice : PySem.Expr} {l a b c : Addr} {k : Int} {u : Tok} {Q : Value → Shared → Prop} (hl : LO s.heap l [.ref a, .ref b, .ref c]) (h0 : 0 ≤ k) (h2 : k ≤ 2)
    (hs : subscripted slice false (.ref l) (.int k u) = operate [.ref l, .int k u] (getItem (.ref l) (.int k u)))
    (h : Q (.ref (pick3 k a b c)) s) : wpAny (model prog w) A (subscriptTail value slice (.ref l) (.int k u)) Q E s := by
  refine item_any hl h0 (by omega) ?_ hs h
  rcases three ⟨h0, h2⟩ with rfl | rfl | rfl <;> rfl
section
variable {pH h0 h1 h2 pT t0 t1 t2 pW w0 w1 w2 : Addr} {kH k0 k1 k2 n0 n1 n2 nt0 nt1 nt2 : Nat} {c0 c1 c2 v0 v1 v2 : List Value} {at0 at1 at2 : Array Value} {S : Co}
theorem pop_pick {who x : Int} {r : List Int} {u : Tok} {Q : Value → Shared → Prop} {I : Addr} {it : Obj} (hit : it.cls = .type "range_iterator") (F : Fr h₀ L s.heap m) (N : News h₀ L s.heap ((I, it) :: concL pH h0 h1 h2 pT t0 t1 t2 pW w0 w1 w2 kH k0 k1 k2 n0 n1 n2 nt0 nt1 nt2 c0 c1 c2 v0 v1 v2 at0 at1 at2))
    (hnd : ([pH, h2, h1, h0, pT, t2, t1, t0, pW, w2, w1, w0] : List Nat).Nodup) (hw0 : 0 ≤ who) (hw2 : who ≤ 2) (hv0 : IntsAre v0 S.w0) (hv1 : IntsAre v1 S.w1) (hv2 : IntsAre v2 S.w2) (hw : S.w who = x :: r) (hz : S.w0.length ≤ 1000 ∧ S.w1.length ≤ 1000 ∧ S.w2.length ≤ 1000)
    (h : ∀ h' n0' n1' n2' v0' v1' v2' t, Fr h₀ L h' m → News h₀ L h' ((I, it) :: concL pH h0 h1 h2 pT t0 t1 t2 pW w0 w1 w2 kH k0 k1 k2 n0' n1' n2' nt0 nt1 nt2 c0 c1 c2 v0' v1' v2' at0 at1 at2) →
      IntsAre v0' (S.setW who r).w0 → IntsAre v1' (S.setW who r).w1 → IntsAre v2' (S.setW who r).w2 → Q (.int x t) { s with heap := h' }) :
    wpAny (model prog w) A (call (.builtin "list.pop") [.ref (pick3 who w0 w1 w2), .int 0 u]) Q E s := by
  have hne' := ne_it (conc := concL pH h0 h1 h2 pT t0 t1 t2 pW w0 w1 w2 kH k0 k1 k2 n0 n1 n2 nt0 nt1 nt2 c0 c1 c2 v0 v1 v2 at0 at1 at2) N (List.Mem.head _) (fun p hp => List.Mem.tail _ hp) hit concL_cls
  have hne : ∀ y ∈ ([pH, h2, h1, h0, pT, t2, t1, t0, pW, w2, w1, w0] : List Nat), y ≠ I := fun y hy => by
    have hm : y ∈ (concL pH h0 h1 h2 pT t0 t1 t2 pW w0 w1 w2 kH k0 k1 k2 n0 n1 n2 nt0 nt1 nt2 c0 c1 c2 v0 v1 v2 at0 at1 at2).map fun p => (p.1 : Nat) := hy
    obtain ⟨p, hp, rfl⟩ := List.mem_map.mp hm
    exact hne' p hp
  clear hne'
  rcases three ⟨hw0, hw2⟩ with rfl | rfl | rfl
  · have e : S.w0 = x :: r := hw
    rw [e] at hv0 hz
    cases hv0 with
    | cons _ t hr =>
      rename_i vs
      refine pop_zero (r := vs) (n := n0) (news' := (I, it) :: concL pH h0 h1 h2 pT t0 t1 t2 pW w0 w1 w2 kH k0 k1 k2 (n0 + 1) n1 n2 nt0 nt1 nt2 c0 c1 c2 vs v1 v2 at0 at1 at2) F N ?_ (by have := hr.length; have := hz.1; simp only [List.length_cons] at this; omega) fun h' F' N' => h h' _ _ _ vs v1 v2 t F' N' hr hv1 hv2
      refine .tail (Ne.symm (hne _ ?_)) (upd_nodup (pre := [(pH, W.listOf #[.ref h0, .ref h1, .ref h2] kH), (h2, W.listOf c2.toArray k2), (h1, W.listOf c1.toArray k1), (h0, W.listOf c0.toArray k0), (pT, LCg.lst [.ref t0, .ref t1, .ref t2]), (t2, W.listOf at2 nt2), (t1, W.listOf at1 nt1), (t0, W.listOf at0 nt0),
        (pW, LCg.lst [.ref w0, .ref w1, .ref w2]), (w2, W.listOf v2.toArray n2), (w1, W.listOf v1.toArray n1)]) (post := []) hnd)
      simp [pick3]
  · have e : S.w1 = x :: r := hw
    rw [e] at hv1 hz
    cases hv1 with
    | cons _ t hr =>
      rename_i vs
      refine pop_zero (r := vs) (n := n1) (news' := (I, it) :: concL pH h0 h1 h2 pT t0 t1 t2 pW w0 w1 w2 kH k0 k1 k2 n0 (n1 + 1) n2 nt0 nt1 nt2 c0 c1 c2 v0 vs v2 at0 at1 at2) F N ?_ (by have := hr.length; have := hz.2.1; simp only [List.length_cons] at this; omega) fun h' F' N' => h h' _ _ _ v0 vs v2 t F' N' hv0 hr hv2
      refine .tail (Ne.symm (hne _ ?_)) (upd_nodup (pre := [(pH, W.listOf #[.ref h0, .ref h1, .ref h2] kH), (h2, W.listOf c2.toArray k2), (h1, W.listOf c1.toArray k1), (h0, W.listOf c0.toArray k0), (pT, LCg.lst [.ref t0, .ref t1, .ref t2]), (t2, W.listOf at2 nt2), (t1, W.listOf at1 nt1), (t0, W.listOf at0 nt0),
        (pW, LCg.lst [.ref w0, .ref w1, .ref w2]), (w2, W.listOf v2.toArray n2)]) (post := [(w0, W.listOf v0.toArray n0)]) hnd)
      simp [pick3]
  · have e : S.w2 = x :: r := hw
    rw [e] at hv2 hz
    cases hv2 with
    | cons _ t hr =>
      rename_i vs
      refine pop_zero (r := vs) (n := n2) (news' := (I, it) :: concL pH h0 h1 h2 pT t0 t1 t2 pW w0 w1 w2 kH k0 k1 k2 n0 n1 (n2 + 1) nt0 nt1 nt2 c0 c1 c2 v0 v1 vs at0 at1 at2) F N ?_ (by have := hr.length; have := hz.2.2; simp only [List.length_cons] at this; omega) fun h' F' N' => h h' _ _ _ v0 v1 vs t F' N' hv0 hv1 hr
      refine .tail (Ne.symm (hne _ ?_)) (upd_nodup (pre := [(pH, W.listOf #[.ref h0, .ref h1, .ref h2] kH), (h2, W.listOf c2.toArray k2), (h1, W.listOf c1.toArray k1), (h0, W.listOf c0.toArray k0), (pT, LCg.lst [.ref t0, .ref t1, .ref t2]), (t2, W.listOf at2 nt2), (t1, W.listOf at1 nt1), (t0, W.listOf at0 nt0),
        (pW, LCg.lst [.ref w0, .ref w1, .ref w2])]) (post := [(w1, W.listOf v1.toArray n1), (w0, W.listOf v0.toArray n0)]) hnd)
      simp [pick3]
theorem sub0 {α : Type} {n i p a b c : α} {r : List α} : ∀ q ∈ i :: p :: a :: b :: n :: r, q ∈ n :: i :: p :: a :: b :: c :: r := by
  intro q h
  simp only [List.mem_cons] at h ⊢
  rcases h with h | h | h | h | h | h <;> simp [h]
theorem sub1 {α : Type} {n i p a b c : α} {r : List α} : ∀ q ∈ i :: p :: a :: n :: c :: r, q ∈ n :: i :: p :: a :: b :: c :: r := by
  intro q h
  simp only [List.mem_cons] at h ⊢
  rcases h with h | h | h | h | h | h <;> simp [h]
theorem sub2 {α : Type} {n i p a b c : α} {r : List α} : ∀ q ∈ i :: p :: n :: b :: c :: r, q ∈ n :: i :: p :: a :: b :: c :: r := by
  intro q h
  simp only [List.mem_cons] at h ⊢
  rcases h with h | h | h | h | h | h <;> simp [h]
theorem nd0 {n p a b c : Nat} {r : List Nat} (h : (p :: a :: b :: c :: r).Nodup) (hn : ∀ y ∈ p :: a :: b :: c :: r, y ≠ n) : (p :: a :: b :: n :: r).Nodup := by
  simp only [List.nodup_cons, List.mem_cons, not_or] at h ⊢
  simp only [List.forall_mem_cons] at hn
  exact ⟨⟨h.1.1, h.1.2.1, hn.1, h.1.2.2.2⟩, ⟨h.2.1.1, hn.2.1, h.2.1.2.2⟩, ⟨hn.2.2.1, h.2.2.1.2⟩, fun hm => hn.2.2.2.2 n hm rfl, h.2.2.2.2⟩
theorem nd1 {n p a b c : Nat} {r : List Nat} (h : (p :: a :: b :: c :: r).Nodup) (hn : ∀ y ∈ p :: a :: b :: c :: r, y ≠ n) : (p :: a :: n :: c :: r).Nodup := by
  simp only [List.nodup_cons, List.mem_cons, not_or] at h ⊢
  simp only [List.forall_mem_cons] at hn
  exact ⟨⟨h.1.1, hn.1, h.1.2.2.1, h.1.2.2.2⟩, ⟨hn.2.1, h.2.1.2.1, h.2.1.2.2⟩, ⟨Ne.symm hn.2.2.2.1, fun hm => hn.2.2.2.2 n hm rfl⟩, h.2.2.2.1, h.2.2.2.2⟩
theorem nd2 {n p a b c : Nat} {r : List Nat} (h : (p :: a :: b :: c :: r).Nodup) (hn : ∀ y ∈ p :: a :: b :: c :: r, y ≠ n) : (p :: n :: b :: c :: r).Nodup := by
  simp only [List.nodup_cons, List.mem_cons, not_or] at h ⊢
  simp only [List.forall_mem_cons] at hn
  exact ⟨⟨hn.1, h.1.2.1, h.1.2.2.1, h.1.2.2.2⟩, ⟨Ne.symm hn.2.2.1, Ne.symm hn.2.2.2.1, fun hm => hn.2.2.2.2 n hm rfl⟩, ⟨h.2.2.1.1, h.2.2.1.2⟩, h.2.2.2.1, h.2.2.2.2⟩
theorem lo_pick {h : Heap} {all : List (Addr × Obj)} {who : Int} (N : News h₀ L h all) (sub : ∀ p ∈ concL pH h0 h1 h2 pT t0 t1 t2 pW w0 w1 w2 kH k0 k1 k2 n0 n1 n2 nt0 nt1 nt2 c0 c1 c2 v0 v1 v2 at0 at1 at2, p ∈ all) (hw0 : 0 ≤ who) (hw2 : who ≤ 2) : ∃ vs, LO h (pick3 who w0 w1 w2) vs := by
  rcases three ⟨hw0, hw2⟩ with rfl | rfl | rfl
  · exact ⟨v0, n0, (N _ (sub (w0, _) (by k_mem))).1⟩
  · exact ⟨v1, n1, (N _ (sub (w1, _) (by k_mem))).1⟩
  · exact ⟨v2, n2, (N _ (sub (w2, _) (by k_mem))).1⟩
theorem set_pick {x : Int} {l : List Int} {vs : List Value} {u : Tok} {hN : Addr} {kn : Nat} {Q : Unit → Shared → Prop} {I : Addr} {it : Obj} (hit : it.cls = .type "range_iterator") (F : Fr h₀ L s.heap m) (N : News h₀ L s.heap ((hN, W.listOf vs.toArray kn) :: (I, it) :: concL pH h0 h1 h2 pT t0 t1 t2 pW w0 w1 w2 kH k0 k1 k2 n0 n1 n2 nt0 nt1 nt2 c0 c1 c2 v0 v1 v2 at0 at1 at2))
    (hnd : ([pH, h2, h1, h0, pT, t2, t1, t0, pW, w2, w1, w0] : List Nat).Nodup) (hN' : ∀ p ∈ concL pH h0 h1 h2 pT t0 t1 t2 pW w0 w1 w2 kH k0 k1 k2 n0 n1 n2 nt0 nt1 nt2 c0 c1 c2 v0 v1 v2 at0 at1 at2, @Ne Nat p.1 hN) (hx0 : 0 ≤ x) (hx2 : x ≤ 2) (hc0 : IntsAre c0 S.c0) (hc1 : IntsAre c1 S.c1) (hc2 : IntsAre c2 S.c2) (hvs : IntsAre vs l)
    (h : ∀ h' h0' h1' h2' k0' k1' k2' c0' c1' c2', Fr h₀ L h' m → News h₀ L h' ((I, it) :: concL pH h0' h1' h2' pT t0 t1 t2 pW w0 w1 w2 kH k0' k1' k2' n0 n1 n2 nt0 nt1 nt2 c0' c1' c2' v0 v1 v2 at0 at1 at2) → ([pH, h2', h1', h0', pT, t2, t1, t0, pW, w2, w1, w0] : List Nat).Nodup →
      IntsAre c0' (S.setC x l).c0 → IntsAre c1' (S.setC x l).c1 → IntsAre c2' (S.setC x l).c2 → Q () { s with heap := h' }) :
    wpAny (model prog w) A (setItem (.ref pH) (.int x u) (.ref hN)) Q E s := by
  have hne : ∀ y ∈ ([pH, h2, h1, h0, pT, t2, t1, t0, pW, w2, w1, w0] : List Nat), y ≠ hN := fun y hy => by
    have hm : y ∈ (concL pH h0 h1 h2 pT t0 t1 t2 pW w0 w1 w2 kH k0 k1 k2 n0 n1 n2 nt0 nt1 nt2 c0 c1 c2 v0 v1 v2 at0 at1 at2).map fun p => (p.1 : Nat) := hy
    obtain ⟨p, hp, rfl⟩ := List.mem_map.mp hm
    exact hN' p hp
  have hneI := ne_it (conc := concL pH h0 h1 h2 pT t0 t1 t2 pW w0 w1 w2 kH k0 k1 k2 n0 n1 n2 nt0 nt1 nt2 c0 c1 c2 v0 v1 v2 at0 at1 at2) N (List.Mem.tail _ (List.Mem.head _)) (fun p hp => List.Mem.tail _ (List.Mem.tail _ hp)) hit concL_cls _ (List.Mem.head _)
  have hne1 := hne pH (List.mem_cons_self ..)
  have U : ∀ q : Array Value, Upd pH (W.listOf #[.ref h0, .ref h1, .ref h2] kH) (W.listOf q kH) ((hN, W.listOf vs.toArray kn) :: (I, it) :: concL pH h0 h1 h2 pT t0 t1 t2 pW w0 w1 w2 kH k0 k1 k2 n0 n1 n2 nt0 nt1 nt2 c0 c1 c2 v0 v1 v2 at0 at1 at2)
      ((hN, W.listOf vs.toArray kn) :: (I, it) :: (pH, W.listOf q kH) :: (concL pH h0 h1 h2 pT t0 t1 t2 pW w0 w1 w2 kH k0 k1 k2 n0 n1 n2 nt0 nt1 nt2 c0 c1 c2 v0 v1 v2 at0 at1 at2).tail) := fun q =>
    .tail (Ne.symm hne1) (.tail (Ne.symm hneI) (upd_nodup (pre := []) (post := (concL pH h0 h1 h2 pT t0 t1 t2 pW w0 w1 w2 kH k0 k1 k2 n0 n1 n2 nt0 nt1 nt2 c0 c1 c2 v0 v1 v2 at0 at1 at2).tail) hnd))
  rcases three ⟨hx0, hx2⟩ with rfl | rfl | rfl
  · exact ki_set (q := [.ref hN, .ref h1, .ref h2]) F N (by decide) (by decide) rfl (U _) fun h' F' N' => h h' hN h1 h2 kn k1 k2 vs c1 c2 F' (News.sub N' sub0) (nd0 hnd hne) hvs hc1 hc2
  · exact ki_set (q := [.ref h0, .ref hN, .ref h2]) F N (by decide) (by decide) rfl (U _) fun h' F' N' => h h' h0 hN h2 k0 kn k2 c0 vs c2 F' (News.sub N' sub1) (nd1 hnd hne) hc0 hvs hc2
  · exact ki_set (q := [.ref h0, .ref h1, .ref hN]) F N (by decide) (by decide) rfl (U _) fun h' F' N' => h h' h0 h1 hN k0 k1 kn c0 c1 vs F' (News.sub N' sub2) (nd2 hnd hne) hc0 hc1 hvs
theorem pick_mem {k : Int} (hk0 : 0 ≤ k) (hk2 : k ≤ 2) : (pick3 k h0 h1 h2, W.listOf (pick3 k c0 c1 c2).toArray (pick3 k k0 k1 k2)) ∈ concL pH h0 h1 h2 pT t0 t1 t2 pW w0 w1 w2 kH k0 k1 k2 n0 n1 n2 nt0 nt1 nt2 c0 c1 c2 v0 v1 v2 at0 at1 at2 := by
  rcases three ⟨hk0, hk2⟩ with rfl | rfl | rfl
  · exact .tail _ (.tail _ (.tail _ (.head _)))
  · exact .tail _ (.tail _ (.head _))
  · exact .tail _ (.head _)
theorem pick_memT {k : Int} (hk0 : 0 ≤ k) (hk2 : k ≤ 2) : (pick3 k t0 t1 t2, W.listOf (pick3 k at0 at1 at2) (pick3 k nt0 nt1 nt2)) ∈ concL pH h0 h1 h2 pT t0 t1 t2 pW w0 w1 w2 kH k0 k1 k2 n0 n1 n2 nt0 nt1 nt2 c0 c1 c2 v0 v1 v2 at0 at1 at2 := by
  rcases three ⟨hk0, hk2⟩ with rfl | rfl | rfl
  · exact .tail _ (.tail _ (.tail _ (.tail _ (.tail _ (.tail _ (.tail _ (.head _)))))))
  · exact .tail _ (.tail _ (.tail _ (.tail _ (.tail _ (.tail _ (.head _))))))
  · exact .tail _ (.tail _ (.tail _ (.tail _ (.tail _ (.head _)))))
theorem pick_ints {k : Int} (hk0 : 0 ≤ k) (hk2 : k ≤ 2) (a : IntsAre c0 S.c0) (b : IntsAre c1 S.c1) (c : IntsAre c2 S.c2) : IntsAre (pick3 k c0 c1 c2) (S.c k) := by
  rcases three ⟨hk0, hk2⟩ with rfl | rfl | rfl
  · exact a
  · exact b
  · exact c
theorem pick_row {k : Int} {r0 r1 r2 : List Int} (hk0 : 0 ≤ k) (hk2 : k ≤ 2) (a : IntsAre at0.toList r0) (b : IntsAre at1.toList r1) (c : IntsAre at2.toList r2) (p0 : Perm3 r0) (p1 : Perm3 r1) (p2 : Perm3 r2) : IntsAre (pick3 k at0 at1 at2).toList ([r0, r1, r2].getD k.toNat []) ∧ Perm3 ([r0, r1, r2].getD k.toNat []) := by
  rcases three ⟨hk0, hk2⟩ with rfl | rfl | rfl
  · exact ⟨a, p0⟩
  · exact ⟨b, p1⟩
  · exact ⟨c, p2⟩
end
end
theorem lt_nm {d : Addr} : ∀ {l : List (Addr × Obj)}, AllLt d l → d ∉ l.map (fun p => (p.1 : Nat))
  | [], _, h => nomatch h
  | p :: l, ⟨a, b⟩, h => by
    rcases List.mem_cons.mp h with e | h
    · exact Nat.lt_irrefl _ (show @LT.lt Nat _ p.1 p.1 from (congrArg (fun z : Nat => (p.1 : Nat) < z) e).mp a)
    · exact lt_nm b h
theorem off_nm {d : Addr} : ∀ {l : List (Addr × Obj)}, LCg.Off1 d l → d ∉ l.map (fun p => (p.1 : Nat))
  | [], _, h => nomatch h
  | p :: l, ⟨a, b⟩, h => by
    rcases List.mem_cons.mp h with e | h
    · exact a e.symm
    · exact off_nm b h
theorem nd_cons {d : Nat} {l : List Nat} (h : d ∉ l) (n : l.Nodup) : (d :: l).Nodup := List.nodup_cons.mpr ⟨h, n⟩

end
section -- R24
variable {w : World} {mean : ExcName → Option Value} {mg mb : Str → Option Value}
theorem fill42 : PySem.Challenge.rw_qh0043_01 = PySem.Challenge.rw_qh0043_01 ∧ hd.heap_39 = hd.heap_39 := by k_fill; exact ⟨rfl, rfl⟩
theorem three_does (x y : Int) (tx ty : Tok) : Does 1 w mean mg mb 130 [.int x tx, .int y ty] [] (fun _ => True) (fun _ r _ => ∃ z t, r = .int z t ∧ (z < 0 ↔ x < y) ∧ -1 ≤ z ∧ z ≤ 1) := by
  w_on
  unfold Does; intro dp un gd cn cs a' ccd cl outer A₀ base h₀ L m s Q E B F X T hk hdp hun hpre hret
  w_strict (
    refine wpAny_call ?_
    k_dflt (refine' enterP [(Str.ofString "x", .int x tx), (Str.ofString "y", .int y ty)] B F X T rfl rfl hk ?k6 ?k7 ?k8 ?k9 ?kB ?_ ?c2 ?c3 ?c4 ?c5; (walk_at "mine enter"))
    walk_at "mine steps")
  refine hret _ _ _ (Fr.keep (by assumption)) ⟨_, _, rfl, ?_⟩
  by_cases h1 : y < x <;> by_cases h2 : x < y <;> simp [b2i, h1, h2] <;> omega
/-- a letter: the octets of a row -/
def LetterOf (v : Value) (r : List Int) : Prop := ∃ b t x y z, v = .bytes b t ∧ r = [x, y, z] ∧ KBw.bInts b = [4 * x, 16 * y, 64 * z] ∧ (0 ≤ x ∧ x ≤ 2) ∧ (0 ≤ y ∧ y ≤ 2) ∧ (0 ≤ z ∧ z ≤ 2)
local macro_rules | `(tactic| walk_at "mine first") => `(tactic| ((with_reducible show wpAny _ _ (call (Value.ref 145) _ _) _ _ _); k_dflt (refine' Does.useInts (opened_does ?hb ?hx ?hy ?hz) ?k1 ?k2 ?k3 ?k4 ?k5 ?k6 ?k7 ?k8 ?k9 ?_; (case hb => assumption); (case hx => assumption); (case hy => assumption); (case hz => assumption); (walk_at "mine use8"); (case k9 => trivial); intro l9 its9 n9 h9 tk9 hi9 F9 N9 off9)))
local macro_rules | `(tactic| walk_at "mine first") => `(tactic| ((with_reducible show LCg.CompSrc _ _ _ _ _ _ _ _ _ _ _ _ _ _); k_dflt (refine' LCg.CompSrc.base ?hh ?F ?N ?m ?z ?_; (case hh => rfl); (case F => k_asm); (case N => k_asm); (case m => exact LO.isList (by assumption)); (case z => exact Nat.le_of_ble_eq_true rfl); intro g'; lcg_lit)))
local macro_rules | `(tactic| walk_at "mine first") => `(tactic| ((with_reducible show LCg.CompEnd _ _ _ _ _ _ _ _ _ _ _ _ _ _); (refine compEnd_made (by assumption) (by assumption) (by assumption) (by assumption) (by lcg_src) ?_)))
local macro_rules | `(tactic| walk_at "mine first") => `(tactic| ((with_reducible show wpAny _ _ (eval (Expr.ListComp _ [_, _] _ _) _) _ _ _); k_dflt (refine' ListComp_F (by k_asm) (by with_unfolding_all rfl) (by decide) (by rfl) (by decide) (by rfl) (by rfl) (by decide) (by decide) ?_)))
local macro_rules | `(tactic| walk_at "mine first") => `(tactic| ((with_reducible show wpAny _ _ (compareOp CmpOp.Eq (Value.ref _) (Value.ref _)) _ _ _); k_dflt (refine' eq_lo ?a ?b ?i ?j ?u ?_; (case a => walk_at "mine list"); (case b => walk_at "mine list"); (case i => walk_at "mine ints"); (case j => walk_at "mine ints"); (case u => ktr_units))))
local macro_rules | `(tactic| walk_at "mine upto ifexp") => `(tactic| repeat' ((fail_if_success (with_reducible show wpAny _ _ (eval (Expr.IfExp _ _ _ _) _) _ _ _)); first | (k_unfold; (try dsimp only)) | (walk_at "mine first") | (dsimp only [List.cons_append, List.nil_append, Int.reduceAdd, Int.reduceSub]; walk1) | walk1 | (leave1; walk_say "STEP leave1"; try dsimp only)))
local macro_rules | `(tactic| walk_at "mine first") => `(tactic| ((with_reducible show wpAny _ _ (subscriptTail _ _ (Value.ref _) (Value.int (-1) _)) _ _ _); k_dflt (refine' item_last ?l ?i ?z ?n ?a ?_; (case l => walk_at "mine list"); (case i => walk_at "mine ints"); (case z => assumption); (case n => assumption); (case a => with_unfolding_all rfl); k_whole); intro t9))
local macro_rules | `(tactic| walk_at "mine first") => `(tactic| ((with_reducible show wpAny _ _ (subscriptTail _ _ (Value.ref _) (Value.int _ _)) _ _ _); k_dflt (refine' item_pick ?l ?h0 ?h2 ?a ?_; (case l => walk_at "mine list"); (case h0 => first | assumption | decide | omega); (case h2 => first | assumption | decide | omega); (case a => with_unfolding_all rfl); k_whole)))
local macro_rules | `(tactic| walk_at "mine upto pop") => `(tactic| repeat' ((fail_if_success (with_reducible show wpAny _ _ (call (Value.builtin "list.pop") _) _ _ _)); first | (k_unfold; (try dsimp only)) | (walk_at "mine first") | (dsimp only [List.cons_append, List.nil_append, Int.reduceAdd, Int.reduceSub]; walk1) | walk1 | (leave1; walk_say "STEP leave1"; try dsimp only)))
local macro_rules | `(tactic| walk_at "mine upto set") => `(tactic| repeat' ((fail_if_success (with_reducible show wpAny _ _ (PySem.setItem _ _ _) _ _ _)); first | (k_unfold; (try dsimp only)) | (walk_at "mine first") | (dsimp only [List.cons_append, List.nil_append, Int.reduceAdd, Int.reduceSub]; walk1) | walk1 | (leave1; walk_say "STEP leave1"; try dsimp only)))
local macro_rules | `(tactic| walk_at "mine upto popm") => `(tactic| repeat' ((fail_if_success (with_reducible show wpAny _ _ (getMethod (Value.ref _) (Str.ofString "pop") _) _ _ _)); first | (k_unfold; (try dsimp only)) | (walk_at "mine first") | (dsimp only [List.cons_append, List.nil_append, Int.reduceAdd, Int.reduceSub]; walk1) | walk1 | (leave1; walk_say "STEP leave1"; try dsimp only)))
local macro_rules | `(tactic| walk_at "mine first") => `(tactic| ((with_reducible show wpAny _ _ (subscriptTail _ _ (Value.ref _) (Value.int _ _)) _ _ _); k_dflt (refine' item_any ?l ?h0 ?h1 ?v ?a ?_; (case l => walk_at "mine list"); (case h0 => decide); (case h1 => decide); (case v => exact rfl); (case a => with_unfolding_all rfl); k_whole)))
local macro_rules | `(tactic| walk_at "mine first") => `(tactic| ((with_reducible show wpAny _ _ (call (Value.ref 130) _ _) _ _ _); k_dflt (refine' Does.use (three_does _ _ _ _) ?k1 ?k2 ?k3 ?k4 ?k5 ?k6 ?k7 ?k8 ?k9 ?_; (walk_at "mine used"); rename_i r9 h9 tk9 G9 P9 F9 N9; obtain ⟨z9, t9, e9, q9, q8, q7⟩ := P9; subst e9)))
theorem ltall_ne {d : Addr} : ∀ {l : List (Addr × Obj)}, AllLt d l → ∀ p ∈ l, @Ne Nat p.1 d
  | [], _, _, h => nomatch h
  | p :: l, ⟨a, b⟩, q, h => by
    rcases List.mem_cons.mp h with e | h
    · rw [e]; exact Nat.ne_of_lt a
    · exact ltall_ne b q h
theorem c_sub {S : Co} {x y : Int} (hx0 : 0 ≤ x) (hx2 : x ≤ 2) (hy : y ∈ S.c x) : y ∈ S.c0 ++ (S.c1 ++ S.c2) := by
  rcases three ⟨hx0, hx2⟩ with rfl | rfl | rfl
  · exact List.mem_append_left _ hy
  · exact List.mem_append_right _ (List.mem_append_left _ hy)
  · exact List.mem_append_right _ (List.mem_append_right _ hy)
theorem nmc {d a : Nat} {l : List Nat} (h : a < d) (n : d ∉ l) : d ∉ a :: l := fun hm => (List.mem_cons.mp hm).elim (fun e => Nat.lt_irrefl a (e ▸ h)) n
theorem nmo {d a : Nat} {l : List Nat} (h : a ≠ d) (n : d ∉ l) : d ∉ a :: l := fun hm => (List.mem_cons.mp hm).elim (fun e => h e.symm) n
/-- what holds before a turn of the courting -/
inductive CourtI (fs : List Addr) (g0 : Heap) (S : Co) (hm : Bool) (pH pT t0 t1 t2 pW w0 w1 w2 : Addr) (nt0 nt1 nt2 : Nat) (at0 at1 at2 : Array Value) (m1 : Str → Option Value) : List (Addr × Obj) → Prop
  | mk (g : Heap) (h0 h1 h2 : Addr) (kH k0 k1 k2 n0 n1 n2 : Nat) (c0 c1 c2 v0 v1 v2 : List Value) (hT : KtsTurn fs g0 g) (hc : ∀ q ∈ concL pH h0 h1 h2 pT t0 t1 t2 pW w0 w1 w2 kH k0 k1 k2 n0 n1 n2 nt0 nt1 nt2 c0 c1 c2 v0 v1 v2 at0 at1 at2, g0.get? q.1 = none) (hnd : ([pH, h2, h1, h0, pT, t2, t1, t0, pW, w2, w1, w0] : List Nat).Nodup)
      (hm1 : m1 (Str.ofString "wishes") = some (.ref pW)) (hm2 : m1 (Str.ofString "tastes") = some (.ref pT)) (hm3 : m1 (Str.ofString "held") = some (.ref pH)) (hm4 : m1 (Str.ofString "hindmost") = some (.bool hm))
      (hc0 : IntsAre c0 S.c0) (hc1 : IntsAre c1 S.c1) (hc2 : IntsAre c2 S.c2) (hv0 : IntsAre v0 S.w0) (hv1 : IntsAre v1 S.w1) (hv2 : IntsAre v2 S.w2) :
      CourtI fs g0 S hm pH pT t0 t1 t2 pW w0 w1 w2 nt0 nt1 nt2 at0 at1 at2 m1 (concL pH h0 h1 h2 pT t0 t1 t2 pW w0 w1 w2 kH k0 k1 k2 n0 n1 n2 nt0 nt1 nt2 c0 c1 c2 v0 v1 v2 at0 at1 at2 ++ frsOf g fs)
/-- and behind the last one -/
inductive CourtF (fs : List Addr) (g0 : Heap) (z0 z1 z2 : Int) (pH pT t0 t1 t2 pW w0 w1 w2 : Addr) (nt0 nt1 nt2 : Nat) (at0 at1 at2 : Array Value) (m1 : Str → Option Value) : List (Addr × Obj) → Prop
  | mk (g : Heap) (h0 h1 h2 : Addr) (kH k0 k1 k2 n0 n1 n2 : Nat) (c0 c1 c2 v0 v1 v2 : List Value) (hT : KtsTurn fs g0 g) (hc : ∀ q ∈ concL pH h0 h1 h2 pT t0 t1 t2 pW w0 w1 w2 kH k0 k1 k2 n0 n1 n2 nt0 nt1 nt2 c0 c1 c2 v0 v1 v2 at0 at1 at2, g0.get? q.1 = none)
      (hm3 : m1 (Str.ofString "held") = some (.ref pH)) (hc0 : IntsAre c0 [z0]) (hc1 : IntsAre c1 [z1]) (hc2 : IntsAre c2 [z2]) :
      CourtF fs g0 z0 z1 z2 pH pT t0 t1 t2 pW w0 w1 w2 nt0 nt1 nt2 at0 at1 at2 m1 (concL pH h0 h1 h2 pT t0 t1 t2 pW w0 w1 w2 kH k0 k1 k2 n0 n1 n2 nt0 nt1 nt2 c0 c1 c2 v0 v1 v2 at0 at1 at2 ++ frsOf g fs)
/-- what holds while the rivals are looked at -/
inductive KeepI (row : List Int) (who kept x : Int) (tx tt9 : Tok) (pW pT pH : Addr) (hm : Bool) (ns : List Int) (m2 : Str → Option Value) : Prop
  | mk (z : Int) (tz : Tok) (hb : ∀ y ∈ ns, 0 ≤ y ∧ y ≤ 2) (hz1 : m2 (Str.ofString "keeps") = some (.int z tz)) (hz2 : ns.foldl (fun keeps rival => if row.idxOf rival < row.idxOf who then rival else keeps) z = kept)
      (hn1 : m2 (Str.ofString "whom") = some (.int x tx)) (hn2 : m2 (Str.ofString "who") = some (.int who tt9)) (hn3 : m2 (Str.ofString "wishes") = some (.ref pW)) (hn4 : m2 (Str.ofString "tastes") = some (.ref pT)) (hn5 : m2 (Str.ofString "held") = some (.ref pH)) (hn6 : m2 (Str.ofString "hindmost") = some (.bool hm)) : KeepI row who kept x tx tt9 pW pT pH hm ns m2
local macro_rules | `(tactic| walk_at "mine list") => `(tactic| exact LO.news (by k_asm) (List.Mem.tail _ (List.Mem.tail _ (pick_memT (by assumption) (by assumption)))))
theorem courted_core {p q : Addr} {hm : Bool} {ba0 ba1 ba2 bb0 bb1 bb2 : Array UInt8} {ta0 ta1 ta2 tb0 tb1 tb2 : Tok} {x00 x01 x02 x10 x11 x12 x20 x21 x22 y00 y01 y02 y10 y11 y12 y20 y21 y22 : Int} {z0 z1 z2 : Int}
    (hba0 : KBw.bInts ba0 = [4 * x00, 16 * x01, 64 * x02]) (hx00 : 0 ≤ x00 ∧ x00 ≤ 2) (hx01 : 0 ≤ x01 ∧ x01 ≤ 2) (hx02 : 0 ≤ x02 ∧ x02 ≤ 2)
    (hba1 : KBw.bInts ba1 = [4 * x10, 16 * x11, 64 * x12]) (hx10 : 0 ≤ x10 ∧ x10 ≤ 2) (hx11 : 0 ≤ x11 ∧ x11 ≤ 2) (hx12 : 0 ≤ x12 ∧ x12 ≤ 2)
    (hba2 : KBw.bInts ba2 = [4 * x20, 16 * x21, 64 * x22]) (hx20 : 0 ≤ x20 ∧ x20 ≤ 2) (hx21 : 0 ≤ x21 ∧ x21 ≤ 2) (hx22 : 0 ≤ x22 ∧ x22 ≤ 2)
    (hbb0 : KBw.bInts bb0 = [4 * y00, 16 * y01, 64 * y02]) (hy00 : 0 ≤ y00 ∧ y00 ≤ 2) (hy01 : 0 ≤ y01 ∧ y01 ≤ 2) (hy02 : 0 ≤ y02 ∧ y02 ≤ 2)
    (hbb1 : KBw.bInts bb1 = [4 * y10, 16 * y11, 64 * y12]) (hy10 : 0 ≤ y10 ∧ y10 ≤ 2) (hy11 : 0 ≤ y11 ∧ y11 ≤ 2) (hy12 : 0 ≤ y12 ∧ y12 ≤ 2)
    (hbb2 : KBw.bInts bb2 = [4 * y20, 16 * y21, 64 * y22]) (hy20 : 0 ≤ y20 ∧ y20 ≤ 2) (hy21 : 0 ≤ y21 ∧ y21 ≤ 2) (hy22 : 0 ≤ y22 ∧ y22 ≤ 2)
    (hp0 : Perm3 [y00, y01, y02]) (hp1 : Perm3 [y10, y11, y12]) (hp2 : Perm3 [y20, y21, y22]) (hgood : ∀ i, i < 10 → GoodP hm (runP [[y00, y01, y02], [y10, y11, y12], [y20, y21, y22]] hm ⟨[x00, x01, x02], [x10, x11, x12], [x20, x21, x22], [], [], []⟩ i))
    (hend : (runP [[y00, y01, y02], [y10, y11, y12], [y20, y21, y22]] hm ⟨[x00, x01, x02], [x10, x11, x12], [x20, x21, x22], [], [], []⟩ 10).c0 = [z0] ∧ (runP [[y00, y01, y02], [y10, y11, y12], [y20, y21, y22]] hm ⟨[x00, x01, x02], [x10, x11, x12], [x20, x21, x22], [], [], []⟩ 10).c1 = [z1] ∧ (runP [[y00, y01, y02], [y10, y11, y12], [y20, y21, y22]] hm ⟨[x00, x01, x02], [x10, x11, x12], [x20, x21, x22], [], [], []⟩ 10).c2 = [z2]) :
    DoesT 20 w mean mg mb 150 [.ref p, .ref q, .bool hm] [] [] (fun h => LO h p [.bytes ba0 ta0, .bytes ba1 ta1, .bytes ba2 ta2] ∧ LO h q [.bytes bb0 tb0, .bytes bb1 tb1, .bytes bb2 tb2]) (fun r all => ∃ l its n, r = .ref l ∧ (l, W.listOf its n) ∈ all ∧ IntsAre its.toList [z0, z1, z2]) := by
  w_on
  unfold DoesT; intro dp un gd cn cs a' ccd cl outer A₀ base h₀ L m s Q E B F X T XB TB hk hdp hun hown hpre hret
  clear hown
  refine hideG ?_
  intro gk
  obtain ⟨hq1, hq2⟩ := hpre
  k_unfold
  clear gk
  have hl1 := hq1.isList
  have hl2 := hq2.isList
  w_strict (
    refine wpAny_call ?_
    k_dflt (refine' enterP [(Str.ofString "askers", .ref p), (Str.ofString "asked", .ref q), (Str.ofString "hindmost", .bool hm)] B F X T rfl rfl hk ?k6 ?k7 ?k8 ?k9 ?kB ?_ ?c2 ?c3 ?c4 ?c5; (walk_at "mine enter"))
    walk_at "mine upto for")
  rename_i Lf hh1 B2 X2 T2 j1 j2 j3 j4 j5 j6 j7 j8 j9 j10 j11 j12 j13 j14 j15 j16 j17 j18 j19 j20 j21 w0 aw0 nw0 j22 j23 iw0 of0 j24 j25 j26 j27 j28 j29 j30 j31 j32 j33 j34 j35 j36 j37 j38 j39 j40 w1 aw1 nw1 j41 j42 iw1 of1 j43 j44 j45 j46 j47 j48 j49 j50 j51 j52 j53 j54 j55 j56 j57 j58 j59 w2 aw2 nw2 j60 j61 iw2 of2 pW j62 j63 offW j64 j65 j66 j67 j68 j69 j70 j71 j72 j73 j74 j75 j76 j77 j78 j79 j80 j81 t0 at0 nt0 j82 j83 it0 of3 j84 j85 j86 j87 j88 j89 j90 j91 j92 j93 j94 j95 j96 j97 j98 j99 j100 t1 at1 nt1 j101 j102 it1 of4 j103 j104 j105 j106 j107 j108 j109 j110 j111 j112 j113 j114 j115 j116 j117 t2 at2 nt2 j118 j119 it2 of5 pT j120 j121 offT h0 j122 lt0 h1 j123 lt1 h2 j124 lt2 pH j125 lt3 hcur F1 N1
  (try clear j125); (try clear j124); (try clear j123); (try clear j122); (try clear j121); (try clear j120); (try clear j119); (try clear j118); (try clear j117); (try clear j116); (try clear j115); (try clear j114); (try clear j113); (try clear j112); (try clear j111); (try clear j110); (try clear j109); (try clear j108); (try clear j107); (try clear j106); (try clear j105); (try clear j104); (try clear j103); (try clear j102); (try clear j101); (try clear j100); (try clear j99); (try clear j98); (try clear j97); (try clear j96); (try clear j95); (try clear j94); (try clear j93); (try clear j92); (try clear j91); (try clear j90); (try clear j89); (try clear j88); (try clear j87); (try clear j86); (try clear j85); (try clear j84); (try clear j83); (try clear j82); (try clear j81); (try clear j80); (try clear j79); (try clear j78); (try clear j77); (try clear j76); (try clear j75); (try clear j74); (try clear j73); (try clear j72); (try clear j71); (try clear j70); (try clear j69); (try clear j68); (try clear j67); (try clear j66); (try clear j65); (try clear j64); (try clear j63); (try clear j62); (try clear j61); (try clear j60); (try clear j59); (try clear j58); (try clear j57); (try clear j56); (try clear j55); (try clear j54); (try clear j53); (try clear j52); (try clear j51); (try clear j50); (try clear j49); (try clear j48); (try clear j47); (try clear j46); (try clear j45); (try clear j44); (try clear j43); (try clear j42); (try clear j41); (try clear j40); (try clear j39); (try clear j38); (try clear j37); (try clear j36); (try clear j35); (try clear j34); (try clear j33); (try clear j32); (try clear j31); (try clear j30); (try clear j29); (try clear j28); (try clear j27); (try clear j26); (try clear j25); (try clear j24); (try clear j23); (try clear j22); (try clear j21); (try clear j20); (try clear j19); (try clear j18); (try clear j17); (try clear j16); (try clear j15); (try clear j14); (try clear j13); (try clear j12); (try clear j11); (try clear j10); (try clear j9); (try clear j8); (try clear j7); (try clear j6); (try clear j5); (try clear j4); (try clear j3); (try clear j2); (try clear j1)
  have hnd : ([pH, h2, h1, h0, pT, t2, t1, t0, pW, w2, w1, w0] : List Nat).Nodup := nd_cons (nmc lt3.1 (nmc lt3.2.1 (nmc lt3.2.2.1 (nmc lt3.2.2.2.1 (nmc lt3.2.2.2.2.1 (nmc lt3.2.2.2.2.2.1 (nmc lt3.2.2.2.2.2.2.1 (nmc lt3.2.2.2.2.2.2.2.1 (nmc lt3.2.2.2.2.2.2.2.2.1 (nmc lt3.2.2.2.2.2.2.2.2.2.1 (nmc lt3.2.2.2.2.2.2.2.2.2.2 List.not_mem_nil))))))))))) (nd_cons (nmc lt2.1 (nmc lt2.2.1 (nmc lt2.2.2.1 (nmc lt2.2.2.2.1 (nmc lt2.2.2.2.2.1 (nmc lt2.2.2.2.2.2.1 (nmc lt2.2.2.2.2.2.2.1 (nmc lt2.2.2.2.2.2.2.2.1 (nmc lt2.2.2.2.2.2.2.2.2.1 (nmc lt2.2.2.2.2.2.2.2.2.2 List.not_mem_nil)))))))))) (nd_cons (nmc lt1.1 (nmc lt1.2.1 (nmc lt1.2.2.1 (nmc lt1.2.2.2.1 (nmc lt1.2.2.2.2.1 (nmc lt1.2.2.2.2.2.1 (nmc lt1.2.2.2.2.2.2.1 (nmc lt1.2.2.2.2.2.2.2.1 (nmc lt1.2.2.2.2.2.2.2.2 List.not_mem_nil))))))))) (nd_cons (nmc lt0.1 (nmc lt0.2.1 (nmc lt0.2.2.1 (nmc lt0.2.2.2.1 (nmc lt0.2.2.2.2.1 (nmc lt0.2.2.2.2.2.1 (nmc lt0.2.2.2.2.2.2.1 (nmc lt0.2.2.2.2.2.2.2 List.not_mem_nil)))))))) (nd_cons (nmo offT.1 (nmo offT.2.1 (nmo offT.2.2.1 (nmo offT.2.2.2.1 (nmo offT.2.2.2.2.1 (nmo offT.2.2.2.2.2.1 (nmo offT.2.2.2.2.2.2 List.not_mem_nil))))))) (nd_cons (nmo of5.2.2.2.1 (nmo of5.2.2.2.2.1 (nmo of5.2.2.2.2.2.1 (nmo of5.2.2.2.2.2.2.1 (nmo of5.2.2.2.2.2.2.2.1 (nmo of5.2.2.2.2.2.2.2.2.1 List.not_mem_nil)))))) (nd_cons (nmo of4.2.2.2.1 (nmo of4.2.2.2.2.1 (nmo of4.2.2.2.2.2.1 (nmo of4.2.2.2.2.2.2.1 (nmo of4.2.2.2.2.2.2.2.1 List.not_mem_nil))))) (nd_cons (nmo of3.2.2.2.1 (nmo of3.2.2.2.2.1 (nmo of3.2.2.2.2.2.1 (nmo of3.2.2.2.2.2.2.1 List.not_mem_nil)))) (nd_cons (nmo offW.1 (nmo offW.2.1 (nmo offW.2.2 List.not_mem_nil))) (nd_cons (nmo of2.2.2.2.1 (nmo of2.2.2.2.2.1 List.not_mem_nil)) (nd_cons (nmo of1.2.2.2.1 List.not_mem_nil) (nd_cons List.not_mem_nil List.nodup_nil)))))))))))
  clear of0 of1 of2 of3 of4 of5 offW offT lt0 lt1 lt2 lt3
  have B2' := B2
  obtain ⟨fs, hfs⟩ : ∃ fs, fs = (envX cn cs L a' ccd cl :: outer).filterMap (·.frame) := ⟨_, rfl⟩
  obtain ⟨S, hS⟩ : ∃ S : Nat → Co, S = fun i => runP [[y00, y01, y02], [y10, y11, y12], [y20, y21, y22]] hm ⟨[x00, x01, x02], [x10, x11, x12], [x20, x21, x22], [], [], []⟩ i := ⟨_, rfl⟩
  have hgood' : ∀ i, i < 10 → GoodP hm (S i) := fun i hi => by rw [hS]; exact hgood i hi
  have hstep : ∀ i, S (i + 1) = stepP [[y00, y01, y02], [y10, y11, y12], [y20, y21, y22]] hm (S i) := fun i => by rw [hS]; rfl
  have hstop : ∀ i, i ≤ 10 → freeP (S i) = [] → S 10 = S i := fun i hi h => by
    rw [hS] at h ⊢
    have := runP_stop h (10 - i)
    rw [show i + (10 - i) = 10 by omega] at this
    exact this
  have hend' : (S 10).c0 = [z0] ∧ (S 10).c1 = [z1] ∧ (S 10).c2 = [z2] := by rw [hS]; exact hend
  have hS0 : S 0 = ⟨[x00, x01, x02], [x10, x11, x12], [x20, x21, x22], [], [], []⟩ := by rw [hS]; rfl
  clear hgood hend hS
  have Fh := (unground B2 KtsTurn.refl F1 N1).1
  with_unfolding_all refine For_invVF (h₀ := hideAll s.heap ((envX cn cs L a' ccd cl :: outer).filterMap (·.frame))) Fh rfl rfl ?_
  clear Fh
  w_strict (walk_at "mine upto iter")
  rename_i hr F2 N2 hk2
  refine hideG ?_
  intro gk
  obtain ⟨Fh, Nh, hc0⟩ := unground B2 KtsTurn.refl F2 N2
  k_unfold
  clear gk
  refine iter_rangeUnr (n := 10) rfl hr (by decide) (by decide) Fh Nh (fun I hI => ?_)
  (try clear F1); (try clear N1); (try clear F2); (try clear N2); (try clear hk2); (try clear hr); (try clear Fh)
  have hIf : I ∉ (envX cn cs L a' ccd cl :: outer).filterMap (·.frame) := fun hm => by
    refine hideG ?_
    intro gk
    obtain ⟨_, o, ho, _⟩ := B2'.frames.mem hm
    k_unfold
    clear gk
    exact Nat.lt_irrefl _ (hI _ (List.mem_append_right _ (frs_mem hm ho)))
  refine range_inv2 (fun i m1 news => CourtI ((envX cn cs L a' ccd cl :: outer).filterMap (·.frame)) s.heap (S i) hm pH pT t0 t1 t2 pW w0 w1 w2 nt0 nt1 nt2 at0 at1 at2 m1 news) (fun m1 news => CourtF ((envX cn cs L a' ccd cl :: outer).filterMap (·.frame)) s.heap z0 z1 z2 pH pT t0 t1 t2 pW w0 w1 w2 nt0 nt1 nt2 at0 at1 at2 m1 news)
    ?_ ?_ ?_ 10 0 _ _ rfl ?_
  · rintro m1 news (⟨g, h0, h1, h2, kH, k0, k1, k2, n0, n1, n2, c0, c1, c2, v0, v1, v2, hT, hc, _, _, _, hh, _, hc0, hc1, hc2, _, _, _⟩)
    exact ⟨g, h0, h1, h2, kH, k0, k1, k2, n0, n1, n2, c0, c1, c2, v0, v1, v2, hT, hc, hh, hend'.1 ▸ hc0, hend'.2.1 ▸ hc1, hend'.2.2 ▸ hc2⟩
  · intro i t m1 news h tk it hi hcls hInv F2 N2 P hP hB
    clear hc0 hnd
    cases hInv with | mk g h0 h1 h2 kH k0 k1 k2 n0 n1 n2 c0 c1 c2 v0 v1 v2 hT hc hnd hm1 hm2 hm3 hm4 hc0 hc1 hc2 hv0 hv1 hv2 =>
    have hI0 : s.heap.get? I = none := by
      cases e : s.heap.get? I with
      | none => rfl
      | some o =>
        have := (N2 _ (List.Mem.head _)).2.2
        rw [hideAll_get _ e hIf] at this
        cases this
    have hO4 := reground (conc := (I, it) :: concL pH h0 h1 h2 pT t0 t1 t2 pW w0 w1 w2 kH k0 k1 k2 n0 n1 n2 nt0 nt1 nt2 c0 c1 c2 v0 v1 v2 at0 at1 at2) B2' XB TB hT F2 N2 (fun q hq => by
      rcases List.mem_cons.mp hq with rfl | hq
      · exact hI0
      · exact hc q hq)
    refine hideG ?_
    intro gk
    obtain ⟨g', T3, F3, N3, B3, X3, P3⟩ := hO4
    k_unfold
    clear gk
    clear F2 N2 hc hT B2
    dsimp only
    w_strict (walk_at "mine steps")
    rename_i pE hE F4 N4 lt4
    refine hideG ?_
    intro gk
    obtain ⟨hg1, hg2, hg3, hg4⟩ := hgood' i hi
    k_unfold
    clear gk
    have hflat := IntsAre.app3 hc0 hc1 hc2
    have hfl : (List.flatten [c0, c1, c2]).length ≤ 1000 := by rw [hflat.length]; exact hg1
    refine ⟨pH, kH, [.ref h0, .ref h1, .ref h2], [c0, c1, c2], _, rfl, rfl, F4, N4, List.Mem.tail _ (List.Mem.tail _ (List.Mem.head _)), .cons ⟨h0, k0, rfl, by k_mem⟩ (.cons ⟨h1, k1, rfl, by k_mem⟩ (.cons ⟨h2, k2, rfl, by k_mem⟩ .nil)), hfl, fun D h5 tk5 F5 N5 off5 => ?_⟩
    clear F4 N4
    w_strict (walk_at "mine upto call")
    have hED : @Ne Nat pE D := off5 _ (List.Mem.head _)
    refine' DoesT.use (diff_does (ne := 0) (na := (List.flatten [c0, c1, c2]).length) (t0 := tk) (t1 := tk + 1) (t2 := tk + 1 + 1) (its := (List.flatten [c0, c1, c2]).toArray) (fl := (S i).c0 ++ ((S i).c1 ++ (S i).c2)) hED hflat hg1) B3 F5 X3 P3 XB TB rfl ?k7 ?k8 (News.sub N5 (fun p hp => by
      rcases List.mem_cons.mp hp with rfl | hp
      · exact List.Mem.tail _ (List.Mem.head _)
      · rw [List.mem_singleton.mp hp]; exact List.Mem.head _)) trivial (fun r h6 tk6 g6 all6 T6 F6 B6 X6 P6 N6 kp6 Q6 => ?_)
    (case k7 => ktr_room)
    (case k8 => ktr_units)
    refine hideG ?_
    intro gk
    obtain ⟨tp, mi, ms, nt, nm, hE7, hmt, hmm, hms⟩ := Q6
    k_unfold
    clear gk
    subst hE7
    have lt4' : ∀ p ∈ (I, it) :: concL pH h0 h1 h2 pT t0 t1 t2 pW w0 w1 w2 kH k0 k1 k2 n0 n1 n2 nt0 nt1 nt2 c0 c1 c2 v0 v1 v2 at0 at1 at2, @LT.lt Nat _ p.1 pE := by
      refine hideG ?_
      intro gk
      obtain ⟨_, _, _, _, _, _, _, _, _, _, _, _, _⟩ := lt4
      k_unfold
      clear gk
      repeat' (first | exact List.forall_mem_nil _ | refine List.forall_mem_cons.mpr ⟨by assumption, ?_⟩)
    have N7 := kp6 _ (News.sub N5 (fun p hp => List.Mem.tail _ (List.Mem.tail _ hp))) (fun p hp hm => by
      rcases List.mem_cons.mp hm with e | hm
      · exact Nat.ne_of_lt (lt4' p hp) e
      · exact off5 p (List.Mem.tail _ hp) (List.mem_singleton.mp hm))
    have N8 : News g6 Lf h6 ((tp, ({ cls := .type "tuple", data := .seq #[.ref mi, .ref D] nt } : Obj)) :: (mi, W.listOf ms nm) :: (I, it) :: concL pH h0 h1 h2 pT t0 t1 t2 pW w0 w1 w2 kH k0 k1 k2 n0 n1 n2 nt0 nt1 nt2 c0 c1 c2 v0 v1 v2 at0 at1 at2) := fun p hp => by
      rcases List.mem_cons.mp hp with rfl | hp
      · exact N6 _ hmt
      rcases List.mem_cons.mp hp with rfl | hp
      · exact N6 _ hmm
      · exact N7 p hp
    have hms' : IntsAre ms.toList (freeP (S i)) := hms
    have T7 := T3.trans T6
    clear N5 N6 N7 kp6 hmt hmm hms off5 hED lt4 lt4' F5 B3 X3 P3 T6 T3 hflat hfl
    dsimp only
    w_strict (walk_at "mine upto ifexp")
    · rename_i l9 h9 F9 N9 lt9 ha
      have hS10 := hstop i (by omega) (of_decide_eq_true ha)
      refine hideG ?_
      intro gk
      obtain ⟨Fh, Nh, hch⟩ := unground B2' T7 F9 (News.sub N9 (b := concL pH h0 h1 h2 pT t0 t1 t2 pW w0 w1 w2 kH k0 k1 k2 n0 n1 n2 nt0 nt1 nt2 c0 c1 c2 v0 v1 v2 at0 at1 at2) (fun _ hp => List.Mem.tail _ (List.Mem.tail _ (List.Mem.tail _ (List.Mem.tail _ hp)))))
      k_unfold
      clear gk
      dsimp only
      refine hB _ _ _ _ _ Fh Nh (fun _ hp => hp) ⟨g6, h0, h1, h2, kH, k0, k1, k2, n0, n1, n2, c0, c1, c2, v0, v1, v2, T7, hch, ?_, ?_, ?_, ?_⟩
      · walk_at "mine name"
      · rw [← hend'.1, hS10]; exact hc0
      · rw [← hend'.2.1, hS10]; exact hc1
      · rw [← hend'.2.2, hS10]; exact hc2
    · rename_i l9 h9 F9 N9 lt9 ha
      have hne : freeP (S i) ≠ [] := of_decide_eq_false ha
      have hlen0 : 0 < (freeP (S i)).length := List.length_pos_iff.mpr hne
      have hlen1 : (freeP (S i)).length ≤ 1000 := Nat.le_trans (List.length_filter_le _ _) (by decide)
      refine hideG ?_
      intro gk
      obtain ⟨x, r, hwx, hx0, hx2⟩ := hg4 hne
      k_unfold
      clear gk
      refine hideG ?_
      intro gk
      obtain ⟨hwb0, hwb2⟩ := whoP_bnd (hm := hm) hne
      k_unfold
      clear gk
      have N9' := News.sub N9 (b := (mi, W.listOf ms nm) :: (I, it) :: concL pH h0 h1 h2 pT t0 t1 t2 pW w0 w1 w2 kH k0 k1 k2 n0 n1 n2 nt0 nt1 nt2 c0 c1 c2 v0 v1 v2 at0 at1 at2) (fun _ hp => List.Mem.tail _ (List.Mem.tail _ hp))
      clear N9 lt9 ha
      have hS1 : S (i + 1) = ((S i).setW (whoP hm (freeP (S i))) r).setC x [keepP ([[y00, y01, y02], [y10, y11, y12], [y20, y21, y22]].getD x.toNat []) (whoP hm (freeP (S i))) ((S i).c x)] := by
        rw [hstep]; unfold stepP; rw [if_neg hne, hwx]; rfl
      refine cut_int (z := whoP hm (freeP (S i))) (fun P9 hP9 => ?_) (fun tt9 tk9 => ?_)
      · clear hgood' hstep hstop hend' hS0 hP hB hret hS1
        cases hm
        all_goals (w_strict (walk_at "mine steps"))
        all_goals exact hP9 _ _
      · generalize whoP hm (freeP (S i)) = who at hwx hwb0 hwb2 hS1 ⊢
        clear hg4
        dsimp only
        w_strict (walk_at "mine upto popm")
        rename_i h10 F10 N10
        refine hideG ?_
        intro gk
        obtain ⟨vp, hvp⟩ := lo_pick N10 (fun _ hp => List.Mem.tail _ (List.Mem.tail _ hp)) hwb0 hwb2
        k_unfold
        clear gk
        refine meth_lo hvp PySem.F.slot_list_pop PySem.F.type_list_pop ?_
        dsimp only
        w_strict (walk_at "mine upto pop")
        refine pop_pick (S := S i) hcls F10 (News.sub N10 (fun _ hp => List.Mem.tail _ hp)) hnd hwb0 hwb2 hv0 hv1 hv2 hwx hg2 (fun h11 n0' n1' n2' v0' v1' v2' tx F11 N11 hv0' hv1' hv2' => ?_)
        clear hvp; (try clear N10); (try clear F10); (try clear N9'); (try clear F9)
        dsimp only
        w_strict (walk_at "mine upto iter")
        rename_i h12 F12 N12
        refine hideG ?_
        intro gk
        obtain ⟨hrow, hpx⟩ := pick_row hx0 hx2 it0 it1 it2 hp0 hp1 hp2
        k_unfold
        clear gk
        generalize hROW : ([[y00, y01, y02], [y10, y11, y12], [y20, y21, y22]].getD x.toNat []) = ROW at hrow hpx hS1
        refine iter_listUnr (vs := pick3 x c0 c1 c2) (lo := W.listOf (pick3 x c0 c1 c2).toArray (pick3 x k0 k1 k2)) (n := pick3 x k0 k1 k2) rfl F12 N12 (List.Mem.tail _ (pick_mem hx0 hx2)) rfl rfl (fun I2 hI2 => ?_)
        refine list_fix (fun ns m2 => KeepI ROW who (keepP ROW who ((S i).c x)) x tx tt9 pW pT pH hm ns m2)
          hI2 (List.Mem.tail _ (pick_mem hx0 hx2)) ?_ ?_ (pick_ints hx0 hx2 hc0 hc1 hc2) _ ⟨who, tt9, fun y hy => hg3 y (c_sub hx0 hx2 hy), by walk_at "mine name", rfl, by walk_at "mine name", by walk_at "mine name", by walk_at "mine name", by walk_at "mine name", by walk_at "mine name", by walk_at "mine name"⟩
        · clear hI2 F12 N12 hP hB hret hS1 hS0 hend' hstop hgood'
          intro k t3 ns m3 it3 h3 tk3 hKI F13 N13 C3 hC3
          cases hKI with | mk z tz hb hz1 hz2 hn1 hn2 hn3 hn4 hn5 hn6 =>
          have hk0 := (hb k (List.mem_cons_self ..)).1
          have hk2 := (hb k (List.mem_cons_self ..)).2
          dsimp only at F13 N13 ⊢
          w_strict (walk_at "mine steps")
          · rename_i za ea _ _ zb eb _ _ _ _ _ zc tc q9 q8 q7 ha _ _ F14 N14
            have hlt : List.idxOf k ROW < List.idxOf who ROW := by have := q9.mp ha; omega
            dsimp only [TurnPost]
            refine hC3 _ _ _ _ F14 N14 (fun _ hp => hp) ⟨k, t3, fun y hy => hb y (List.mem_cons_of_mem _ hy), by walk_at "mine name", ?_, by walk_at "mine name", by walk_at "mine name", by walk_at "mine name", by walk_at "mine name", by walk_at "mine name", by walk_at "mine name"⟩
            rw [← hz2, List.foldl_cons, if_pos hlt]
          · rename_i za ea _ _ zb eb _ _ _ _ _ F14 N14 zc tc q9 q8 q7 ha
            have hlt : ¬ List.idxOf k ROW < List.idxOf who ROW := fun q => ha (q9.mpr (by omega))
            dsimp only [TurnPost]
            refine hC3 _ _ _ _ F14 N14 (fun _ hp => hp) ⟨z, tz, fun y hy => hb y (List.mem_cons_of_mem _ hy), by walk_at "mine name", ?_, by walk_at "mine name", by walk_at "mine name", by walk_at "mine name", by walk_at "mine name", by walk_at "mine name", by walk_at "mine name"⟩
            rw [← hz2, List.foldl_cons, if_neg hlt]
        · intro m3 h3 tk3 hKI F13 N13
          cases hKI with | mk z tz hb hz1 hz2 hn1 hn2 hn3 hn4 hn5 hn6 =>
          clear hI2 F12 N12
          dsimp only
          w_strict (walk_at "mine upto set")
          rename_i hN h14 F14 N14 lt14
          have hNne : ∀ p ∈ concL pH h0 h1 h2 pT t0 t1 t2 pW w0 w1 w2 kH k0 k1 k2 n0' n1' n2' nt0 nt1 nt2 c0 c1 c2 v0' v1' v2' at0 at1 at2, @Ne Nat p.1 hN := ltall_ne (show AllLt hN (concL pH h0 h1 h2 pT t0 t1 t2 pW w0 w1 w2 kH k0 k1 k2 n0' n1' n2' nt0 nt1 nt2 c0 c1 c2 v0' v1' v2' at0 at1 at2) from ⟨lt14.2.1, lt14.2.2.1, lt14.2.2.2.1, lt14.2.2.2.2.1, lt14.2.2.2.2.2.1, lt14.2.2.2.2.2.2.1, lt14.2.2.2.2.2.2.2.1, lt14.2.2.2.2.2.2.2.2.1, lt14.2.2.2.2.2.2.2.2.2.1, lt14.2.2.2.2.2.2.2.2.2.2.1, lt14.2.2.2.2.2.2.2.2.2.2.2.1, lt14.2.2.2.2.2.2.2.2.2.2.2.2, trivial⟩)
          refine set_pick (S := (S i).setW who r) (l := [z]) hcls F14 N14 hnd hNne hx0 hx2 (by rw [Co.setW_c0]; exact hc0) (by rw [Co.setW_c1]; exact hc1) (by rw [Co.setW_c2]; exact hc2) (.cons _ _ .nil) (fun h15 h0' h1' h2' k0' k1' k2' c0' c1' c2' F15 N15 hnd' hc0' hc1' hc2' => ?_)
          dsimp only
          w_strict (walk_at "mine steps")
          refine hideG ?_
          intro gk
          obtain ⟨Fh, Nh, hch⟩ := unground B2' T7 F15 N15
          k_unfold
          clear gk
          have hS2 : S (i + 1) = ((S i).setW who r).setC x [z] := by rw [hS1, ← show z = keepP ROW who ((S i).c x) from hz2]
          refine hP .next _ _ _ _ _ (Or.inl rfl) Fh Nh (fun _ hp => hp) (fun p hp => ?_) (hS2 ▸ ⟨g6, h0', h1', h2', kH, k0', k1', k2', n0', n1', n2', c0', c1', c2', v0', v1', v2', T7, fun q hq => hch q (List.Mem.tail _ hq), hnd', hn3, hn4, hn5, hn6, hc0', hc1', hc2', by rw [Co.setC_w0]; exact hv0', by rw [Co.setC_w1]; exact hv1', by rw [Co.setC_w2]; exact hv2'⟩)
          rcases List.mem_append.mp hp with hp | hp
          · exact ne_it N15 (List.Mem.head _) (fun _ hp => List.Mem.tail _ hp) hcls concL_cls p hp
          · exact fun e => hIf (e ▸ (mem_frs hp).1)
  · intro m1 news h tk hFin F2 N2
    clear hc0 hnd
    cases hFin with | mk g h0 h1 h2 kH k0 k1 k2 n0 n1 n2 c0 c1 c2 v0 v1 v2 hT hc hh hc0 hc1 hc2 =>
    refine hideG ?_
    intro gk
    obtain ⟨g', T3, F3, N3, B3, X3, P3⟩ := reground B2' XB TB hT F2 N2 hc
    k_unfold
    clear gk
    clear F2 N2 hc hT
    cases hc0 with | cons _ u0 hc0 => cases hc0 with | nil =>
    cases hc1 with | cons _ u1 hc1 => cases hc1 with | nil =>
    cases hc2 with | cons _ u2 hc2 => cases hc2 with | nil =>
    dsimp only
    w_strict (walk_at "mine steps")
    refine hideG ?_
    intro gk
    obtain ⟨h₀', T₀, F₀, B₀, X₀, P₀, N₀, kp⟩ := turn_back (env := envX cn cs L a' ccd cl) B F XB TB rfl T3 (by assumption) (by assumption)
    k_unfold
    clear gk
    exact hret _ _ _ h₀' _ T₀ F₀ B₀ X₀ P₀ N₀ (fun news N _ => kp news N) ⟨_, _, _, rfl, List.Mem.head _, .cons _ _ (.cons _ _ (.cons _ _ .nil))⟩
  · have e : ∀ a : Array Value, W.listOf a = W.listOf a.toList.toArray := fun a => by rw [Array.toArray_toList]
    rw [e aw0, e aw1, e aw2]
    refine CourtI.mk s.heap h0 h1 h2 0 0 0 0 nw0 nw1 nw2 [] [] [] aw0.toList aw1.toList aw2.toList KtsTurn.refl (by simpa only [concL, Array.toArray_toList] using hc0) hnd rfl rfl rfl rfl (by rw [hS0]; exact .nil) (by rw [hS0]; exact .nil) (by rw [hS0]; exact .nil) (by rw [hS0]; exact iw0) (by rw [hS0]; exact iw1) (by rw [hS0]; exact iw2)
theorem courted_does {p q : Addr} {a0 a1 a2 b0 b1 b2 : Value} {hm : Bool} {r0 r1 r2 t0 t1 t2 : List Int} {z0 z1 z2 : Int} (ha0 : LetterOf a0 r0) (ha1 : LetterOf a1 r1) (ha2 : LetterOf a2 r2) (hb0 : LetterOf b0 t0) (hb1 : LetterOf b1 t1) (hb2 : LetterOf b2 t2)
    (hp0 : Perm3 t0) (hp1 : Perm3 t1) (hp2 : Perm3 t2) (hgood : ∀ i, i < 10 → GoodP hm (runP [t0, t1, t2] hm ⟨r0, r1, r2, [], [], []⟩ i))
    (hend : (runP [t0, t1, t2] hm ⟨r0, r1, r2, [], [], []⟩ 10).c0 = [z0] ∧ (runP [t0, t1, t2] hm ⟨r0, r1, r2, [], [], []⟩ 10).c1 = [z1] ∧ (runP [t0, t1, t2] hm ⟨r0, r1, r2, [], [], []⟩ 10).c2 = [z2]) :
    DoesT 20 w mean mg mb 150 [.ref p, .ref q, .bool hm] [] [] (fun h => LO h p [a0, a1, a2] ∧ LO h q [b0, b1, b2]) (fun r all => ∃ l its n, r = .ref l ∧ (l, W.listOf its n) ∈ all ∧ IntsAre its.toList [z0, z1, z2]) := by
  refine hideG ?_
  intro gk
  obtain ⟨ba0, ta0, x00, x01, x02, hE18, hE19, hba0, hx00, hx01, hx02⟩ := ha0
  k_unfold
  clear gk
  subst hE18
  subst hE19
  refine hideG ?_
  intro gk
  obtain ⟨ba1, ta1, x10, x11, x12, hE21, hE22, hba1, hx10, hx11, hx12⟩ := ha1
  k_unfold
  clear gk
  subst hE21
  subst hE22
  refine hideG ?_
  intro gk
  obtain ⟨ba2, ta2, x20, x21, x22, hE24, hE25, hba2, hx20, hx21, hx22⟩ := ha2
  k_unfold
  clear gk
  subst hE24
  subst hE25
  refine hideG ?_
  intro gk
  obtain ⟨bb0, tb0, y00, y01, y02, hE27, hE28, hbb0, hy00, hy01, hy02⟩ := hb0
  k_unfold
  clear gk
  subst hE27
  subst hE28
  refine hideG ?_
  intro gk
  obtain ⟨bb1, tb1, y10, y11, y12, hE30, hE31, hbb1, hy10, hy11, hy12⟩ := hb1
  k_unfold
  clear gk
  subst hE30
  subst hE31
  refine hideG ?_
  intro gk
  obtain ⟨bb2, tb2, y20, y21, y22, hE33, hE34, hbb2, hy20, hy21, hy22⟩ := hb2
  k_unfold
  clear gk
  subst hE33
  subst hE34
  exact courted_core hba0 hx00 hx01 hx02 hba1 hx10 hx11 hx12 hba2 hx20 hx21 hx22 hbb0 hy00 hy01 hy02 hbb1 hy10 hy11 hy12 hbb2 hy20 hy21 hy22 hp0 hp1 hp2 hgood hend

end
section -- P2
/-- one of the three -/
def B3 (k : Int) : Prop := 0 ≤ k ∧ k ≤ 2
theorem B3.cases {k : Int} (h : B3 k) : k = 0 ∨ k = 1 ∨ k = 2 := by unfold B3 at h; omega
/-- a row: the three, each once -/
structure Rw (l : List Int) : Prop where
  nd : l.Nodup
  mem : ∀ j, j ∈ l ↔ B3 j
  len : l.length = 3
theorem idx_mid {l p w : List Int} {j : Int} (h : l = p ++ j :: w) (nd : l.Nodup) : l.idxOf j = p.length := by
  subst h
  have hj : j ∉ p := fun hp => (List.nodup_append.mp nd).2.2 j hp j (List.mem_cons_self ..) rfl
  rw [List.idxOf_append, if_neg hj]
  simp
theorem idx_tail {l p w : List Int} {j x : Int} (h : l = p ++ j :: w) (nd : l.Nodup) (hx : x ∈ w) : l.idxOf j < l.idxOf x := by
  rw [idx_mid h nd]
  subst h
  have hp : x ∉ p := fun hp => (List.nodup_append.mp nd).2.2 x hp x (List.mem_cons_of_mem _ hx) rfl
  have hj : j ≠ x := fun e => by
    subst e
    exact (List.nodup_cons.mp (List.nodup_append.mp nd).2.1).1 hx
  rw [List.idxOf_append, if_neg hp, List.idxOf_cons]
  have : (j == x) = false := by simpa using hj
  rw [this]
  simp only [cond_false]
  omega
theorem idx_inj {l : List Int} {x y : Int} (hx : x ∈ l) (h : l.idxOf x = l.idxOf y) : x = y := by
  have h1 := List.idxOf_lt_length_iff.mpr hx
  have e1 := List.getElem_idxOf h1
  have h2 : l.idxOf y < l.length := h ▸ h1
  have e2 := List.getElem_idxOf h2
  rw [← e1, ← e2]
  congr 1
namespace Co
theorem w_setW {S : Co} {k k' : Int} {l : List Int} (h : B3 k) (h' : B3 k') : (S.setW k l).w k' = if k' = k then l else S.w k' := by
  rcases h.cases with rfl | rfl | rfl <;> rcases h'.cases with rfl | rfl | rfl <;> rfl
theorem c_setC {S : Co} {k k' : Int} {l : List Int} (h : B3 k) (h' : B3 k') : (S.setC k l).c k' = if k' = k then l else S.c k' := by
  rcases h.cases with rfl | rfl | rfl <;> rcases h'.cases with rfl | rfl | rfl <;> rfl
theorem w_setC {S : Co} {k k' : Int} {l : List Int} (h : B3 k) : (S.setC k l).w k' = S.w k' := by
  rcases h.cases with rfl | rfl | rfl <;> rfl
theorem c_setW {S : Co} {k k' : Int} {l : List Int} (h : B3 k) : (S.setW k l).c k' = S.c k' := by
  rcases h.cases with rfl | rfl | rfl <;> rfl
/-- how many askings are left -/
def tot (S : Co) : Nat := S.w0.length + S.w1.length + S.w2.length
theorem tot_step {S : Co} {i j : Int} {x : Int} {r l : List Int} (hi : B3 i) (hj : B3 j) (h : S.w i = x :: r) : ((S.setW i r).setC j l).tot + 1 = S.tot := by
  have e : ((S.setW i r).setC j l).tot = (S.setW i r).tot := by
    rcases hj.cases with rfl | rfl | rfl <;> rfl
  rw [e]
  rcases hi.cases with rfl | rfl | rfl
  · have h : S.w0 = x :: r := h
    show r.length + S.w1.length + S.w2.length + 1 = S.w0.length + S.w1.length + S.w2.length
    rw [h, List.length_cons]; omega
  · have h : S.w1 = x :: r := h
    show S.w0.length + r.length + S.w2.length + 1 = S.w0.length + S.w1.length + S.w2.length
    rw [h, List.length_cons]; omega
  · have h : S.w2 = x :: r := h
    show S.w0.length + S.w1.length + r.length + 1 = S.w0.length + S.w1.length + S.w2.length
    rw [h, List.length_cons]; omega
end Co
theorem b3_0 : B3 0 := by unfold B3; omega
theorem b3_1 : B3 1 := by unfold B3; omega
theorem b3_2 : B3 2 := by unfold B3; omega
theorem mem_free {S : Co} {k : Int} : k ∈ freeP S ↔ B3 k ∧ ∀ j, B3 j → k ∉ S.c j := by
  unfold freeP
  rw [List.mem_filter]
  constructor
  · rintro ⟨h1, h2⟩
    have hk : B3 k := by simp only [List.mem_cons, List.not_mem_nil, or_false] at h1; unfold B3; omega
    refine ⟨hk, fun j hj hm => ?_⟩
    have h3 : ∀ x ∈ S.c0 ++ (S.c1 ++ S.c2), ¬ x = k := fun x hx q => by
      have := List.any_eq_false.mp (by simpa only [Bool.not_eq_true'] using h2) x hx
      exact this (by simpa using q)
    have hin : k ∈ S.c0 ++ (S.c1 ++ S.c2) := by
      rcases hj.cases with rfl | rfl | rfl
      · exact List.mem_append_left _ hm
      · exact List.mem_append_right _ (List.mem_append_left _ hm)
      · exact List.mem_append_right _ (List.mem_append_right _ hm)
    exact h3 k hin rfl
  · rintro ⟨hk, h⟩
    refine ⟨?_, ?_⟩
    · rcases hk.cases with rfl | rfl | rfl <;> simp
    · have h0 : k ∉ S.c0 := h 0 b3_0
      have h1 : k ∉ S.c1 := h 1 b3_1
      have h2 : k ∉ S.c2 := h 2 b3_2
      have h3 : k ∉ S.c0 ++ (S.c1 ++ S.c2) := by simp [h0, h1, h2]
      have : (S.c0 ++ (S.c1 ++ S.c2)).any (· == k) = false := by
        rw [List.any_eq_false]
        intro x hx he
        exact h3 (by rw [← (by simpa using he : x = k)]; exact hx)
      rw [this]; rfl
theorem whoP_mem {hm : Bool} {S : Co} (h : freeP S ≠ []) : whoP hm (freeP S) ∈ freeP S := by
  have hpos : 0 < (freeP S).length := List.length_pos_iff.mpr h
  unfold whoP
  cases hm
  · simp only [Bool.false_eq_true, if_false]
    rw [List.getD_eq_getElem?_getD, List.getElem?_eq_getElem (by omega)]
    exact List.getElem_mem _
  · simp only [if_true]
    rw [List.getD_eq_getElem?_getD, List.getElem?_eq_getElem hpos]
    exact List.getElem_mem _
/-- a sound pairing, by askers (P) and by asked ones (R) -/
structure St (a b : Int → List Int) (P R : Int → Int) : Prop where
  p3 : ∀ i, B3 i → B3 (P i)
  r3 : ∀ j, B3 j → B3 (R j)
  pr : ∀ i j, B3 i → B3 j → (P i = j ↔ R j = i)
  ok : ∀ i j, B3 i → B3 j → (a i).idxOf j < (a i).idxOf (P i) → ¬ (b j).idxOf i < (b j).idxOf (R j)
theorem St.flip {a b : Int → List Int} {P R : Int → Int} (h : St a b P R) : St b a R P :=
  ⟨h.r3, h.p3, fun j i hj hi => (h.pr i j hi hj).symm, fun j i hj hi h1 h2 => h.ok i j hi hj h2 h1⟩
/-- the courting's invariant -/
structure CInv (a b : Int → List Int) (S : Co) : Prop where
  i1 : ∀ i, B3 i → ∃ pre, a i = pre ++ S.w i
  i2 : ∀ j, B3 j → S.c j = [] ∨ ∃ k, B3 k ∧ S.c j = [k]
  i3 : ∀ j k, B3 j → B3 k → S.c j = [k] → ∃ pre, a k = pre ++ j :: S.w k
  i4 : ∀ i j, B3 i → B3 j → j ∉ S.w i → ∃ k, S.c j = [k] ∧ (b j).idxOf k ≤ (b j).idxOf i
  i5 : ∀ P R, St a b P R → ∀ i, B3 i → P i ∉ S.w i → S.c (P i) = [i]
section
variable {a b : Int → List Int} {S : Co}
theorem CInv.held (I : CInv a b S) {j k : Int} (hj : B3 j) (h : S.c j = [k]) : B3 k := by
  rcases I.i2 j hj with e | ⟨k', hk', e⟩
  · rw [h] at e; cases e
  · rw [h] at e; cases e; exact hk'
theorem CInv.one (I : CInv a b S) {j j' k : Int} (hj : B3 j) (hj' : B3 j') (h : S.c j = [k]) (h' : S.c j' = [k]) : j = j' := by
  obtain ⟨p, e⟩ := I.i3 j k hj (I.held hj h) h
  obtain ⟨p', e'⟩ := I.i3 j' k hj' (I.held hj h) h'
  rw [e] at e'
  have hl : p.length = p'.length := by
    have := congrArg List.length e'
    simp only [List.length_append, List.length_cons] at this
    omega
  obtain ⟨_, q⟩ := List.append_inj e' hl
  cases q; rfl
/-- a free asker has someone left to ask -/
theorem CInv.more (hA : ∀ i, B3 i → Rw (a i)) (I : CInv a b S) {i : Int} (hi : B3 i) (hf : ∀ j, B3 j → i ∉ S.c j) : ∃ x r, S.w i = x :: r ∧ B3 x := by
  cases e : S.w i with
  | cons x r =>
    obtain ⟨p, hp⟩ := I.i1 i hi
    refine ⟨x, r, rfl, ((hA i hi).mem x).mp ?_⟩
    rw [hp, e]
    exact List.mem_append_right _ (List.mem_cons_self ..)
  | nil =>
    exfalso
    have h : ∀ j, B3 j → ∃ k, B3 k ∧ k ≠ i ∧ S.c j = [k] := fun j hj => by
      obtain ⟨k, hk, _⟩ := I.i4 i j hi hj (by rw [e]; exact List.not_mem_nil)
      refine ⟨k, I.held hj hk, fun q => ?_, hk⟩
      subst q
      exact hf j hj (by rw [hk]; exact List.mem_cons_self ..)
    obtain ⟨x, hx, nx, ex⟩ := h 0 b3_0
    obtain ⟨y, hy, ny, ey⟩ := h 1 b3_1
    obtain ⟨z, hz, nz, ez⟩ := h 2 b3_2
    have h1 : x ≠ y := fun q => by subst q; have := I.one b3_0 b3_1 ex ey; omega
    have h2 : x ≠ z := fun q => by subst q; have := I.one b3_0 b3_2 ex ez; omega
    have h3 : y ≠ z := fun q => by subst q; have := I.one b3_1 b3_2 ey ez; omega
    unfold B3 at hi hx hy hz
    omega
/-- one asking -/
theorem CInv.ask (hA : ∀ i, B3 i → Rw (a i)) (hB : ∀ i, B3 i → Rw (b i)) (I : CInv a b S) {i j : Int} {rest : List Int} (hi : B3 i) (hj : B3 j) (hf : ∀ j, B3 j → i ∉ S.c j) (hw : S.w i = j :: rest) :
    CInv a b ((S.setW i rest).setC j [keepP (b j) i (S.c j)]) := by
  have ew : ∀ k, B3 k → ((S.setW i rest).setC j [keepP (b j) i (S.c j)]).w k = if k = i then rest else S.w k := fun k hk => by
    rw [Co.w_setC hj, Co.w_setW hi hk]
  have ec : ∀ k, B3 k → ((S.setW i rest).setC j [keepP (b j) i (S.c j)]).c k = if k = j then [keepP (b j) i (S.c j)] else S.c k := fun k hk => by
    rw [Co.c_setC hj hk, Co.c_setW hi]
  generalize (S.setW i rest).setC j [keepP (b j) i (S.c j)] = S' at ew ec
  obtain ⟨pi, hpi⟩ := I.i1 i hi
  rw [hw] at hpi
  -- who is kept
  have hkeep : (keepP (b j) i (S.c j) = i ∧ ∀ k, S.c j = [k] → B3 k ∧ k ≠ i ∧ (b j).idxOf i < (b j).idxOf k) ∨ (∃ k, B3 k ∧ k ≠ i ∧ S.c j = [k] ∧ keepP (b j) i (S.c j) = k ∧ (b j).idxOf k < (b j).idxOf i) := by
    rcases I.i2 j hj with e | ⟨k, hk, e⟩
    · left
      rw [e]
      exact ⟨rfl, fun k q => by cases q⟩
    · have hki : k ≠ i := fun q => by subst q; exact hf j hj (by rw [e]; exact List.mem_cons_self ..)
      rw [e]
      by_cases hlt : (b j).idxOf k < (b j).idxOf i
      · right
        exact ⟨k, hk, hki, rfl, if_pos hlt, hlt⟩
      · left
        refine ⟨if_neg hlt, fun k' q => ?_⟩
        cases q
        refine ⟨hk, hki, ?_⟩
        have : (b j).idxOf k ≠ (b j).idxOf i := fun q => hki (idx_inj (((hB j hj).mem k).mpr hk) q)
        omega
  have hold : ∀ x y, B3 x → B3 y → y ∉ S'.w x → (x = i ∧ y = j) ∨ y ∉ S.w x := fun x y hx hy h => by
    rw [ew x hx] at h
    by_cases q : x = i
    · subst q
      rw [if_pos rfl] at h
      by_cases q' : y = j
      · exact .inl ⟨rfl, q'⟩
      · right
        rw [hw]
        exact fun hm => (List.mem_cons.mp hm).elim q' h
    · rw [if_neg q] at h
      exact .inr h
  refine ⟨fun x hx => ?_, fun y hy => ?_, fun y k hy hk h => ?_, fun x y hx hy h => ?_, fun P R hP x hx h => ?_⟩
  · rw [ew x hx]
    by_cases q : x = i
    · subst q
      rw [if_pos rfl]
      exact ⟨pi ++ [j], by rw [hpi]; simp⟩
    · rw [if_neg q]; exact I.i1 x hx
  · rw [ec y hy]
    by_cases q : y = j
    · subst q
      rw [if_pos rfl]
      right
      rcases hkeep with ⟨e, _⟩ | ⟨k, hk, _, _, e, _⟩
      · exact ⟨i, hi, by rw [e]⟩
      · exact ⟨k, hk, by rw [e]⟩
    · rw [if_neg q]; exact I.i2 y hy
  · rw [ec y hy] at h
    by_cases q : y = j
    · subst q
      rw [if_pos rfl] at h
      rcases hkeep with ⟨e, _⟩ | ⟨k', hk', ne, e', e, _⟩
      · rw [e] at h
        cases h
        rw [ew i hi, if_pos rfl]
        exact ⟨pi, hpi⟩
      · rw [e] at h
        cases h
        rw [ew _ hk', if_neg ne]
        exact I.i3 y _ hy hk' e'
    · rw [if_neg q] at h
      have ne : k ≠ i := fun e => by subst e; exact hf y hy (by rw [h]; exact List.mem_cons_self ..)
      rw [ew k hk, if_neg ne]
      exact I.i3 y k hy hk h
  · rw [ec y hy]
    rcases hold x y hx hy h with ⟨rfl, rfl⟩ | h
    · rw [if_pos rfl]
      rcases hkeep with ⟨e, _⟩ | ⟨k', hk', ne, e', e, lt⟩
      · exact ⟨_, rfl, by rw [e]; omega⟩
      · exact ⟨_, rfl, by rw [e]; omega⟩
    · obtain ⟨k, e, le⟩ := I.i4 x y hx hy h
      by_cases q : y = j
      · subst q
        rw [if_pos rfl]
        rcases hkeep with ⟨e1, hh⟩ | ⟨k', hk', ne, e', e1, lt⟩
        · obtain ⟨_, _, lt⟩ := hh k e
          exact ⟨_, rfl, by rw [e1]; omega⟩
        · rw [e] at e'; cases e'
          exact ⟨_, rfl, by rw [e1]; omega⟩
      · rw [if_neg q]
        exact ⟨k, e, le⟩
  · rw [ec _ (hP.p3 x hx)]
    rcases hold x (P x) hx (hP.p3 x hx) h with ⟨rfl, hPx⟩ | h
    · rw [if_pos hPx]
      rcases hkeep with ⟨e, _⟩ | ⟨k, hk, ne, e', e, lt⟩
      · rw [e]
      · exfalso
        have hPk : P k ≠ j := fun q => ne (by
          have a1 := (hP.pr x j hx hj).mp hPx
          have a2 := (hP.pr k j hk hj).mp q
          rw [← a2, a1])
        have hin : P k ∈ S.w k := by
          refine Classical.byContradiction fun hn => ?_
          have := I.i5 P R hP k hk hn
          exact hPk (I.one hj (hP.p3 k hk) e' this).symm
        obtain ⟨p, hp⟩ := I.i3 j k hj hk e'
        have l1 := idx_tail hp (hA k hk).nd hin
        refine hP.ok k j hk hj l1 ?_
        rw [(hP.pr x j hx hj).mp hPx]
        exact lt
    · have hx' := I.i5 P R hP x hx h
      by_cases q : P x = j
      · rw [if_pos q]
        rcases hkeep with ⟨e, hh⟩ | ⟨k, hk, ne, e', e, lt⟩
        · exfalso
          rw [q] at hx'
          obtain ⟨_, ne, lt⟩ := hh x hx'
          have hin : P i ∈ S.w i := by
            refine Classical.byContradiction fun hn => ?_
            have := I.i5 P R hP i hi hn
            exact hf _ (hP.p3 i hi) (by rw [this]; exact List.mem_cons_self ..)
          have hPi : P i ≠ j := fun q' => ne (by
            have a1 := (hP.pr x j hx hj).mp q
            have a2 := (hP.pr i j hi hj).mp q'
            rw [← a1, a2])
          rw [hw] at hin
          have hin' : P i ∈ rest := (List.mem_cons.mp hin).resolve_left hPi
          have l1 := idx_tail hpi (hA i hi).nd hin'
          refine hP.ok i j hi hj l1 ?_
          rw [(hP.pr x j hx hj).mp q]
          exact lt
        · rw [q] at hx'
          rw [e'] at hx'
          cases hx'
          rw [e]
      · rw [if_neg q]
        exact hx'
end

end
section -- P3
/-- a courting that comes to its end -/
structure Courts (hm : Bool) (r0 r1 r2 t0 t1 t2 : List Int) (z0 z1 z2 : Int) : Prop where
  good : ∀ i, i < 10 → GoodP hm (runP [t0, t1, t2] hm ⟨r0, r1, r2, [], [], []⟩ i)
  fin : (runP [t0, t1, t2] hm ⟨r0, r1, r2, [], [], []⟩ 10).c0 = [z0] ∧ (runP [t0, t1, t2] hm ⟨r0, r1, r2, [], [], []⟩ 10).c1 = [z1] ∧ (runP [t0, t1, t2] hm ⟨r0, r1, r2, [], [], []⟩ 10).c2 = [z2]
/-- what the law asks, with no program in sight -/
structure Answers (r0 r1 r2 r3 r4 r5 : List Int) (z0 z1 z2 y0 y1 y2 : Int) : Prop where
  men : ∀ hm, Courts hm r0 r1 r2 r3 r4 r5 z0 z1 z2
  women : Courts true r3 r4 r5 r0 r1 r2 y0 y1 y2
  pz : Perm3 [z0, z1, z2]
  py : Perm3 [y0, y1, y2]
  some : soundP [r0, r1, r2] [r3, r4, r5] ≠ []
  lz : ∀ d0 d1 d2, leastP [r3, r4, r5] ((soundP [r0, r1, r2] [r3, r4, r5]).map turnedP) 0 d0 → leastP [r3, r4, r5] ((soundP [r0, r1, r2] [r3, r4, r5]).map turnedP) 1 d1 → leastP [r3, r4, r5] ((soundP [r0, r1, r2] [r3, r4, r5]).map turnedP) 2 d2 → [z0, z1, z2] = [d0, d1, d2]
  dz : ∀ d0 d1 d2, dearP [r0, r1, r2] (soundP [r0, r1, r2] [r3, r4, r5]) 0 d0 → dearP [r0, r1, r2] (soundP [r0, r1, r2] [r3, r4, r5]) 1 d1 → dearP [r0, r1, r2] (soundP [r0, r1, r2] [r3, r4, r5]) 2 d2 → turnedP [z0, z1, z2] = [d0, d1, d2]
  ly : ∀ d0 d1 d2, leastP [r0, r1, r2] (soundP [r0, r1, r2] [r3, r4, r5]) 0 d0 → leastP [r0, r1, r2] (soundP [r0, r1, r2] [r3, r4, r5]) 1 d1 → leastP [r0, r1, r2] (soundP [r0, r1, r2] [r3, r4, r5]) 2 d2 → [y0, y1, y2] = [d0, d1, d2]
  dy : ∀ d0 d1 d2, dearP [r3, r4, r5] ((soundP [r0, r1, r2] [r3, r4, r5]).map turnedP) 0 d0 → dearP [r3, r4, r5] ((soundP [r0, r1, r2] [r3, r4, r5]).map turnedP) 1 d1 → dearP [r3, r4, r5] ((soundP [r0, r1, r2] [r3, r4, r5]).map turnedP) 2 d2 → turnedP [y0, y1, y2] = [d0, d1, d2]
  one : ([[z0, 0], [z1, 1], [z2, 2]].all fun P => [[0, y0], [1, y1], [2, y2]].any (· == P)) = ((soundP [r0, r1, r2] [r3, r4, r5]).length == 1)
def PlainLaw : Prop := ∀ r0 r1 r2 r3 r4 r5 : List Int, Perm3 r0 → Perm3 r1 → Perm3 r2 → Perm3 r3 → Perm3 r4 → Perm3 r5 → ∃ z0 z1 z2 y0 y1 y2 : Int, Answers r0 r1 r2 r3 r4 r5 z0 z1 z2 y0 y1 y2
theorem perm_turned {P : List Int} (h : Perm3 P) : Perm3 (turnedP P) := (by unfold Perm3; decide : ∀ P ∈ plans6, Perm3 (turnedP P)) P h

end
section -- P5
def rowsOf (r0 r1 r2 : List Int) (k : Int) : List Int := [r0, r1, r2].getD k.toNat []
theorem rowsOf_rw {r0 r1 r2 : List Int} (h0 : Rw r0) (h1 : Rw r1) (h2 : Rw r2) : ∀ i, B3 i → Rw (rowsOf r0 r1 r2 i) := fun i hi => by
  rcases hi.cases with rfl | rfl | rfl
  · exact h0
  · exact h1
  · exact h2
def start (r0 r1 r2 : List Int) : Co := ⟨r0, r1, r2, [], [], []⟩
theorem start_w {r0 r1 r2 : List Int} {i : Int} (hi : B3 i) : (start r0 r1 r2).w i = rowsOf r0 r1 r2 i := by
  rcases hi.cases with rfl | rfl | rfl <;> rfl
theorem start_c {r0 r1 r2 : List Int} {i : Int} (hi : B3 i) : (start r0 r1 r2).c i = [] := by
  rcases hi.cases with rfl | rfl | rfl <;> rfl
section
variable {r0 r1 r2 t0 t1 t2 : List Int} {hm : Bool}
theorem start_inv (h0 : Rw r0) (h1 : Rw r1) (h2 : Rw r2) : CInv (rowsOf r0 r1 r2) (rowsOf t0 t1 t2) (start r0 r1 r2) := by
  have hA := rowsOf_rw h0 h1 h2
  refine ⟨fun i hi => ⟨[], by rw [start_w hi]; rfl⟩, fun j hj => .inl (start_c hj), fun j k hj hk h => ?_, fun i j hi hj h => ?_, fun P R hP i hi h => ?_⟩
  · rw [start_c hj] at h; cases h
  · rw [start_w hi] at h; exact absurd (((hA i hi).mem j).mpr hj) h
  · rw [start_w hi] at h; exact absurd (((hA i hi).mem _).mpr (hP.p3 i hi)) h
theorem step_inv {S : Co} (hA : ∀ i, B3 i → Rw (rowsOf r0 r1 r2 i)) (hB : ∀ i, B3 i → Rw (rowsOf t0 t1 t2 i)) (I : CInv (rowsOf r0 r1 r2) (rowsOf t0 t1 t2) S) (hf : freeP S ≠ []) :
    CInv (rowsOf r0 r1 r2) (rowsOf t0 t1 t2) (stepP [t0, t1, t2] hm S) ∧ (stepP [t0, t1, t2] hm S).tot + 1 = S.tot := by
  obtain ⟨hw, hn⟩ := mem_free.mp (whoP_mem (hm := hm) hf)
  obtain ⟨x, r, e, hx⟩ := I.more hA hw hn
  unfold stepP
  rw [if_neg hf, e]
  exact ⟨I.ask hA hB hw hx hn e, Co.tot_step hw hx e⟩
theorem run_inv (h0 : Rw r0) (h1 : Rw r1) (h2 : Rw r2) (h3 : Rw t0) (h4 : Rw t1) (h5 : Rw t2) : ∀ n, CInv (rowsOf r0 r1 r2) (rowsOf t0 t1 t2) (runP [t0, t1, t2] hm (start r0 r1 r2) n) ∧
    (freeP (runP [t0, t1, t2] hm (start r0 r1 r2) n) ≠ [] → (runP [t0, t1, t2] hm (start r0 r1 r2) n).tot + n = 9) := by
  have hA := rowsOf_rw h0 h1 h2
  have hB := rowsOf_rw h3 h4 h5
  intro n
  induction n with
  | zero =>
    refine ⟨start_inv h0 h1 h2, fun _ => ?_⟩
    show r0.length + r1.length + r2.length + 0 = 9
    rw [h0.len, h1.len, h2.len]
  | succ n ih =>
    obtain ⟨I, hT⟩ := ih
    show CInv _ _ (stepP [t0, t1, t2] hm (runP [t0, t1, t2] hm (start r0 r1 r2) n)) ∧ (freeP (stepP [t0, t1, t2] hm (runP [t0, t1, t2] hm (start r0 r1 r2) n)) ≠ [] → (stepP [t0, t1, t2] hm (runP [t0, t1, t2] hm (start r0 r1 r2) n)).tot + (n + 1) = 9)
    by_cases hf : freeP (runP [t0, t1, t2] hm (start r0 r1 r2) n) = []
    · have e : stepP [t0, t1, t2] hm (runP [t0, t1, t2] hm (start r0 r1 r2) n) = runP [t0, t1, t2] hm (start r0 r1 r2) n := by
        unfold stepP
        rw [if_pos hf]
      rw [e]
      exact ⟨I, fun h => absurd hf h⟩
    · obtain ⟨I', e⟩ := step_inv (hm := hm) hA hB I hf
      refine ⟨I', fun _ => ?_⟩
      have := hT hf
      omega
theorem CInv.len {a b : Int → List Int} {S : Co} (I : CInv a b S) {j : Int} (hj : B3 j) : (S.c j).length ≤ 1 ∧ ∀ x ∈ S.c j, B3 x := by
  rcases I.i2 j hj with e | ⟨k, hk, e⟩
  · rw [e]; exact ⟨by decide, fun x hx => by cases hx⟩
  · rw [e]; exact ⟨Nat.le_refl _, fun x hx => by cases hx with | head => exact hk | tail _ h => cases h⟩
theorem CInv.wlen {a b : Int → List Int} {S : Co} (hA : ∀ i, B3 i → Rw (a i)) (I : CInv a b S) {i : Int} (hi : B3 i) : (S.w i).length ≤ 3 := by
  obtain ⟨p, e⟩ := I.i1 i hi
  have := congrArg List.length e
  rw [(hA i hi).len, List.length_append] at this
  omega
theorem CInv.goodP {a b : Int → List Int} {S : Co} (hA : ∀ i, B3 i → Rw (a i)) (I : CInv a b S) : GoodP hm S := by
  obtain ⟨l0, m0⟩ := I.len b3_0
  obtain ⟨l1, m1⟩ := I.len b3_1
  obtain ⟨l2, m2⟩ := I.len b3_2
  have w0 := I.wlen hA b3_0
  have w1 := I.wlen hA b3_1
  have w2 := I.wlen hA b3_2
  have l0 : S.c0.length ≤ 1 := l0
  have l1 : S.c1.length ≤ 1 := l1
  have l2 : S.c2.length ≤ 1 := l2
  have w0 : S.w0.length ≤ 3 := w0
  have w1 : S.w1.length ≤ 3 := w1
  have w2 : S.w2.length ≤ 3 := w2
  refine ⟨?_, ⟨by omega, by omega, by omega⟩, fun x hx => ?_, fun hf => ?_⟩
  · rw [List.length_append, List.length_append]; omega
  · rcases List.mem_append.mp hx with h | h
    · exact m0 x h
    rcases List.mem_append.mp h with h | h
    · exact m1 x h
    · exact m2 x h
  · obtain ⟨hw, hn⟩ := mem_free.mp (whoP_mem (hm := hm) hf)
    obtain ⟨x, r, e, hx⟩ := I.more hA hw hn
    exact ⟨x, r, e, hx⟩
/-- the end: all are held -/
theorem CInv.ends {a b : Int → List Int} {S : Co} (I : CInv a b S) (hf : freeP S = []) : ∃ z : Int → Int, ∃ Z : Int → Int, (∀ j, B3 j → B3 (z j) ∧ S.c j = [z j]) ∧ (∀ i, B3 i → B3 (Z i) ∧ z (Z i) = i) ∧ ∀ j, B3 j → Z (z j) = j := by
  have hall : ∀ i, B3 i → ∃ j, B3 j ∧ S.c j = [i] := fun i hi => by
    refine Classical.byContradiction fun hn => ?_
    have : i ∈ freeP S := mem_free.mpr ⟨hi, fun j hj hm => hn (by
      rcases I.i2 j hj with e | ⟨k, hk, e⟩
      · rw [e] at hm; cases hm
      · rw [e] at hm
        cases hm with
        | head => exact ⟨j, hj, e⟩
        | tail _ h => cases h)⟩
    rw [hf] at this
    cases this
  obtain ⟨x, hx, ex⟩ := hall 0 b3_0
  obtain ⟨y, hy, ey⟩ := hall 1 b3_1
  obtain ⟨t, ht, et⟩ := hall 2 b3_2
  have n1 : x ≠ y := fun q => by subst q; rw [ex] at ey; cases ey
  have n2 : x ≠ t := fun q => by subst q; rw [ex] at et; cases et
  have n3 : y ≠ t := fun q => by subst q; rw [ey] at et; cases et
  refine ⟨fun j => if j = x then 0 else if j = y then 1 else 2, fun i => if i = 0 then x else if i = 1 then y else t, fun j hj => ?_, fun i hi => ?_, fun j hj => ?_⟩
  · by_cases q : j = x
    · subst q; simp only [if_pos]; exact ⟨b3_0, ex⟩
    by_cases q' : j = y
    · subst q'; simp only [if_neg q, if_pos]; exact ⟨b3_1, ey⟩
    have q3 : j = t := by
      unfold B3 at hj hx hy ht
      omega
    subst q3
    simp only [if_neg q, if_neg q']; exact ⟨b3_2, et⟩
  · rcases hi.cases with rfl | rfl | rfl
    · exact ⟨hx, if_pos rfl⟩
    · exact ⟨hy, (if_neg (Ne.symm n1)).trans (if_pos rfl)⟩
    · exact ⟨ht, (if_neg (Ne.symm n2)).trans (if_neg (Ne.symm n3))⟩
  · by_cases q : j = x
    · subst q; simp
    by_cases q' : j = y
    · subst q'; simp [q]
    have q3 : j = t := by
      unfold B3 at hj hx hy ht
      omega
    subst q3
    simp [q, q']
theorem CInv.st {a b : Int → List Int} {S : Co} (hA : ∀ i, B3 i → Rw (a i)) (I : CInv a b S) {z Z : Int → Int} (hz : ∀ j, B3 j → B3 (z j) ∧ S.c j = [z j]) (hZ : ∀ i, B3 i → B3 (Z i) ∧ z (Z i) = i) (hzZ : ∀ j, B3 j → Z (z j) = j) :
    St a b Z z ∧ ∀ P R, St a b P R → ∀ i, B3 i → (a i).idxOf (Z i) ≤ (a i).idxOf (P i) := by
  have key : ∀ i j, B3 i → B3 j → (a i).idxOf j < (a i).idxOf (Z i) → j ∉ S.w i := fun i j hi hj h hm => by
    have hc := (hz (Z i) (hZ i hi).1).2
    rw [(hZ i hi).2] at hc
    obtain ⟨p, e⟩ := I.i3 (Z i) i (hZ i hi).1 hi hc
    have := idx_tail e (hA i hi).nd hm
    omega
  refine ⟨⟨fun i hi => (hZ i hi).1, fun j hj => (hz j hj).1, fun i j hi hj => ⟨fun h => by rw [← h]; exact (hZ i hi).2, fun h => by rw [← h]; exact hzZ j hj⟩, fun i j hi hj h h2 => ?_⟩, fun P R hP i hi => ?_⟩
  · obtain ⟨k, ek, le⟩ := I.i4 i j hi hj (key i j hi hj h)
    rw [(hz j hj).2] at ek
    cases ek
    omega
  · refine Nat.le_of_not_lt fun h => ?_
    have h1 := I.i5 P R hP i hi (key i _ hi (hP.p3 i hi) h)
    rw [(hz _ (hP.p3 i hi)).2] at h1
    have h2 : z (P i) = i := (List.cons.inj h1).1
    have h3 := hzZ (P i) (hP.p3 i hi)
    rw [h2] at h3
    rw [h3] at h
    exact Nat.lt_irrefl _ h
/-- the courting, whole -/
theorem courting (h0 : Rw r0) (h1 : Rw r1) (h2 : Rw r2) (h3 : Rw t0) (h4 : Rw t1) (h5 : Rw t2) (hm : Bool) : (∀ i, GoodP hm (runP [t0, t1, t2] hm (start r0 r1 r2) i)) ∧
    ∃ z Z : Int → Int, (∀ j, B3 j → (runP [t0, t1, t2] hm (start r0 r1 r2) 10).c j = [z j]) ∧ St (rowsOf r0 r1 r2) (rowsOf t0 t1 t2) Z z ∧ ∀ P R, St (rowsOf r0 r1 r2) (rowsOf t0 t1 t2) P R → ∀ i, B3 i → (rowsOf r0 r1 r2 i).idxOf (Z i) ≤ (rowsOf r0 r1 r2 i).idxOf (P i) := by
  have hA := rowsOf_rw h0 h1 h2
  have hall := run_inv (hm := hm) h0 h1 h2 h3 h4 h5
  refine ⟨fun i => (hall i).1.goodP hA, ?_⟩
  obtain ⟨I, hT⟩ := hall 10
  have hf : freeP (runP [t0, t1, t2] hm (start r0 r1 r2) 10) = [] := Classical.byContradiction fun h => by
    have := hT h
    omega
  obtain ⟨z, Z, a1, a2, a3⟩ := I.ends hf
  obtain ⟨b1, b2⟩ := I.st hA a1 a2 a3
  exact ⟨z, Z, fun j hj => (a1 j hj).2, b1, b2⟩
end
/-- whoever is best for all askers is the worst for all asked ones -/
theorem St.worst {a b : Int → List Int} (hA : ∀ i, B3 i → Rw (a i)) {Z z P R : Int → Int} (hZ : St a b Z z) (hP : St a b P R) (best : ∀ i, B3 i → (a i).idxOf (Z i) ≤ (a i).idxOf (P i)) : ∀ j, B3 j → (b j).idxOf (R j) ≤ (b j).idxOf (z j) := fun j hj => by
  refine Nat.le_of_not_lt fun h => ?_
  have hi := hZ.r3 j hj
  have e : Z (z j) = j := (hZ.pr _ j hi hj).mpr rfl
  have h1 := best _ hi
  rw [e] at h1
  have hne : P (z j) ≠ j := fun q => by
    rw [(hP.pr _ j hi hj).mp q] at h
    exact Nat.lt_irrefl _ h
  have h2 : (a (z j)).idxOf j ≠ (a (z j)).idxOf (P (z j)) := fun q => hne (idx_inj (((hA _ hi).mem j).mpr hj) q).symm
  exact hP.ok (z j) j hi hj (by omega) h

end
section -- P6
def pf (P : List Int) (k : Int) : Int := P.getD k.toNat 0
def pv (P : List Int) (k : Int) : Int := (P.idxOf k : Nat)
def ten' : List Int := [0, 1, 2]
theorem B3.ten {k : Int} (h : B3 k) : k ∈ ten' := by rcases h.cases with rfl | rfl | rfl <;> decide
theorem B3.of {k : Int} (h : k ∈ ten') : B3 k := by
  simp only [ten', List.mem_cons, List.not_mem_nil, or_false] at h
  unfold B3; omega
theorem Perm3.rw {l : List Int} (h : Perm3 l) : Rw l :=
  ⟨(by decide : ∀ l ∈ plans6, l.Nodup) l h, fun j => ⟨fun hj => B3.of ((by decide : ∀ l ∈ plans6, ∀ j ∈ l, j ∈ ten') l h j hj), fun hj => (by decide : ∀ l ∈ plans6, ∀ j ∈ ten', j ∈ l) l h j hj.ten⟩, (by decide : ∀ l ∈ plans6, l.length = 3) l h⟩
theorem pf_b3 {l : List Int} {k : Int} (h : Perm3 l) (hk : B3 k) : B3 (pf l k) := B3.of ((by decide : ∀ l ∈ plans6, ∀ k ∈ ten', pf l k ∈ ten') l h k hk.ten)
theorem pv_b3 {l : List Int} {k : Int} (h : Perm3 l) (hk : B3 k) : B3 (pv l k) := B3.of ((by decide : ∀ l ∈ plans6, ∀ k ∈ ten', pv l k ∈ ten') l h k hk.ten)
theorem pf_pv {l : List Int} {i j : Int} (h : Perm3 l) (hi : B3 i) (hj : B3 j) : pf l i = j ↔ pv l j = i := (by decide : ∀ l ∈ plans6, ∀ i ∈ ten', ∀ j ∈ ten', (pf l i = j ↔ pv l j = i)) l h i hi.ten j hj.ten
theorem get_idx {l : List Int} {x : Int} (h : Perm3 l) (hx : B3 x) : l.getD (l.idxOf x : Int).toNat 0 = x := (by decide : ∀ l ∈ plans6, ∀ x ∈ ten', l.getD (l.idxOf x : Int).toNat 0 = x) l h x hx.ten
theorem mem_before {l : List Int} {x y : Int} (h : Perm3 l) (hx : B3 x) (hy : B3 y) : y ∈ l.take (l.idxOf x : Int).toNat ↔ l.idxOf y < l.idxOf x := (by decide : ∀ l ∈ plans6, ∀ x ∈ ten', ∀ y ∈ ten', (y ∈ l.take (l.idxOf x : Int).toNat ↔ l.idxOf y < l.idxOf x)) l h x hx.ten y hy.ten
theorem turned3 {l : List Int} (h : Perm3 l) : Perm3 (turnedP l) := (by unfold Perm3; decide : ∀ l ∈ plans6, Perm3 (turnedP l)) l h
theorem pf_turned {l : List Int} {k : Int} (hk : B3 k) : pf (turnedP l) k = pv l k := by
  rcases hk.cases with rfl | rfl | rfl <;> rfl
theorem pv_turned {l : List Int} {k : Int} (h : Perm3 l) (hk : B3 k) : pv (turnedP l) k = pf l k := (by decide : ∀ l ∈ plans6, ∀ k ∈ ten', pv (turnedP l) k = pf l k) l h k hk.ten
theorem ext3 {l l' : List Int} (h : Perm3 l) (h' : Perm3 l') (e : ∀ k, B3 k → pf l k = pf l' k) : l = l' :=
  (by decide : ∀ l ∈ plans6, ∀ l' ∈ plans6, (∀ k ∈ ten', pf l k = pf l' k) → l = l') l h l' h' fun k hk => e k (B3.of hk)
theorem perm_of {x y z : Int} (hx : B3 x) (hy : B3 y) (hz : B3 z) (h1 : x ≠ y) (h2 : x ≠ z) (h3 : y ≠ z) : Perm3 [x, y, z] := by
  unfold Perm3
  rcases hx.cases with rfl | rfl | rfl <;> rcases hy.cases with rfl | rfl | rfl <;> rcases hz.cases with rfl | rfl | rfl <;> first | decide | (exfalso; omega)
theorem St.congr {a b : Int → List Int} {P R P' R' : Int → Int} (h : St a b P R) (e : ∀ i, B3 i → P' i = P i) (f : ∀ j, B3 j → R' j = R j) : St a b P' R' :=
  ⟨fun i hi => by rw [e i hi]; exact h.p3 i hi, fun j hj => by rw [f j hj]; exact h.r3 j hj, fun i j hi hj => by rw [e i hi, f j hj]; exact h.pr i j hi hj, fun i j hi hj => by rw [e i hi, f j hj]; exact h.ok i j hi hj⟩
section
variable {r0 r1 r2 t0 t1 t2 : List Int}
theorem menOk_iff (hA : ∀ i, B3 i → Perm3 (rowsOf r0 r1 r2 i)) {P : List Int} (hP : Perm3 P) {i : Int} (hi : B3 i) : menOk P [r0, r1, r2] [t0, t1, t2] i = true ↔
    ∀ j, B3 j → (rowsOf r0 r1 r2 i).idxOf j < (rowsOf r0 r1 r2 i).idxOf (pf P i) → ¬ (rowsOf t0 t1 t2 j).idxOf i < (rowsOf t0 t1 t2 j).idxOf (pv P j) := by
  have hr := hA i hi
  have hx := pf_b3 hP hi
  show ((rowsOf r0 r1 r2 i).take ((rowsOf r0 r1 r2 i).idxOf (pf P i) : Int).toNat).all (fun j => !decide (((rowsOf t0 t1 t2 j).idxOf i : Int) < ((rowsOf t0 t1 t2 j).idxOf (pv P j) : Int))) = true ↔ _
  rw [List.all_eq_true]
  constructor
  · intro h j hj hlt hbad
    have := h j ((mem_before hr hx hj).mpr hlt)
    rw [decide_eq_true (by omega)] at this
    cases this
  · intro h j hj
    have hj3 : B3 j := (hr.rw.mem j).mp (List.mem_of_mem_take hj)
    have := h j hj3 ((mem_before hr hx hj3).mp hj)
    rw [decide_eq_false (by omega)]
    rfl
theorem holds_iff (hA : ∀ i, B3 i → Perm3 (rowsOf r0 r1 r2 i)) {P : List Int} (hP : Perm3 P) : holdsP P [r0, r1, r2] [t0, t1, t2] = true ↔ St (rowsOf r0 r1 r2) (rowsOf t0 t1 t2) (pf P) (pv P) := by
  unfold holdsP
  rw [Bool.and_eq_true, Bool.and_eq_true]
  constructor
  · rintro ⟨h0, h1, h2⟩
    refine ⟨fun i hi => pf_b3 hP hi, fun j hj => pv_b3 hP hj, fun i j hi hj => pf_pv hP hi hj, fun i j hi hj => ?_⟩
    rcases hi.cases with rfl | rfl | rfl
    · exact (menOk_iff hA hP hi).mp h0 j hj
    · exact (menOk_iff hA hP hi).mp h1 j hj
    · exact (menOk_iff hA hP hi).mp h2 j hj
  · intro h
    exact ⟨(menOk_iff hA hP b3_0).mpr fun j hj => h.ok 0 j b3_0 hj, (menOk_iff hA hP b3_1).mpr fun j hj => h.ok 1 j b3_1 hj, (menOk_iff hA hP b3_2).mpr fun j hj => h.ok 2 j b3_2 hj⟩
theorem mem_sound (hA : ∀ i, B3 i → Perm3 (rowsOf r0 r1 r2 i)) {P : List Int} : P ∈ soundP [r0, r1, r2] [t0, t1, t2] ↔ Perm3 P ∧ St (rowsOf r0 r1 r2) (rowsOf t0 t1 t2) (pf P) (pv P) := by
  unfold soundP
  rw [List.mem_filter]
  exact ⟨fun ⟨h, k⟩ => ⟨h, (holds_iff hA h).mp k⟩, fun ⟨h, k⟩ => ⟨h, (holds_iff hA h).mpr k⟩⟩
theorem ext_least {R S : List (List Int)} {k d x : Int} (hr : Perm3 (R.getD k.toNat [])) (hx : B3 x) (hin : ∃ P ∈ S, pf P k = x) (hle : ∀ P ∈ S, (R.getD k.toNat []).idxOf (pf P k) ≤ (R.getD k.toNat []).idxOf x) (h : leastP R S k d) : d = x := by
  obtain ⟨M, hM, hmax, rfl⟩ := h
  obtain ⟨P, hP, e⟩ := hin
  obtain ⟨P', hP', rfl⟩ := List.mem_map.mp hM
  have h1 := hmax _ (List.mem_map.mpr ⟨P, hP, rfl⟩)
  have e' : P.getD k.toNat 0 = x := e
  rw [e'] at h1
  have h2 := hle P' hP'
  have h3 : ((R.getD k.toNat []).idxOf (P'.getD k.toNat 0) : Int) = ((R.getD k.toNat []).idxOf x : Int) := by
    have h2' : (R.getD k.toNat []).idxOf (P'.getD k.toNat 0) ≤ (R.getD k.toNat []).idxOf x := h2
    omega
  rw [h3]
  exact get_idx hr hx
theorem ext_dear {R S : List (List Int)} {k d x : Int} (hr : Perm3 (R.getD k.toNat [])) (hx : B3 x) (hin : ∃ P ∈ S, pf P k = x) (hle : ∀ P ∈ S, (R.getD k.toNat []).idxOf x ≤ (R.getD k.toNat []).idxOf (pf P k)) (h : dearP R S k d) : d = x := by
  obtain ⟨M, hM, hmin, rfl⟩ := h
  obtain ⟨P, hP, e⟩ := hin
  obtain ⟨P', hP', rfl⟩ := List.mem_map.mp hM
  have h1 := hmin _ (List.mem_map.mpr ⟨P, hP, rfl⟩)
  have e' : P.getD k.toNat 0 = x := e
  rw [e'] at h1
  have h2 := hle P' hP'
  have h3 : ((R.getD k.toNat []).idxOf (P'.getD k.toNat 0) : Int) = ((R.getD k.toNat []).idxOf x : Int) := by
    have h2' : (R.getD k.toNat []).idxOf x ≤ (R.getD k.toNat []).idxOf (P'.getD k.toNat 0) := h2
    omega
  rw [h3]
  exact get_idx hr hx
/-- a sound pairing as lists -/
theorem St.lists {a b : Int → List Int} {Z z : Int → Int} (h : St a b Z z) : Perm3 [z 0, z 1, z 2] ∧ (∀ j, B3 j → pf [z 0, z 1, z 2] j = z j) ∧ (∀ i, B3 i → pv [z 0, z 1, z 2] i = Z i) := by
  have inj : ∀ j j', B3 j → B3 j' → j ≠ j' → z j ≠ z j' := fun j j' hj hj' ne e => ne (by
    have h1 := (h.pr _ j (h.r3 j hj) hj).mpr rfl
    have h2 := (h.pr _ j' (h.r3 j' hj') hj').mpr rfl
    rw [← h1, e, h2])
  have hp : Perm3 [z 0, z 1, z 2] := perm_of (h.r3 0 b3_0) (h.r3 1 b3_1) (h.r3 2 b3_2) (inj 0 1 b3_0 b3_1 (by decide)) (inj 0 2 b3_0 b3_2 (by decide)) (inj 1 2 b3_1 b3_2 (by decide))
  have hf : ∀ j, B3 j → pf [z 0, z 1, z 2] j = z j := fun j hj => by rcases hj.cases with rfl | rfl | rfl <;> rfl
  refine ⟨hp, hf, fun i hi => (pf_pv hp (h.p3 i hi) hi).mp ?_⟩
  rw [hf _ (h.p3 i hi)]
  exact (h.pr i _ hi (h.p3 i hi)).mp rfl
theorem pairs_same {z0 z1 z2 y0 y1 y2 : Int} (hz : Perm3 [z0, z1, z2]) (hy : Perm3 [y0, y1, y2]) : ([[z0, 0], [z1, 1], [z2, 2]].all fun P => [[0, y0], [1, y1], [2, y2]].any (· == P)) = decide (turnedP [z0, z1, z2] = [y0, y1, y2]) :=
  (by decide : ∀ l ∈ plans6, ∀ l' ∈ plans6, ([[pf l 0, 0], [pf l 1, 1], [pf l 2, 2]].all fun P => [[0, pf l' 0], [1, pf l' 1], [2, pf l' 2]].any (· == P)) = decide (turnedP [pf l 0, pf l 1, pf l 2] = [pf l' 0, pf l' 1, pf l' 2])) _ hz _ hy
theorem len_one {S : List (List Int)} {x : List Int} (hx : x ∈ S) (hn : S.Nodup) : S.length = 1 ↔ ∀ P ∈ S, P = x := by
  constructor
  · intro h P hP
    match S, h with
    | [s], _ =>
      rw [List.mem_singleton.mp hP, List.mem_singleton.mp hx]
  · intro h
    match S, hx, hn, h with
    | [s], _, _, _ => rfl
    | s :: u :: S, _, hn, h =>
      exfalso
      have h1 := h s (List.mem_cons_self ..)
      have h2 := h u (List.mem_cons_of_mem _ (List.mem_cons_self ..))
      exact (List.nodup_cons.mp hn).1 (by rw [h1, ← h2]; exact List.mem_cons_self ..)
end
theorem plain_law : PlainLaw := by
  intro r0 r1 r2 r3 r4 r5 p0 p1 p2 p3 p4 p5
  have pA : ∀ i, B3 i → Perm3 (rowsOf r0 r1 r2 i) := fun i hi => by rcases hi.cases with rfl | rfl | rfl <;> assumption
  have pB : ∀ i, B3 i → Perm3 (rowsOf r3 r4 r5 i) := fun i hi => by rcases hi.cases with rfl | rfl | rfl <;> assumption
  have hA : ∀ i, B3 i → Rw (rowsOf r0 r1 r2 i) := fun i hi => (pA i hi).rw
  have hB : ∀ i, B3 i → Rw (rowsOf r3 r4 r5 i) := fun i hi => (pB i hi).rw
  obtain ⟨gt, z, Z, ez, sZ, bZ⟩ := courting p0.rw p1.rw p2.rw p3.rw p4.rw p5.rw true
  obtain ⟨gf, z', Z', ez', sZ', bZ'⟩ := courting p0.rw p1.rw p2.rw p3.rw p4.rw p5.rw false
  obtain ⟨gw, y, Y, ey, sY, bY⟩ := courting p3.rw p4.rw p5.rw p0.rw p1.rw p2.rw true
  have same : ∀ j, B3 j → z' j = z j := fun j hj => by
    have e : ∀ i, B3 i → Z i = Z' i := fun i hi => idx_inj (((hA i hi).mem _).mpr (sZ.p3 i hi)) (Nat.le_antisymm (bZ _ _ sZ' i hi) (bZ' _ _ sZ i hi))
    have h1 := (sZ.pr _ j (sZ.r3 j hj) hj).mpr rfl
    rw [e _ (sZ.r3 j hj)] at h1
    exact (sZ'.pr _ j (sZ.r3 j hj) hj).mp h1
  obtain ⟨pz, fz, vz⟩ := sZ.lists
  obtain ⟨py, fy, vy⟩ := sY.lists
  -- the two pairings among the sound ones
  have inZ : turnedP [z 0, z 1, z 2] ∈ soundP [r0, r1, r2] [r3, r4, r5] := (mem_sound pA).mpr ⟨turned3 pz, sZ.congr (fun i hi => (pf_turned hi).trans (vz i hi)) (fun j hj => (pv_turned pz hj).trans (fz j hj))⟩
  have inY : [y 0, y 1, y 2] ∈ soundP [r0, r1, r2] [r3, r4, r5] := (mem_sound pA).mpr ⟨py, sY.flip.congr fy vy⟩
  have worst : ∀ P ∈ soundP [r0, r1, r2] [r3, r4, r5], ∀ j, B3 j → (rowsOf r3 r4 r5 j).idxOf (pv P j) ≤ (rowsOf r3 r4 r5 j).idxOf (z j) := fun P hP j hj =>
    sZ.worst hA ((mem_sound pA).mp hP).2 (bZ _ _ ((mem_sound pA).mp hP).2) j hj
  have worstY : ∀ P ∈ soundP [r0, r1, r2] [r3, r4, r5], ∀ i, B3 i → (rowsOf r0 r1 r2 i).idxOf (pf P i) ≤ (rowsOf r0 r1 r2 i).idxOf (y i) := fun P hP i hi =>
    sY.worst hB ((mem_sound pA).mp hP).2.flip (bY _ _ ((mem_sound pA).mp hP).2.flip) i hi
  have best : ∀ P ∈ soundP [r0, r1, r2] [r3, r4, r5], ∀ i, B3 i → (rowsOf r0 r1 r2 i).idxOf (Z i) ≤ (rowsOf r0 r1 r2 i).idxOf (pf P i) := fun P hP i hi => bZ _ _ ((mem_sound pA).mp hP).2 i hi
  have bestY : ∀ P ∈ soundP [r0, r1, r2] [r3, r4, r5], ∀ j, B3 j → (rowsOf r3 r4 r5 j).idxOf (Y j) ≤ (rowsOf r3 r4 r5 j).idxOf (pv P j) := fun P hP j hj => bY _ _ ((mem_sound pA).mp hP).2.flip j hj
  have lz : ∀ k d, B3 k → leastP [r3, r4, r5] ((soundP [r0, r1, r2] [r3, r4, r5]).map turnedP) k d → d = z k := fun k d hk h =>
    ext_least (pB k hk) (sZ.r3 k hk) ⟨_, List.mem_map.mpr ⟨_, inZ, rfl⟩, by rw [pf_turned hk, pv_turned pz hk, fz k hk]⟩ (fun P' hP' => by
      obtain ⟨P, hP, rfl⟩ := List.mem_map.mp hP'
      rw [pf_turned hk]
      exact worst P hP k hk) h
  have dz : ∀ k d, B3 k → dearP [r0, r1, r2] (soundP [r0, r1, r2] [r3, r4, r5]) k d → d = Z k := fun k d hk h =>
    ext_dear (pA k hk) (sZ.p3 k hk) ⟨_, inZ, by rw [pf_turned hk, vz k hk]⟩ (fun P hP => best P hP k hk) h
  have ly : ∀ k d, B3 k → leastP [r0, r1, r2] (soundP [r0, r1, r2] [r3, r4, r5]) k d → d = y k := fun k d hk h =>
    ext_least (pA k hk) (sY.r3 k hk) ⟨_, inY, fy k hk⟩ (fun P hP => worstY P hP k hk) h
  have dy : ∀ k d, B3 k → dearP [r3, r4, r5] ((soundP [r0, r1, r2] [r3, r4, r5]).map turnedP) k d → d = Y k := fun k d hk h =>
    ext_dear (pB k hk) (sY.p3 k hk) ⟨_, List.mem_map.mpr ⟨_, inY, rfl⟩, by rw [pf_turned hk, vy k hk]⟩ (fun P' hP' => by
      obtain ⟨P, hP, rfl⟩ := List.mem_map.mp hP'
      rw [pf_turned hk]
      exact bestY P hP k hk) h
  have tz : turnedP [z 0, z 1, z 2] = [Z 0, Z 1, Z 2] := by
    show [pv _ 0, pv _ 1, pv _ 2] = _
    rw [vz 0 b3_0, vz 1 b3_1, vz 2 b3_2]
  have ty : turnedP [y 0, y 1, y 2] = [Y 0, Y 1, Y 2] := by
    show [pv _ 0, pv _ 1, pv _ 2] = _
    rw [vy 0 b3_0, vy 1 b3_1, vy 2 b3_2]
  refine ⟨z 0, z 1, z 2, y 0, y 1, y 2, ⟨fun hm => ?_, ⟨fun i _ => gw i, ey 0 b3_0, ey 1 b3_1, ey 2 b3_2⟩, pz, py, fun e => ?_, fun d0 d1 d2 h0 h1 h2 => ?_, fun d0 d1 d2 h0 h1 h2 => ?_, fun d0 d1 d2 h0 h1 h2 => ?_, fun d0 d1 d2 h0 h1 h2 => ?_, ?_⟩⟩
  · cases hm
    · refine ⟨fun i _ => gf i, ?_⟩
      have e0 := ez' 0 b3_0
      have e1 := ez' 1 b3_1
      have e2 := ez' 2 b3_2
      rw [same 0 b3_0] at e0
      rw [same 1 b3_1] at e1
      rw [same 2 b3_2] at e2
      exact ⟨e0, e1, e2⟩
    · exact ⟨fun i _ => gt i, ez 0 b3_0, ez 1 b3_1, ez 2 b3_2⟩
  · rw [e] at inZ; cases inZ
  · rw [lz 0 d0 b3_0 h0, lz 1 d1 b3_1 h1, lz 2 d2 b3_2 h2]
  · rw [tz, dz 0 d0 b3_0 h0, dz 1 d1 b3_1 h1, dz 2 d2 b3_2 h2]
  · rw [ly 0 d0 b3_0 h0, ly 1 d1 b3_1 h1, ly 2 d2 b3_2 h2]
  · rw [ty, dy 0 d0 b3_0 h0, dy 1 d1 b3_1 h1, dy 2 d2 b3_2 h2]
  · rw [pairs_same pz py]
    have hn : (soundP [r0, r1, r2] [r3, r4, r5]).Nodup := List.Nodup.sublist List.filter_sublist (by decide : plans6.Nodup)
    have h1 : turnedP [z 0, z 1, z 2] = [y 0, y 1, y 2] ↔ (soundP [r0, r1, r2] [r3, r4, r5]).length = 1 := by
      rw [len_one inZ hn]
      constructor
      · intro e P hP
        refine ext3 ((mem_sound pA).mp hP).1 (turned3 pz) fun k hk => ?_
        have h2 := best P hP k hk
        have h3 := worstY P hP k hk
        have h4 : Z k = y k := by
          rw [← vz k hk, ← fy k hk, ← pf_turned hk, e]
        rw [← h4] at h3
        rw [pf_turned hk, vz k hk]
        exact idx_inj (((hA k hk).mem _).mpr (pf_b3 ((mem_sound pA).mp hP).1 hk)) (Nat.le_antisymm h3 h2)
      · intro h
        exact (h _ inY).symm
    rw [Bool.eq_iff_iff, decide_eq_true_iff, beq_iff_eq]
    exact h1

end
section -- L1
theorem abs_post {M : Model} {A : Around} {t : Sem Flow} {Q0 : Flow → Shared → Prop} {E0 : Value → Shared → Prop} {h₁ : Heap} {gs : Array GenState} {dr : Drawn} {tk : Nat} {os : OsState} (h₀ : Heap) (g : ∀ h' tk' L m', Fr h₀ L h' m' → Q0 (.ret (.bool true)) ⟨h', gs, dr, tk', os⟩)
    (h : ∀ Q E, (∀ h' tk' L m', Fr h₀ L h' m' → Q (.ret (.bool true)) ⟨h', gs, dr, tk', os⟩) → wpAny M A t Q E ⟨h₁, gs, dr, tk, os⟩) : wpAny M A t Q0 E0 ⟨h₁, gs, dr, tk, os⟩ := h Q0 E0 g
/-- a stop on the way: what is left to show, and that it suffices -/
noncomputable def c1 : (P : Prop) ×' (P → PySem.Challenge.rw_qh0043_01.Holds) := by
  refine ⟨?P, fun hh => ?_⟩
  rotate_left
  · w_on
    refine hd (by rfl) (by rfl) (by rfl) ?_
    w_strict (k_go0)
    rename_i w s₀ s₁ mg mb G Y fa o pm doc ho hg KX Xm V GL T Bt TE TW w12 w11 M w10 w9 hcd ns hs hlay0 hL1 hr1 hl2 w7 w6 ax vs w3 hL ra w1 r0 hI hr hcond1 hcond2 K0 hD h₁ tk₁ F oc1 oc2 oc3 left1 left2 right1 N0 X0
    have hlen : ns.length ≤ 63 := by omega
    have F1 : Fr s₁.heap s₁.heap.objs.size h₁ (fun y => if y = Str.ofString "script" then some (.ref ax) else none) := F
    have d1 : oc1.data = .cell none := left1
    have d2 : oc2.data = .cell none := left2
    have d3 : oc3.data = .cell none := right1
    refine abs_post s₁.heap (fun h' tk' L' m' FF => ?_) (fun Q E hret => ?_)
    · clear hh F F1 N0 hL
      w_strict (k_steps)
    clear G Y ho Xm V GL Bt TE TW M hcd hs hlay0 hL1 hr1 hl2 ra w1 r0 hr hcond1 hcond2 hD F left1 left2 right1 X0
    clear w12 w11 w9 w7 w6 w3
    have T1 := T
    have KX1 := KX
    have K1 : Below callerA s₁.heap [] s₁.heap := K0
    clear K0 T KX hg o
    generalize hLs : s₁.heap.objs.size = L at *
    clear hLs
    generalize s₁.heap = h₀ at *
    generalize s₁.gens = gs at *
    generalize s₁.drawn = dr at *
    generalize s₁.os = os at *
    clear s₁
    generalize ExcName.means s₀.heap = mean at *
    clear pm doc s₀
    revert w mean mg mb fa w10 ns vs ax h₀ h₁ gs dr os oc1 oc2 oc3 L tk₁ Q E
    exact hh

end
section -- M2
local macro_rules | `(tactic| walk_at "mine upto sub") => `(tactic| repeat' ((fail_if_success (with_reducible show wpAny _ _ (subscriptTail _ _ _ _) _ _ _)); first | (k_unfold; (try dsimp only)) | (walk_at "mine first") | (dsimp only [List.cons_append, List.nil_append, Int.reduceAdd, Int.reduceSub]; walk1) | walk1 | (leave1; walk_say "STEP leave1"; try dsimp only)))
local macro_rules | `(tactic| walk_at "mine upto bin") => `(tactic| repeat' ((fail_if_success (with_reducible show wpAny _ _ (binaryOp _ _ _) _ _ _)); first | (k_unfold; (try dsimp only)) | (walk_at "mine first") | (dsimp only [List.cons_append, List.nil_append, Int.reduceAdd, Int.reduceSub]; walk1) | walk1 | (leave1; walk_say "STEP leave1"; try dsimp only)))
theorem any_tk {α : Type} {M : Model} {A : Around} {t : Sem α} {Q : α → Shared → Prop} {E : Value → Shared → Prop} {h : Heap} {gs : Array GenState} {dr : Drawn} {tk : Nat} {os : OsState} (k : ∀ tk, wpAny M A t Q E ⟨h, gs, dr, tk, os⟩) : wpAny M A t Q E ⟨h, gs, dr, tk, os⟩ := k tk
structure Box (P : Prop) : Prop where
  get : P
noncomputable def c2 : (P : Prop) ×' (Box P → c1.1) := by
  refine ⟨?P, fun hh => ?_⟩
  rotate_left
  w_on
  unfold c1
  show ∀ _, _
  intro w mg mb fa w10 ns ax vs hI h₁ tk₁ oc1 oc2 oc3 hlen q1 q2 q3 Q E L h₀ hL KX K1 N0 F0 gs dr os hret mean T1
  k_fill
  show wpAny (model PySem.Challenge.pw_qh0043_01 w) (ktrTop _ _ _ _ _ _ _ _ _ _) _ Q E _
  w_strict (walk_at "mine upto sub")
  dsimp only
  refine' slice_is (y := 12) (u := _) ?sF ?sN ?sl ?si ?sz ?s0 ?ss ?st ?_
  (case sF => exact F0)
  (case sN => exact N0)
  (case sl => exact hL.imp fun _ q => ⟨F0.keep _ _ q.1, q.2⟩)
  (case si => exact hI)
  (case sz => omega)
  (case s0 => decide)
  (case ss => with_unfolding_all rfl)
  (case st => intro _; with_unfolding_all rfl)
  intro D1 ws1 h2 hI2 F2 N2 lt2
  clear F0 N0 
  w_strict (walk_at "mine upto bin")
  rename_i l3 h3 F3 N3 lt3
  (try clear F2); (try clear N2)
  dsimp only
  refine' add_is (ns := ns.take 12) (ms := [0, 1, 1, 2, 2, 0, 1, 2, 2, 0, 0, 1]) F3 N3 (News.isList N3 (List.Mem.tail _ (List.Mem.head _))) (us := [_, _, _, _, _, _, _, _, _, _, _, _]) (News.isList N3 (List.Mem.head _)) hI2 ?sj ?sz ?sy ?_
  (case sj => exact .cons _ _ (.cons _ _ (.cons _ _ (.cons _ _ (.cons _ _ (.cons _ _ (.cons _ _ (.cons _ _ (.cons _ _ (.cons _ _ (.cons _ _ (.cons _ _ .nil))))))))))))
  (case sz => rw [List.length_take]; omega)
  (case sy => decide)
  intro D4 h4 F4 N4 lt4 hI4
  (try clear F3); (try clear N3)
  dsimp only
  w_strict (walk_at "mine upto sub")
  dsimp only
  refine tail_tmp (n := Str.ofString "x") (pp := ⟨0, 0, 0, 0⟩) ?_
  refine' slice_is (y := 12) (u := _) ?sF ?sN ?sl ?si ?sz ?s0 ?ss ?st ?_
  (case sF => exact F4)
  (case sN => exact N4)
  (case sl => exact News.isList N4 (List.Mem.head _))
  (case si => exact hI4)
  (case sz => rw [List.length_append, List.length_take]; show _ + 12 ≤ _; omega)
  (case s0 => decide)
  (case ss => with_unfolding_all rfl)
  (case st => intro _; rfl)
  intro D5 ws5 h5 hI5 F5 N5 lt5
  (try clear F4); (try clear N4)
  obtain ⟨xs, hxl, hI6⟩ : ∃ xs : List Int, xs.length = 12 ∧ IntsAre ws5 xs := ⟨_, by rw [show Int.toNat 12 = 12 from rfl, List.length_take, List.length_append, List.length_take]; show min 12 (_ + 12) = 12; omega, hI5⟩
  have N5' : News h₀ L h5 [(D5, W.listOf ws5.toArray 0), (L + 1 + 1 + 1, oc1), (L + 1 + 1, oc2), (L + 1, oc3)] := News.sub N5 (fun p hp => by
    rcases List.mem_cons.mp hp with rfl | hp
    · exact List.Mem.head _
    · exact List.Mem.tail _ (List.Mem.tail _ (List.Mem.tail _ (List.Mem.tail _ hp))))
  clear N5 lt5 lt4 lt3 hI5 hI4 hI2
  refine' LCg.CompSrc.ledger rfl F5 N5' (List.Mem.head _) ?sz (fun g => ?_)
  (case sz => rw [List.size_toArray, hI6.length, hxl, sizeLine_eq]; exact Nat.le_of_ble_eq_true rfl)
  have hn : ws5.toArray.size = 12 := by rw [List.size_toArray, hI6.length, hxl]
  rw [hn]
  clear F5 N5' lt2
  dsimp only
  refine comp_inv (fun j zs news => IntsAre zs ((xs.take j).map (fun x => x % 3)) ∧ news = _) ?_ ?_ ⟨.nil, rfl⟩
  · intro j v zs news I2 oI2 C2 oC2 D2 m2 h2 tk2 E2 hj hP hR1 hC2 hx2 F6 N6 off2 ne2 Z2 hZ2
    refine hideG ?_
    intro gk
    obtain ⟨hzs, hE2⟩ := hR1
    k_unfold
    clear gk
    subst hE2
    rw [List.getElem?_toArray] at hP
    refine hideG ?_
    intro gk
    obtain ⟨x, t, hE4, hxj⟩ := IntsAre.at hI6 j v hP
    k_unfold
    clear gk
    subst hE4
    w_strict (walk_at "mine steps")
    refine hZ2 _ _ _ _ _ (by assumption) (by assumption) (fun _ hp => hp) off2 (Or.inr ⟨_, List.Mem.head _, rfl, _, rfl⟩) ⟨?_, rfl⟩
    rw [List.take_add_one, hxj, List.map_append]
    refine hzs.append ?_
    rw [Int.fmod_eq_emod_of_nonneg x (by decide)]
    exact .cons _ _ .nil
  · intro zs news hR5
    refine hideG ?_
    intro gk
    obtain ⟨hzs, hE6⟩ := hR5
    k_unfold
    clear gk
    subst hE6
    intro D3 h3 tk3 F3 N3 off3
    obtain ⟨ds, hdl, hzd, hbd⟩ : ∃ ds : List Int, ds.length = 12 ∧ IntsAre zs ds ∧ ∀ d ∈ ds, 0 ≤ d ∧ d ≤ 2 := ⟨xs.map fun x => x % 3, by rw [List.length_map, hxl], by rw [List.take_of_length_le (Nat.le_of_eq hxl)] at hzs; exact hzs, fun d hd => by
      refine hideG ?_
      intro gk
      obtain ⟨x, _, hE8⟩ := List.mem_map.mp hd
      k_unfold
      clear gk
      subst hE8
      omega⟩
    clear hzs hn hI6 hxl hI hlen
    w_strict (walk_at "mine upto comp")
    obtain ⟨o1, o2, o3, o4, -⟩ := off3
    have N3' : News h₀ L h3 [(D3, LCg.lst zs), (L + 1 + 1 + 1, oc1), (L + 1 + 1, oc2), (L + 1, oc3)] := News.sub N3 (fun p hp => by
      rcases List.mem_cons.mp hp with rfl | hp
      · exact List.Mem.head _
      · exact List.Mem.tail _ (List.Mem.tail _ hp))
    refine stCN (own := [_, _, _]) (rest := []) F3 N3' rfl q3 ?_ (fun p hp => nomatch hp) (fun h4 oc4 F4 N4 q4 => ?_)
    · exact List.forall_mem_cons.mpr ⟨Ne.symm o4, List.forall_mem_cons.mpr ⟨Nat.ne_of_gt (Nat.lt_succ_of_lt (Nat.lt_succ_self _)), List.forall_mem_cons.mpr ⟨Nat.ne_of_gt (Nat.lt_succ_self _), fun _ h => nomatch h⟩⟩⟩
    clear q3 N3 N3' F3 o1 o2 o3 o4
    dsimp only
    refine any_tk (fun tk => ?_)
    clear tk3 g h3 ws5 D5 D4 l3 D1 ws1 h₁ tk₁ oc3 vs ns hL xs
    revert w mean mg mb fa w10 ax ds zs D3 L h₀ gs dr os oc1 oc2 oc4 h4 tk Q E
    exact hh.get

end
section -- M3
theorem perm_row {a b : Int} (ha : 0 ≤ a ∧ a ≤ 2) (hb : 0 ≤ b ∧ b ≤ 2) : Perm3 (rowOf a b) := by
  rcases three ha with rfl | rfl | rfl <;> rcases three hb with rfl | rfl | rfl <;> (unfold Perm3; decide)
theorem getD_bnd {ds : List Int} (h : ∀ d ∈ ds, 0 ≤ d ∧ d ≤ 2) {n : Nat} (hn : n < ds.length) : 0 ≤ ds.getD n 0 ∧ ds.getD n 0 ≤ 2 := by
  rw [List.getD_eq_getElem?_getD, List.getElem?_eq_getElem hn]
  exact h _ (List.getElem_mem hn)
/-- the row that is drawn at k -/
def rowD (ds : List Int) (k : Int) : List Int := rowOf (ds.getD k.toNat 0) (ds.getD (k + 1).toNat 0)
theorem rowD_perm {ds : List Int} (h : ∀ d ∈ ds, 0 ≤ d ∧ d ≤ 2) {k : Int} (h0 : 0 ≤ k) (hk : k + 1 < ds.length) : Perm3 (rowD ds k) := perm_row (getD_bnd h (by omega)) (getD_bnd h (by omega))
theorem RowIn.more {ls all : List (Addr × Obj)} (hs : ∀ p ∈ ls, p ∈ all) {ys : List Value} {Ps : List (List Int)} (h : All2 (RowIn ls) ys Ps) : All2 (RowIn all) ys Ps := h.mono fun _ _ x => let ⟨a, va, n, e, hm, hi⟩ := x; ⟨a, va, n, e, hs _ hm, hi⟩
theorem mem_mid {α : Type} {d x a b c e : α} {T NN : List α} : ∀ p ∈ a :: b :: c :: e :: d :: (T ++ NN), p ∈ d :: (T ++ (x :: a :: b :: c :: e :: NN)) := fun p hp => by
  rcases List.mem_cons.mp hp with rfl | hp
  · exact .tail _ (List.mem_append_right _ (.tail _ (.head _)))
  rcases List.mem_cons.mp hp with rfl | hp
  · exact .tail _ (List.mem_append_right _ (.tail _ (.tail _ (.head _))))
  rcases List.mem_cons.mp hp with rfl | hp
  · exact .tail _ (List.mem_append_right _ (.tail _ (.tail _ (.tail _ (.head _)))))
  rcases List.mem_cons.mp hp with rfl | hp
  · exact .tail _ (List.mem_append_right _ (.tail _ (.tail _ (.tail _ (.tail _ (.head _))))))
  rcases List.mem_cons.mp hp with rfl | hp
  · exact .head _
  rcases List.mem_append.mp hp with hp | hp
  · exact .tail _ (List.mem_append_left _ hp)
  · exact .tail _ (List.mem_append_right _ (.tail _ (.tail _ (.tail _ (.tail _ (.tail _ hp))))))
theorem mem_skip {α : Type} {a b c d : α} {l : List α} : ∀ p ∈ b :: c :: d :: a :: l, p ∈ a :: b :: c :: d :: l := fun p hp => by
  rcases List.mem_cons.mp hp with rfl | hp
  · exact .tail _ (.head _)
  rcases List.mem_cons.mp hp with rfl | hp
  · exact .tail _ (.tail _ (.head _))
  rcases List.mem_cons.mp hp with rfl | hp
  · exact .tail _ (.tail _ (.tail _ (.head _)))
  rcases List.mem_cons.mp hp with rfl | hp
  · exact .head _
  · exact .tail _ (.tail _ (.tail _ (.tail _ hp)))
/-- what is a list stands elsewhere than a cell -/
theorem cell_off {h₀ h : Heap} {L c : Addr} {oc : Obj} {v : Option Value} {NN : List (Addr × Obj)} (N : News h₀ L h NN) (hm : (c, oc) ∈ NN) (hd : oc.data = .cell v) : ∀ p ∈ NN, (∃ its n, p.2 = W.listOf its n) → @Ne Nat p.1 c := fun p hp ⟨its, n, e⟩ q => by
  have h1 := (N p hp).1
  have h2 := (N _ hm).1
  rw [q] at h1
  have h3 : some p.2 = some oc := h1.symm.trans h2
  have h4 : p.2 = oc := Option.some.inj h3
  rw [← h4, e] at hd
  cases hd
theorem three_get {a : Int} {j : Nat} (hj : j < 3) : [a, a + 2, a + 4][j]? = some (a + 2 * (j : Int)) := by
  match j, hj with
  | 0, _ => simp
  | 1, _ => rfl
  | 2, _ => rfl
theorem three_at {t0 t1 t2 : Tok} {v : Value} {a : Int} {j : Nat} (hj : j < 3) (hP : (#[Value.int a t0, Value.int (a + 2) t1, Value.int (a + 4) t2] : Array Value)[j]? = some v) : ∃ t, v = .int (a + 2 * (j : Int)) t := by
  match j, hj with
  | 0, _ => exact ⟨t0, by rw [← Option.some.inj hP]; simp⟩
  | 1, _ => exact ⟨t1, (Option.some.inj hP).symm⟩
  | 2, _ => exact ⟨t2, (Option.some.inj hP).symm⟩
theorem fill50 : PySem.Challenge.rw_qh0043_01 = PySem.Challenge.rw_qh0043_01 ∧ hd.heap_39 = hd.heap_39 := by k_fill; exact ⟨rfl, rfl⟩
local macro_rules | `(tactic| walk_at "mine upto sub") => `(tactic| repeat' ((fail_if_success (with_reducible show wpAny _ _ (subscriptTail _ _ _ _) _ _ _)); first | (k_unfold; (try dsimp only)) | (walk_at "mine first") | (dsimp only [List.cons_append, List.nil_append, Int.reduceAdd, Int.reduceSub]; walk1) | walk1 | (leave1; walk_say "STEP leave1"; try dsimp only)))
local macro_rules | `(tactic| walk_at "mine first") => `(tactic| ((with_reducible show wpAny _ _ (eval (Expr.Name _ _) (compEnvC _ _ _ _)) _ _ _); k_dflt (first
  | (refine' LCgL.ld_own ?N ?m ?c ?x ?_ ?a ?b; (case a => rfl); (case b => rfl); (case N => k_asm); (case m => exact List.Mem.tail _ (List.Mem.head _)); (case c => assumption); (case x => assumption))
  | (refine' lcf_cell ?N ?c ?m ?d ?_ ?a ?b; (case a => rfl); (case b => rfl); (case N => k_asm); (case c => rfl); (case m => assumption); (case d => k_asm); k_whole))))
noncomputable def c3 : (P : Prop) ×' (Box P → c2.1) := by
  refine ⟨?P, fun hh => ?_⟩
  rotate_left
  w_on
  unfold c2
  show ∀ _, _
  intro w mg mb fa w10 ax oc1 oc2 q1 q2 Q E L h₀ KX K1 gs dr os hret mean T1 zs D3 ds hdl hzd hbd h4 oc4 F4 N4 q4 tk
  have T2 : Top hd.view_39 looseL mean mg mb h₀ := T1
  clear T1
  have N6 : News h₀ L h4 ((D3, LCg.lst zs) :: (L + 1 + 1 + 1, oc1) :: (L + 1 + 1, oc2) :: (L + 1, oc4) :: []) := N4
  obtain ⟨m, F6⟩ : ∃ m, Fr h₀ L h4 m := ⟨_, F4⟩
  clear F4 N4
  w_strict (walk_at "mine upto comp")
  rename_i lx h5 F5 N5 lt5
  obtain ⟨t0, t1, t2, N55⟩ : ∃ t0 t1 t2 : Tok, News h₀ L h5 ((lx, W.listOf #[.int 0 t0, .int 2 t1, .int 4 t2] 0) :: (D3, LCg.lst zs) :: (L + 1 + 1 + 1, oc1) :: (L + 1 + 1, oc2) :: (L + 1, oc4) :: []) := ⟨_, _, _, N5⟩
  refine' LCg.CompSrc.ledger rfl F5 N55 (List.Mem.head _) ?sz (fun g => ?_)
  (case sz => exact Nat.le_of_ble_eq_true rfl)
  clear F5 N5 N55 lt5
  refine comp_inv (fun j ys news => ∃ T, news = T ++ ((lx, W.listOf #[.int 0 t0, .int 2 t1, .int 4 t2] 0) :: (D3, LCg.lst zs) :: (L + 1 + 1 + 1, oc1) :: (L + 1 + 1, oc2) :: (L + 1, oc4) :: []) ∧ (∀ p ∈ T, @Ne Nat p.1 (L + 1 + 1 + 1) ∧ @Ne Nat p.1 (L + 1 + 1)) ∧ All2 (RowIn T) ys (([0, 2, 4].take j).map (rowD ds))) ?_ ?_ ⟨[], rfl, (fun _ h => nomatch h), .nil⟩
  · intro j v ys news I oI C oC D m₂ h tk E' hj hP hR1 hC hx F1 N1 off ne Z hZ
    refine hideG ?_
    intro gk
    obtain ⟨T, hE2, hT, hys⟩ := hR1
    k_unfold
    clear gk
    subst hE2
    have hj3 : j < 3 := hj
    refine hideG ?_
    intro gk
    obtain ⟨t, hE4⟩ := three_at hj3 hP
    k_unfold
    clear gk
    subst hE4
    have mc : (L + 1, oc4) ∈ (I, oI) :: (C, oC) :: (D, LCg.lst ys) :: (T ++ ((lx, W.listOf #[.int 0 t0, .int 2 t1, .int 4 t2] 0) :: (D3, LCg.lst zs) :: (L + 1 + 1 + 1, oc1) :: (L + 1 + 1, oc2) :: (L + 1, oc4) :: [])) := .tail _ (.tail _ (.tail _ (List.mem_append_right _ (.tail _ (.tail _ (.tail _ (.tail _ (.head _))))))))
    have hD := LO.lst N1 (.tail _ (.tail _ (.tail _ (List.mem_append_right _ (.tail _ (.head _))))))
    w_strict (walk_at "mine upto sub")
    refine' item_small hD hzd ?sz ?h0 ?h1 ?sa ?sb ?_
    (case sz => omega)
    (case h0 => omega)
    (case h1 => omega)
    (case sa => with_unfolding_all rfl)
    (case sb => intro _; with_unfolding_all rfl)
    intro t9
    w_strict (walk_at "mine upto sub")
    refine' item_small hD hzd ?sz ?h0 ?h1 ?sa ?sb ?_
    (case sz => omega)
    (case h0 => omega)
    (case h1 => omega)
    (case sa => with_unfolding_all rfl)
    (case sb => intro _; with_unfolding_all rfl)
    intro t8
    w_strict (walk_at "mine upto call")
    refine' Does.useInts (row2_does _ _ (getD_bnd hbd (by omega)) (getD_bnd hbd (by omega))) ?k1 ?k2 ?k3 ?k4 ?k5 ?k6 ?k7 ?k8 ?k9 ?_
    walk_at "mine use8"
    (case k9 => trivial)
    intro l9 its9 n9 h9 tk9 hi9 F9 N9 off9
    w_strict (walk_at "mine steps")
    refine hZ _ _ _ _ ((l9, W.listOf its9 n9) :: T ++ ((lx, W.listOf #[.int 0 t0, .int 2 t1, .int 4 t2] 0) :: (D3, LCg.lst zs) :: (L + 1 + 1 + 1, oc1) :: (L + 1 + 1, oc2) :: (L + 1, oc4) :: [])) F9 N9 mem_skip ⟨⟨Ne.symm off9.1, Ne.symm off9.2.1, Ne.symm off9.2.2.1⟩, off⟩ (Or.inr ⟨_, List.mem_append_right _ (.head _), rfl, _, rfl⟩) ⟨(l9, W.listOf its9 n9) :: T, rfl, List.forall_mem_cons.mpr ⟨⟨cell_off N9 (.tail _ (.tail _ (.tail _ (.tail _ (List.mem_append_right _ (.tail _ (.tail _ (.head _)))))))) q1 _ (.head _) ⟨_, _, rfl⟩, cell_off N9 (.tail _ (.tail _ (.tail _ (.tail _ (List.mem_append_right _ (.tail _ (.tail _ (.tail _ (.head _))))))))) q2 _ (.head _) ⟨_, _, rfl⟩⟩, hT⟩, ?_⟩
    rw [List.take_add_one, (show [0, 2, 4][j]? = some (0 + 2 * (j : Int)) from three_get hj3), List.map_append]
    exact All2.snoc (RowIn.more (fun _ hp => .tail _ hp) hys) ⟨l9, its9.toList, n9, rfl, .head _, hi9⟩
  · intro ys news hR5
    refine hideG ?_
    intro gk
    obtain ⟨T, hE6, hT, hys⟩ := hR5
    k_unfold
    clear gk
    subst hE6
    intro Dm h6 tk6 F7 N7 off
    dsimp only
    have hys' : All2 (RowIn T) ys [rowD ds 0, rowD ds 2, rowD ds 4] := hys
    obtain ⟨NN', hPmen, hne', N9⟩ : ∃ NN', PlansIn NN' Dm [rowD ds 0, rowD ds 2, rowD ds 4] ∧ (∀ p ∈ NN', @Ne Nat p.1 (L + 1 + 1 + 1) ∧ @Ne Nat p.1 (L + 1 + 1)) ∧ News h₀ L h6 ((D3, LCg.lst zs) :: (L + 1 + 1 + 1, oc1) :: (L + 1 + 1, oc2) :: (L + 1, oc4) :: NN') := by
      have m1 : ∀ q ∈ [], q ∈ (Dm, LCg.lst ys) :: (T ++ []) := fun q hq => .tail _ (List.mem_append_right _ hq)
      have off1 : ∀ p ∈ T, p ∈ (Dm, LCg.lst ys) :: (T ++ ((lx, W.listOf #[.int 0 t0, .int 2 t1, .int 4 t2] 0) :: (D3, LCg.lst zs) :: (L + 1 + 1 + 1, oc1) :: (L + 1 + 1, oc2) :: (L + 1, oc4) :: [])) := fun p hp => .tail _ (List.mem_append_left _ hp)
      refine ⟨(Dm, LCg.lst ys) :: (T ++ []), ⟨ys, ys.length, .head _, RowIn.more (fun _ hp => .tail _ (List.mem_append_left _ hp)) hys'⟩, ?_, News.sub N7 (mem_mid)⟩
      refine List.forall_mem_cons.mpr ⟨⟨cell_off N7 (.tail _ (List.mem_append_right _ (.tail _ (.tail _ (.head _))))) q1 _ (.head _) ⟨_, _, rfl⟩, cell_off N7 (.tail _ (List.mem_append_right _ (.tail _ (.tail _ (.tail _ (.head _)))))) q2 _ (.head _) ⟨_, _, rfl⟩⟩, fun p hp => ?_⟩
      rcases List.mem_append.mp hp with hp | hp
      · exact hT p hp
      · exact (fun _ h => nomatch h) p hp
    obtain ⟨m', F8, hmmen⟩ : ∃ m', Fr h₀ L h6 m' ∧ m' (Str.ofString "men") = some (.ref Dm) := ⟨_, F7, if_pos rfl⟩
    refine any_tk (fun tk7 => ?_)
    clear F7 N7 off hys hys' hT T ys m lx t0 t1 t2 h5 h4 tk tk6 g ax
    revert w mean mg mb fa w10 oc1 oc2 oc4 Q E L h₀ gs dr os D3 ds zs Dm NN' m' h6 tk7
    exact hh.get

end
section -- M4
theorem fill51 : PySem.Challenge.rw_qh0043_01 = PySem.Challenge.rw_qh0043_01 ∧ hd.heap_39 = hd.heap_39 := by k_fill; exact ⟨rfl, rfl⟩
local macro_rules | `(tactic| walk_at "mine upto sub") => `(tactic| repeat' ((fail_if_success (with_reducible show wpAny _ _ (subscriptTail _ _ _ _) _ _ _)); first | (k_unfold; (try dsimp only)) | (walk_at "mine first") | (dsimp only [List.cons_append, List.nil_append, Int.reduceAdd, Int.reduceSub]; walk1) | walk1 | (leave1; walk_say "STEP leave1"; try dsimp only)))
local macro_rules | `(tactic| walk_at "mine first") => `(tactic| ((with_reducible show wpAny _ _ (eval (Expr.Name _ _) (compEnvC _ _ _ _)) _ _ _); k_dflt (first
  | (refine' LCgL.ld_own ?N ?m ?c ?x ?_ ?a ?b; (case a => rfl); (case b => rfl); (case N => k_asm); (case m => exact List.Mem.tail _ (List.Mem.head _)); (case c => assumption); (case x => assumption))
  | (refine' lcf_cell ?N ?c ?m ?d ?_ ?a ?b; (case a => rfl); (case b => rfl); (case N => k_asm); (case c => rfl); (case m => assumption); (case d => k_asm); k_whole))))
noncomputable def c4 : (P : Prop) ×' (Box P → c3.1) := by
  refine ⟨?P, fun hh => ?_⟩
  rotate_left
  w_on
  unfold c3
  show ∀ _, _
  intro w mg mb fa w10 oc1 oc2 q1 q2 Q E L h₀ KX K1 gs dr os hret mean zs D3 ds hdl hzd hbd oc4 q4 T2 Dm h4 NN hPm hne N6 m F6 hm tk
  w_strict (walk_at "mine upto comp")
  rename_i lx h5 F5 N5 lt5
  obtain ⟨t0, t1, t2, N55⟩ : ∃ t0 t1 t2 : Tok, News h₀ L h5 ((lx, W.listOf #[.int 6 t0, .int 8 t1, .int 10 t2] 0) :: (D3, LCg.lst zs) :: (L + 1 + 1 + 1, oc1) :: (L + 1 + 1, oc2) :: (L + 1, oc4) :: NN) := ⟨_, _, _, N5⟩
  refine' LCg.CompSrc.ledger rfl F5 N55 (List.Mem.head _) ?sz (fun g => ?_)
  (case sz => exact Nat.le_of_ble_eq_true rfl)
  clear F5 N5 N55 lt5
  refine comp_inv (fun j ys news => ∃ T, news = T ++ ((lx, W.listOf #[.int 6 t0, .int 8 t1, .int 10 t2] 0) :: (D3, LCg.lst zs) :: (L + 1 + 1 + 1, oc1) :: (L + 1 + 1, oc2) :: (L + 1, oc4) :: NN) ∧ (∀ p ∈ T, @Ne Nat p.1 (L + 1 + 1 + 1) ∧ @Ne Nat p.1 (L + 1 + 1)) ∧ All2 (RowIn T) ys (([6, 8, 10].take j).map (rowD ds))) ?_ ?_ ⟨[], rfl, (fun _ h => nomatch h), .nil⟩
  · intro j v ys news I oI C oC D m₂ h tk E' hj hP hR1 hC hx F1 N1 off ne Z hZ
    refine hideG ?_
    intro gk
    obtain ⟨T, hE2, hT, hys⟩ := hR1
    k_unfold
    clear gk
    subst hE2
    have hj3 : j < 3 := hj
    refine hideG ?_
    intro gk
    obtain ⟨t, hE4⟩ := three_at hj3 hP
    k_unfold
    clear gk
    subst hE4
    have mc : (L + 1, oc4) ∈ (I, oI) :: (C, oC) :: (D, LCg.lst ys) :: (T ++ ((lx, W.listOf #[.int 6 t0, .int 8 t1, .int 10 t2] 0) :: (D3, LCg.lst zs) :: (L + 1 + 1 + 1, oc1) :: (L + 1 + 1, oc2) :: (L + 1, oc4) :: NN)) := .tail _ (.tail _ (.tail _ (List.mem_append_right _ (.tail _ (.tail _ (.tail _ (.tail _ (.head _))))))))
    have hD := LO.lst N1 (.tail _ (.tail _ (.tail _ (List.mem_append_right _ (.tail _ (.head _))))))
    w_strict (walk_at "mine upto sub")
    refine' item_small hD hzd ?sz ?h0 ?h1 ?sa ?sb ?_
    (case sz => omega)
    (case h0 => omega)
    (case h1 => omega)
    (case sa => with_unfolding_all rfl)
    (case sb => intro _; with_unfolding_all rfl)
    intro t9
    w_strict (walk_at "mine upto sub")
    refine' item_small hD hzd ?sz ?h0 ?h1 ?sa ?sb ?_
    (case sz => omega)
    (case h0 => omega)
    (case h1 => omega)
    (case sa => with_unfolding_all rfl)
    (case sb => intro _; with_unfolding_all rfl)
    intro t8
    w_strict (walk_at "mine upto call")
    refine' Does.useInts (row2_does _ _ (getD_bnd hbd (by omega)) (getD_bnd hbd (by omega))) ?k1 ?k2 ?k3 ?k4 ?k5 ?k6 ?k7 ?k8 ?k9 ?_
    walk_at "mine use8"
    (case k9 => trivial)
    intro l9 its9 n9 h9 tk9 hi9 F9 N9 off9
    w_strict (walk_at "mine steps")
    refine hZ _ _ _ _ ((l9, W.listOf its9 n9) :: T ++ ((lx, W.listOf #[.int 6 t0, .int 8 t1, .int 10 t2] 0) :: (D3, LCg.lst zs) :: (L + 1 + 1 + 1, oc1) :: (L + 1 + 1, oc2) :: (L + 1, oc4) :: NN)) F9 N9 mem_skip ⟨⟨Ne.symm off9.1, Ne.symm off9.2.1, Ne.symm off9.2.2.1⟩, off⟩ (Or.inr ⟨_, List.mem_append_right _ (.head _), rfl, _, rfl⟩) ⟨(l9, W.listOf its9 n9) :: T, rfl, List.forall_mem_cons.mpr ⟨⟨cell_off N9 (.tail _ (.tail _ (.tail _ (.tail _ (List.mem_append_right _ (.tail _ (.tail _ (.head _)))))))) q1 _ (.head _) ⟨_, _, rfl⟩, cell_off N9 (.tail _ (.tail _ (.tail _ (.tail _ (List.mem_append_right _ (.tail _ (.tail _ (.tail _ (.head _))))))))) q2 _ (.head _) ⟨_, _, rfl⟩⟩, hT⟩, ?_⟩
    rw [List.take_add_one, (show [6, 8, 10][j]? = some (6 + 2 * (j : Int)) from three_get hj3), List.map_append]
    exact All2.snoc (RowIn.more (fun _ hp => .tail _ hp) hys) ⟨l9, its9.toList, n9, rfl, .head _, hi9⟩
  · intro ys news hR5
    refine hideG ?_
    intro gk
    obtain ⟨T, hE6, hT, hys⟩ := hR5
    k_unfold
    clear gk
    subst hE6
    intro Dw h6 tk6 F7 N7 off
    dsimp only
    have hys' : All2 (RowIn T) ys [rowD ds 6, rowD ds 8, rowD ds 10] := hys
    obtain ⟨NN', hPwomen, hPm', hne', N9⟩ : ∃ NN', PlansIn NN' Dw [rowD ds 6, rowD ds 8, rowD ds 10] ∧ PlansIn NN' Dm [rowD ds 0, rowD ds 2, rowD ds 4] ∧ (∀ p ∈ NN', @Ne Nat p.1 (L + 1 + 1 + 1) ∧ @Ne Nat p.1 (L + 1 + 1)) ∧ News h₀ L h6 ((D3, LCg.lst zs) :: (L + 1 + 1 + 1, oc1) :: (L + 1 + 1, oc2) :: (L + 1, oc4) :: NN') := by
      have m1 : ∀ q ∈ NN, q ∈ (Dw, LCg.lst ys) :: (T ++ NN) := fun q hq => .tail _ (List.mem_append_right _ hq)
      have off1 : ∀ p ∈ T, p ∈ (Dw, LCg.lst ys) :: (T ++ ((lx, W.listOf #[.int 6 t0, .int 8 t1, .int 10 t2] 0) :: (D3, LCg.lst zs) :: (L + 1 + 1 + 1, oc1) :: (L + 1 + 1, oc2) :: (L + 1, oc4) :: NN)) := fun p hp => .tail _ (List.mem_append_left _ hp)
      refine ⟨(Dw, LCg.lst ys) :: (T ++ NN), ⟨ys, ys.length, .head _, RowIn.more (fun _ hp => .tail _ (List.mem_append_left _ hp)) hys'⟩, hPm.sub m1, ?_, News.sub N7 (mem_mid)⟩
      refine List.forall_mem_cons.mpr ⟨⟨cell_off N7 (.tail _ (List.mem_append_right _ (.tail _ (.tail _ (.head _))))) q1 _ (.head _) ⟨_, _, rfl⟩, cell_off N7 (.tail _ (List.mem_append_right _ (.tail _ (.tail _ (.tail _ (.head _)))))) q2 _ (.head _) ⟨_, _, rfl⟩⟩, fun p hp => ?_⟩
      rcases List.mem_append.mp hp with hp | hp
      · exact hT p hp
      · exact hne p hp
    obtain ⟨m', F8, hm', hmwomen⟩ : ∃ m', Fr h₀ L h6 m' ∧ m' (Str.ofString "men") = some (.ref Dm) ∧ m' (Str.ofString "women") = some (.ref Dw) := ⟨_, F7, (if_neg (by decide)).trans hm, if_pos rfl⟩
    refine any_tk (fun tk7 => ?_)
    clear F7 N7 off hys hys' hT T ys hm m hPm hne NN lx t0 t1 t2 h5 h4 tk tk6 g
    revert w mean mg mb fa w10 oc1 oc2 oc4 Q E L h₀ gs dr os D3 ds zs Dm Dw NN' m' h6 tk7
    exact hh.get

end
section -- M5
theorem fill52 : PySem.Challenge.rw_qh0043_01 = PySem.Challenge.rw_qh0043_01 ∧ hd.heap_39 = hd.heap_39 := by k_fill; exact ⟨rfl, rfl⟩
theorem letter2_does {w : World} {mean : ExcName → Option Value} {mg mb : Str → Option Value} {a b : Int} (ta tb : Tok) (ha : 0 ≤ a ∧ a ≤ 2) (hb : 0 ≤ b ∧ b ≤ 2) : Does 4 w mean mg mb 140 [.int a ta, .int b tb] [] (fun _ => True) (fun _ r _ => LetterOf r (rowOf a b)) := by
  obtain ⟨x, y, z, e, hx, hy, hz⟩ := row_three ha hb
  intro dp un gd cn cs a' ccd cl outer A₀ base h₀ L m s Q E B F X T hk h1 h2 hp hret
  exact letter_does ta tb ha hb e hx hy hz dp un gd cn cs a' ccd cl outer A₀ base h₀ L m s Q E B F X T hk h1 h2 hp fun r h' tk' G P => hret r h' tk' G (let ⟨b, t, er, hb⟩ := P; ⟨b, t, x, y, z, er, e, hb, hx, hy, hz⟩)
theorem All2.uncons {α β : Type} {R : α → β → Prop} {ys : List α} {b : β} {bs : List β} (h : All2 R ys (b :: bs)) : ∃ y, R y b ∧ ∃ zs, All2 R zs bs ∧ ys = y :: zs := by
  cases h with | cons h0 h => exact ⟨_, h0, _, h, rfl⟩
inductive Six (R : Value → List Int → Prop) (a b c d e f : List Int) : List Value → Prop
  | mk (v0 v1 v2 v3 v4 v5 : Value) (h0 : R v0 a) (h1 : R v1 b) (h2 : R v2 c) (h3 : R v3 d) (h4 : R v4 e) (h5 : R v5 f) : Six R a b c d e f [v0, v1, v2, v3, v4, v5]
theorem all2_six {R : Value → List Int → Prop} {ys : List Value} {a b c d e f : List Int} (h : All2 R ys [a, b, c, d, e, f]) : Six R a b c d e f ys := by
  obtain ⟨v0, h0, z0, g0, rfl⟩ := h.uncons
  obtain ⟨v1, h1, z1, g1, rfl⟩ := g0.uncons
  obtain ⟨v2, h2, z2, g2, rfl⟩ := g1.uncons
  obtain ⟨v3, h3, z3, g3, rfl⟩ := g2.uncons
  obtain ⟨v4, h4, z4, g4, rfl⟩ := g3.uncons
  obtain ⟨v5, h5, z5, g5, rfl⟩ := g4.uncons
  cases g5
  exact .mk _ _ _ _ _ _ h0 h1 h2 h3 h4 h5
theorem mem_two {α : Type} {x y z a b c : α} {NN : List α} : ∀ p ∈ a :: b :: x :: NN, p ∈ x :: y :: z :: a :: b :: c :: NN := fun p hp => by
  rcases List.mem_cons.mp hp with rfl | hp
  · exact .tail _ (.tail _ (.tail _ (.head _)))
  rcases List.mem_cons.mp hp with rfl | hp
  · exact .tail _ (.tail _ (.tail _ (.tail _ (.head _))))
  rcases List.mem_cons.mp hp with rfl | hp
  · exact .head _
  · exact .tail _ (.tail _ (.tail _ (.tail _ (.tail _ (.tail _ hp)))))
theorem six_at {t0 t1 t2 t3 t4 t5 : Tok} {v : Value} {j : Nat} (hj : j < 6) (hP : (#[Value.int 0 t0, Value.int 2 t1, Value.int 4 t2, Value.int 6 t3, Value.int 8 t4, Value.int 10 t5] : Array Value)[j]? = some v) : ∃ t, v = .int (2 * (j : Int)) t := by
  match j, hj with
  | 0, _ => exact ⟨t0, (Option.some.inj hP).symm⟩
  | 1, _ => exact ⟨t1, (Option.some.inj hP).symm⟩
  | 2, _ => exact ⟨t2, (Option.some.inj hP).symm⟩
  | 3, _ => exact ⟨t3, (Option.some.inj hP).symm⟩
  | 4, _ => exact ⟨t4, (Option.some.inj hP).symm⟩
  | 5, _ => exact ⟨t5, (Option.some.inj hP).symm⟩
theorem six_get {j : Nat} (hj : j < 6) : ([0, 2, 4, 6, 8, 10] : List Int)[j]? = some (2 * (j : Int)) := by
  match j, hj with
  | 0, _ => rfl
  | 1, _ => rfl
  | 2, _ => rfl
  | 3, _ => rfl
  | 4, _ => rfl
  | 5, _ => rfl
local macro_rules | `(tactic| walk_at "mine upto sub") => `(tactic| repeat' ((fail_if_success (with_reducible show wpAny _ _ (subscriptTail _ _ _ _) _ _ _)); first | (k_unfold; (try dsimp only)) | (walk_at "mine first") | (dsimp only [List.cons_append, List.nil_append, Int.reduceAdd, Int.reduceSub]; walk1) | walk1 | (leave1; walk_say "STEP leave1"; try dsimp only)))
local macro_rules | `(tactic| walk_at "mine first") => `(tactic| ((with_reducible show wpAny _ _ (eval (Expr.Name _ _) (compEnvC _ _ _ _)) _ _ _); k_dflt (first
  | (refine' LCgL.ld_own ?N ?m ?c ?x ?_ ?a ?b; (case a => rfl); (case b => rfl); (case N => k_asm); (case m => exact List.Mem.tail _ (List.Mem.head _)); (case c => assumption); (case x => assumption))
  | (refine' lcf_cell ?N ?c ?m ?d ?_ ?a ?b; (case a => rfl); (case b => rfl); (case N => k_asm); (case c => rfl); (case m => assumption); (case d => k_asm); k_whole))))
noncomputable def c5 : (P : Prop) ×' (Box P → c4.1) := by
  refine ⟨?P, fun hh => ?_⟩
  rotate_left
  w_on
  unfold c4
  show ∀ _, _
  intro w mg mb fa w10 oc1 oc2 q1 q2 Q E L h₀ KX K1 gs dr os hret mean zs D3 ds hdl hzd hbd oc4 q4 T2 Dm Dw h4 NN hPw hPm hne N6 m F6 hm1 hm2 tk
  w_strict (walk_at "mine upto comp")
  rename_i lx h5 F5 N5 lt5
  obtain ⟨t0, t1, t2, t3, t4, t5, N55⟩ : ∃ t0 t1 t2 t3 t4 t5 : Tok, News h₀ L h5 ((lx, W.listOf #[.int 0 t0, .int 2 t1, .int 4 t2, .int 6 t3, .int 8 t4, .int 10 t5] 0) :: (D3, LCg.lst zs) :: (L + 1 + 1 + 1, oc1) :: (L + 1 + 1, oc2) :: (L + 1, oc4) :: NN) := ⟨_, _, _, _, _, _, N5⟩
  refine' LCg.CompSrc.ledger rfl F5 N55 (List.Mem.head _) ?sz (fun g => ?_)
  (case sz => exact Nat.le_of_ble_eq_true rfl)
  clear F5 N5 N55 lt5
  refine comp_inv (fun j ys news => news = ((lx, W.listOf #[.int 0 t0, .int 2 t1, .int 4 t2, .int 6 t3, .int 8 t4, .int 10 t5] 0) :: (D3, LCg.lst zs) :: (L + 1 + 1 + 1, oc1) :: (L + 1 + 1, oc2) :: (L + 1, oc4) :: NN) ∧ All2 LetterOf ys (([0, 2, 4, 6, 8, 10].take j).map (rowD ds))) ?_ ?_ ⟨rfl, .nil⟩
  · intro j v ys news I oI C oC D m₂ h tk E' hj hP hI hC hx F1 N1 off ne Z hZ
    obtain ⟨hnews, hys⟩ := hI
    subst hnews
    have hj3 : j < 6 := hj
    obtain ⟨t, rfl⟩ := six_at hj3 hP
    have mc : (L + 1, oc4) ∈ (I, oI) :: (C, oC) :: (D, LCg.lst ys) :: ((lx, W.listOf #[.int 0 t0, .int 2 t1, .int 4 t2, .int 6 t3, .int 8 t4, .int 10 t5] 0) :: (D3, LCg.lst zs) :: (L + 1 + 1 + 1, oc1) :: (L + 1 + 1, oc2) :: (L + 1, oc4) :: NN) := .tail _ (.tail _ (.tail _ (.tail _ (.tail _ (.tail _ (.tail _ (.head _)))))))
    have hD := LO.lst N1 (.tail _ (.tail _ (.tail _ (.tail _ (.head _)))))
    w_strict (walk_at "mine upto sub")
    refine' item_small hD hzd ?sz ?h0 ?h1 ?sa ?sb ?_
    (case sz => omega)
    (case h0 => omega)
    (case h1 => omega)
    (case sa => with_unfolding_all rfl)
    (case sb => intro _; with_unfolding_all rfl)
    intro t9
    w_strict (walk_at "mine upto sub")
    refine' item_small hD hzd ?sz ?h0 ?h1 ?sa ?sb ?_
    (case sz => omega)
    (case h0 => omega)
    (case h1 => omega)
    (case sa => with_unfolding_all rfl)
    (case sb => intro _; with_unfolding_all rfl)
    intro t8
    w_strict (walk_at "mine upto call")
    refine' Does.use (letter2_does _ _ (getD_bnd hbd (by omega)) (getD_bnd hbd (by omega))) ?k1 ?k2 ?k3 ?k4 ?k5 ?k6 ?k7 ?k8 ?k9 ?_
    walk_at "mine use8"
    (case k9 => trivial)
    intro r9 h9 tk9 G9 hl9 F9 N9
    clear G9
    w_strict (walk_at "mine steps")
    refine hZ _ _ _ _ _ F9 N9 (fun _ hp => hp) off (Or.inr ⟨_, .head _, rfl, _, rfl⟩) ⟨rfl, ?_⟩
    rw [List.take_add_one, six_get hj3, List.map_append]
    exact All2.snoc hys hl9
  · intro ys news hI
    obtain ⟨hnews, hys⟩ := hI
    subst hnews
    intro Dl h7 tk7 F7 N7 off
    dsimp only
    have hp0 := rowD_perm hbd (k := 0) (by decide) (by omega)
    have hp1 := rowD_perm hbd (k := 2) (by decide) (by omega)
    have hp2 := rowD_perm hbd (k := 4) (by decide) (by omega)
    have hp3 := rowD_perm hbd (k := 6) (by decide) (by omega)
    have hp4 := rowD_perm hbd (k := 8) (by decide) (by omega)
    have hp5 := rowD_perm hbd (k := 10) (by decide) (by omega)
    have hys' : All2 LetterOf ys [rowD ds 0, rowD ds 2, rowD ds 4, rowD ds 6, rowD ds 8, rowD ds 10] := hys
    clear hys
    cases all2_six hys' with | mk v0 v1 v2 v3 v4 v5 hl0 hl1 hl2 hl3 hl4 hl5 =>
    clear hys'
    generalize rowD ds 0 = r0 at hp0 hl0 hPm
    generalize rowD ds 2 = r1 at hp1 hl1 hPm
    generalize rowD ds 4 = r2 at hp2 hl2 hPm
    generalize rowD ds 6 = r3 at hp3 hl3 hPw
    generalize rowD ds 8 = r4 at hp4 hl4 hPw
    generalize rowD ds 10 = r5 at hp5 hl5 hPw
    obtain ⟨NN', hDl, hPm', hPw', hne', N9⟩ : ∃ NN', (Dl, LCg.lst [v0, v1, v2, v3, v4, v5]) ∈ NN' ∧ PlansIn NN' Dm [r0, r1, r2] ∧ PlansIn NN' Dw [r3, r4, r5] ∧ (∀ p ∈ NN', @Ne Nat p.1 (L + 1 + 1 + 1) ∧ @Ne Nat p.1 (L + 1 + 1)) ∧ News h₀ L h7 ((L + 1 + 1 + 1, oc1) :: (L + 1 + 1, oc2) :: NN') :=
      ⟨(Dl, LCg.lst [v0, v1, v2, v3, v4, v5]) :: NN, .head _, hPm.sub (fun _ hp => .tail _ hp), hPw.sub (fun _ hp => .tail _ hp), List.forall_mem_cons.mpr ⟨⟨cell_off N7 (.tail _ (.tail _ (.tail _ (.head _)))) q1 _ (.head _) ⟨_, _, rfl⟩, cell_off N7 (.tail _ (.tail _ (.tail _ (.tail _ (.head _))))) q2 _ (.head _) ⟨_, _, rfl⟩⟩, hne⟩, News.sub N7 mem_two⟩
    obtain ⟨m', F8, hm1', hm2', hm3⟩ : ∃ m', Fr h₀ L h7 m' ∧ m' (Str.ofString "men") = some (.ref Dm) ∧ m' (Str.ofString "women") = some (.ref Dw) ∧ m' (Str.ofString "letters") = some (.ref Dl) := ⟨_, F7, (if_neg (by decide)).trans hm1, (if_neg (by decide)).trans hm2, if_pos rfl⟩
    clear F7 N7 off hm1 hm2 m hPm hPw hne NN lx t0 t1 t2 t3 t4 t5 h5 h4 tk g q4 oc4 hzd hdl hbd ds zs D3
    revert w mean mg mb fa w10 oc1 oc2 Q E L h₀ gs dr os r0 r1 r2 r3 r4 r5 v0 v1 v2 v3 v4 v5 Dm Dw Dl NN' m' h7 tk7
    exact hh.get

end
section -- L6
theorem fill24 : PySem.Challenge.rw_qh0043_01 = PySem.Challenge.rw_qh0043_01 ∧ hd.heap_39 = hd.heap_39 := by k_fill; exact ⟨rfl, rfl⟩
local macro_rules | `(tactic| walk_at "mine upto seen") => `(tactic| repeat' ((fail_if_success (with_reducible show wpAny _ _ (execs (Stmt.Assign [Expr.Name (Str.ofString "seen") _] _ _ :: _) _) _ _ _)); first | (k_unfold; (try dsimp only)) | (walk_at "mine first") | (dsimp only [List.cons_append, List.nil_append, Int.reduceAdd, Int.reduceSub]; walk1) | walk1 | (leave1; walk_say "STEP leave1"; try dsimp only)))
local macro_rules | `(tactic| walk_at "mine first") => `(tactic| ((with_reducible show wpAny _ _ (eval (Expr.Name _ _) (envOfC _ _ _ _ _)) _ _ _); k_dflt (refine' ldLoc ?F ?v ?_ ?ka ?kb; (case ka => rfl); (case kb => rfl); (case F => k_asm); (case v => walk_at "mine name"); k_whole)))
local macro_rules | `(tactic| walk_at "mine first") => `(tactic| ((with_reducible show wpAny _ _ (storeName (envOfC _ _ _ _ _) _ _) _ _ _); k_dflt (refine' stLocN ?F ?N ?_ ?ka ?kb; (case ka => rfl); (case kb => rfl); (case F => k_asm); (case N => k_asm); intro h9 F9 N9; k_whole)))
noncomputable def c6 : (P : Prop) ×' (Box P → c5.1) := by
  refine ⟨?P, fun hh => ?_⟩
  rotate_left
  w_on
  unfold c5
  show ∀ _, _
  intro w mg mb fa w10 oc1 oc2 q1 q2 Q E L h₀ KX K1 gs dr os hret mean T2 Dm Dw Dl h7 tk7 v0 v1 v2 v3 v4 v5 r0 hp0 hl0 r1 hp1 hl1 r2 hp2 hl2 r3 hp3 hl3 r4 hp4 hl4 r5 hp5 hl5 NN hDl hPm hPw hne N8 m F8 hm1 hm2 hm3
  w_strict (walk_at "mine upto call")
  refine' Does.use (sound_does (M := [r0, r1, r2]) (V := [r3, r4, r5])) ?k1 ?k2 ?k3 ?k4 ?k5 ?k6 ?k7 ?k8 ?k9 ?_
  (case k1 => k_asm)
  (case k2 => k_asm)
  (case k3 => k_asm)
  (case k4 => exact N8)
  (case k5 => k_asm)
  (case k6 => first | exact rfl | assumption)
  (case k7 => ktr_room)
  (case k8 => ktr_units)
  (case k9 =>
    have hNN : News h₀ L h7 NN := News.sub N8 (fun _ hp => List.Mem.tail _ (List.Mem.tail _ hp))
    exact ⟨Rows3.of_plansIn hNN hPm hp0 hp1 hp2, Rows3.of_plansIn hNN hPw hp3 hp4 hp5⟩)
  intro r h9 tk9 G9 hR1 F9 N9
  refine hideG ?_
  intro gk
  obtain ⟨ls, Ds, hfr, hE2, hPs⟩ := hR1
  k_unfold
  clear gk
  subst hE2
  have hoff := Fresh.off N8 hfr
  obtain ⟨NN', hDl', hPm', hPw', hPs', hne', N9'⟩ : ∃ NN', (Dl, LCg.lst [v0, v1, v2, v3, v4, v5]) ∈ NN' ∧ PlansIn NN' Dm [r0, r1, r2] ∧ PlansIn NN' Dw [r3, r4, r5] ∧ PlansIn NN' Ds (soundP [r0, r1, r2] [r3, r4, r5]) ∧ (∀ p ∈ NN', @Ne Nat p.1 (L + 1 + 1 + 1) ∧ @Ne Nat p.1 (L + 1 + 1)) ∧ News h₀ L h9 ((L + 1 + 1 + 1, oc1) :: (L + 1 + 1, oc2) :: NN') :=
    ⟨ls ++ NN, List.mem_append_right _ hDl, hPm.sub (fun _ hp => List.mem_append_right _ hp), hPw.sub (fun _ hp => List.mem_append_right _ hp), hPs.sub (fun _ hp => List.mem_append_left _ hp), fun p hp => by
      rcases List.mem_append.mp hp with hp | hp
      · exact ⟨Ne.symm (hoff p hp _ (List.Mem.head _)), Ne.symm (hoff p hp _ (List.Mem.tail _ (List.Mem.head _)))⟩
      · exact hne p hp, News.sub (Fresh.news F8 N9 hfr) (fun p hp => by
      rcases List.mem_cons.mp hp with rfl | hp
      · exact List.mem_append_right _ (List.Mem.head _)
      rcases List.mem_cons.mp hp with rfl | hp
      · exact List.mem_append_right _ (List.Mem.tail _ (List.Mem.head _))
      rcases List.mem_append.mp hp with hp | hp
      · exact List.mem_append_left _ hp
      · exact List.mem_append_right _ (List.Mem.tail _ (List.Mem.tail _ hp)))⟩
  clear hDl hPm hPw hPs hne N8 F8 N9 hoff hfr G9 ls NN
  dsimp only
  refine any_tk (fun tk10 => ?_)
  clear tk9 h7 tk7
  w_strict (walk_at "mine upto seen")
  rename_i h10 F10 N10
  obtain ⟨m', F8, hm1', hm2', hm3', hm4⟩ : ∃ m', Fr h₀ L h10 m' ∧ m' (Str.ofString "men") = some (.ref Dm) ∧ m' (Str.ofString "women") = some (.ref Dw) ∧ m' (Str.ofString "letters") = some (.ref Dl) ∧ m' (Str.ofString "sound") = some (.ref Ds) := ⟨_, F10, (if_neg (by decide)).trans hm1, (if_neg (by decide)).trans hm2, (if_neg (by decide)).trans hm3, if_pos rfl⟩
  dsimp only
  refine any_tk (fun tk11 => ?_)
  clear F10 hm1 hm2 hm3 F9 N9' h9 tk10 m
  revert w mean mg mb fa w10 oc1 oc2 Q E L h₀ gs dr os r0 r1 r2 r3 r4 r5 v0 v1 v2 v3 v4 v5 Dm Dw Dl Ds NN' m' h10 tk11
  exact hh.get

end
section -- L7
theorem fill25 : PySem.Challenge.rw_qh0043_01 = PySem.Challenge.rw_qh0043_01 ∧ hd.heap_39 = hd.heap_39 := by k_fill; exact ⟨rfl, rfl⟩
theorem sound_perm {M V : List (List Int)} {P : List Int} (h : P ∈ soundP M V) : Perm3 P := (List.mem_filter.mp h).1
theorem sound_length (M V : List (List Int)) : (soundP M V).length ≤ 6 := List.length_filter_le ..
local macro_rules | `(tactic| walk_at "mine upto husb") => `(tactic| repeat' ((fail_if_success (with_reducible show wpAny _ _ (execs (Stmt.Assign [Expr.Name (Str.ofString "husbands") _] _ _ :: _) _) _ _ _)); first | (k_unfold; (try dsimp only)) | (walk_at "mine first") | (dsimp only [List.cons_append, List.nil_append, Int.reduceAdd, Int.reduceSub]; walk1) | walk1 | (leave1; walk_say "STEP leave1"; try dsimp only)))
local macro_rules | `(tactic| walk_at "mine first") => `(tactic| ((with_reducible show wpAny _ _ (eval (Expr.Name _ _) (envOfC _ _ _ _ _)) _ _ _); k_dflt (refine' ldLoc ?F ?v ?_ ?ka ?kb; (case ka => rfl); (case kb => rfl); (case F => k_asm); (case v => walk_at "mine name"); k_whole)))
local macro_rules | `(tactic| walk_at "mine first") => `(tactic| ((with_reducible show wpAny _ _ (storeName (envOfC _ _ _ _ _) _ _) _ _ _); k_dflt (refine' stLocN ?F ?N ?_ ?ka ?kb; (case ka => rfl); (case kb => rfl); (case F => k_asm); (case N => k_asm); intro h9 F9 N9; k_whole)))
noncomputable def c7 : (P : Prop) ×' (Box P → c6.1) := by
  refine ⟨?P, fun hh => ?_⟩
  rotate_left
  w_on
  unfold c6
  show ∀ _, _
  intro w mg mb fa w10 oc1 oc2 q1 q2 Q E L h₀ KX K1 gs dr os hret mean T2 Dm Dw Dl v0 v1 v2 v3 v4 v5 r0 hp0 hl0 r1 hp1 hl1 r2 hp2 hl2 r3 hp3 hl3 r4 hp4 hl4 r5 hp5 hl5 Ds NN hDl hPm hPw hPs hne h10 N8 m F8 hm1 hm2 hm3 hm4 tk11
  generalize hS : soundP [r0, r1, r2] [r3, r4, r5] = S at *
  have hS3 : ∀ P ∈ S, Perm3 P := fun P hP => sound_perm (hS ▸ hP)
  have hS6 : S.length ≤ 6 := hS ▸ sound_length _ _
  refine hideG ?_
  intro gk
  obtain ⟨vS, nS, hmS, hAll⟩ := id hPs
  k_unfold
  clear gk
  w_strict (walk_at "mine upto comp")
  have hmS' : (Ds, W.listOf (List.toArray vS) nS) ∈ (L + 1 + 1 + 1, oc1) :: (L + 1 + 1, oc2) :: NN := List.Mem.tail _ (List.Mem.tail _ hmS)
  have hsz : vS.toArray.size = S.length := by rw [List.size_toArray, hAll.length]
  refine' LCg.CompSrc.ledger rfl F8 N8 hmS' ?sz (fun g => ?_)
  (case sz => rw [hsz, sizeLine_eq]; omega)
  rw [hsz]
  clear F8 N8
  refine comp_inv (fun j ys news => ∃ T, news = T ++ ((L + 1 + 1 + 1, oc1) :: (L + 1 + 1, oc2) :: NN) ∧ (∀ p ∈ T, @Ne Nat p.1 (L + 1 + 1 + 1) ∧ @Ne Nat p.1 (L + 1 + 1)) ∧ All2 (RowIn T) ys ((S.take j).map turnedP)) ?_ ?_ ⟨[], rfl, (fun _ h => nomatch h), .nil⟩
  · intro j v ys news I oI C oC D m₂ h tk E' hj hP hR2 hC hx F1 N1 off ne Z hZ
    refine hideG ?_
    intro gk
    obtain ⟨T, hE3, hT, hys⟩ := hR2
    k_unfold
    clear gk
    subst hE3
    refine hideG ?_
    intro gk
    obtain ⟨P, hPj, a, va, n, hE5, hm, hva⟩ := hAll.get (i := j) (by simpa using hP)
    k_unfold
    clear gk
    subst hE5
    have hP3 := hS3 P (List.mem_of_getElem? hPj)
    have hla := LO.news N1 (List.Mem.tail _ (List.Mem.tail _ (List.Mem.tail _ (List.mem_append_right _ (List.Mem.tail _ (List.Mem.tail _ hm))))))
    w_strict (walk_at "mine upto call")
    refine' Does.useInts (turned_does hva hP3.small (hP3.mem (by decide) (by decide)) (hP3.mem (by decide) (by decide)) (hP3.mem (by decide) (by decide))) ?k1 ?k2 ?k3 ?k4 ?k5 ?k6 ?k7 ?k8 ?k9 ?_
    (case k1 => k_asm)
    (case k2 => k_asm)
    (case k3 => k_asm)
    (case k4 => k_asm)
    (case k5 => k_asm)
    (case k6 => first | exact rfl | assumption)
    (case k7 => ktr_room)
    (case k8 => ktr_units)
    (case k9 => exact hla)
    intro l9 its9 n9 h9 tk9 hi9 F9 N9 off9
    w_strict (walk_at "mine steps")
    have mb : ∀ q ∈ (L + 1 + 1 + 1, oc1) :: (L + 1 + 1, oc2) :: NN, q ∈ (l9, W.listOf its9 n9) :: (I, oI) :: (C, oC) :: (D, LCg.lst ys) :: (T ++ ((L + 1 + 1 + 1, oc1) :: (L + 1 + 1, oc2) :: NN)) := fun q hq => List.Mem.tail _ (List.Mem.tail _ (List.Mem.tail _ (List.Mem.tail _ (List.mem_append_right _ hq))))
    refine hZ _ _ _ _ (((l9, W.listOf its9 n9) :: T) ++ ((L + 1 + 1 + 1, oc1) :: (L + 1 + 1, oc2) :: NN)) F9 N9 ?_ ?_ ?_ ⟨(l9, W.listOf its9 n9) :: T, rfl, ?_, ?_⟩
    · intro p hp
      rcases List.mem_cons.mp hp with rfl | hp
      · exact List.Mem.tail _ (List.Mem.head _)
      rcases List.mem_cons.mp hp with rfl | hp
      · exact List.Mem.tail _ (List.Mem.tail _ (List.Mem.head _))
      rcases List.mem_cons.mp hp with rfl | hp
      · exact List.Mem.tail _ (List.Mem.tail _ (List.Mem.tail _ (List.Mem.head _)))
      rcases List.mem_cons.mp hp with rfl | hp
      · exact List.Mem.head _
      · exact List.Mem.tail _ (List.Mem.tail _ (List.Mem.tail _ (List.Mem.tail _ hp)))
    · exact ⟨⟨Ne.symm off9.1, Ne.symm off9.2.1, Ne.symm off9.2.2.1⟩, off⟩
    · exact Or.inr ⟨_, List.mem_append_right _ hmS', rfl, _, rfl⟩
    · intro p hp
      rcases List.mem_cons.mp hp with rfl | hp
      · exact ⟨cell_off N9 (mb _ (List.Mem.head _)) q1 _ (List.Mem.head _) ⟨_, _, rfl⟩, cell_off N9 (mb _ (List.Mem.tail _ (List.Mem.head _))) q2 _ (List.Mem.head _) ⟨_, _, rfl⟩⟩
      · exact hT p hp
    · rw [List.take_add_one, hPj, List.map_append]
      refine All2.snoc (All2.mono (fun v P ⟨a, va, n, e, hm, hi⟩ => ⟨a, va, n, e, List.Mem.tail _ hm, hi⟩) hys) ⟨l9, its9.toList, n9, rfl, List.Mem.head _, hi9⟩
  · intro ys news hR6
    refine hideG ?_
    intro gk
    obtain ⟨T, hE7, hT, hys⟩ := hR6
    k_unfold
    clear gk
    subst hE7
    rw [List.take_length] at hys
    intro De h tk F1 N1 off
    dsimp only
    obtain ⟨NN', hDl', hPm', hPw', hPs', hPe, hne', N9⟩ : ∃ NN', (Dl, LCg.lst [v0, v1, v2, v3, v4, v5]) ∈ NN' ∧ PlansIn NN' Dm [r0, r1, r2] ∧ PlansIn NN' Dw [r3, r4, r5] ∧ PlansIn NN' Ds S ∧ PlansIn NN' De (S.map turnedP) ∧ (∀ p ∈ NN', @Ne Nat p.1 (L + 1 + 1 + 1) ∧ @Ne Nat p.1 (L + 1 + 1)) ∧ News h₀ L h ((L + 1 + 1 + 1, oc1) :: (L + 1 + 1, oc2) :: NN') := by
      have m1 : ∀ q ∈ NN, q ∈ (De, LCg.lst ys) :: (T ++ NN) := fun q hq => List.Mem.tail _ (List.mem_append_right _ hq)
      refine ⟨(De, LCg.lst ys) :: (T ++ NN), m1 _ hDl, hPm.sub m1, hPw.sub m1, hPs.sub m1, ⟨ys, ys.length, List.Mem.head _, All2.mono (fun v P ⟨a, va, n, e, hm, hi⟩ => ⟨a, va, n, e, List.Mem.tail _ (List.mem_append_left _ hm), hi⟩) hys⟩, ?_, News.sub N1 ?_⟩
      · intro p hp
        rcases List.mem_cons.mp hp with rfl | hp
        · exact ⟨cell_off N1 (List.Mem.tail _ (List.mem_append_right _ (List.Mem.head _))) q1 _ (List.Mem.head _) ⟨_, _, rfl⟩, cell_off N1 (List.Mem.tail _ (List.mem_append_right _ (List.Mem.tail _ (List.Mem.head _)))) q2 _ (List.Mem.head _) ⟨_, _, rfl⟩⟩
        rcases List.mem_append.mp hp with hp | hp
        · exact hT p hp
        · exact hne p hp
      · intro p hp
        rcases List.mem_cons.mp hp with rfl | hp
        · exact List.Mem.tail _ (List.mem_append_right _ (List.Mem.head _))
        rcases List.mem_cons.mp hp with rfl | hp
        · exact List.Mem.tail _ (List.mem_append_right _ (List.Mem.tail _ (List.Mem.head _)))
        rcases List.mem_cons.mp hp with rfl | hp
        · exact List.Mem.head _
        rcases List.mem_append.mp hp with hp | hp
        · exact List.Mem.tail _ (List.mem_append_left _ hp)
        · exact List.Mem.tail _ (List.mem_append_right _ (List.Mem.tail _ (List.Mem.tail _ hp)))
    obtain ⟨m', F9, hm1', hm2', hm3', hm4', hm5⟩ : ∃ m', Fr h₀ L h m' ∧ m' (Str.ofString "men") = some (.ref Dm) ∧ m' (Str.ofString "women") = some (.ref Dw) ∧ m' (Str.ofString "letters") = some (.ref Dl) ∧ m' (Str.ofString "sound") = some (.ref Ds) ∧ m' (Str.ofString "seen") = some (.ref De) := ⟨_, F1, (if_neg (by decide)).trans hm1, (if_neg (by decide)).trans hm2, (if_neg (by decide)).trans hm3, (if_neg (by decide)).trans hm4, if_pos rfl⟩
    refine any_tk (fun tk12 => ?_)
    clear F1 N1 off hys hT T ys hmS' hmS hAll hsz hS6 hS3 hm1 hm2 hm3 hm4 m hne hPs hPw hPm hDl NN vS nS tk g
    subst hS
    clear h10 tk11
    revert w mean mg mb fa w10 oc1 oc2 Q E L h₀ gs dr os r0 r1 r2 r3 r4 r5 v0 v1 v2 v3 v4 v5 Dm Dw Dl Ds De NN' m' h tk12
    exact hh.get

end
section -- L8
theorem fill26 : PySem.Challenge.rw_qh0043_01 = PySem.Challenge.rw_qh0043_01 ∧ hd.heap_39 = hd.heap_39 := by k_fill; exact ⟨rfl, rfl⟩
local macro_rules | `(tactic| walk_at "mine upto sub") => `(tactic| repeat' ((fail_if_success (with_reducible show wpAny _ _ (subscriptTail _ _ _ _) _ _ _)); first | (k_unfold; (try dsimp only)) | (walk_at "mine first") | (dsimp only [List.cons_append, List.nil_append, Int.reduceAdd, Int.reduceSub]; walk1) | walk1 | (leave1; walk_say "STEP leave1"; try dsimp only)))
local macro_rules | `(tactic| walk_at "mine upto store") => `(tactic| repeat' ((fail_if_success (with_reducible show wpAny _ _ (storeName _ _ _) _ _ _)); first | (k_unfold; (try dsimp only)) | (walk_at "mine first") | (dsimp only [List.cons_append, List.nil_append, Int.reduceAdd, Int.reduceSub]; walk1) | walk1 | (leave1; walk_say "STEP leave1"; try dsimp only)))
local macro_rules | `(tactic| walk_at "mine first") => `(tactic| ((with_reducible show wpAny _ _ (eval (Expr.Name _ _) (envOfC _ _ _ _ _)) _ _ _); k_dflt (refine' ldLoc ?F ?v ?_ ?ka ?kb; (case ka => rfl); (case kb => rfl); (case F => k_asm); (case v => walk_at "mine name"); k_whole)))
noncomputable def c8 : (P : Prop) ×' (PlainLaw → Box P → c7.1) := by
  refine ⟨?P, fun hlaw hh => ?_⟩
  rotate_left
  w_on
  unfold c7
  show ∀ _, _
  intro w mg mb fa w10 oc1 oc2 q1 q2 Q E L h₀ KX K1 gs dr os hret mean T2 Dm Dw Dl v0 v1 v2 v3 v4 v5 r0 hp0 hl0 r1 hp1 hl1 r2 hp2 hl2 r3 hp3 hl3 r4 hp4 hl4 r5 hp5 hl5 Ds De h NN hDl hPm hPw hne N8 m F8 hm1 hm2 hm3 hm4 hm5 tk12 hPs hPe
  refine hideG ?_
  intro gk
  obtain ⟨z0, z1, z2, y0, y1, y2, hA⟩ := hlaw r0 r1 r2 r3 r4 r5 hp0 hp1 hp2 hp3 hp4 hp5
  k_unfold
  clear gk
  clear hlaw
  w_strict (walk_at "mine upto sub")
  dsimp only
  refine' slice_any (vs := [v0, v1, v2, v3, v4, v5]) (zs := [v0, v1, v2]) ?sF ?sN ?sl (.none) (.int _ _) ?sz ?se ?ss ?st ?_
  (case sF => exact F8)
  (case sN => exact N8)
  (case sl => exact LO.news N8 (List.Mem.tail _ (List.Mem.tail _ hDl)))
  (case sz => exact Nat.le_of_ble_eq_true rfl)
  (case se => rfl)
  (case ss => with_unfolding_all rfl)
  (case st => intro _; with_unfolding_all rfl)
  intro la h2 F2 N2 lt2
  w_strict (walk_at "mine upto sub")
  dsimp only
  refine' slice_any (vs := [v0, v1, v2, v3, v4, v5]) (zs := [v3, v4, v5]) ?sF ?sN ?sl (.int _ _) (.none) ?sz ?se ?ss ?st ?_
  (case sF => exact F2)
  (case sN => exact N2)
  (case sl => exact LO.news N2 (List.Mem.tail _ (List.Mem.tail _ (List.Mem.tail _ hDl))))
  (case sz => exact Nat.le_of_ble_eq_true rfl)
  (case se => rw [kmk_pick_nat (a := 3) (b := 6) _ rfl]; rfl)
  (case ss => with_unfolding_all rfl)
  (case st => intro _; with_unfolding_all rfl)
  intro lb h3 F3 N3 lt3
  w_strict (walk_at "mine upto call")
  refine' DoesT.use (courted_does hl0 hl1 hl2 hl3 hl4 hl5 hp3 hp4 hp5 (hA.men true).good (hA.men true).fin) K1 F3 KX T2 KX T2 ?k6 ?k7 ?k8 (fun _ hp => nomatch hp) ?k9 ?_
  (case k6 => first | exact rfl | assumption)
  (case k7 => ktr_room)
  (case k8 => ktr_units)
  (case k9 => exact ⟨LO.news N3 (List.Mem.tail _ (List.Mem.head _)), LO.news N3 (List.Mem.head _)⟩)
  intro r h4 tk4 g all TT F4 B4 X4 T4 N4 kp hR2
  refine hideG ?_
  intro gk
  obtain ⟨lh, its, n, hE3, hmh, hih⟩ := hR2
  k_unfold
  clear gk
  subst hE3
  have N5 : News g L h4 ((lh, W.listOf its n) :: (L + 1 + 1 + 1, oc1) :: (L + 1 + 1, oc2) :: NN) := fun p hp => by
    rcases List.mem_cons.mp hp with rfl | hp
    · exact N4 _ hmh
    · exact kp _ N3 (fun _ _ h => nomatch h) p (List.Mem.tail _ (List.Mem.tail _ hp))
  have hret' : ∀ h' tk' L m', Fr g L h' m' → Q (Flow.ret (Value.bool true)) { heap := h', gens := gs, drawn := dr, toks := tk', os := os } := fun h' tk' L m' F => hret h' tk' L m' ⟨F.ns, fun b o e => F.keep b o (TT.other b o e (fun q => nomatch q)), by rw [← TT.size]; exact F.above⟩
  have o1 := cell_off N5 (List.Mem.tail _ (List.Mem.head _)) q1 _ (List.Mem.head _) ⟨_, _, rfl⟩
  have o2 := cell_off N5 (List.Mem.tail _ (List.Mem.tail _ (List.Mem.head _))) q2 _ (List.Mem.head _) ⟨_, _, rfl⟩
  have N6 : News g L h4 ([(L + 1 + 1 + 1, oc1)] ++ (L + 1 + 1, oc2) :: (lh, W.listOf its n) :: NN) := News.sub N5 (fun p hp => by
    rcases List.mem_cons.mp hp with rfl | hp
    · exact List.Mem.tail _ (List.Mem.head _)
    rcases List.mem_cons.mp hp with rfl | hp
    · exact List.Mem.tail _ (List.Mem.tail _ (List.Mem.head _))
    rcases List.mem_cons.mp hp with rfl | hp
    · exact List.Mem.head _
    · exact List.Mem.tail _ (List.Mem.tail _ (List.Mem.tail _ hp)))
  clear N4 kp hmh all N5 hret F3 N3 lt3 F2 N2 lt2 N8 F8
  dsimp only
  w_strict (walk_at "mine upto store")
  refine stCN (own := [_]) F4 N6 rfl q2 (List.forall_mem_cons.mpr ⟨Nat.ne_of_gt (Nat.lt_succ_self _), fun _ h => nomatch h⟩) (List.forall_mem_cons.mpr ⟨o2, fun p hp => (hne p hp).2⟩) (fun h5 oc5 F5 N7 q5 => ?_)
  obtain ⟨NN', hDl', hPm', hPw', hPs', hPe', hmh, hne', N9⟩ : ∃ NN', (Dl, LCg.lst [v0, v1, v2, v3, v4, v5]) ∈ NN' ∧ PlansIn NN' Dm [r0, r1, r2] ∧ PlansIn NN' Dw [r3, r4, r5] ∧ PlansIn NN' Ds (soundP [r0, r1, r2] [r3, r4, r5]) ∧ PlansIn NN' De ((soundP [r0, r1, r2] [r3, r4, r5]).map turnedP) ∧ (lh, W.listOf its n) ∈ NN' ∧ (∀ p ∈ NN', @Ne Nat p.1 (L + 1 + 1 + 1)) ∧ News g L h5 ((L + 1 + 1 + 1, oc1) :: (L + 1 + 1, oc5) :: NN') := by
    have m1 : ∀ q ∈ NN, q ∈ (lh, W.listOf its n) :: NN := fun q hq => List.Mem.tail _ hq
    exact ⟨(lh, W.listOf its n) :: NN, m1 _ hDl, hPm.sub m1, hPw.sub m1, hPs.sub m1, hPe.sub m1, List.Mem.head _, List.forall_mem_cons.mpr ⟨o1, fun p hp => (hne p hp).1⟩, N7⟩
  have K5 : Below callerA h₀ [] g := B4
  dsimp only
  refine any_tk (fun tk5 => ?_)
  clear o1 o2 N6 N7 hDl hPm hPw hPs hPe hne q2 oc2 NN F4 B4 TT K1 tk4 h4 h2 h3 h tk12 la lb
  revert w mean mg mb fa w10 oc1 oc5 Q E L h₀ g gs dr os r0 r1 r2 r3 r4 r5 v0 v1 v2 v3 v4 v5 z0 z1 z2 y0 y1 y2 Dm Dw Dl Ds De lh its n NN' m h5 tk5
  exact hh.get

end
section -- L9
theorem fill27 : PySem.Challenge.rw_qh0043_01 = PySem.Challenge.rw_qh0043_01 ∧ hd.heap_39 = hd.heap_39 := by k_fill; exact ⟨rfl, rfl⟩
theorem IntsAre.three (x y z : Int) (a b c : Tok) : IntsAre [.int x a, .int y b, .int z c] [x, y, z] := .cons _ _ (.cons _ _ (.cons _ _ .nil))
theorem turned_perm_all {S : List (List Int)} (h : ∀ P ∈ S, Perm3 P) : ∀ P ∈ S.map turnedP, Perm3 P := fun P hP => by
  refine hideG ?_
  intro gk
  obtain ⟨P', h', hE2⟩ := List.mem_map.mp hP
  k_unfold
  clear gk
  subst hE2
  exact perm_turned (h P' h')
local macro_rules | `(tactic| walk_at "mine upto cmp") => `(tactic| repeat' ((fail_if_success (with_reducible show wpAny _ _ (compareOp _ _ _) _ _ _)); first | (k_unfold; (try dsimp only)) | (walk_at "mine first") | (dsimp only [List.cons_append, List.nil_append, Int.reduceAdd, Int.reduceSub]; walk1) | walk1 | (leave1; walk_say "STEP leave1"; try dsimp only)))
local macro_rules | `(tactic| walk_at "mine upto asg") => `(tactic| repeat' ((fail_if_success (with_reducible show wpAny _ _ (exec (Stmt.Assign _ (Expr.Call _ _ _ _) _) _) _ _ _)); (fail_if_success (with_reducible show wpAny _ _ (execs (Stmt.If _ _ _ _ :: _) _) _ _ _)); first | (k_unfold; (try dsimp only)) | (walk_at "mine first") | (dsimp only [List.cons_append, List.nil_append, Int.reduceAdd, Int.reduceSub]; walk1) | walk1 | (leave1; walk_say "STEP leave1"; try dsimp only)))
local macro_rules | `(tactic| walk_at "mine first") => `(tactic| ((with_reducible show wpAny _ _ (eval (Expr.Name _ _) (envOfC _ _ _ _ _)) _ _ _); k_dflt (first | (refine' ldLoc ?F ?v ?_ ?ka ?kb; (case ka => rfl); (case kb => rfl); (case F => k_asm); (case v => walk_at "mine name"); k_whole) | (refine' ldCN ?N ?c ?m ?d ?_ ?ka ?kb; (case ka => rfl); (case kb => rfl); (case N => k_asm); (case c => rfl); (case m => k_mem); (case d => k_asm); k_whole))))
noncomputable def c9 : (P : Prop) ×' (Box P → c8.1) := by
  refine ⟨?P, fun hh => ?_⟩
  rotate_left
  w_on
  unfold c8
  show ∀ _, _
  intro w mg mb fa w10 oc1 q1 Q E L h₀ KX gs dr os mean T2 Dm Dw Dl v0 v1 v2 v3 v4 v5 r0 hp0 hl0 r1 hp1 hl1 r2 hp2 hl2 r3 hp3 hl3 r4 hp4 hl4 r5 hp5 hl5 Ds De m hm1 hm2 hm3 hm4 hm5 z0 z1 z2 y0 y1 y2 hA g X4 T4 lh its n hih hret h5 oc5 F5 q5 NN hDl hPm hPw hPs hPe hmh hne N9 K5 tk5
  have hS3 : ∀ P ∈ soundP [r0, r1, r2] [r3, r4, r5], Perm3 P := fun P hP => sound_perm hP
  have hS6 := sound_length [r0, r1, r2] [r3, r4, r5]
  have hSt := turned_perm_all hS3
  have hNN : ∀ p ∈ NN, p ∈ (L + 1 + 1 + 1, oc1) :: (L + 1 + 1, oc5) :: NN := fun p hp => List.Mem.tail _ (List.Mem.tail _ hp)
  w_strict (walk_at "mine upto call")
  refine' Does.use (least_does (R := [r3, r4, r5]) (S := (soundP [r0, r1, r2] [r3, r4, r5]).map turnedP) (by simpa using hA.some) (by rw [List.length_map]; omega) hSt) ?k1 ?k2 ?k3 ?k4 ?k5 ?k6 ?k7 ?k8 ?k9 ?_
  (case k1 => k_asm)
  (case k2 => k_asm)
  (case k3 => k_asm)
  (case k4 => k_asm)
  (case k5 => k_asm)
  (case k6 => first | exact rfl | assumption)
  (case k7 => ktr_room)
  (case k8 => ktr_units)
  (case k9 => exact ⟨Rows3.of_plansIn (News.sub N9 hNN) hPw hp3 hp4 hp5, hPe.at (News.sub N9 hNN)⟩)
  intro r h6 tk6 G6 hR3 F6 N6
  refine hideG ?_
  intro gk
  obtain ⟨d0, d1, d2, ⟨l6, its6, n6, hE4, hn6, ho6, hi6⟩, e0, e1, e2⟩ := hR3
  k_unfold
  clear gk
  subst hE4
  have N7 := news_add F5 N6 hn6 ho6
  w_strict (walk_at "mine upto cmp")
  refine' ne_lo (vs := its.toList) (us := its6.toList) ?sa ?sb hih hi6 ?su ?_
  (case sa => exact LO.news N7 (List.Mem.tail _ (hNN _ hmh)))
  (case sb => exact LO.news N7 (List.Mem.head _))
  (case su => ktr_units)
  rw [hA.lz d0 d1 d2 e0 e1 e2]
  simp only [decide_true, Bool.not_true]
  clear F5 N6 N9 hn6 ho6 G6 e0 e1 e2
  have hp := hA.pz
  w_strict (walk_at "mine upto call")
  refine' Does.useInts (turned_does hih hp.small (hp.mem (by decide) (by decide)) (hp.mem (by decide) (by decide)) (hp.mem (by decide) (by decide))) ?k1 ?k2 ?k3 ?k4 ?k5 ?k6 ?k7 ?k8 ?k9 ?_
  (case k1 => k_asm)
  (case k2 => k_asm)
  (case k3 => k_asm)
  (case k4 => k_asm)
  (case k5 => k_asm)
  (case k6 => first | exact rfl | assumption)
  (case k7 => ktr_room)
  (case k8 => ktr_units)
  (case k9 => exact LO.news N7 (List.Mem.tail _ (hNN _ hmh)))
  intro l7 its7 n7 h7 tk7 hi7 F7 N8 off7
  w_strict (walk_at "mine upto call")
  refine' Does.use (dearest_does (R := [r0, r1, r2]) (S := soundP [r0, r1, r2] [r3, r4, r5]) hA.some (by omega) hS3) ?k1 ?k2 ?k3 ?k4 ?k5 ?k6 ?k7 ?k8 ?k9 ?_
  (case k1 => k_asm)
  (case k2 => k_asm)
  (case k3 => k_asm)
  (case k4 => exact N8)
  (case k5 => k_asm)
  (case k6 => first | exact rfl | assumption)
  (case k7 => ktr_room)
  (case k8 => ktr_units)
  (case k9 =>
    have hN : News g L h7 NN := News.sub N8 (fun p hp => List.Mem.tail _ (List.Mem.tail _ (hNN p hp)))
    exact ⟨Rows3.of_plansIn hN hPm hp0 hp1 hp2, hPs.at hN⟩)
  intro r h8 tk8 G8 hR5 F8 N9
  refine hideG ?_
  intro gk
  obtain ⟨d3, d4, d5, ⟨l8, its8, n8, hE6, hn8, ho8, hi8⟩, e0, e1, e2⟩ := hR5
  k_unfold
  clear gk
  subst hE6
  have N10 := news_add F7 N9 hn8 ho8
  w_strict (walk_at "mine upto cmp")
  refine' ne_lo (vs := its7.toList) (us := its8.toList) ?sa ?sb hi7 hi8 ?su ?_
  (case sa => exact LO.news N10 (List.Mem.tail _ (List.Mem.head _)))
  (case sb => exact LO.news N10 (List.Mem.head _))
  (case su => ktr_units)
  rw [hA.dz d3 d4 d5 e0 e1 e2]
  simp only [decide_true, Bool.not_true]
  clear hn8 ho8 G8 e0 e1 e2 N8 F7 N7 F6
  have N11 : News g L h8 ((L + 1 + 1 + 1, oc1) :: (L + 1 + 1, oc5) :: NN) := News.sub N9 (fun p hp => List.Mem.tail _ (List.Mem.tail _ hp))
  clear N9 N10
  w_strict (walk_at "mine upto asg")
  dsimp only
  clear hS3 hS6 hSt hNN hi8 off7 hi7 hi6 hp l8 its8 n8 l7 its7 n7 l6 its6 n6 h7 tk7 h6 tk6 h5 tk5 d0 d1 d2 d3 d4 d5
  revert w mean mg mb fa w10 oc1 oc5 Q E L h₀ g gs dr os r0 r1 r2 r3 r4 r5 v0 v1 v2 v3 v4 v5 z0 z1 z2 y0 y1 y2 Dm Dw Dl Ds De lh its n NN m h8 tk8
  exact hh.get

end
section -- L10
theorem fill28 : PySem.Challenge.rw_qh0043_01 = PySem.Challenge.rw_qh0043_01 ∧ hd.heap_39 = hd.heap_39 := by k_fill; exact ⟨rfl, rfl⟩
local macro_rules | `(tactic| walk_at "mine upto sub") => `(tactic| repeat' ((fail_if_success (with_reducible show wpAny _ _ (subscriptTail _ _ _ _) _ _ _)); first | (k_unfold; (try dsimp only)) | (walk_at "mine first") | (dsimp only [List.cons_append, List.nil_append, Int.reduceAdd, Int.reduceSub]; walk1) | walk1 | (leave1; walk_say "STEP leave1"; try dsimp only)))
local macro_rules | `(tactic| walk_at "mine upto cmp") => `(tactic| repeat' ((fail_if_success (with_reducible show wpAny _ _ (compareOp _ _ _) _ _ _)); first | (k_unfold; (try dsimp only)) | (walk_at "mine first") | (dsimp only [List.cons_append, List.nil_append, Int.reduceAdd, Int.reduceSub]; walk1) | walk1 | (leave1; walk_say "STEP leave1"; try dsimp only)))
local macro_rules | `(tactic| walk_at "mine upto asg") => `(tactic| repeat' ((fail_if_success (with_reducible show wpAny _ _ (exec (Stmt.Assign _ (Expr.Call _ _ _ _) _) _) _ _ _)); (fail_if_success (with_reducible show wpAny _ _ (execs (Stmt.If _ _ _ _ :: _) _) _ _ _)); first | (k_unfold; (try dsimp only)) | (walk_at "mine first") | (dsimp only [List.cons_append, List.nil_append, Int.reduceAdd, Int.reduceSub]; walk1) | walk1 | (leave1; walk_say "STEP leave1"; try dsimp only)))
local macro_rules | `(tactic| walk_at "mine first") => `(tactic| ((with_reducible show wpAny _ _ (eval (Expr.Name _ _) (envOfC _ _ _ _ _)) _ _ _); k_dflt (first | (refine' ldLoc ?F ?v ?_ ?ka ?kb; (case ka => rfl); (case kb => rfl); (case F => k_asm); (case v => walk_at "mine name"); k_whole) | (refine' ldCN ?N ?c ?m ?d ?_ ?ka ?kb; (case ka => rfl); (case kb => rfl); (case N => k_asm); (case c => rfl); (case m => k_mem); (case d => k_asm); k_whole))))
noncomputable def c10 : (P : Prop) ×' (Box P → c9.1) := by
  refine ⟨?P, fun hh => ?_⟩
  rotate_left
  w_on
  unfold c9
  show ∀ _, _
  intro w mg mb fa w10 oc1 q1 Q E L h₀ KX gs dr os mean T2 Dm Dw Dl v0 v1 v2 v3 v4 v5 r0 hp0 hl0 r1 hp1 hl1 r2 hp2 hl2 r3 hp3 hl3 r4 hp4 hl4 r5 hp5 hl5 Ds De m hm1 hm2 hm3 hm4 hm5 z0 z1 z2 y0 y1 y2 hA g X4 T4 lh its n hih hret oc5 q5 NN hDl hPm hPw hPs hPe hmh hne K5 h8 tk8 F8 N8
  w_strict (walk_at "mine upto sub")
  dsimp only
  refine' slice_any (vs := [v0, v1, v2, v3, v4, v5]) (zs := [v0, v1, v2]) ?sF ?sN ?sl (.none) (.int _ _) ?sz ?se ?ss ?st ?_
  (case sF => exact F8)
  (case sN => exact N8)
  (case sl => exact LO.news N8 (List.Mem.tail _ (List.Mem.tail _ hDl)))
  (case sz => exact Nat.le_of_ble_eq_true rfl)
  (case se => rfl)
  (case ss => with_unfolding_all rfl)
  (case st => intro _; with_unfolding_all rfl)
  intro la h2 F2 N2 lt2
  w_strict (walk_at "mine upto sub")
  dsimp only
  refine' slice_any (vs := [v0, v1, v2, v3, v4, v5]) (zs := [v3, v4, v5]) ?sF ?sN ?sl (.int _ _) (.none) ?sz ?se ?ss ?st ?_
  (case sF => exact F2)
  (case sN => exact N2)
  (case sl => exact LO.news N2 (List.Mem.tail _ (List.Mem.tail _ (List.Mem.tail _ hDl))))
  (case sz => exact Nat.le_of_ble_eq_true rfl)
  (case se => rw [kmk_pick_nat (a := 3) (b := 6) _ rfl]; rfl)
  (case ss => with_unfolding_all rfl)
  (case st => intro _; with_unfolding_all rfl)
  intro lb h3 F3 N3 lt3
  w_strict (walk_at "mine upto call")
  refine' DoesT.use (courted_does hl0 hl1 hl2 hl3 hl4 hl5 hp3 hp4 hp5 (hA.men false).good (hA.men false).fin) K5 F3 X4 T4 KX T2 ?k6 ?k7 ?k8 (fun _ hp => nomatch hp) ?k9 ?_
  (case k6 => first | exact rfl | assumption)
  (case k7 => ktr_room)
  (case k8 => ktr_units)
  (case k9 => exact ⟨LO.news N3 (List.Mem.tail _ (List.Mem.head _)), LO.news N3 (List.Mem.head _)⟩)
  intro r h4 tk4 g2 all TT F4 B4 X5 T5 N4 kp hR1
  refine hideG ?_
  intro gk
  obtain ⟨l9, its9, n9, hE2, hmh9, hih9⟩ := hR1
  k_unfold
  clear gk
  subst hE2
  have N5 : News g2 L h4 ((L + 1 + 1 + 1, oc1) :: (L + 1 + 1, oc5) :: NN) := fun p hp => kp _ N3 (fun _ _ h => nomatch h) p (List.Mem.tail _ (List.Mem.tail _ hp))
  have hret' : ∀ h' tk' L m', Fr g2 L h' m' → Q (Flow.ret (Value.bool true)) { heap := h', gens := gs, drawn := dr, toks := tk', os := os } := fun h' tk' L m' F => hret h' tk' L m' ⟨F.ns, fun b o e => F.keep b o (TT.other b o e (fun q => nomatch q)), by rw [← TT.size]; exact F.above⟩
  have hl9 := LO.news N4 hmh9
  have hlh := LO.news N5 (List.Mem.tail _ (List.Mem.tail _ hmh))
  clear N4 kp hret F3 N3 lt3 F2 N2 lt2 N8 F8 TT hmh9 all
  dsimp only
  w_strict (walk_at "mine upto cmp")
  refine' ne_lo (vs := its9.toList) (us := its.toList) hl9 hlh hih9 hih ?su ?_
  (case su => ktr_units)
  simp only [decide_true, Bool.not_true]
  w_strict (walk_at "mine upto asg")
  clear hl9 hlh hih9 l9 its9 n9 h3 h2 la lb h8 tk8 K5 X4 T4 g
  revert w mean mg mb fa w10 oc1 oc5 Q E L h₀ g2 gs dr os r0 r1 r2 r3 r4 r5 v0 v1 v2 v3 v4 v5 z0 z1 z2 y0 y1 y2 Dm Dw Dl Ds De lh its n NN m h4 tk4
  exact hh.get

end
section -- L11
theorem fill29 : PySem.Challenge.rw_qh0043_01 = PySem.Challenge.rw_qh0043_01 ∧ hd.heap_39 = hd.heap_39 := by k_fill; exact ⟨rfl, rfl⟩
local macro_rules | `(tactic| walk_at "mine upto store") => `(tactic| repeat' ((fail_if_success (with_reducible show wpAny _ _ (storeName _ _ _) _ _ _)); first | (k_unfold; (try dsimp only)) | (walk_at "mine first") | (dsimp only [List.cons_append, List.nil_append, Int.reduceAdd, Int.reduceSub]; walk1) | walk1 | (leave1; walk_say "STEP leave1"; try dsimp only)))
local macro_rules | `(tactic| walk_at "mine upto sub") => `(tactic| repeat' ((fail_if_success (with_reducible show wpAny _ _ (subscriptTail _ _ _ _) _ _ _)); first | (k_unfold; (try dsimp only)) | (walk_at "mine first") | (dsimp only [List.cons_append, List.nil_append, Int.reduceAdd, Int.reduceSub]; walk1) | walk1 | (leave1; walk_say "STEP leave1"; try dsimp only)))
local macro_rules | `(tactic| walk_at "mine upto cmp") => `(tactic| repeat' ((fail_if_success (with_reducible show wpAny _ _ (compareOp _ _ _) _ _ _)); first | (k_unfold; (try dsimp only)) | (walk_at "mine first") | (dsimp only [List.cons_append, List.nil_append, Int.reduceAdd, Int.reduceSub]; walk1) | walk1 | (leave1; walk_say "STEP leave1"; try dsimp only)))
local macro_rules | `(tactic| walk_at "mine upto asg") => `(tactic| repeat' ((fail_if_success (with_reducible show wpAny _ _ (exec (Stmt.Assign _ (Expr.Call _ _ _ _) _) _) _ _ _)); (fail_if_success (with_reducible show wpAny _ _ (execs (Stmt.If _ _ _ _ :: _) _) _ _ _)); first | (k_unfold; (try dsimp only)) | (walk_at "mine first") | (dsimp only [List.cons_append, List.nil_append, Int.reduceAdd, Int.reduceSub]; walk1) | walk1 | (leave1; walk_say "STEP leave1"; try dsimp only)))
local macro_rules | `(tactic| walk_at "mine first") => `(tactic| ((with_reducible show wpAny _ _ (eval (Expr.Name _ _) (envOfC _ _ _ _ _)) _ _ _); k_dflt (first | (refine' ldLoc ?F ?v ?_ ?ka ?kb; (case ka => rfl); (case kb => rfl); (case F => k_asm); (case v => walk_at "mine name"); k_whole) | (refine' ldCN ?N ?c ?m ?d ?_ ?ka ?kb; (case ka => rfl); (case kb => rfl); (case N => k_asm); (case c => rfl); (case m => k_mem); (case d => k_asm); k_whole))))
noncomputable def c11 : (P : Prop) ×' (Box P → c10.1) := by
  refine ⟨?P, fun hh => ?_⟩
  rotate_left
  w_on
  unfold c10
  show ∀ _, _
  intro w mg mb fa w10 oc1 q1 Q E L h₀ KX gs dr os mean T2 Dm Dw Dl v0 v1 v2 v3 v4 v5 r0 hp0 hl0 r1 hp1 hl1 r2 hp2 hl2 r3 hp3 hl3 r4 hp4 hl4 r5 hp5 hl5 Ds De m hm1 hm2 hm3 hm4 hm5 z0 z1 z2 y0 y1 y2 hA lh its n hih oc5 q5 NN hDl hPm hPw hPs hPe hmh hne h8 tk8 g F8 K5 X4 T4 N8 hret
  w_strict (walk_at "mine upto sub")
  dsimp only
  refine' slice_any (vs := [v0, v1, v2, v3, v4, v5]) (zs := [v3, v4, v5]) ?sF ?sN ?sl (.int _ _) (.none) ?sz ?se ?ss ?st ?_
  (case sF => exact F8)
  (case sN => exact N8)
  (case sl => exact LO.news N8 (List.Mem.tail _ (List.Mem.tail _ hDl)))
  (case sz => exact Nat.le_of_ble_eq_true rfl)
  (case se => rw [kmk_pick_nat (a := 3) (b := 6) _ rfl]; rfl)
  (case ss => with_unfolding_all rfl)
  (case st => intro _; with_unfolding_all rfl)
  intro la h2 F2 N2 lt2
  w_strict (walk_at "mine upto sub")
  dsimp only
  refine' slice_any (vs := [v0, v1, v2, v3, v4, v5]) (zs := [v0, v1, v2]) ?sF ?sN ?sl (.none) (.int _ _) ?sz ?se ?ss ?st ?_
  (case sF => exact F2)
  (case sN => exact N2)
  (case sl => exact LO.news N2 (List.Mem.tail _ (List.Mem.tail _ (List.Mem.tail _ hDl))))
  (case sz => exact Nat.le_of_ble_eq_true rfl)
  (case se => rfl)
  (case ss => with_unfolding_all rfl)
  (case st => intro _; with_unfolding_all rfl)
  intro lb h3 F3 N3 lt3
  w_strict (walk_at "mine upto call")
  refine' DoesT.use (courted_does hl3 hl4 hl5 hl0 hl1 hl2 hp0 hp1 hp2 hA.women.good hA.women.fin) K5 F3 X4 T4 KX T2 ?k6 ?k7 ?k8 (fun _ hp => nomatch hp) ?k9 ?_
  (case k6 => first | exact rfl | assumption)
  (case k7 => ktr_room)
  (case k8 => ktr_units)
  (case k9 => exact ⟨LO.news N3 (List.Mem.tail _ (List.Mem.head _)), LO.news N3 (List.Mem.head _)⟩)
  intro r h4 tk4 g2 all TT F4 B4 X5 T5 N4 kp hR1
  refine hideG ?_
  intro gk
  obtain ⟨lw, itw, nw, hE2, hmw, hiw⟩ := hR1
  k_unfold
  clear gk
  subst hE2
  have N5 : News g2 L h4 ((lw, W.listOf itw nw) :: (L + 1 + 1 + 1, oc1) :: (L + 1 + 1, oc5) :: NN) := fun p hp => by
    rcases List.mem_cons.mp hp with rfl | hp
    · exact N4 _ hmw
    · exact kp _ N3 (fun _ _ h => nomatch h) p (List.Mem.tail _ (List.Mem.tail _ hp))
  have hret' : ∀ h' tk' L m', Fr g2 L h' m' → Q (Flow.ret (Value.bool true)) { heap := h', gens := gs, drawn := dr, toks := tk', os := os } := fun h' tk' L m' F => hret h' tk' L m' ⟨F.ns, fun b o e => F.keep b o (TT.other b o e (fun q => nomatch q)), by rw [← TT.size]; exact F.above⟩
  have o1 := cell_off N5 (List.Mem.tail _ (List.Mem.head _)) q1 _ (List.Mem.head _) ⟨_, _, rfl⟩
  have N6 : News g2 L h4 ([] ++ (L + 1 + 1 + 1, oc1) :: (L + 1 + 1, oc5) :: (lw, W.listOf itw nw) :: NN) := News.sub N5 (fun p hp => by
    rcases List.mem_cons.mp hp with rfl | hp
    · exact List.Mem.tail _ (List.Mem.head _)
    rcases List.mem_cons.mp hp with rfl | hp
    · exact List.Mem.tail _ (List.Mem.tail _ (List.Mem.head _))
    rcases List.mem_cons.mp hp with rfl | hp
    · exact List.Mem.head _
    · exact List.Mem.tail _ (List.Mem.tail _ (List.Mem.tail _ hp)))
  clear N4 kp hmw all N5 hret F3 N3 lt3 F2 N2 lt2 N8 F8
  dsimp only
  w_strict (walk_at "mine upto store")
  refine stCN (own := []) F4 N6 rfl q1 (fun _ h => nomatch h) (List.forall_mem_cons.mpr ⟨Nat.ne_of_lt (Nat.lt_succ_self _), List.forall_mem_cons.mpr ⟨o1, fun p hp => hne p hp⟩⟩) (fun h5 oc6 F5 N7 q6 => ?_)
  obtain ⟨NN', hPm', hPw', hPs', hPe', hmh', hmw, N9⟩ : ∃ NN', PlansIn NN' Dm [r0, r1, r2] ∧ PlansIn NN' Dw [r3, r4, r5] ∧ PlansIn NN' Ds (soundP [r0, r1, r2] [r3, r4, r5]) ∧ PlansIn NN' De ((soundP [r0, r1, r2] [r3, r4, r5]).map turnedP) ∧ (lh, W.listOf its n) ∈ NN' ∧ (lw, W.listOf itw nw) ∈ NN' ∧ News g2 L h5 ((L + 1 + 1 + 1, oc6) :: (L + 1 + 1, oc5) :: NN') := by
    have m1 : ∀ q ∈ NN, q ∈ (lw, W.listOf itw nw) :: NN := fun q hq => List.Mem.tail _ hq
    exact ⟨(lw, W.listOf itw nw) :: NN, hPm.sub m1, hPw.sub m1, hPs.sub m1, hPe.sub m1, m1 _ hmh, List.Mem.head _, N7⟩
  dsimp only
  refine any_tk (fun tk5 => ?_)
  clear o1 N6 N7 hDl hPm hPw hPs hPe hne hmh q1 oc1 NN F4 TT K5 X4 T4 tk4 h4 h2 h3 h8 tk8 la lb g hm3 hl0 hl1 hl2 hl3 hl4 hl5 v0 v1 v2 v3 v4 v5 Dl
  revert w mean mg mb fa w10 oc5 oc6 Q E L h₀ g2 gs dr os r0 r1 r2 r3 r4 r5 z0 z1 z2 y0 y1 y2 Dm Dw Ds De lh its n lw itw nw NN' m h5 tk5
  exact hh.get

end
section -- L12
theorem fill30 : PySem.Challenge.rw_qh0043_01 = PySem.Challenge.rw_qh0043_01 ∧ hd.heap_39 = hd.heap_39 := by k_fill; exact ⟨rfl, rfl⟩
local macro_rules | `(tactic| walk_at "mine upto cmp") => `(tactic| repeat' ((fail_if_success (with_reducible show wpAny _ _ (compareOp _ _ _) _ _ _)); first | (k_unfold; (try dsimp only)) | (walk_at "mine first") | (dsimp only [List.cons_append, List.nil_append, Int.reduceAdd, Int.reduceSub]; walk1) | walk1 | (leave1; walk_say "STEP leave1"; try dsimp only)))
local macro_rules | `(tactic| walk_at "mine upto asg") => `(tactic| repeat' ((fail_if_success (with_reducible show wpAny _ _ (exec (Stmt.Assign _ (Expr.ListComp _ _ _ _) _) _) _ _ _)); (fail_if_success (with_reducible show wpAny _ _ (execs (Stmt.Assign _ (Expr.ListComp _ _ _ _) _ :: _) _) _ _ _)); first | (k_unfold; (try dsimp only)) | (walk_at "mine first") | (dsimp only [List.cons_append, List.nil_append, Int.reduceAdd, Int.reduceSub]; walk1) | walk1 | (leave1; walk_say "STEP leave1"; try dsimp only)))
local macro_rules | `(tactic| walk_at "mine first") => `(tactic| ((with_reducible show wpAny _ _ (eval (Expr.Name _ _) (envOfC _ _ _ _ _)) _ _ _); k_dflt (first | (refine' ldLoc ?F ?v ?_ ?ka ?kb; (case ka => rfl); (case kb => rfl); (case F => k_asm); (case v => walk_at "mine name"); k_whole) | (refine' ldCN ?N ?c ?m ?d ?_ ?ka ?kb; (case ka => rfl); (case kb => rfl); (case N => k_asm); (case c => rfl); (case m => k_mem); (case d => k_asm); k_whole))))
noncomputable def c12 : (P : Prop) ×' (Box P → c11.1) := by
  refine ⟨?P, fun hh => ?_⟩
  rotate_left
  w_on
  unfold c11
  show ∀ _, _
  intro w mg mb fa w10 Q E L h₀ KX gs dr os mean T2 Dm Dw r0 hp0 r1 hp1 r2 hp2 r3 hp3 r4 hp4 r5 hp5 Ds De m hm1 hm2 hm4 hm5 z0 z1 z2 y0 y1 y2 hA lh its n hih oc5 q5 g K5 X4 T4 lw itw nw hiw hret h5 oc6 F5 q6 NN hPm hPw hPs hPe hmh hmw N9 tk5
  have hS3 : ∀ P ∈ soundP [r0, r1, r2] [r3, r4, r5], Perm3 P := fun P hP => sound_perm hP
  have hS6 := sound_length [r0, r1, r2] [r3, r4, r5]
  have hSt := turned_perm_all hS3
  have hNN : ∀ p ∈ NN, p ∈ (L + 1 + 1 + 1, oc6) :: (L + 1 + 1, oc5) :: NN := fun p hp => List.Mem.tail _ (List.Mem.tail _ hp)
  w_strict (walk_at "mine upto call")
  refine' Does.use (least_does (R := [r0, r1, r2]) (S := soundP [r0, r1, r2] [r3, r4, r5]) hA.some (by omega) hS3) ?k1 ?k2 ?k3 ?k4 ?k5 ?k6 ?k7 ?k8 ?k9 ?_
  (case k1 => k_asm)
  (case k2 => k_asm)
  (case k3 => k_asm)
  (case k4 => k_asm)
  (case k5 => k_asm)
  (case k6 => first | exact rfl | assumption)
  (case k7 => ktr_room)
  (case k8 => ktr_units)
  (case k9 => exact ⟨Rows3.of_plansIn (News.sub N9 hNN) hPm hp0 hp1 hp2, hPs.at (News.sub N9 hNN)⟩)
  intro r h6 tk6 G6 hR1 F6 N6
  refine hideG ?_
  intro gk
  obtain ⟨d0, d1, d2, ⟨l6, its6, n6, hE2, hn6, ho6, hi6⟩, e0, e1, e2⟩ := hR1
  k_unfold
  clear gk
  subst hE2
  have N7 := news_add F5 N6 hn6 ho6
  w_strict (walk_at "mine upto cmp")
  refine' ne_lo (vs := itw.toList) (us := its6.toList) ?sa ?sb hiw hi6 ?su ?_
  (case sa => exact LO.news N7 (List.Mem.tail _ (hNN _ hmw)))
  (case sb => exact LO.news N7 (List.Mem.head _))
  (case su => ktr_units)
  rw [hA.ly d0 d1 d2 e0 e1 e2]
  simp only [decide_true, Bool.not_true]
  clear F5 N6 N9 hn6 ho6 G6 e0 e1 e2
  have hp := hA.py
  w_strict (walk_at "mine upto call")
  refine' Does.useInts (turned_does hiw hp.small (hp.mem (by decide) (by decide)) (hp.mem (by decide) (by decide)) (hp.mem (by decide) (by decide))) ?k1 ?k2 ?k3 ?k4 ?k5 ?k6 ?k7 ?k8 ?k9 ?_
  (case k1 => k_asm)
  (case k2 => k_asm)
  (case k3 => k_asm)
  (case k4 => k_asm)
  (case k5 => k_asm)
  (case k6 => first | exact rfl | assumption)
  (case k7 => ktr_room)
  (case k8 => ktr_units)
  (case k9 => exact LO.news N7 (List.Mem.tail _ (hNN _ hmw)))
  intro l7 its7 n7 h7 tk7 hi7 F7 N8 off7
  w_strict (walk_at "mine upto call")
  refine' Does.use (dearest_does (R := [r3, r4, r5]) (S := (soundP [r0, r1, r2] [r3, r4, r5]).map turnedP) (by simpa using hA.some) (by rw [List.length_map]; omega) hSt) ?k1 ?k2 ?k3 ?k4 ?k5 ?k6 ?k7 ?k8 ?k9 ?_
  (case k1 => k_asm)
  (case k2 => k_asm)
  (case k3 => k_asm)
  (case k4 => exact N8)
  (case k5 => k_asm)
  (case k6 => first | exact rfl | assumption)
  (case k7 => ktr_room)
  (case k8 => ktr_units)
  (case k9 =>
    have hN : News g L h7 NN := News.sub N8 (fun p hp => List.Mem.tail _ (List.Mem.tail _ (hNN p hp)))
    exact ⟨Rows3.of_plansIn hN hPw hp3 hp4 hp5, hPe.at hN⟩)
  intro r h8 tk8 G8 hR3 F8 N9
  refine hideG ?_
  intro gk
  obtain ⟨d3, d4, d5, ⟨l8, its8, n8, hE4, hn8, ho8, hi8⟩, e0, e1, e2⟩ := hR3
  k_unfold
  clear gk
  subst hE4
  have N10 := news_add F7 N9 hn8 ho8
  w_strict (walk_at "mine upto cmp")
  refine' ne_lo (vs := its7.toList) (us := its8.toList) ?sa ?sb hi7 hi8 ?su ?_
  (case sa => exact LO.news N10 (List.Mem.tail _ (List.Mem.head _)))
  (case sb => exact LO.news N10 (List.Mem.head _))
  (case su => ktr_units)
  rw [hA.dy d3 d4 d5 e0 e1 e2]
  simp only [decide_true, Bool.not_true]
  clear hn8 ho8 G8 e0 e1 e2 N8 F7 N7 F6
  have N11 : News g L h8 ((L + 1 + 1 + 1, oc6) :: (L + 1 + 1, oc5) :: NN) := News.sub N9 (fun p hp => List.Mem.tail _ (List.Mem.tail _ hp))
  clear N9 N10
  w_strict (walk_at "mine upto asg")
  dsimp only
  have hq6 : ∀ p ∈ NN, p = p := fun _ _ => rfl
  clear hq6 hS3 hS6 hSt hNN hi8 off7 hi7 hi6 hp l8 its8 n8 l7 its7 n7 l6 its6 n6 h7 tk7 h6 tk6 h5 tk5 d0 d1 d2 d3 d4 d5 hPm hPw hPe hm1 hm2 hm5
  revert w mean mg mb fa w10 oc6 oc5 Q E L h₀ g gs dr os r0 r1 r2 r3 r4 r5 z0 z1 z2 y0 y1 y2 Ds lh its n lw itw nw NN m h8 tk8
  exact hh.get

end
section -- L13
theorem fill31 : PySem.Challenge.rw_qh0043_01 = PySem.Challenge.rw_qh0043_01 ∧ hd.heap_39 = hd.heap_39 := by k_fill; exact ⟨rfl, rfl⟩
local macro_rules | `(tactic| walk_at "mine upto sub") => `(tactic| repeat' ((fail_if_success (with_reducible show wpAny _ _ (subscriptTail _ _ _ _) _ _ _)); first | (k_unfold; (try dsimp only)) | (walk_at "mine first") | (dsimp only [List.cons_append, List.nil_append, Int.reduceAdd, Int.reduceSub]; walk1) | walk1 | (leave1; walk_say "STEP leave1"; try dsimp only)))
local macro_rules | `(tactic| walk_at "mine first") => `(tactic| ((with_reducible show wpAny _ _ (eval (Expr.Name _ _) (envOfC _ _ _ _ _)) _ _ _); k_dflt (first | (refine' ldLoc ?F ?v ?_ ?ka ?kb; (case ka => rfl); (case kb => rfl); (case F => k_asm); (case v => walk_at "mine name"); k_whole) | (refine' ldCN ?N ?c ?m ?d ?_ ?ka ?kb; (case ka => rfl); (case kb => rfl); (case N => k_asm); (case c => rfl); (case m => k_mem); (case d => k_asm); k_whole))))
local macro_rules | `(tactic| walk_at "mine first") => `(tactic| ((with_reducible show wpAny _ _ (eval (Expr.Name _ _) (compEnvC _ _ _ _)) _ _ _); k_dflt (first
  | (refine' LCgL.ld_own ?N ?m ?c ?x ?_ ?a ?b; (case a => rfl); (case b => rfl); (case N => k_asm); (case m => exact List.Mem.tail _ (List.Mem.head _)); (case c => assumption); (case x => assumption))
  | (refine' lcf_cell ?N ?c ?m ?d ?_ ?a ?b; (case a => rfl); (case b => rfl); (case N => k_asm); (case c => rfl); (case m => assumption); (case d => k_asm); k_whole))))
noncomputable def c13 : (P : Prop) ×' (Box P → c12.1) := by
  refine ⟨?P, fun hh => ?_⟩
  rotate_left
  w_on
  unfold c12
  show ∀ _, _
  intro w mg mb fa w10 Q E L h₀ KX gs dr os mean T2 r0 hp0 r1 hp1 r2 hp2 r3 hp3 r4 hp4 r5 hp5 Ds m hm4 z0 z1 z2 y0 y1 y2 hA lh its n hih oc5 q5 g K5 X4 T4 lw itw nw hiw hret oc6 q6 NN hPs hmh hmw h8 tk8 F8 N11
  w_strict (walk_at "mine upto comp")
  rename_i F9 N9 h9 tk9 t1 u1 v1 hr9 F10 N10 G9
  refine' LCg.CompSrc.range rfl F10 N10 hr9 ?sm ?n ?z (fun g2 => ?_)
  (case sm => first | decide | rfl)
  (case n => first | rfl | decide)
  (case z => exact Nat.le_of_ble_eq_true rfl)
  clear F10 N10 hr9 G9 F9 N9
  refine comp_inv (fun j ys news => ∃ T, news = T ++ ((L + 1 + 1 + 1, oc6) :: (L + 1 + 1, oc5) :: NN) ∧ All2 (RowIn T) ys ([[z0, 0], [z1, 1], [z2, 2]].take j)) ?_ ?_ ⟨[], rfl, .nil⟩
  · intro j v ys news I oI C oC D m₂ h tk E' hj hR1 hR2 hC hx F1 N1 off ne Z hZ
    refine hideG ?_
    intro gk
    obtain ⟨t, hE3⟩ := hR1
    obtain ⟨T, hE4, hys⟩ := hR2
    k_unfold
    clear gk
    subst hE3
    subst hE4
    have mc : (L + 1 + 1, oc5) ∈ (I, oI) :: (C, oC) :: (D, LCg.lst ys) :: (T ++ ((L + 1 + 1 + 1, oc6) :: (L + 1 + 1, oc5) :: NN)) := List.Mem.tail _ (List.Mem.tail _ (List.Mem.tail _ (List.mem_append_right _ (List.Mem.tail _ (List.Mem.head _)))))
    have hlh := LO.news N1 (List.Mem.tail _ (List.Mem.tail _ (List.Mem.tail _ (List.mem_append_right _ (List.Mem.tail _ (List.Mem.tail _ hmh))))))
    w_strict (walk_at "mine upto sub")
    have hj3 : j < 3 := hj
    refine' item_small (vs := its.toList) (ns := [z0, z1, z2]) hlh hih ?sz ?h0 ?h1 ?sa ?sb ?_
    (case sz => exact Nat.le_of_ble_eq_true rfl)
    (case h0 => omega)
    (case h1 => simp only [List.length_cons, List.length_nil]; omega)
    (case sa => with_unfolding_all rfl)
    (case sb => intro _; with_unfolding_all rfl)
    intro t9
    w_strict (walk_at "mine steps")
    rename_i l9 h10 F10 N10 lt10
    refine hZ _ _ _ _ (((l9, W.listOf #[Value.int ([z0, z1, z2].getD (0 + (j : Int)).toNat 0) t9, Value.int (0 + (j : Int)) t] 0) :: T) ++ ((L + 1 + 1 + 1, oc6) :: (L + 1 + 1, oc5) :: NN)) F10 N10 ?_ ?_ trivial ⟨_ :: T, rfl, ?_⟩
    · intro p hp
      rcases List.mem_cons.mp hp with rfl | hp
      · exact List.Mem.tail _ (List.Mem.head _)
      rcases List.mem_cons.mp hp with rfl | hp
      · exact List.Mem.tail _ (List.Mem.tail _ (List.Mem.head _))
      rcases List.mem_cons.mp hp with rfl | hp
      · exact List.Mem.tail _ (List.Mem.tail _ (List.Mem.tail _ (List.Mem.head _)))
      rcases List.mem_cons.mp hp with rfl | hp
      · exact List.Mem.head _
      · exact List.Mem.tail _ (List.Mem.tail _ (List.Mem.tail _ (List.Mem.tail _ hp)))
    · exact ⟨⟨Nat.ne_of_gt lt10.1, Nat.ne_of_gt lt10.2.1, Nat.ne_of_gt lt10.2.2.1⟩, off⟩
    · have hPj : [[z0, 0], [z1, 1], [z2, 2]][j]? = some [[z0, z1, z2].getD (0 + (j : Int)).toNat 0, 0 + (j : Int)] := by
        match j, hj3 with
        | 0, _ => rfl
        | 1, _ => rfl
        | 2, _ => rfl
      rw [List.take_add_one, hPj]
      exact All2.snoc (All2.mono (fun v P ⟨a, va, n, e, hm, hi⟩ => ⟨a, va, n, e, List.Mem.tail _ hm, hi⟩) hys) ⟨l9, [_, _], 0, rfl, List.Mem.head _, .cons _ _ (.cons _ _ .nil)⟩
  · intro ys news hR5
    refine hideG ?_
    intro gk
    obtain ⟨T, hE6, hys⟩ := hR5
    k_unfold
    clear gk
    subst hE6
    intro De h tk F1 N1 off
    dsimp only
    obtain ⟨NN', hPs', hPe, hmw', N9⟩ : ∃ NN', PlansIn NN' Ds (soundP [r0, r1, r2] [r3, r4, r5]) ∧ PlansIn NN' De [[z0, 0], [z1, 1], [z2, 2]] ∧ (lw, W.listOf itw nw) ∈ NN' ∧ News g L h ((L + 1 + 1 + 1, oc6) :: NN') := by
      have m1 : ∀ q ∈ NN, q ∈ (De, LCg.lst ys) :: (T ++ NN) := fun q hq => List.Mem.tail _ (List.mem_append_right _ hq)
      refine ⟨(De, LCg.lst ys) :: (T ++ NN), hPs.sub m1, ⟨ys, ys.length, List.Mem.head _, All2.mono (fun v P ⟨a, va, n, e, hm, hi⟩ => ⟨a, va, n, e, List.Mem.tail _ (List.mem_append_left _ hm), hi⟩) hys⟩, m1 _ hmw, News.sub N1 ?_⟩
      intro p hp
      rcases List.mem_cons.mp hp with rfl | hp
      · exact List.Mem.tail _ (List.mem_append_right _ (List.Mem.head _))
      rcases List.mem_cons.mp hp with rfl | hp
      · exact List.Mem.head _
      rcases List.mem_append.mp hp with hp | hp
      · exact List.Mem.tail _ (List.mem_append_left _ hp)
      · exact List.Mem.tail _ (List.mem_append_right _ (List.Mem.tail _ (List.Mem.tail _ hp)))
    obtain ⟨m', F9, hm4', hm6⟩ : ∃ m', Fr g L h m' ∧ m' (Str.ofString "sound") = some (.ref Ds) ∧ m' (Str.ofString "early") = some (.ref De) := ⟨_, F1, (if_neg (by decide)).trans hm4, if_pos rfl⟩
    refine any_tk (fun tk12 => ?_)
    clear F1 N1 off hys T ys hm4 m hPs hmw hmh q5 oc5 hih lh its n NN tk g2 h8 tk8 h9 tk9 t1 u1 v1
    revert w mean mg mb fa w10 oc6 Q E L h₀ g gs dr os r0 r1 r2 r3 r4 r5 z0 z1 z2 y0 y1 y2 Ds De lw itw nw NN' m' h tk12
    exact hh.get

end
section -- L14
theorem fill32 : PySem.Challenge.rw_qh0043_01 = PySem.Challenge.rw_qh0043_01 ∧ hd.heap_39 = hd.heap_39 := by k_fill; exact ⟨rfl, rfl⟩
local macro_rules | `(tactic| walk_at "mine upto cmpb") => `(tactic| repeat' ((fail_if_success (with_reducible show wpAny _ _ (compareOp CmpOp.Eq (Value.bool _) (Value.bool _)) _ _ _)); first | (k_unfold; (try dsimp only)) | (walk_at "mine first") | (dsimp only [List.cons_append, List.nil_append, Int.reduceAdd, Int.reduceSub]; walk1) | walk1 | (leave1; walk_say "STEP leave1"; try dsimp only)))
local macro_rules | `(tactic| walk_at "mine upto sub") => `(tactic| repeat' ((fail_if_success (with_reducible show wpAny _ _ (subscriptTail _ _ _ _) _ _ _)); first | (k_unfold; (try dsimp only)) | (walk_at "mine first") | (dsimp only [List.cons_append, List.nil_append, Int.reduceAdd, Int.reduceSub]; walk1) | walk1 | (leave1; walk_say "STEP leave1"; try dsimp only)))
local macro_rules | `(tactic| walk_at "mine first") => `(tactic| ((with_reducible show wpAny _ _ (eval (Expr.Name _ _) (envOfC _ _ _ _ _)) _ _ _); k_dflt (first | (refine' ldLoc ?F ?v ?_ ?ka ?kb; (case ka => rfl); (case kb => rfl); (case F => k_asm); (case v => walk_at "mine name"); k_whole) | (refine' ldCN ?N ?c ?m ?d ?_ ?ka ?kb; (case ka => rfl); (case kb => rfl); (case N => k_asm); (case c => rfl); (case m => k_mem); (case d => k_asm); k_whole))))
local macro_rules | `(tactic| walk_at "mine first") => `(tactic| ((with_reducible show wpAny _ _ (eval (Expr.Name _ _) (compEnvC _ _ _ _)) _ _ _); k_dflt (first
  | (refine' LCgL.ld_own ?N ?m ?c ?x ?_ ?a ?b; (case a => rfl); (case b => rfl); (case N => k_asm); (case m => exact List.Mem.tail _ (List.Mem.head _)); (case c => assumption); (case x => assumption))
  | (refine' lcf_cell ?N ?c ?m ?d ?_ ?a ?b; (case a => rfl); (case b => rfl); (case N => k_asm); (case c => rfl); (case m => assumption); (case d => k_asm); k_whole))))
theorem c14 : c13.1 := by
  w_on
  unfold c13
  show ∀ _, _
  intro w mg mb fa w10 Q E L h₀ KX gs dr os mean T2 r0 hp0 r1 hp1 r2 hp2 r3 hp3 r4 hp4 r5 hp5 Ds z0 z1 z2 y0 y1 y2 hA g K5 X4 T4 lw itw nw hiw hret oc6 q6 De h8 NN hPs hPe hmw N8 m F8 hm4 hm6 tk8
  w_strict (walk_at "mine upto comp")
  rename_i F9 N9 h9 tk9 t1 u1 v1 hr9 F10 N10 G9
  refine' LCg.CompSrc.range rfl F10 N10 hr9 ?sm ?n ?z (fun g2 => ?_)
  (case sm => first | decide | rfl)
  (case n => first | rfl | decide)
  (case z => exact Nat.le_of_ble_eq_true rfl)
  clear F10 N10 hr9 G9 F9 N9
  refine comp_inv (fun j ys news => ∃ T, news = T ++ ((L + 1 + 1 + 1, oc6) :: NN) ∧ All2 (RowIn T) ys ([[0, y0], [1, y1], [2, y2]].take j)) ?_ ?_ ⟨[], rfl, .nil⟩
  · intro j v ys news I oI C oC D m₂ h tk E' hj hR1 hR2 hC hx F1 N1 off ne Z hZ
    refine hideG ?_
    intro gk
    obtain ⟨t, hE3⟩ := hR1
    obtain ⟨T, hE4, hys⟩ := hR2
    k_unfold
    clear gk
    subst hE3
    subst hE4
    have mc : (L + 1 + 1 + 1, oc6) ∈ (I, oI) :: (C, oC) :: (D, LCg.lst ys) :: (T ++ ((L + 1 + 1 + 1, oc6) :: NN)) := List.Mem.tail _ (List.Mem.tail _ (List.Mem.tail _ (List.mem_append_right _ (List.Mem.head _))))
    have hlh := LO.news N1 (List.Mem.tail _ (List.Mem.tail _ (List.Mem.tail _ (List.mem_append_right _ (List.Mem.tail _ hmw)))))
    w_strict (walk_at "mine upto sub")
    have hj3 : j < 3 := hj
    refine' item_small (vs := itw.toList) (ns := [y0, y1, y2]) hlh hiw ?sz ?h0 ?h1 ?sa ?sb ?_
    (case sz => exact Nat.le_of_ble_eq_true rfl)
    (case h0 => omega)
    (case h1 => simp only [List.length_cons, List.length_nil]; omega)
    (case sa => with_unfolding_all rfl)
    (case sb => intro _; with_unfolding_all rfl)
    intro t9
    w_strict (walk_at "mine steps")
    rename_i l9 h10 F10 N10 lt10
    refine hZ _ _ _ _ (((l9, W.listOf #[Value.int (0 + (j : Int)) t, Value.int ([y0, y1, y2].getD (0 + (j : Int)).toNat 0) t9] 0) :: T) ++ ((L + 1 + 1 + 1, oc6) :: NN)) F10 N10 ?_ ?_ trivial ⟨_ :: T, rfl, ?_⟩
    · intro p hp
      rcases List.mem_cons.mp hp with rfl | hp
      · exact List.Mem.tail _ (List.Mem.head _)
      rcases List.mem_cons.mp hp with rfl | hp
      · exact List.Mem.tail _ (List.Mem.tail _ (List.Mem.head _))
      rcases List.mem_cons.mp hp with rfl | hp
      · exact List.Mem.tail _ (List.Mem.tail _ (List.Mem.tail _ (List.Mem.head _)))
      rcases List.mem_cons.mp hp with rfl | hp
      · exact List.Mem.head _
      · exact List.Mem.tail _ (List.Mem.tail _ (List.Mem.tail _ (List.Mem.tail _ hp)))
    · exact ⟨⟨Nat.ne_of_gt lt10.1, Nat.ne_of_gt lt10.2.1, Nat.ne_of_gt lt10.2.2.1⟩, off⟩
    · have hPj : [[0, y0], [1, y1], [2, y2]][j]? = some [0 + (j : Int), [y0, y1, y2].getD (0 + (j : Int)).toNat 0] := by
        match j, hj3 with
        | 0, _ => rfl
        | 1, _ => rfl
        | 2, _ => rfl
      rw [List.take_add_one, hPj]
      exact All2.snoc (All2.mono (fun v P ⟨a, va, n, e, hm, hi⟩ => ⟨a, va, n, e, List.Mem.tail _ hm, hi⟩) hys) ⟨l9, [_, _], 0, rfl, List.Mem.head _, .cons _ _ (.cons _ _ .nil)⟩
  · intro ys news hR5
    refine hideG ?_
    intro gk
    obtain ⟨T, hE6, hys⟩ := hR5
    k_unfold
    clear gk
    subst hE6
    intro Dl h tk F1 N1 off
    dsimp only
    obtain ⟨NN', hPs', hPe', hPl, N9⟩ : ∃ NN', PlansIn NN' Ds (soundP [r0, r1, r2] [r3, r4, r5]) ∧ PlansIn NN' De [[z0, 0], [z1, 1], [z2, 2]] ∧ PlansIn NN' Dl [[0, y0], [1, y1], [2, y2]] ∧ News g L h NN' := by
      have m1 : ∀ q ∈ NN, q ∈ (Dl, LCg.lst ys) :: (T ++ NN) := fun q hq => List.Mem.tail _ (List.mem_append_right _ hq)
      refine ⟨(Dl, LCg.lst ys) :: (T ++ NN), hPs.sub m1, hPe.sub m1, ⟨ys, ys.length, List.Mem.head _, All2.mono (fun v P ⟨a, va, n, e, hm, hi⟩ => ⟨a, va, n, e, List.Mem.tail _ (List.mem_append_left _ hm), hi⟩) hys⟩, News.sub N1 ?_⟩
      intro p hp
      rcases List.mem_cons.mp hp with rfl | hp
      · exact List.Mem.head _
      rcases List.mem_append.mp hp with hp | hp
      · exact List.Mem.tail _ (List.mem_append_left _ hp)
      · exact List.Mem.tail _ (List.mem_append_right _ (List.Mem.tail _ hp))
    obtain ⟨m', F9, hm4', hm6', hm7⟩ : ∃ m', Fr g L h m' ∧ m' (Str.ofString "sound") = some (.ref Ds) ∧ m' (Str.ofString "early") = some (.ref De) ∧ m' (Str.ofString "late") = some (.ref Dl) := ⟨_, F1, (if_neg (by decide)).trans hm4, (if_neg (by decide)).trans hm6, if_pos rfl⟩
    refine any_tk (fun tk12 => ?_)
    clear F1 N1 off hys T ys hm4 hm6 m hPs hPe hmw q6 oc6 hiw lw itw nw NN tk g2 h8 tk8 h9 tk9 t1 u1 v1
    refine hideG ?_
    intro gk
    obtain ⟨ve, lo1, al1⟩ := hPe'.at N9
    k_unfold
    clear gk
    refine hideG ?_
    intro gk
    obtain ⟨vl, lo2, al2⟩ := hPl.at N9
    k_unfold
    clear gk
    w_strict (walk_at "mine upto call")
    refine' DoesT.use (compare_does (vs := ve) (us := vl) (Ps := [[z0, 0], [z1, 1], [z2, 2]]) (Ts := [[0, y0], [1, y1], [2, y2]]) (by simp) (by simp) rfl rfl) K5 F9 X4 T4 KX T2 ?k6 ?k7 ?k8 (fun _ hp => nomatch hp) ⟨⟨lo1, al1⟩, ⟨lo2, al2⟩⟩ ?_
    (case k6 => first | exact rfl | assumption)
    (case k7 => ktr_room)
    (case k8 => ktr_units)
    rintro r h4 tk4 g2 all TT F4 B4 X5 T5 N4 kp rfl
    have N5 : News g2 L h4 NN' := kp _ N9 (fun _ _ h => nomatch h)
    have hret' : ∀ h' tk' L m', Fr g2 L h' m' → Q (Flow.ret (Value.bool true)) { heap := h', gens := gs, drawn := dr, toks := tk', os := os } := fun h' tk' L m' F => hret h' tk' L m' ⟨F.ns, fun b o e => F.keep b o (TT.other b o e (fun q => nomatch q)), by rw [← TT.size]; exact F.above⟩
    refine hideG ?_
    intro gk
    obtain ⟨vS, nS, hmS, hAll⟩ := hPs'
    k_unfold
    clear gk
    clear hret N4 kp TT all F9 N9 lo1 lo2 al1 al2 hPe' hPl hm6' hm7 K5 X4 T4 
    rw [hA.one]
    dsimp only
    w_strict (walk_at "mine steps")
    have hsz : vS.toArray.size = (soundP [r0, r1, r2] [r3, r4, r5]).length := by rw [List.size_toArray, hAll.length]
    have hS6 := sound_length [r0, r1, r2] [r3, r4, r5]
    refine len_list (News.isList N5 hmS) (by rw [hsz]; omega) ?_
    rw [hsz]
    w_strict (walk_at "mine upto cmpb")
    have e1 : ((soundP [r0, r1, r2] [r3, r4, r5]).length == 1) = (((soundP [r0, r1, r2] [r3, r4, r5]).length : Int) == 1) := by
      rw [Bool.eq_iff_iff, beq_iff_eq, beq_iff_eq]
      omega
    rw [e1]
    refine PySem.EqBoolInt.of_rc (SeqAt.RcAt.bool_bool _ _) ?_
    rw [beq_self_eq_true]
    exact hret' _ _ _ _ F4

end
section -- LZ
theorem s12 : c12.1 := PSigma.snd c13 (Box.mk c14)
theorem s11 : c11.1 := PSigma.snd c12 (Box.mk s12)
theorem s10 : c10.1 := PSigma.snd c11 (Box.mk s11)
theorem s9 : c9.1 := PSigma.snd c10 (Box.mk s10)
theorem s8 : c8.1 := PSigma.snd c9 (Box.mk s9)
theorem s7 : c7.1 := PSigma.snd c8 plain_law (Box.mk s8)
theorem s6 : c6.1 := PSigma.snd c7 (Box.mk s7)
theorem s5 : c5.1 := PSigma.snd c6 (Box.mk s6)
theorem s4 : c4.1 := PSigma.snd c5 (Box.mk s5)
theorem s3 : c3.1 := PSigma.snd c4 (Box.mk s4)
theorem s2 : c2.1 := PSigma.snd c3 (Box.mk s3)
theorem s1 : c1.1 := PSigma.snd c2 (Box.mk s2)
theorem law_all : PySem.Challenge.rw_qh0043_01.Holds := PSigma.snd c1 s1

end
end Mine
set_option maxRecDepth 100000 in
set_option maxHeartbeats 8000000 in
theorem PySem.Challenge.cw_qh0043_01_holds : PySem.Challenge.rw_qh0043_01.Holds := by
  exact Mine.law_all
