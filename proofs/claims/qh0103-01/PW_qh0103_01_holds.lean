import PyProof.Rows.All
import Wide.All
import OpenK.AllK
import PySem.Challenge.RW_qh0103_01
set_option Elab.async false
set_option autoImplicit false
set_option linter.unusedSectionVars false
set_option linter.unusedVariables false
set_option linter.unusedSimpArgs false
set_option maxRecDepth 100000
set_option genSizeOf false
set_option genInjectivity false
section
open PySem PySem.W PyProof.Rows
namespace Mine
noncomputable def stm0 : PySem.Stmt := .Pass ⟨0, 0, 0, 0⟩
noncomputable def topS (i : Nat) : PySem.Stmt := (PySem.Challenge.pw_qh0103_01.main.body[i]?).getD stm0
noncomputable def inS (i j : Nat) : PySem.Stmt := match topS i with
 | .ClassDef _ _ _ b _ _ _ _ _ _ _ => (b[j]?).getD stm0
 | s => s
noncomputable def fnData (st : PySem.Stmt) (qual : Str) (dV kV pm cd : Value) : FuncData := match st with
 | .FunctionDef n a b _ _ _ sc _ _ _ => fnOf n qual a b sc dV kV .none pm none cd .none
 | _ => default
noncomputable def fnObj (fd : FuncData) : Obj := { cls := .type "function", data := .func fd }
noncomputable def fd0 : FuncData := fnData (topS 5) (Str.ofString "_bytes_from_decode_data") Value.none Value.none (Value.str (Str.ofString "cpy313.base64") 289) (Value.ref 50)
noncomputable def fd1 : FuncData := fnData (topS 8) (Str.ofString "_ascii_buffer") Value.none Value.none (Value.str (Str.ofString "binascii") 329) (Value.ref 70)
noncomputable def fd2 : FuncData := fnData (topS 9) (Str.ofString "_buffer") Value.none Value.none (Value.str (Str.ofString "binascii") 329) (Value.ref 77)
noncomputable def fd3 : FuncData := fnData (topS 10) (Str.ofString "_truth") Value.none Value.none (Value.str (Str.ofString "binascii") 329) (Value.ref 84)
noncomputable def fd4 : FuncData := fnData (topS 12) (Str.ofString "_b64_value") Value.none Value.none (Value.str (Str.ofString "binascii") 329) (Value.ref 91)
noncomputable def fd5 : FuncData := fnData (topS 13) (Str.ofString "a2b_base64") Value.none (Value.ref 93) (Value.str (Str.ofString "binascii") 329) (Value.ref 99)
noncomputable def fd6 : FuncData := fnData (topS 14) (Str.ofString "b2a_base64") Value.none (Value.ref 101) (Value.str (Str.ofString "binascii") 329) (Value.ref 107)
noncomputable def fd7 : FuncData := fnData (topS 16) (Str.ofString "b2a_hex") (Value.ref 110) Value.none (Value.str (Str.ofString "binascii") 329) (Value.ref 116)
noncomputable def fd8 : FuncData := fnData (topS 18) (Str.ofString "_hex_value") Value.none Value.none (Value.str (Str.ofString "binascii") 329) (Value.ref 123)
noncomputable def fd9 : FuncData := fnData (topS 19) (Str.ofString "a2b_hex") Value.none Value.none (Value.str (Str.ofString "binascii") 329) (Value.ref 130)
noncomputable def fd10 : FuncData := fnData (topS 22) (Str.ofString "b64encode") (Value.ref 132) Value.none (Value.str (Str.ofString "cpy313.base64") 446) (Value.ref 138)
noncomputable def fd11 : FuncData := fnData (topS 23) (Str.ofString "b64decode") (Value.ref 140) Value.none (Value.str (Str.ofString "cpy313.base64") 446) (Value.ref 146)
noncomputable def fd12 : FuncData := fnData (topS 24) (Str.ofString "b16encode") Value.none Value.none (Value.str (Str.ofString "cpy313.base64") 446) (Value.ref 153)
noncomputable def fd13 : FuncData := fnData (topS 25) (Str.ofString "b16decode") (Value.ref 155) Value.none (Value.str (Str.ofString "cpy313.base64") 446) (Value.ref 161)
noncomputable def fd14 : FuncData := fnData (topS 33) (Str.ofString "_law_two") Value.none Value.none (Value.str (Str.ofString "law_qh0103_01") 663) (Value.ref 286)
noncomputable def fd15 : FuncData := fnData (topS 34) (Str.ofString "_law_order") Value.none Value.none (Value.str (Str.ofString "law_qh0103_01") 663) (Value.ref 293)
noncomputable def fd16 : FuncData := fnData (topS 35) (Str.ofString "_law_signs") Value.none Value.none (Value.str (Str.ofString "law_qh0103_01") 663) (Value.ref 298)
noncomputable def fd17 : FuncData := fnData (topS 36) (Str.ofString "_law_sorter") Value.none Value.none (Value.str (Str.ofString "law_qh0103_01") 663) (Value.ref 305)
noncomputable def fd18 : FuncData := fnData (topS 37) (Str.ofString "_law_fill") Value.none Value.none (Value.str (Str.ofString "law_qh0103_01") 663) (Value.ref 310)
noncomputable def fd19 : FuncData := fnData (topS 38) (Str.ofString "_law_view") Value.none Value.none (Value.str (Str.ofString "law_qh0103_01") 663) (Value.ref 315)
noncomputable def fd20 : FuncData := fnData (topS 39) (Str.ofString "_law_run") Value.none Value.none (Value.str (Str.ofString "law_qh0103_01") 663) (Value.ref 320)
noncomputable def fd21 : FuncData := fnData (topS 40) (Str.ofString "law") Value.none Value.none (Value.str (Str.ofString "law_qh0103_01") 663) (Value.ref 325)
noncomputable def fd100 : FuncData := fnData (inS 31 0) (Str.ofString "TopologicalSorter.__init__") (Value.ref 207) Value.none (Value.str (Str.ofString "cpy313.graphlib") 481) (Value.ref 213)
noncomputable def fd101 : FuncData := fnData (inS 29 1) (Str.ofString "_NodeInfo.__init__") Value.none Value.none (Value.str (Str.ofString "cpy313.graphlib") 481) (Value.ref 176)
noncomputable def fd102 : FuncData := fnData (inS 31 1) (Str.ofString "TopologicalSorter._get_nodeinfo") Value.none Value.none (Value.str (Str.ofString "cpy313.graphlib") 481) (Value.ref 220)
noncomputable def fd103 : FuncData := fnData (inS 31 2) (Str.ofString "TopologicalSorter.add") Value.none Value.none (Value.str (Str.ofString "cpy313.graphlib") 481) (Value.ref 227)
noncomputable def fd104 : FuncData := fnData (inS 31 3) (Str.ofString "TopologicalSorter.prepare") Value.none Value.none (Value.str (Str.ofString "cpy313.graphlib") 481) (Value.ref 232)
noncomputable def fd105 : FuncData := fnData (inS 31 4) (Str.ofString "TopologicalSorter.get_ready") Value.none Value.none (Value.str (Str.ofString "cpy313.graphlib") 481) (Value.ref 239)
noncomputable def fd106 : FuncData := fnData (inS 31 5) (Str.ofString "TopologicalSorter.is_active") Value.none Value.none (Value.str (Str.ofString "cpy313.graphlib") 481) (Value.ref 246)
noncomputable def fd107 : FuncData := fnData (inS 31 7) (Str.ofString "TopologicalSorter.done") Value.none Value.none (Value.str (Str.ofString "cpy313.graphlib") 481) (Value.ref 260)
noncomputable def fd108 : FuncData := fnData (inS 31 8) (Str.ofString "TopologicalSorter._find_cycle") Value.none Value.none (Value.str (Str.ofString "cpy313.graphlib") 481) (Value.ref 267)
noncomputable def K (P : Params) : Frag := [
 (42, { cls := Value.type "tuple", data := Data.seq #[Value.int 14 0, Value.int 12 0, Value.int 4 0, Value.int 1 0, Value.int 1 0, Value.int 21 0, Value.int 22 0, Value.int 48 0, Value.int 57 0, Value.int 22 0, Value.int 65 0, Value.int 70 0, Value.int 0 0, Value.int 13 0, Value.int 9 0, Value.int 21 0, Value.int 22 0, Value.int 48 0, Value.int 57 0, Value.int 22 0, Value.int 65 0, Value.int 70 0, Value.int 0 0, Value.int 1 0] }),
 (43, { cls := Value.type "re.Pattern", data := Data.fields #[Value.bytes #[91, 94, 48, 45, 57, 65, 45, 70, 93] 292, Value.int 0 319, Value.int 0 0, Value.none, Value.none, Value.ref 42, Value.int 1 0] }),
 (44, { cls := Value.type "tuple", data := Data.seq #[Value.type "bytes", Value.type "bytearray"] }),
 (50, { cls := Value.type "code", data := Data.fields #[Value.str (Str.ofString "_bytes_from_decode_data") 322, Value.str (Str.ofString "_bytes_from_decode_data") 323, Value.str (Str.ofString "/claim/cut.py") 324, Value.int 8 0, Value.int 1 0, Value.int 0 0, Value.int 0 0, Value.int 3 0, Value.ref 45, Value.bool true, Value.int 276 0, Value.ref 46, Value.none, Value.ref 47, Value.ref 48, Value.ref 49, Value.int 326 0, Value.int 8 0, Value.str (Str.ofString "/claim/cut.py") 327] }),
 (51, fnObj fd0),
 (70, { cls := Value.type "code", data := Data.fields #[Value.str (Str.ofString "_ascii_buffer") 349, Value.str (Str.ofString "_ascii_buffer") 350, Value.str (Str.ofString "/claim/cut.py") 351, Value.int 23 0, Value.int 1 0, Value.int 0 0, Value.int 0 0, Value.int 3 0, Value.ref 65, Value.bool true, Value.int 276 0, Value.ref 66, Value.none, Value.ref 67, Value.ref 68, Value.ref 69, Value.int 354 0, Value.int 23 0, Value.str (Str.ofString "/claim/cut.py") 355] }),
 (71, fnObj fd1),
 (77, { cls := Value.type "code", data := Data.fields #[Value.str (Str.ofString "_buffer") 357, Value.str (Str.ofString "_buffer") 358, Value.str (Str.ofString "/claim/cut.py") 359, Value.int 34 0, Value.int 1 0, Value.int 0 0, Value.int 0 0, Value.int 3 0, Value.ref 72, Value.bool true, Value.int 276 0, Value.ref 73, Value.none, Value.ref 74, Value.ref 75, Value.ref 76, Value.int 362 0, Value.int 34 0, Value.str (Str.ofString "/claim/cut.py") 363] }),
 (78, fnObj fd2),
 (84, { cls := Value.type "code", data := Data.fields #[Value.str (Str.ofString "_truth") 365, Value.str (Str.ofString "_truth") 366, Value.str (Str.ofString "/claim/cut.py") 367, Value.int 41 0, Value.int 1 0, Value.int 0 0, Value.int 0 0, Value.int 3 0, Value.ref 79, Value.bool true, Value.int 276 0, Value.ref 80, Value.none, Value.ref 81, Value.ref 82, Value.ref 83, Value.int 370 0, Value.int 41 0, Value.str (Str.ofString "/claim/cut.py") 371] }),
 (85, fnObj fd3),
 (91, { cls := Value.type "code", data := Data.fields #[Value.str (Str.ofString "_b64_value") 375, Value.str (Str.ofString "_b64_value") 376, Value.str (Str.ofString "/claim/cut.py") 377, Value.int 47 0, Value.int 1 0, Value.int 0 0, Value.int 0 0, Value.int 3 0, Value.ref 86, Value.bool true, Value.int 276 0, Value.ref 87, Value.none, Value.ref 88, Value.ref 89, Value.ref 90, Value.int 379 0, Value.int 47 0, Value.str (Str.ofString "/claim/cut.py") 380] }),
 (92, fnObj fd4),
 (93, { cls := Value.type "dict", data := Data.dict #[{ hash := PyData.keyHash P (Str.ofString "strict_mode"), key := Value.str (Str.ofString "strict_mode") 382, val := Value.bool false }] 1 }),
 (99, { cls := Value.type "code", data := Data.fields #[Value.str (Str.ofString "a2b_base64") 383, Value.str (Str.ofString "a2b_base64") 384, Value.str (Str.ofString "/claim/cut.py") 385, Value.int 59 0, Value.int 1 0, Value.int 1 0, Value.int 1 0, Value.int 3 0, Value.ref 94, Value.bool true, Value.int 276 0, Value.ref 95, Value.none, Value.ref 96, Value.ref 97, Value.ref 98, Value.int 395 0, Value.int 59 0, Value.str (Str.ofString "/claim/cut.py") 396] }),
 (100, fnObj fd5),
 (101, { cls := Value.type "dict", data := Data.dict #[{ hash := PyData.keyHash P (Str.ofString "newline"), key := Value.str (Str.ofString "newline") 398, val := Value.bool true }] 1 }),
 (107, { cls := Value.type "code", data := Data.fields #[Value.str (Str.ofString "b2a_base64") 399, Value.str (Str.ofString "b2a_base64") 400, Value.str (Str.ofString "/claim/cut.py") 401, Value.int 113 0, Value.int 1 0, Value.int 1 0, Value.int 1 0, Value.int 3 0, Value.ref 102, Value.bool true, Value.int 276 0, Value.ref 103, Value.none, Value.ref 104, Value.ref 105, Value.ref 106, Value.int 409 0, Value.int 113 0, Value.str (Str.ofString "/claim/cut.py") 410] }),
 (108, fnObj fd6),
 (110, { cls := Value.type "tuple", data := Data.seq #[Value.ref 109, Value.int 1 413] }),
 (116, { cls := Value.type "code", data := Data.fields #[Value.str (Str.ofString "b2a_hex") 414, Value.str (Str.ofString "b2a_hex") 415, Value.str (Str.ofString "/claim/cut.py") 416, Value.int 136 0, Value.int 3 0, Value.int 0 0, Value.int 0 0, Value.int 3 0, Value.ref 111, Value.bool true, Value.int 276 0, Value.ref 112, Value.none, Value.ref 113, Value.ref 114, Value.ref 115, Value.int 421 0, Value.int 136 0, Value.str (Str.ofString "/claim/cut.py") 422] }),
 (117, fnObj fd7),
 (123, { cls := Value.type "code", data := Data.fields #[Value.str (Str.ofString "_hex_value") 425, Value.str (Str.ofString "_hex_value") 426, Value.str (Str.ofString "/claim/cut.py") 427, Value.int 153 0, Value.int 1 0, Value.int 0 0, Value.int 0 0, Value.int 3 0, Value.ref 118, Value.bool true, Value.int 276 0, Value.ref 119, Value.none, Value.ref 120, Value.ref 121, Value.ref 122, Value.int 429 0, Value.int 153 0, Value.str (Str.ofString "/claim/cut.py") 430] }),
 (124, fnObj fd8),
 (130, { cls := Value.type "code", data := Data.fields #[Value.str (Str.ofString "a2b_hex") 432, Value.str (Str.ofString "a2b_hex") 433, Value.str (Str.ofString "/claim/cut.py") 434, Value.int 161 0, Value.int 1 0, Value.int 1 0, Value.int 0 0, Value.int 3 0, Value.ref 125, Value.bool true, Value.int 276 0, Value.ref 126, Value.none, Value.ref 127, Value.ref 128, Value.ref 129, Value.int 442 0, Value.int 161 0, Value.str (Str.ofString "/claim/cut.py") 443] }),
 (131, fnObj fd9),
 (132, { cls := Value.type "tuple", data := Data.seq #[Value.none] }),
 (138, { cls := Value.type "code", data := Data.fields #[Value.str (Str.ofString "b64encode") 448, Value.str (Str.ofString "b64encode") 449, Value.str (Str.ofString "/claim/cut.py") 450, Value.int 178 0, Value.int 2 0, Value.int 0 0, Value.int 0 0, Value.int 3 0, Value.ref 133, Value.bool true, Value.int 276 0, Value.ref 134, Value.none, Value.ref 135, Value.ref 136, Value.ref 137, Value.int 454 0, Value.int 178 0, Value.str (Str.ofString "/claim/cut.py") 455] }),
 (139, fnObj fd10),
 (140, { cls := Value.type "tuple", data := Data.seq #[Value.none, Value.bool false] }),
 (146, { cls := Value.type "code", data := Data.fields #[Value.str (Str.ofString "b64decode") 457, Value.str (Str.ofString "b64decode") 458, Value.str (Str.ofString "/claim/cut.py") 459, Value.int 184 0, Value.int 3 0, Value.int 0 0, Value.int 0 0, Value.int 3 0, Value.ref 141, Value.bool true, Value.int 276 0, Value.ref 142, Value.none, Value.ref 143, Value.ref 144, Value.ref 145, Value.int 463 0, Value.int 184 0, Value.str (Str.ofString "/claim/cut.py") 464] }),
 (147, fnObj fd11),
 (153, { cls := Value.type "code", data := Data.fields #[Value.str (Str.ofString "b16encode") 466, Value.str (Str.ofString "b16encode") 467, Value.str (Str.ofString "/claim/cut.py") 468, Value.int 191 0, Value.int 1 0, Value.int 0 0, Value.int 0 0, Value.int 3 0, Value.ref 148, Value.bool true, Value.int 276 0, Value.ref 149, Value.none, Value.ref 150, Value.ref 151, Value.ref 152, Value.int 470 0, Value.int 191 0, Value.str (Str.ofString "/claim/cut.py") 471] }),
 (154, fnObj fd12),
 (155, { cls := Value.type "tuple", data := Data.seq #[Value.bool false] }),
 (161, { cls := Value.type "code", data := Data.fields #[Value.str (Str.ofString "b16decode") 473, Value.str (Str.ofString "b16decode") 474, Value.str (Str.ofString "/claim/cut.py") 475, Value.int 193 0, Value.int 2 0, Value.int 0 0, Value.int 0 0, Value.int 3 0, Value.ref 156, Value.bool true, Value.int 276 0, Value.ref 157, Value.none, Value.ref 158, Value.ref 159, Value.ref 160, Value.int 478 0, Value.int 193 0, Value.str (Str.ofString "/claim/cut.py") 479] }),
 (162, fnObj fd13),
 (176, { cls := Value.type "code", data := Data.fields #[Value.str (Str.ofString "__init__") 505, Value.str (Str.ofString "_NodeInfo.__init__") 506, Value.str (Str.ofString "/claim/cut.py") 507, Value.int 206 0, Value.int 2 0, Value.int 0 0, Value.int 0 0, Value.int 3 0, Value.ref 171, Value.bool true, Value.int 276 0, Value.ref 172, Value.none, Value.ref 173, Value.ref 174, Value.ref 175, Value.int 510 0, Value.int 206 0, Value.str (Str.ofString "/claim/cut.py") 511] }),
 (177, fnObj fd101),
 (180, { cls := Value.type "dict", data := Data.dict #[{ hash := PyData.keyHash P (Str.ofString "__module__"), key := Value.str (Str.ofString "__module__") 496, val := Value.str (Str.ofString "cpy313.graphlib") 481 }, { hash := PyData.keyHash P (Str.ofString "__firstlineno__"), key := Value.str (Str.ofString "__firstlineno__") 500, val := Value.int 203 499 }, { hash := PyData.keyHash P (Str.ofString "__slots__"), key := Value.str (Str.ofString "__slots__") 504, val := Value.ref 170 }, { hash := PyData.keyHash P (Str.ofString "__init__"), key := Value.str (Str.ofString "__init__") 512, val := Value.ref 177 }, { hash := PyData.keyHash P (Str.ofString "__static_attributes__"), key := Value.str (Str.ofString "__static_attributes__") 516, val := Value.ref 178 }, { hash := PyData.keyHash P (Str.ofString "node"), key := Value.str (Str.ofString "node") 518, val := Value.ref 182 }, { hash := PyData.keyHash P (Str.ofString "npredecessors"), key := Value.str (Str.ofString "npredecessors") 520, val := Value.ref 183 }, { hash := PyData.keyHash P (Str.ofString "successors"), key := Value.str (Str.ofString "successors") 522, val := Value.ref 184 }, { hash := PyData.keyHash P (Str.ofString "__doc__"), key := Value.str (Str.ofString "__doc__") 523, val := Value.none }] 5 }),
 (181, { cls := Value.type "type", data := Data.cls { name := Str.ofString "_NodeInfo", bases := [Value.type "object"], mro := [Value.ref 181, Value.type "object"], ns := 180, qualname := Str.ofString "_NodeInfo", hasDict := false, slotNames := [Str.ofString "node", Str.ofString "npredecessors", Str.ofString "successors"] }, slots := #[none, none, some (Value.str (Str.ofString "_NodeInfo") 489), some (Value.str (Str.ofString "_NodeInfo") 497), some (Value.builtin "object.__new__"), some (Value.bool false)] }),
 (182, { cls := Value.type "member_descriptor", data := Data.fields #[Value.str (Str.ofString "node") 517, Value.ref 181, Value.builtin "proto.slot", Value.builtin "proto.slot#set", Value.int 2 0] }),
 (183, { cls := Value.type "member_descriptor", data := Data.fields #[Value.str (Str.ofString "npredecessors") 519, Value.ref 181, Value.builtin "proto.slot", Value.builtin "proto.slot#set", Value.int 1 0] }),
 (184, { cls := Value.type "member_descriptor", data := Data.fields #[Value.str (Str.ofString "successors") 521, Value.ref 181, Value.builtin "proto.slot", Value.builtin "proto.slot#set", Value.int 0 0] }),
 (207, { cls := Value.type "tuple", data := Data.seq #[Value.none] }),
 (213, { cls := Value.type "code", data := Data.fields #[Value.str (Str.ofString "__init__") 556, Value.str (Str.ofString "TopologicalSorter.__init__") 557, Value.str (Str.ofString "/claim/cut.py") 558, Value.int 214 0, Value.int 2 0, Value.int 0 0, Value.int 0 0, Value.int 3 0, Value.ref 208, Value.bool true, Value.int 276 0, Value.ref 209, Value.none, Value.ref 210, Value.ref 211, Value.ref 212, Value.int 563 0, Value.int 214 0, Value.str (Str.ofString "/claim/cut.py") 564] }),
 (214, fnObj fd100),
 (220, { cls := Value.type "code", data := Data.fields #[Value.str (Str.ofString "_get_nodeinfo") 566, Value.str (Str.ofString "TopologicalSorter._get_nodeinfo") 567, Value.str (Str.ofString "/claim/cut.py") 568, Value.int 223 0, Value.int 2 0, Value.int 0 0, Value.int 0 0, Value.int 3 0, Value.ref 215, Value.bool true, Value.int 276 0, Value.ref 216, Value.none, Value.ref 217, Value.ref 218, Value.ref 219, Value.int 572 0, Value.int 223 0, Value.str (Str.ofString "/claim/cut.py") 573] }),
 (221, fnObj fd102),
 (227, { cls := Value.type "code", data := Data.fields #[Value.str (Str.ofString "add") 575, Value.str (Str.ofString "TopologicalSorter.add") 576, Value.str (Str.ofString "/claim/cut.py") 577, Value.int 228 0, Value.int 2 0, Value.int 0 0, Value.int 0 0, Value.int 7 0, Value.ref 222, Value.bool true, Value.int 276 0, Value.ref 223, Value.none, Value.ref 224, Value.ref 225, Value.ref 226, Value.int 584 0, Value.int 228 0, Value.str (Str.ofString "/claim/cut.py") 585] }),
 (228, fnObj fd103),
 (232, { cls := Value.type "code", data := Data.fields #[Value.str (Str.ofString "prepare") 587, Value.str (Str.ofString "TopologicalSorter.prepare") 588, Value.str (Str.ofString "/claim/cut.py") 589, Value.int 237 0, Value.int 1 0, Value.int 0 0, Value.int 0 0, Value.int 3 0, Value.ref 229, Value.bool true, Value.int 276 0, Value.ref 230, Value.none, Value.none, Value.none, Value.ref 231, Value.int 590 0, Value.int 237 0, Value.str (Str.ofString "/claim/cut.py") 591] }),
 (233, fnObj fd104),
 (239, { cls := Value.type "code", data := Data.fields #[Value.str (Str.ofString "get_ready") 593, Value.str (Str.ofString "TopologicalSorter.get_ready") 594, Value.str (Str.ofString "/claim/cut.py") 595, Value.int 245 0, Value.int 1 0, Value.int 0 0, Value.int 0 0, Value.int 3 0, Value.ref 234, Value.bool true, Value.int 276 0, Value.ref 235, Value.none, Value.ref 236, Value.ref 237, Value.ref 238, Value.int 600 0, Value.int 245 0, Value.str (Str.ofString "/claim/cut.py") 601] }),
 (240, fnObj fd105),
 (246, { cls := Value.type "code", data := Data.fields #[Value.str (Str.ofString "is_active") 603, Value.str (Str.ofString "TopologicalSorter.is_active") 604, Value.str (Str.ofString "/claim/cut.py") 605, Value.int 256 0, Value.int 1 0, Value.int 0 0, Value.int 0 0, Value.int 3 0, Value.ref 241, Value.bool true, Value.int 276 0, Value.ref 242, Value.none, Value.ref 243, Value.ref 244, Value.ref 245, Value.int 607 0, Value.int 256 0, Value.str (Str.ofString "/claim/cut.py") 608] }),
 (247, fnObj fd106),
 (260, { cls := Value.type "code", data := Data.fields #[Value.str (Str.ofString "done") 617, Value.str (Str.ofString "TopologicalSorter.done") 618, Value.str (Str.ofString "/claim/cut.py") 619, Value.int 264 0, Value.int 1 0, Value.int 0 0, Value.int 0 0, Value.int 7 0, Value.ref 255, Value.bool true, Value.int 276 0, Value.ref 256, Value.none, Value.ref 257, Value.ref 258, Value.ref 259, Value.int 628 0, Value.int 264 0, Value.str (Str.ofString "/claim/cut.py") 629] }),
 (261, fnObj fd107),
 (267, { cls := Value.type "code", data := Data.fields #[Value.str (Str.ofString "_find_cycle") 631, Value.str (Str.ofString "TopologicalSorter._find_cycle") 632, Value.str (Str.ofString "/claim/cut.py") 633, Value.int 287 0, Value.int 1 0, Value.int 0 0, Value.int 0 0, Value.int 3 0, Value.ref 262, Value.bool true, Value.int 276 0, Value.ref 263, Value.none, Value.ref 264, Value.ref 265, Value.ref 266, Value.int 641 0, Value.int 287 0, Value.str (Str.ofString "/claim/cut.py") 642] }),
 (268, fnObj fd108),
 (277, { cls := Value.type "dict", data := Data.dict #[{ hash := PyData.keyHash P (Str.ofString "__module__"), key := Value.str (Str.ofString "__module__") 551, val := Value.str (Str.ofString "cpy313.graphlib") 481 }, { hash := PyData.keyHash P (Str.ofString "__firstlineno__"), key := Value.str (Str.ofString "__firstlineno__") 555, val := Value.int 212 554 }, { hash := PyData.keyHash P (Str.ofString "__init__"), key := Value.str (Str.ofString "__init__") 565, val := Value.ref 214 }, { hash := PyData.keyHash P (Str.ofString "_get_nodeinfo"), key := Value.str (Str.ofString "_get_nodeinfo") 574, val := Value.ref 221 }, { hash := PyData.keyHash P (Str.ofString "add"), key := Value.str (Str.ofString "add") 586, val := Value.ref 228 }, { hash := PyData.keyHash P (Str.ofString "prepare"), key := Value.str (Str.ofString "prepare") 592, val := Value.ref 233 }, { hash := PyData.keyHash P (Str.ofString "get_ready"), key := Value.str (Str.ofString "get_ready") 602, val := Value.ref 240 }, { hash := PyData.keyHash P (Str.ofString "is_active"), key := Value.str (Str.ofString "is_active") 609, val := Value.ref 247 }, { hash := PyData.keyHash P (Str.ofString "__bool__"), key := Value.str (Str.ofString "__bool__") 616, val := Value.ref 254 }, { hash := PyData.keyHash P (Str.ofString "done"), key := Value.str (Str.ofString "done") 630, val := Value.ref 261 }, { hash := PyData.keyHash P (Str.ofString "_find_cycle"), key := Value.str (Str.ofString "_find_cycle") 643, val := Value.ref 268 }, { hash := PyData.keyHash P (Str.ofString "static_order"), key := Value.str (Str.ofString "static_order") 650, val := Value.ref 275 }, { hash := PyData.keyHash P (Str.ofString "__static_attributes__"), key := Value.str (Str.ofString "__static_attributes__") 655, val := Value.ref 276 }, { hash := PyData.keyHash P (Str.ofString "__dict__"), key := Value.str (Str.ofString "__dict__") 657, val := Value.ref 279 }, { hash := PyData.keyHash P (Str.ofString "__weakref__"), key := Value.str (Str.ofString "__weakref__") 659, val := Value.ref 280 }, { hash := PyData.keyHash P (Str.ofString "__doc__"), key := Value.str (Str.ofString "__doc__") 660, val := Value.none }] 4 }),
 (278, { cls := Value.type "type", data := Data.cls { name := Str.ofString "TopologicalSorter", bases := [Value.type "object"], mro := [Value.ref 278, Value.type "object"], ns := 277, qualname := Str.ofString "TopologicalSorter" }, slots := #[none, none, some (Value.str (Str.ofString "TopologicalSorter") 544), some (Value.str (Str.ofString "TopologicalSorter") 552), some (Value.builtin "object.__new__"), some (Value.bool true)] }),
 (286, { cls := Value.type "code", data := Data.fields #[Value.str (Str.ofString "_law_two") 665, Value.str (Str.ofString "_law_two") 666, Value.str (Str.ofString "/claim/cut.py") 667, Value.int 319 0, Value.int 1 0, Value.int 0 0, Value.int 0 0, Value.int 3 0, Value.ref 283, Value.bool true, Value.int 276 0, Value.ref 284, Value.none, Value.none, Value.none, Value.ref 285, Value.int 668 0, Value.int 319 0, Value.str (Str.ofString "/claim/cut.py") 669] }),
 (287, fnObj fd14),
 (293, { cls := Value.type "code", data := Data.fields #[Value.str (Str.ofString "_law_order") 671, Value.str (Str.ofString "_law_order") 672, Value.str (Str.ofString "/claim/cut.py") 673, Value.int 323 0, Value.int 2 0, Value.int 0 0, Value.int 0 0, Value.int 3 0, Value.ref 288, Value.bool true, Value.int 276 0, Value.ref 289, Value.none, Value.ref 290, Value.ref 291, Value.ref 292, Value.int 678 0, Value.int 323 0, Value.str (Str.ofString "/claim/cut.py") 679] }),
 (294, fnObj fd15),
 (298, { cls := Value.type "code", data := Data.fields #[Value.str (Str.ofString "_law_signs") 681, Value.str (Str.ofString "_law_signs") 682, Value.str (Str.ofString "/claim/cut.py") 683, Value.int 330 0, Value.int 2 0, Value.int 0 0, Value.int 0 0, Value.int 3 0, Value.ref 295, Value.bool true, Value.int 276 0, Value.ref 296, Value.none, Value.none, Value.none, Value.ref 297, Value.int 684 0, Value.int 330 0, Value.str (Str.ofString "/claim/cut.py") 685] }),
 (299, fnObj fd16),
 (305, { cls := Value.type "code", data := Data.fields #[Value.str (Str.ofString "_law_sorter") 687, Value.str (Str.ofString "_law_sorter") 688, Value.str (Str.ofString "/claim/cut.py") 689, Value.int 339 0, Value.int 1 0, Value.int 0 0, Value.int 0 0, Value.int 3 0, Value.ref 300, Value.bool true, Value.int 276 0, Value.ref 301, Value.none, Value.ref 302, Value.ref 303, Value.ref 304, Value.int 694 0, Value.int 339 0, Value.str (Str.ofString "/claim/cut.py") 695] }),
 (306, fnObj fd17),
 (310, { cls := Value.type "code", data := Data.fields #[Value.str (Str.ofString "_law_fill") 697, Value.str (Str.ofString "_law_fill") 698, Value.str (Str.ofString "/claim/cut.py") 699, Value.int 348 0, Value.int 3 0, Value.int 0 0, Value.int 0 0, Value.int 3 0, Value.ref 307, Value.bool true, Value.int 276 0, Value.ref 308, Value.none, Value.none, Value.none, Value.ref 309, Value.int 700 0, Value.int 348 0, Value.str (Str.ofString "/claim/cut.py") 701] }),
 (311, fnObj fd18),
 (315, { cls := Value.type "code", data := Data.fields #[Value.str (Str.ofString "_law_view") 703, Value.str (Str.ofString "_law_view") 704, Value.str (Str.ofString "/claim/cut.py") 705, Value.int 350 0, Value.int 3 0, Value.int 0 0, Value.int 0 0, Value.int 3 0, Value.ref 312, Value.bool true, Value.int 276 0, Value.ref 313, Value.none, Value.none, Value.none, Value.ref 314, Value.int 706 0, Value.int 350 0, Value.str (Str.ofString "/claim/cut.py") 707] }),
 (316, fnObj fd19),
 (320, { cls := Value.type "code", data := Data.fields #[Value.str (Str.ofString "_law_run") 709, Value.str (Str.ofString "_law_run") 710, Value.str (Str.ofString "/claim/cut.py") 711, Value.int 362 0, Value.int 3 0, Value.int 0 0, Value.int 0 0, Value.int 3 0, Value.ref 317, Value.bool true, Value.int 276 0, Value.ref 318, Value.none, Value.none, Value.none, Value.ref 319, Value.int 712 0, Value.int 362 0, Value.str (Str.ofString "/claim/cut.py") 713] }),
 (321, fnObj fd20),
 (325, { cls := Value.type "code", data := Data.fields #[Value.str (Str.ofString "law") 715, Value.str (Str.ofString "law") 716, Value.str (Str.ofString "/claim/cut.py") 717, Value.int 395 0, Value.int 1 0, Value.int 0 0, Value.int 0 0, Value.int 3 0, Value.ref 322, Value.bool true, Value.int 276 0, Value.ref 323, Value.none, Value.none, Value.none, Value.ref 324, Value.int 718 0, Value.int 395 0, Value.str (Str.ofString "/claim/cut.py") 719] }),
 (326, fnObj fd21)]
noncomputable def kAddrs : List Addr := [42, 43, 44, 50, 51, 70, 71, 77, 78, 84, 85, 91, 92, 93, 99, 100, 101, 107, 108, 110, 116, 117, 123, 124, 130, 131, 132, 138, 139, 140, 146, 147, 153, 154, 155, 161, 162, 176, 177, 180, 181, 182, 183, 184, 207, 213, 214, 220, 221, 227, 228, 232, 233, 239, 240, 246, 247, 260, 261, 267, 268, 277, 278, 286, 287, 293, 294, 298, 299, 305, 306, 310, 311, 315, 316, 320, 321, 325, 326]
noncomputable def glT : List (Str × Value) := [("bytes_types", .ref 44), ("_NO_SEP", .ref 109), ("_twin_re_1", .ref 43), ("_NodeInfo", .ref 181), ("TopologicalSorter", .ref 278), ("_NODE_OUT", .int (-1) 484), ("_NODE_DONE", .int (-2) 487), ("_B64", .bytes #[65, 66, 67, 68, 69, 70, 71, 72, 73, 74, 75, 76, 77, 78, 79, 80, 81, 82, 83, 84, 85, 86, 87, 88, 89, 90, 97, 98, 99, 100, 101, 102, 103, 104, 105, 106, 107, 108, 109, 110, 111, 112, 113, 114, 115, 116, 117, 118, 119, 120, 121, 122, 48, 49, 50, 51, 52, 53, 54, 55, 56, 57, 43, 47] 373), ("hexlify", .ref 117), ("unhexlify", .ref 131), ("_bytes_from_decode_data", .ref 51), ("_ascii_buffer", .ref 71), ("_buffer", .ref 78), ("_truth", .ref 85), ("_b64_value", .ref 92), ("a2b_base64", .ref 100), ("b2a_base64", .ref 108), ("_hex_value", .ref 124), ("b64encode", .ref 139), ("b64decode", .ref 147), ("b16encode", .ref 154), ("b16decode", .ref 162), ("_law_two", .ref 287), ("_law_order", .ref 294), ("_law_signs", .ref 299), ("_law_sorter", .ref 306), ("_law_fill", .ref 311), ("_law_view", .ref 316), ("_law_run", .ref 321), ("law", .ref 326)]
noncomputable def blT : List (Str × Value) := [("str", .type "str"), ("type", .type "type"), ("bytes", .type "bytes"), ("bytearray", .type "bytearray"), ("bool", .type "bool"), ("int", .type "int"), ("float", .type "float"), ("complex", .type "complex"), ("list", .type "list"), ("tuple", .type "tuple"), ("dict", .type "dict"), ("set", .type "set"), ("frozenset", .type "frozenset"), ("range", .type "range"), ("StopIteration", .type "StopIteration"), ("isinstance", .builtin "isinstance"), ("len", .builtin "len"), ("sum", .builtin "sum"), ("iter", .builtin "iter")]
theorem lk_mem {α β : Type} [BEq α] [LawfulBEq α] {a : α} {b : β} : ∀ {l : List (α × β)}, l.lookup a = some b -> (a, b) ∈ l
 | [], h => by cases h
 | (x, y) :: r, h => by
  rw [List.lookup_cons] at h
  split at h
  ·rename_i q
   cases h
   rw [beq_iff_eq.mp q]
   exact .head _
  ·exact .tail _ (lk_mem h)
end Mine
end

section
open PySem PySem.W PyProof.Rows
namespace Mine
noncomputable abbrev pw : Program := PySem.Challenge.pw_qh0103_01
noncomputable def qv : Program := { pw with main := { pw.main with body := [topS 0, topS 40] } }
noncomputable def looseN : List Str := (["_wall", "_twin_re_1", "bytes_types", "_bytes_from_decode_data", "Error", "_ascii_buffer", "_buffer", "_truth", "_B64", "_b64_value", "a2b_base64", "b2a_base64", "_NO_SEP", "b2a_hex", "hexlify", "_hex_value", "a2b_hex", "unhexlify", "b64encode", "b64decode", "b16encode", "b16decode", "_NODE_OUT", "_NODE_DONE", "_NodeInfo", "CycleError", "TopologicalSorter", "_law_two", "_law_order", "_law_signs", "_law_sorter", "_law_fill", "_law_view", "_law_run"] : List String).map Str.ofString
noncomputable def gN : List Str := glT.map (·.1)
noncomputable def bN : List Str := blT.map (·.1)
noncomputable def seenOf (s : Shared) : List (Option Obj) × Bool × List (Option Value) × List (Option Value × Option Value) :=
 (kAddrs.map s.heap.get?, s.heap.isNs mainGlobals && s.heap.isNs builtinsNs && (s.heap.get? sysModules).isSome, gN.map (s.heap.nsMap mainGlobals), bN.map fun x => (s.heap.nsMap mainGlobals x, s.heap.nsMap builtinsNs x))
noncomputable def goodOf (w : World) : List (Option Obj) × Bool × List (Option Value) × List (Option Value × Option Value) :=
 ((K w.params).map (fun p => some p.2), true, glT.map (fun p => some p.2), blT.map fun p => (none, some p.2))
noncomputable def Says (w : World) (h : Heap) : Prop := ((K w.params).In h /\ ∃ o, h.get? sysModules = some o) /\ ∀ x v, (glT ++ blT).lookup x = some v -> ∃ mg, h.Ns mainGlobals mg /\ (mg x = some v \/ (mg x = none /\ ∃ mb, h.Ns builtinsNs mb /\ mb x = some v))
theorem says_keeps (w : World) (h h' : Heap) (x : Says w h) (k : ∀ b o, h.get? b = some o -> h'.get? b = some o) : Says w h' :=
 ⟨⟨x.1.1.keeps k, let ⟨o, e⟩ := x.1.2; ⟨o, k _ _ e⟩⟩, fun n v e => by
  obtain ⟨mg, h1, q⟩ := x.2 n v e
  exact ⟨mg, h1.keeps k, q.imp id fun ⟨a, mb, b, c⟩ => ⟨a, mb, b.keeps k, c⟩⟩⟩
theorem map_lk2 {α β γ : Type} {f : α -> γ} {g : α × β -> γ} : ∀ {l : List (α × β)}, (l.map (·.1)).map f = l.map g -> ∀ {a b}, (a, b) ∈ l -> f a = g (a, b)
 | [], _, _, _, m => by cases m
 | p :: r, e, a, b, m => by
  simp only [List.map_cons, List.cons.injEq] at e
  rcases List.mem_cons.mp m with q | q
  ·cases q; exact e.1
  ·exact map_lk2 e.2 q
theorem says_of (w : World) (s : Shared) (e : seenOf s = goodOf w) : Says w s.heap := by
 have e1 : kAddrs.map s.heap.get? = (K w.params).map (fun p => some p.2) := congrArg Prod.fst e
 have e2 : (s.heap.isNs mainGlobals && s.heap.isNs builtinsNs && (s.heap.get? sysModules).isSome) = true := congrArg (fun x => x.2.1) e
 have e3 : (glT.map (·.1)).map (s.heap.nsMap mainGlobals) = glT.map (fun p => some p.2) := congrArg (fun x => x.2.2.1) e
 have e4 : ((blT.map (·.1)).map fun x => (s.heap.nsMap mainGlobals x, s.heap.nsMap builtinsNs x)) = blT.map fun p => ((none : Option Value), some p.2) := congrArg (fun x => x.2.2.2) e
 rw [Bool.and_eq_true] at e2
 obtain ⟨e2, e5⟩ := e2
 rw [Bool.and_eq_true] at e2
 refine ⟨⟨Frag.in_of (as := kAddrs) (by kernel_rfl) e1, Option.isSome_iff_exists.mp e5⟩, fun x v h => ⟨_, .of_isNs e2.1, ?_⟩⟩
 have m := lk_mem (show (glT ++ blT).lookup x = some v from h)
 rcases List.mem_append.mp m with m | m
 ·exact .inl (map_lk2 e3 m)
 ·have := map_lk2 e4 m
  rw [Prod.mk.injEq] at this
  exact .inr ⟨this.1, _, .of_isNs e2.2, this.2⟩
end Mine
end

section
open PySem PySem.W PyProof.Rows
namespace Mine
noncomputable abbrev rowO : OpenRow := PySem.Challenge.rw_qh0103_01.row
set_option maxHeartbeats 8000000 in
theorem left : LeftO rowO.prog qv looseN (fun s => xlAt qv [] s && recOk (RowW.records rowO.toRowW) s) seenOf goodOf 2200 := by
 intro w
 kernel_rfl
end Mine
end

section
open PySem PySem.W PyProof.Rows
namespace Mine
theorem qv_def : (defOf qv "law").isSome = true := by decide +kernel
set_option maxHeartbeats 8000000 in
theorem head_of (call : WalkO qv looseN (XL qv []) Says rowO.toRowW ((defOf qv "law").get qv_def).1 ((defOf qv "law").get qv_def).2 fun f vs => PySem.call f vs) : PySem.Challenge.rw_qh0103_01.Holds := by
 refine holds_law (by decide +kernel) fun said => ?_
 refine holds_open (q := qv) (loose := looseN) (Xt := fun s => xlAt qv [] s && recOk (RowW.records rowO.toRowW) s) (XP := XL qv []) (Yf := seenOf) (Ya := goodOf) (YP := Says) (N := 2200) left says_of says_keeps (fun s e => xl_of s (Bool.and_eq_true_iff.mp e).1) XL.keeps
  (by kernel_rfl) (by kernel_rfl) (by kernel_rfl) (fun s e => recFacts_of (Bool.and_eq_true_iff.mp e).2) (by rfl) said (by decide +kernel) ⟨rfl, rfl, rfl, rfl, rfl, by decide +kernel⟩ ⟨[.list [.int 3, .int 1]], by decide +kernel, by decide +kernel⟩ call
end Mine
end

section
open PySem
namespace Mine
theorem hid {G : Prop} (h : ∀ P : Prop, (G -> P) -> P) : G := h G id

inductive D where
 | none
 | bool (b : Bool)
 | int (i : Int)
 | bytes (b : List UInt8)
 | str (x : Str)
 | tup (ds : List D)
 | lst (ds : List D)
 | ref (k : Nat)
 | nxt (k : Nat)
 | val (v : Value)
 deriving Inhabited

inductive Ob where
 | list (ds : List D)
 | dict (es : List (Int × D)) (ep : Nat)
 | set (es : List Int)
 | attrs (es : List (Nat × D))
 | inst (kd : Nat)
 | node (kd : Nat) (sl : List (Option D))
 | iter (k : Nat) (i : Nat)
 | gone
 deriving Inhabited

inductive Bin where
 | add | sub | mul | fdiv | mod | shl | shr | band | bor | pow
 deriving DecidableEq
inductive Cm where
 | eq | ne | lt | le | gt | ge | is | isNot | inn | notIn
 deriving DecidableEq
inductive BF where
 | len | list | nlist | tuple | bytes | sum | isinstance | type | bool | set | iter | listRange
 deriving DecidableEq
inductive BM where
 | append | extend | pop | popAt | clear | hex | upper | translate | maketrans | search | get | encode | sadd | next
 deriving DecidableEq
inductive SK where
 | range1 | range2 | range3 | it | vals
 deriving DecidableEq

inductive Ex where
 | k (d : D)
 | v (i : Nat)
 | c (j : Nat)
 | g (x : Value)
 | bin (o : Bin) (a b : Ex)
 | neg (a : Ex)
 | nt (a : Ex)
 | cmp (o : Cm) (a b : Ex)
 | btw (a b c : Ex)
 | and_ (as : List Ex)
 | or_ (as : List Ex)
 | ite (t a b : Ex)
 | lst (as : List Ex)
 | nlst (as : List Ex)
 | ndict
 | tup (as : List Ex)
 | sub (a i : Ex)
 | slcTo (a hi : Ex)
 | slcStep (a lo st : Ex)
 | fn (f : Nat) (as : List Ex) (dx : List D)
 | fnk (f : Nat) (as : List Ex) (kw : Ex)
 | bf (b : BF) (as : List Ex)
 | bm (m : BM) (o : Ex) (as : List Ex)
 | om (m : Nat) (o : Ex) (as : List Ex)
 | omS (m : Nat) (o : Ex) (a : Ex)
 | new (c : Nat) (as : List Ex) (dx : List D)
 | att (o : Ex) (f : Nat)
 | comp (tr : Bool) (elt : Ex) (sk : SK) (src : List Ex) (cond : List Ex) (nt : Nat)

inductive Stm where
 | asg (i : Nat) (e : Ex)
 | asg2 (i j : Nat) (e : Ex)
 | asgAtt (o : Ex) (f : Nat) (e : Ex)
 | asgSub (o k e : Ex)
 | asgSubV (o k : Ex) (i : Nat) (e : Ex)
 | augAtt (o : Ex) (f : Nat) (op : Bin) (e : Ex)
 | expr (e : Ex)
 | if_ (t : Ex) (a b : List Stm)
 | ifN (i : Nat) (e : Ex) (a b : List Stm)
 | for_ (i : Nat) (sk : SK) (src : List Ex) (body : List Stm)
 | while_ (t : Ex) (body els : List Stm)
 | ret (e : Ex)
 | brk
 | cont
 | assert_ (t : Ex)
 | tryNext (i : Nat) (e : Ex) (h : List Stm)
 | delSub (o k : Ex)
 | stop

inductive Fl where
 | next | brk | cont
 | ret (d : D)

noncomputable abbrev Lo := List (Option D)
noncomputable abbrev Hp := List Ob

structure FnS where
 np : Nat
 va : Bool
 nl : Nat
 body : List Stm

section
variable {γ : Type}
noncomputable def gd (b : Bool) (x : Option γ) : Option γ := match b with | true => x | false => none
noncomputable def dI (x : D) (k : Int -> Option γ) : Option γ := match x with | .int i => k i | _ => none
noncomputable def dY (x : D) (k : List UInt8 -> Option γ) : Option γ := match x with | .bytes i => k i | _ => none
noncomputable def dS (x : D) (k : Str -> Option γ) : Option γ := match x with | .str i => k i | _ => none
noncomputable def dT (x : D) (k : List D -> Option γ) : Option γ := match x with | .tup i => k i | _ => none
noncomputable def dL (x : D) (k : List D -> Option γ) : Option γ := match x with | .lst i => k i | _ => none
noncomputable def dR (x : D) (k : Nat -> Option γ) : Option γ := match x with | .ref i => k i | _ => none
noncomputable def dV (x : D) (k : Value -> Option γ) : Option γ := match x with | .val i => k i | _ => none
noncomputable def dN (x : D) (k : Option γ) : Option γ := match x with | .none => k | _ => none
noncomputable def l0 (l : List D) (k : Option γ) : Option γ := match l with | [] => k | _ :: _ => none
noncomputable def lC (l : List D) (k : D -> List D -> Option γ) : Option γ := match l with | [] => none | a :: r => k a r
noncomputable def l1 (l : List D) (k : D -> Option γ) : Option γ := lC l fun a r => l0 r (k a)
noncomputable def l2 (l : List D) (k : D -> D -> Option γ) : Option γ := lC l fun a r => l1 r (k a)
noncomputable def ol (o : Option Ob) (k : List D -> Option γ) : Option γ := match o with | some (.list ds) => k ds | _ => none
noncomputable def hL (H : Hp) (a : Nat) (k : List D -> Option γ) : Option γ := ol H[a]? k
end
section
variable {γ : Type} {P : Prop} {r : γ}
theorem gd_el {b : Bool} {x : Option γ} (h : gd b x = some r) (c : b = true -> x = some r -> P) : P := by
 cases b with
 | true => exact c rfl h
 | false => exact nomatch h
theorem dI_el {M : D -> Prop} {x : D} {k : Int -> Option γ} (h : dI x k = some r) (c : ∀ i, k i = some r -> M (.int i)) : M x := by
 cases x <;> first | exact c _ h | exact nomatch h
theorem dY_el {M : D -> Prop} {x : D} {k : List UInt8 -> Option γ} (h : dY x k = some r) (c : ∀ i, k i = some r -> M (.bytes i)) : M x := by
 cases x <;> first | exact c _ h | exact nomatch h
theorem dS_el {M : D -> Prop} {x : D} {k : Str -> Option γ} (h : dS x k = some r) (c : ∀ i, k i = some r -> M (.str i)) : M x := by
 cases x <;> first | exact c _ h | exact nomatch h
theorem dT_el {M : D -> Prop} {x : D} {k : List D -> Option γ} (h : dT x k = some r) (c : ∀ i, k i = some r -> M (.tup i)) : M x := by
 cases x <;> first | exact c _ h | exact nomatch h
theorem dL_el {M : D -> Prop} {x : D} {k : List D -> Option γ} (h : dL x k = some r) (c : ∀ i, k i = some r -> M (.lst i)) : M x := by
 cases x <;> first | exact c _ h | exact nomatch h
theorem dR_el {M : D -> Prop} {x : D} {k : Nat -> Option γ} (h : dR x k = some r) (c : ∀ i, k i = some r -> M (.ref i)) : M x := by
 cases x <;> first | exact c _ h | exact nomatch h
theorem dV_el {M : D -> Prop} {x : D} {k : Value -> Option γ} (h : dV x k = some r) (c : ∀ i, k i = some r -> M (.val i)) : M x := by
 cases x <;> first | exact c _ h | exact nomatch h
theorem dN_el {M : D -> Prop} {x : D} {k : Option γ} (h : dN x k = some r) (c : k = some r -> M .none) : M x := by
 cases x <;> first | exact c h | exact nomatch h
theorem l0_el {M : List D -> Prop} {l : List D} {k : Option γ} (h : l0 l k = some r) (c : k = some r -> M []) : M l := by
 cases l with
 | nil => exact c h
 | cons => exact nomatch h
theorem lC_el {M : List D -> Prop} {l : List D} {k : D -> List D -> Option γ} (h : lC l k = some r) (c : ∀ a t, k a t = some r -> M (a :: t)) : M l := by
 cases l with
 | nil => exact nomatch h
 | cons a t => exact c a t h
theorem l1_el {M : List D -> Prop} {l : List D} {k : D -> Option γ} (h : l1 l k = some r) (c : ∀ a, k a = some r -> M [a]) : M l :=
 lC_el h fun a t h => l0_el (M := fun t => M (a :: t)) h (c a)
theorem l2_el {M : List D -> Prop} {l : List D} {k : D -> D -> Option γ} (h : l2 l k = some r) (c : ∀ a b, k a b = some r -> M [a, b]) : M l :=
 lC_el h fun a t h => l1_el (M := fun t => M (a :: t)) h (c a)
theorem ol_el {o : Option Ob} {k : List D -> Option γ} (h : ol o k = some r) (c : ∀ ds, o = some (.list ds) -> k ds = some r -> P) : P := by
 cases o with
 | none => exact nomatch h
 | some x => cases x <;> first | exact c _ rfl h | exact nomatch h
theorem hL_el {H : Hp} {a : Nat} {k : List D -> Option γ} (h : hL H a k = some r) (c : ∀ ds, H[a]? = some (.list ds) -> k ds = some r -> P) : P := ol_el h c
theorem map_el {α β : Type} {o : Option α} {f : α -> β} {r : β} (h : o.map f = some r) (c : ∀ a, o = some a -> f a = r -> P) : P := by
 cases o with
 | none => exact nomatch h
 | some a => exact c a rfl (Option.some.inj h)
theorem bind_el {α β : Type} {o : Option α} {f : α -> Option β} {r : β} (h : o.bind f = some r) (c : ∀ a, o = some a -> f a = some r -> P) : P := by
 cases o with
 | none => exact nomatch h
 | some a => exact c a rfl h
end
noncomputable def small (a : Int) : Bool := Nat.ble a.natAbs 18446744073709551615
noncomputable def inB (b : Int) : Bool := decide (1 <= b) && Nat.ble b.natAbs 999999999
theorem inB_of {b : Int} (h : inB b = true) : 1 <= b /\ b < 1000000000 := by
 unfold inB at h
 rw [Bool.and_eq_true, decide_eq_true_eq] at h
 have := Nat.le_of_ble_eq_true h.2
 omega
theorem inB_nat {b : Nat} (h1 : 1 <= b) (h2 : b < 1000000000) : inB (b : Int) = true := by
 unfold inB
 rw [Bool.and_eq_true, decide_eq_true_eq]
 exact ⟨by omega, Nat.ble_eq_true_of_le (by omega)⟩
noncomputable def binI : Bin -> Int -> Int -> Option Int
 | .add, a, b => some (a + b)
 | .sub, a, b => some (a - b)
 | .mul, a, b => match small a && small b with | true => some (a * b) | false => none
 | .fdiv, a, b => match inB b with | true => some (a.fdiv b) | false => none
 | .mod, a, b => match inB b with | true => some (a.fmod b) | false => none
 | .shl, a, b => match small a && decide (0 <= b) && decide (b <= 1000) with | true => some (a * 2 ^ b.toNat) | false => none
 | .shr, a, b => match decide (0 <= b) with | true => some (a.fdiv (2 ^ b.toNat)) | false => none
 | .band, a, b => some (Builtin.bitAnd a b)
 | .bor, a, b => some (Builtin.bitOr a b)
 | .pow, a, b => match small a && decide (0 <= b) && decide (b <= 1000) with | true => some (a ^ b.toNat) | false => none

noncomputable def lim : Nat := 1000000
noncomputable def addD (x y : D) : Option D := match x with
 | .int a => dI y fun b => some (.int (a + b))
 | .lst a => dL y fun b => gd (decide (a.length + b.length <= lim)) (some (.lst (a ++ b)))
 | _ => none
noncomputable def oneB (l : List UInt8) (k : UInt8 -> Option D) : Option D := match l with
 | [] => none
 | c :: r => match r with | [] => k c | _ :: _ => none
theorem oneB_el {M : List UInt8 -> Prop} {l : List UInt8} {k : UInt8 -> Option D} {r : D} (h : oneB l k = some r) (c : ∀ a, k a = some r -> M [a]) : M l := by
 cases l with
 | nil => exact nomatch h
 | cons a t =>
  cases t with
  | nil => exact c a h
  | cons => exact nomatch h
noncomputable def mulD (x y : D) : Option D := match x with
 | .int a => dI y fun b => (binI .mul a b).map .int
 | .lst l => l1 l fun d => dI y fun n => gd (decide (0 <= n) && decide (n <= 1000)) (some (.lst (List.replicate n.toNat d)))
 | .bytes l => oneB l fun c => dI y fun n => gd (decide (2 <= n) && decide (n <= 1000)) (some (.bytes (List.replicate n.toNat c)))
 | _ => none
noncomputable def binD (o : Bin) (x y : D) : Option D := match o with
 | .add => addD x y
 | .mul => mulD x y
 | o => dI x fun a => dI y fun b => (binI o a b).map .int

noncomputable def py0 : D -> Option PyData
 | .int i => some (.int i)
 | _ => none
noncomputable def py0s : List D -> Option (List PyData)
 | [] => some []
 | d :: r => match py0 d with
  | some x => (match py0s r with | some xs => some (x :: xs) | none => none)
  | none => none
noncomputable def py1 : D -> Option PyData
 | .int i => some (.int i)
 | .tup ds => (py0s ds).map .tuple
 | _ => none
noncomputable def py1s : List D -> Option (List PyData)
 | [] => some []
 | d :: r => match py1 d with
  | some x => (match py1s r with | some xs => some (x :: xs) | none => none)
  | none => none
noncomputable def neDs (a b : List D) : Option Bool := match py1s a, py1s b with
 | some x, some y => some (!PyData.eqvAll x y)
 | _, _ => none
noncomputable def inDs (x : D) (ds : List D) : Option Bool := match py1 x, py1s ds with
 | some d, some xs => some (xs.any fun y => PyData.eqv y d)
 | _, _ => none

noncomputable def vT {γ : Type} (v : Value) (k : String -> Option γ) : Option γ := match v with | .type a => k a | _ => none
noncomputable def vR {γ : Type} (v : Value) (k : Addr -> Option γ) : Option γ := match v with | .ref a => k a | _ => none
theorem vT_el {γ : Type} {r : γ} {M : Value -> Prop} {v : Value} {k : String -> Option γ} (h : vT v k = some r) (c : ∀ a, k a = some r -> M (.type a)) : M v := by
 cases v <;> first | exact c _ h | exact nomatch h
theorem vR_el {γ : Type} {r : γ} {M : Value -> Prop} {v : Value} {k : Addr -> Option γ} (h : vR v k = some r) (c : ∀ a, k a = some r -> M (.ref a)) : M v := by
 cases v <;> first | exact c _ h | exact nomatch h
noncomputable def isV (x y : Value) : Option Bool := match x with
 | .type a => vT y fun b => some (a == b)
 | .ref a => vR y fun b => gd (a == b) (some true)
 | _ => none
noncomputable def isD (x y : D) : Option Bool := match x with
 | .none => dN y (some true)
 | .val a => dV y fun b => isV a b
 | .str _ => none
 | .nxt _ => none
 | _ => dN y (some false)
noncomputable def neD (H : Hp) (x y : D) : Option Bool := match x with
 | .int a => dI y fun b => some (a != b)
 | .lst a => dL y fun b => neDs a b
 | .tup a => dT y fun b => neDs a b
 | .ref k => dL y fun b => hL H k fun a => neDs a b
 | _ => none
noncomputable def inO (o : Option Ob) (x : Int) : Option Bool := match o with
 | some (.list ds) => inDs (.int x) ds
 | some (.set es) => some (es.contains x)
 | some (.dict es _) => some (es.any fun p => p.1 == x)
 | _ => none
noncomputable def inD (H : Hp) (x : Int) (y : D) : Option Bool := match y with
 | .lst ds => inDs (.int x) ds
 | .ref k => inO H[k]? x
 | _ => none
noncomputable def notInD (x y : D) : Option Bool := match x with
 | .tup a => dL y fun ds => (inDs (.tup a) ds).map (!·)
 | .int i => dY y fun b => gd (decide (0 <= i) && decide (i < 256)) (some (!(b.any fun c => (c.toNat : Int) == i)))
 | _ => none
noncomputable def iiD (x y : D) (f : Int -> Int -> Bool) : Option Bool := dI x fun a => dI y fun b => some (f a b)
noncomputable def cmpD (H : Hp) (o : Cm) (x y : D) : Option Bool := match o with
 | .eq => iiD x y fun a b => a == b
 | .ne => neD H x y
 | .lt => iiD x y fun a b => decide (a < b)
 | .le => iiD x y fun a b => decide (a <= b)
 | .gt => iiD x y fun a b => decide (a > b)
 | .ge => iiD x y fun a b => decide (a >= b)
 | .is => isD x y
 | .isNot => (isD x y).map (!·)
 | .inn => dI x fun i => inD H i y
 | .notIn => notInD x y

noncomputable def truth (H : Hp) (x : D) : Option Bool := match x with
 | .bool b => some b
 | .int i => some (i != 0)
 | .none => some false
 | .ref k => hL H k fun ds => gd (decide (ds.length <= lim)) (some (!ds.isEmpty))
 | _ => none

noncomputable def idx (ds : List D) (i : Int) : Option D := match decide (0 <= i) with
 | true => gd (Nat.ble i.toNat 9223372036854775807) ds[i.toNat]?
 | false => gd (decide (i = -1)) ds.getLast?
noncomputable def lookI (es : List (Int × D)) (x : Int) : Option D := (es.find? fun p => p.1 == x).map (·.2)
noncomputable def subO (o : Option Ob) (i : Int) : Option D := match o with
 | some (.list ds) => idx ds i
 | some (.dict es _) => lookI es i
 | _ => none
noncomputable def subX (H : Hp) (x : D) (i : Int) : Option D := match x with
 | .lst ds => idx ds i
 | .bytes b => gd (decide (0 <= i) && decide (b.length <= lim)) ((b[i.toNat]?).map fun c => .int c.toNat)
 | .ref k => subO H[k]? i
 | _ => none
noncomputable def subD (H : Hp) (x y : D) : Option D := dI y fun i => subX H x i

noncomputable def pickD (ds : List D) (a st : Int) : List D :=
 (sliceRange (sliceBounds (some a) none (some st) ds.length).1 (sliceBounds (some a) none (some st) ds.length).2.1 (sliceBounds (some a) none (some st) ds.length).2.2).filterMap (ds[·]?)
noncomputable def takeD (ds : List D) (n : Int) : Option D := gd (decide (0 <= n) && decide (ds.length <= lim)) (some (.lst (ds.take n.toNat)))
noncomputable def slcToD (H : Hp) (x y : D) : Option D := dI y fun n => match x with
 | .lst ds => takeD ds n
 | .ref k => hL H k fun ds => takeD ds n
 | _ => none
noncomputable def slcStepD (x y z : D) : Option D := dL x fun ds => dI y fun a => dI z fun s => gd (decide (0 <= a) && decide (1 <= s) && decide (ds.length <= lim)) (some (.lst (pickD ds a s)))

noncomputable def intsOf : List D -> Option (List Int)
 | [] => some []
 | .int i :: r => (intsOf r).map (i :: ·)
 | _ => none
noncomputable def byteOk (i : Int) : Bool := decide (0 <= i) && decide (i < 256)
noncomputable def bytesOf (ds : List D) : Option D := (intsOf ds).bind fun is => match is.all byteOk && decide (is.length <= lim) with | true => some (.bytes (is.map fun i => i.toNat.toUInt8)) | false => none
noncomputable def rangeL (n : Int) : List D := (List.range n.toNat).map fun (i : Nat) => .int (i : Int)
noncomputable def range3L (a b s : Int) : List D := (List.range (((b - a + s - 1).fdiv s).toNat)).map fun (i : Nat) => .int (a + s * (i : Int))

noncomputable def ifLim {α : Type} (n : Nat) (x : α) : Option α := match decide (n <= lim) with | true => some x | false => none
noncomputable def lenD (H : Hp) (x : D) : Option (D × Hp) := match x with
 | .lst ds => ifLim ds.length (.int ds.length, H)
 | .tup ds => ifLim ds.length (.int ds.length, H)
 | .bytes b => ifLim b.length (.int b.length, H)
 | .ref k => hL H k fun ds => ifLim ds.length (.int ds.length, H)
 | _ => none
noncomputable def lstD {γ : Type} (H : Hp) (x : D) (k : List D -> Option γ) : Option γ := match x with
 | .lst ds => k ds
 | .ref a => hL H a k
 | _ => none
noncomputable def typD (H : Hp) (x : D) : Option (D × Hp) := match x with
 | .bytes _ => some (.val (.type "bytes"), H)
 | .bool _ => some (.val (.type "bool"), H)
 | .int _ => some (.val (.type "int"), H)
 | _ => none
noncomputable def insV (v : Value) : Option Bool := match v with
 | .type n => gd (decide (n = "str")) (some false)
 | .ref a => gd (decide (a = 44)) (some true)
 | _ => none
noncomputable def bfD (b : BF) (ds : List D) (H : Hp) : Option (D × Hp) := match b with
 | .len => l1 ds fun x => lenD H x
 | .listRange => l1 ds fun x => dI x fun n => gd (decide (0 <= n) && decide (n <= 1000)) (some (.lst (rangeL n), H))
 | .list => l1 ds fun x => dY x fun b => ifLim b.length (.lst (b.map fun c => .int c.toNat), H)
 | .nlist => l1 ds fun x => dI x fun n => gd (decide (0 <= n) && decide (n <= 1000)) (some (.ref H.length, H ++ [.list (rangeL n)]))
 | .tuple => l1 ds fun x => lstD H x fun ds => ifLim ds.length (.tup ds, H)
 | .bytes => l1 ds fun x => lstD H x fun ds => (bytesOf ds).map (·, H)
 | .sum => l1 ds fun x => dL x fun ds => (intsOf ds).map fun is => (.int is.sum, H)
 | .isinstance => l2 ds fun x y => dY x fun _ => dV y fun v => (insV v).map fun b => (.bool b, H)
 | .type => l1 ds fun x => typD H x
 | .bool => l1 ds fun x => dR x fun k => hL H k fun ds => ifLim ds.length (.bool (!ds.isEmpty), H)
 | .set => l0 ds (some (.ref H.length, H ++ [.set []]))
 | .iter => l1 ds fun x => dR x fun k => hL H k fun _ => some (.ref H.length, H ++ [.iter k 0])

noncomputable def hexD (n : Nat) : Nat := if n < 10 then 48 + n else 87 + n
noncomputable def hexS (b : List UInt8) : Str := ⟨(b.flatMap fun c => [hexD (c.toNat / 16), hexD (c.toNat % 16)]).toArray⟩
noncomputable def asciiOf (x : Str) : Option (List UInt8) := match x.cps.toList.all (fun c => decide (c < 128)) with | true => some (x.cps.toList.map fun c => c.toUInt8) | false => none
noncomputable def up (c : UInt8) : UInt8 := if 97 <= c && c <= 122 then c - 32 else c
noncomputable def table256 (a b : List UInt8) : List UInt8 := (a.zip b).foldl (fun t p => t.set p.1.toNat p.2) ((List.range 256).map fun i => i.toUInt8)
noncomputable def hexChar (c : UInt8) : Bool := (48 <= c && c <= 57) || (65 <= c && c <= 70)

noncomputable def getO (o : Option Ob) (x : Int) (H : Hp) : Option (D × Hp) := match o with
 | some (.dict es _) => some ((lookI es x).getD .none, H)
 | _ => none
noncomputable def addO (o : Option Ob) (k : Nat) (x : Int) (H : Hp) : Option (D × Hp) := match o with
 | some (.set es) => gd (decide (es.length < 100)) (some (.none, if es.contains x then H else H.set k (.set (es ++ [x]))))
 | _ => none
noncomputable def nxtO (o : Option Ob) (k : Nat) (H : Hp) : Option (D × Hp) := match o with
 | some (.iter _ _) => some (.nxt k, H)
 | _ => none
noncomputable def lsM (x : D) (H : Hp) (c : Nat -> List D -> Option (D × Hp)) : Option (D × Hp) := dR x fun k => hL H k fun ds => gd (decide (ds.length <= lim)) (c k ds)
noncomputable def bmD (m : BM) (x : D) (as : List D) (H : Hp) : Option (D × Hp) := match m with
 | .append => l1 as fun d => lsM x H fun k ds => some (.none, H.set k (.list (ds ++ [d])))
 | .extend => l1 as fun d => dL d fun es => dR x fun k => hL H k fun ds => gd (decide (ds.length + es.length <= lim)) (some (.none, H.set k (.list (ds ++ es))))
 | .pop => l0 as (lsM x H fun k ds => (ds.getLast?).map fun d => (d, H.set k (.list ds.dropLast)))
 | .popAt => l1 as fun y => dI y fun i => dR x fun k => hL H k fun ds => gd (decide (0 <= i) && decide (ds.length <= lim)) ((ds[i.toNat]?).map fun d => (d, H.set k (.list (ds.eraseIdx i.toNat))))
 | .clear => l0 as (dR x fun k => hL H k fun ds => ifLim ds.length (.none, H.set k (.list [])))
 | .hex => l0 as (dY x fun b => gd (decide (b.length <= 1000)) (some (.str (hexS b), H)))
 | .encode => l1 as fun y => dS y fun y => dS x fun x => gd (decide (y = Str.ofString "ascii") && decide (x.length <= 10000)) ((asciiOf x).map fun b => (.bytes b, H))
 | .upper => l0 as (dY x fun b => gd (decide (b.length <= 10000)) (some (.bytes (b.map up), H)))
 | .translate => l1 as fun y => dY y fun t => dY x fun b => gd (decide (t.length = 256) && decide (b.length <= 10000)) (some (.bytes (b.map fun c => t.getD c.toNat 0), H))
 | .maketrans => l2 as fun y z => dY y fun a => dY z fun b => dV x fun v => vT v fun n => gd (decide (n = "bytes") && decide (a.length = b.length)) (some (.bytes (table256 a b), H))
 | .search => l1 as fun y => dY y fun b => dV x fun v => vR v fun a => gd (decide (a = 43) && (b.all hexChar && decide (b.length <= 1000))) (some (.none, H))
 | .get => l1 as fun y => dI y fun i => dR x fun k => getO H[k]? i H
 | .sadd => l1 as fun y => dI y fun i => dR x fun k => addO H[k]? k i H
 | .next => l0 as (dR x fun k => nxtO H[k]? k H)

noncomputable def isInst (H : Hp) (k : Nat) : Bool := match H[k]? with
 | some (.inst kd) => (match H[kd]? with | some (.attrs _) => true | _ => false)
 | _ => false
noncomputable def kindO (o : Option Ob) : Nat := match o with
 | some (.list _) => 0
 | some (.dict _ _) => 1
 | some (.set _) => 2
 | some (.iter _ _) => 3
 | _ => 9
noncomputable def kindV (v : Value) : Nat := match v with
 | .type n => cond (decide (n = "bytes")) 6 9
 | .ref a => cond (decide (a = 43)) 7 9
 | _ => 9
noncomputable def kindOf (x : D) (H : Hp) : Nat := match x with
 | .ref k => kindO H[k]?
 | .bytes _ => 4
 | .str _ => 5
 | .val v => kindV v
 | _ => 9
noncomputable def bmKind : BM -> Nat
 | .get => 1
 | .sadd => 2
 | .next => 3
 | .hex => 4
 | .upper => 4
 | .translate => 4
 | .encode => 5
 | .maketrans => 6
 | .search => 7
 | _ => 0
noncomputable def bmK (m : BM) (x : D) (H : Hp) : Bool := decide (kindOf x H = bmKind m)
noncomputable def hand : D -> Option D
 | .val _ => none
 | d => some d
noncomputable def dictO {γ : Type} (o : Option Ob) (k : List (Int × D) -> Nat -> Option γ) : Option γ := match o with
 | some (.dict es ep) => k es ep
 | _ => none
theorem dictO_el {γ : Type} {r : γ} {P : Prop} {o : Option Ob} {k : List (Int × D) -> Nat -> Option γ} (h : dictO o k = some r) (c : ∀ es ep, o = some (.dict es ep) -> k es ep = some r -> P) : P := by
 cases o with
 | none => exact nomatch h
 | some x => cases x <;> first | exact c _ _ rfl h | exact nomatch h
noncomputable def instO {γ : Type} (o : Option Ob) (ki : Nat -> Option γ) (kn : Nat -> List (Option D) -> Option γ) : Option γ := match o with
 | some (.inst kd) => ki kd
 | some (.node kd sl) => kn kd sl
 | _ => none
theorem instO_el {γ : Type} {r : γ} {P : Prop} {o : Option Ob} {ki : Nat -> Option γ} {kn : Nat -> List (Option D) -> Option γ} (h : instO o ki kn = some r) (c1 : ∀ kd, o = some (.inst kd) -> ki kd = some r -> P) (c2 : ∀ kd sl, o = some (.node kd sl) -> kn kd sl = some r -> P) : P := by
 cases o with
 | none => exact nomatch h
 | some x => cases x <;> first | exact c1 _ rfl h | exact c2 _ _ rfl h | exact nomatch h
noncomputable def attrsO {γ : Type} (o : Option Ob) (k : List (Nat × D) -> Option γ) : Option γ := match o with
 | some (.attrs es) => k es
 | _ => none
theorem attrsO_el {γ : Type} {r : γ} {P : Prop} {o : Option Ob} {k : List (Nat × D) -> Option γ} (h : attrsO o k = some r) (c : ∀ es, o = some (.attrs es) -> k es = some r -> P) : P := by
 cases o with
 | none => exact nomatch h
 | some x => cases x <;> first | exact c _ rfl h | exact nomatch h
noncomputable def attD (H : Hp) (x : D) (f : Nat) : Option D := dR x fun k => instO H[k]? (fun kd => attrsO H[kd]? fun es => gd (decide (f < 4)) (((es.find? fun p => p.1 == f).map (·.2)).bind hand)) (fun _ sl => gd (decide (4 <= f)) (((sl[f - 4]?).bind id).bind hand))
noncomputable def putA (es : List (Nat × D)) (f : Nat) (d : D) : List (Nat × D) := match es with
 | [] => [(f, d)]
 | p :: r => match p.1 == f with | true => (f, d) :: r | false => p :: putA r f d
noncomputable def setAtt (H : Hp) (x : D) (f : Nat) (d : D) : Option Hp := dR x fun k => instO H[k]? (fun kd => attrsO H[kd]? fun es => gd (decide (f < 4) && decide (es.length <= 100)) (some (H.set kd (.attrs (putA es f d)))))
 (fun kd sl => gd (decide (4 <= f) && decide (f < 4 + sl.length)) (some (H.set k (.node kd (sl.set (f - 4) (some d))))))
noncomputable def putI (es : List (Int × D)) (x : Int) (d : D) : List (Int × D) := match es with
 | [] => [(x, d)]
 | p :: r => match p.1 == x with | true => (x, d) :: r | false => p :: putI r x d
noncomputable def setSub (H : Hp) (x y d : D) : Option Hp := dR x fun k => dI y fun i => dictO H[k]? fun es ep => gd (decide (es.length <= 1000)) (some (H.set k (.dict (putI es i d) (if es.any fun p => p.1 == i then ep else ep + 1))))
noncomputable def delSubD (H : Hp) (x y : D) : Option Hp := dR x fun k => dI y fun i => dictO H[k]? fun es ep => gd (decide (es.length <= 1000)) ((es.findIdx? fun p => p.1 == i).map fun j => H.set k (.dict (es.eraseIdx j) (ep + 1)))

structure Fns where
 ev : List D -> Lo -> Ex -> Hp -> (D -> Hp -> Prop) -> Prop
 tst : List D -> Lo -> Ex -> Hp -> (Bool -> Hp -> Prop) -> Prop
 ex : Stm -> Lo -> Hp -> (Fl -> Lo -> Hp -> Prop) -> Prop
 call : Nat -> List D -> Hp -> (D -> Hp -> Prop) -> Prop
@[irreducible] noncomputable def OP {α : Type} (x : Option α) (Q : α -> Prop) : Prop := match x with | some z => Q z | none => False
theorem op_el {α : Type} {x : Option α} {Q : α -> Prop} {P : Prop} (h : OP x Q) (c : ∀ z, x = some z -> Q z -> P) : P := by
 unfold OP at h
 cases x with
 | none => exact False.elim h
 | some z => exact c z rfl h
theorem op_go {α : Type} {x : Option α} {z : α} {Q : α -> Prop} (e : x = some z) (h : Q z) : OP x Q := by
 subst e
 unfold OP
 exact h
@[irreducible] noncomputable def wT (b : Bool) (p : Prop) : Prop := match b with | true => p | false => False
theorem wT_go {b : Bool} {p : Prop} (e : b = true) (h : p) : wT b p := by
 subst e
 unfold wT
 exact h
theorem wT_of {b : Bool} {p : Prop} (h : wT b p) : b = true /\ p := by
 unfold wT at h
 cases b with
 | true => exact ⟨rfl, h⟩
 | false => exact False.elim h
noncomputable def OPB (o : Bin) (x y : D) (Q : D -> Prop) : Prop := match x with
 | .int a => (match y with
  | .int b => (match o with
   | .add => Q (.int (a + b))
   | .sub => Q (.int (a - b))
   | .band => Q (.int (Builtin.bitAnd a b))
   | .bor => Q (.int (Builtin.bitOr a b))
   | o => OP (binD o (.int a) (.int b)) Q)
  | y => OP (binD o (.int a) y) Q)
 | x => OP (binD o x y) Q
theorem opB_of {o : Bin} {x y : D} {Q : D -> Prop} (h : OPB o x y Q) : OP (binD o x y) Q := by
 cases x <;> first | exact h | skip
 cases y <;> first | exact h | skip
 cases o <;> first | exact h | exact op_go rfl h
noncomputable def OPT (H : Hp) (x : D) (Q : Bool -> Prop) : Prop := match x with
 | .bool b => Q b
 | .none => Q false
 | x => OP (truth H x) Q
theorem opT_of {H : Hp} {x : D} {Q : Bool -> Prop} (h : OPT H x Q) : OP (truth H x) Q := by
 cases x <;> first | exact h | exact op_go rfl h
noncomputable def wI (x : D) (k : Int -> Prop) : Prop := match x with | .int i => k i | _ => False
noncomputable def wB (x : D) (k : Bool -> Prop) : Prop := match x with | .bool i => k i | _ => False
noncomputable def wR (x : D) (k : Nat -> Prop) : Prop := match x with | .ref i => k i | _ => False
noncomputable def wX (x : D) (k : Nat -> Prop) : Prop := match x with | .nxt i => k i | _ => False
noncomputable def wN (x : D) (k : Prop) : Prop := match x with | .none => k | _ => False
noncomputable def wTup (x : D) (k : List D -> Prop) : Prop := match x with | .tup i => k i | _ => False
noncomputable def w2 (l : List D) (k : D -> D -> Prop) : Prop := match l with
 | [] => False
 | a :: r => match r with
  | [] => False
  | b :: t => match t with | [] => k a b | _ :: _ => False
noncomputable def wSeq (x : D) (k : List D -> Prop) : Prop := match x with | .lst i => k i | .tup i => k i | _ => False
noncomputable def wO {α : Type} (x : Option α) (k : α -> Prop) : Prop := match x with | some a => k a | none => False
noncomputable def wOO (x : Option (Option D)) (k : D -> Prop) : Prop := wO x fun y => wO y k
noncomputable def wIf (b : Bool) (x y : Prop) : Prop := match b with | true => x | false => y
noncomputable def wD {α : Type} (x : Option α) (e : Prop) (k : α -> Prop) : Prop := match x with | some a => k a | none => e
section
variable {P : Prop}
theorem wI_el {M : D -> Prop} {x : D} {k : Int -> Prop} (h : wI x k) (c : ∀ i, k i -> M (.int i)) : M x := by
 cases x <;> first | exact c _ h | exact False.elim h
theorem wB_el {M : D -> Prop} {x : D} {k : Bool -> Prop} (h : wB x k) (c : ∀ i, k i -> M (.bool i)) : M x := by
 cases x <;> first | exact c _ h | exact False.elim h
theorem wR_el {M : D -> Prop} {x : D} {k : Nat -> Prop} (h : wR x k) (c : ∀ i, k i -> M (.ref i)) : M x := by
 cases x <;> first | exact c _ h | exact False.elim h
theorem wX_el {M : D -> Prop} {x : D} {k : Nat -> Prop} (h : wX x k) (c : ∀ i, k i -> M (.nxt i)) : M x := by
 cases x <;> first | exact c _ h | exact False.elim h
theorem wN_el {M : D -> Prop} {x : D} {k : Prop} (h : wN x k) (c : k -> M .none) : M x := by
 cases x <;> first | exact c h | exact False.elim h
theorem wTup_el {M : D -> Prop} {x : D} {k : List D -> Prop} (h : wTup x k) (c : ∀ i, k i -> M (.tup i)) : M x := by
 cases x <;> first | exact c _ h | exact False.elim h
theorem w2_el {M : List D -> Prop} {l : List D} {k : D -> D -> Prop} (h : w2 l k) (c : ∀ a b, k a b -> M [a, b]) : M l := by
 cases l with
 | nil => exact False.elim h
 | cons a r =>
  cases r with
  | nil => exact False.elim h
  | cons b t =>
   cases t with
   | nil => exact c a b h
   | cons => exact False.elim h
theorem wSeq_el {M : D -> Prop} {x : D} {k : List D -> Prop} (h : wSeq x k) (c1 : ∀ i, k i -> M (.lst i)) (c2 : ∀ i, k i -> M (.tup i)) : M x := by
 cases x <;> first | exact c1 _ h | exact c2 _ h | exact False.elim h
theorem wO_el {α : Type} {x : Option α} {k : α -> Prop} (h : wO x k) (c : ∀ a, x = some a -> k a -> P) : P := by
 cases x with
 | none => exact False.elim h
 | some a => exact c a rfl h
theorem wOO_el {x : Option (Option D)} {k : D -> Prop} (h : wOO x k) (c : ∀ a, x = some (some a) -> k a -> P) : P := by
 cases x with
 | none => exact False.elim h
 | some y =>
  cases y with
  | none => exact False.elim h
  | some a => exact c a rfl h
theorem wIf_el {M : Bool -> Prop} {b : Bool} {x y : Prop} (h : wIf b x y) (c1 : x -> M true) (c2 : y -> M false) : M b := by
 cases b with
 | true => exact c1 h
 | false => exact c2 h
theorem wD_el {α : Type} {M : Option α -> Prop} {x : Option α} {e : Prop} {k : α -> Prop} (h : wD x e k) (c1 : e -> M none) (c2 : ∀ a, k a -> M (some a)) : M x := by
 cases x with
 | none => exact c1 h
 | some a => exact c2 a h
end
noncomputable def itO (x : D) : Option (List D) := match x with
 | .lst ds => some ds
 | .tup ds => some ds
 | .bytes b => some (b.map fun c => .int c.toNat)
 | _ => none
noncomputable def l3 {γ : Type} (l : List D) (k : D -> D -> D -> Option γ) : Option γ := lC l fun a r => l2 r (k a)
noncomputable def rng2 (a b : Int) : Bool := decide (0 <= a) && decide (a <= 1000) && decide (0 <= b) && decide (b <= 1000)
noncomputable def itemsOf (sk : SK) (ds : List D) : Option (List D) := match sk with
 | .range1 => l1 ds fun x => dI x fun n => gd (decide (0 <= n) && decide (n <= 1000)) (some (rangeL n))
 | .range2 => l2 ds fun x y => dI x fun a => dI y fun b => gd (rng2 a b) (some (range3L a b 1))
 | .range3 => l3 ds fun x y z => dI x fun a => dI y fun b => dI z fun s => gd (rng2 a b && decide (1 <= s) && decide (s <= 1000)) (some (range3L a b s))
 | .it => l1 ds itO
 | .vals => none
noncomputable def nxL (k : Nat) (j : Nat) (H : Hp) : Option (Option D) := hL H k fun ds => some ds[j]?
noncomputable def nxP (k ep len : Nat) (j : Nat) (H : Hp) : Option (Option (Int × D)) := dictO H[k]? fun es ep' => gd (decide (ep' = ep) && decide (es.length = len)) (some es[j]?)
noncomputable def nxK (k ep len : Nat) (j : Nat) (H : Hp) : Option (Option D) := (nxP k ep len j H).map fun x => x.map fun p => .int p.1
noncomputable def nxV (k ep len : Nat) (j : Nat) (H : Hp) : Option (Option D) := (nxP k ep len j H).map fun x => x.map fun p => p.2
noncomputable def nxO (k : Nat) (o : Option Ob) : Option (Nat -> Hp -> Option (Option D)) := match o with
 | some (.list _) => some (nxL k)
 | some (.dict es ep) => some (nxK k ep es.length)
 | _ => none
noncomputable def nxW (k : Nat) (o : Option Ob) : Option (Nat -> Hp -> Option (Option D)) := dictO o fun es ep => some (nxV k ep es.length)
noncomputable def nxI (d : D) (H : Hp) : Option (Nat -> Hp -> Option (Option D)) := match d with
 | .ref k => nxO k H[k]?
 | d => (itO d).map fun xs j _ => some xs[j]?
noncomputable def nxOf (sk : SK) (ds : List D) (H : Hp) : Option (Nat -> Hp -> Option (Option D)) := match sk with
 | .it => l1 ds fun d => nxI d H
 | .vals => l1 ds fun d => dR d fun k => nxW k H[k]?
 | sk => (itemsOf sk ds).map fun xs j _ => some xs[j]?
noncomputable def loopMax : Nat := 5000
noncomputable def turns (sk : SK) (ds : List D) : Nat := match itemsOf sk ds with
 | some xs => xs.length + 1
 | none => loopMax
noncomputable def cvOf (nt : Nat) (d : D) : Option (List D) := match nt with
 | 0 => some [d]
 | _ => dT d fun ds => gd (decide (ds.length = nt)) (some ds)
section
variable (ih : Fns)
noncomputable def evs (cv : List D) (lo : Lo) : List Ex -> Hp -> (List D -> Hp -> Prop) -> Prop
 | [], H, Q => Q [] H
 | e :: r, H, Q => ih.ev cv lo e H fun d H1 => evs cv lo r H1 fun ds H2 => Q (d :: ds) H2
noncomputable def tsts (cv : List D) (lo : Lo) (so : Bool) : List Ex -> Hp -> (Bool -> Hp -> Prop) -> Prop
 | [], H, Q => Q (!so) H
 | e :: r, H, Q => ih.tst cv lo e H fun b H1 => wIf (b == so) (Q so H1) (tsts cv lo so r H1 Q)
noncomputable def boolV (cv : List D) (lo : Lo) (so : Bool) : List Ex -> Hp -> (D -> Hp -> Prop) -> Prop
 | [], _, _ => False
 | e :: r, H, Q => match r with
  | [] => ih.ev cv lo e H Q
  | _ :: _ => ih.ev cv lo e H fun d H1 => wB d fun b => wIf (b == so) (Q (.bool b) H1) (boolV cv lo so r H1 Q)
noncomputable def thn (fl : Fl) (a b : Prop) : Prop := match fl with | .next => a | _ => b
noncomputable def exs : List Stm -> Lo -> Hp -> (Fl -> Lo -> Hp -> Prop) -> Prop
 | [], lo, H, Q => Q .next lo H
 | s :: r, lo, H, Q => ih.ex s lo H fun fl lo1 H1 => thn fl (exs r lo1 H1 Q) (Q fl lo1 H1)
noncomputable def lp (fl : Fl) (lo : Lo) (H : Hp) (k : Lo -> Hp -> Prop) (Q : Fl -> Lo -> Hp -> Prop) : Prop := match fl with
 | .next => k lo H
 | .cont => k lo H
 | .brk => Q .next lo H
 | .ret d => Q (.ret d) lo H
noncomputable def forN (nx : Nat -> Hp -> Option (Option D)) (i : Nat) (body : List Stm) : Nat -> Nat -> Lo -> Hp -> (Fl -> Lo -> Hp -> Prop) -> Prop
 | 0, _, _, _, _ => False
 | m + 1, j, lo, H, Q => OP (nx j H) fun x => wD x (Q .next lo H) fun d => exs ih body (lo.set i (some d)) H fun fl lo1 H1 => lp fl lo1 H1 (fun lo2 H2 => forN nx i body m (j + 1) lo2 H2 Q) Q
noncomputable def compN (nx : Nat -> Hp -> Option (Option D)) (lo : Lo) (elt : Ex) (cond : List Ex) (nt : Nat) : Nat -> Nat -> Hp -> (List D -> Hp -> Prop) -> Prop
 | 0, _, _, _ => False
 | m + 1, j, H, Q => OP (nx j H) fun x => wD x (Q [] H) fun d => OP (cvOf nt d) fun cv => tsts ih cv lo false cond H fun b H1 =>
   wIf b (ih.ev cv lo elt H1 fun y H2 => compN nx lo elt cond nt m (j + 1) H2 fun ys H3 => Q (y :: ys) H3) (compN nx lo elt cond nt m (j + 1) H1 Q)
noncomputable def whileL (t : Ex) (body els : List Stm) : Nat -> Lo -> Hp -> (Fl -> Lo -> Hp -> Prop) -> Prop
 | 0, _, _, _ => False
 | n + 1, lo, H, Q => ih.tst [] lo t H fun b H1 => wIf b (exs ih body lo H1 fun fl lo2 H2 => lp fl lo2 H2 (fun lo3 H3 => whileL t body els n lo3 H3 Q) Q) (exs ih els lo H1 Q)
@[irreducible] noncomputable def forX (i : Nat) (body : List Stm) (sk : SK) (ds : List D) (lo : Lo) (H : Hp) (Q : Fl -> Lo -> Hp -> Prop) : Prop := OP (nxOf sk ds H) fun nx => forN ih nx i body (turns sk ds) 0 lo H Q
@[irreducible] noncomputable def compX (lo : Lo) (elt : Ex) (sk : SK) (cond : List Ex) (nt : Nat) (ds : List D) (H : Hp) (Q : List D -> Hp -> Prop) : Prop := OP (nxOf sk ds H) fun nx => wT (decide (turns sk ds <= lim + 1)) <| compN ih nx lo elt cond nt (turns sk ds) 0 H Q
@[irreducible] noncomputable def whX (t : Ex) (body els : List Stm) (lo : Lo) (H : Hp) (Q : Fl -> Lo -> Hp -> Prop) : Prop := whileL ih t body els loopMax lo H Q

noncomputable def newStep (c : Nat) (ds : List D) (H : Hp) (Q : D -> Hp -> Prop) : Prop := match c with
 | 0 => ih.call 100 (.ref (H.length + 1) :: ds) (H ++ [.attrs [], .inst H.length]) fun d H2 => wN d (Q (.ref (H.length + 1)) H2)
 | _ => ih.call 101 (.ref (H.length + 1) :: ds) (H ++ [.attrs [], .node H.length [none, none, none]]) fun d H2 => wN d (Q (.ref (H.length + 1)) H2)
noncomputable def evStep (cv : List D) (lo : Lo) (e : Ex) (H : Hp) (Q : D -> Hp -> Prop) : Prop := match e with
 | .k d => Q d H
 | .v i => wOO lo[i]? fun d => Q d H
 | .c j => wO cv[j]? fun d => Q d H
 | .g x => Q (.val x) H
 | .bin o a b => ih.ev cv lo a H fun x H1 => ih.ev cv lo b H1 fun y H2 => OPB o x y fun z => Q z H2
 | .neg a => ih.ev cv lo a H fun x H1 => wI x fun i => Q (.int (-i)) H1
 | .nt a => ih.ev cv lo a H fun x H1 => OPT H1 x fun b => Q (.bool (!b)) H1
 | .cmp o a b => ih.ev cv lo a H fun x H1 => ih.ev cv lo b H1 fun y H2 => OP (cmpD H2 o x y) fun z => Q (.bool z) H2
 | .btw _ _ _ => False
 | .and_ as => boolV ih cv lo false as H Q
 | .or_ as => boolV ih cv lo true as H Q
 | .ite t a b => ih.tst cv lo t H fun c H1 => wIf c (ih.ev cv lo a H1 Q) (ih.ev cv lo b H1 Q)
 | .lst as => evs ih cv lo as H fun ds H1 => Q (.lst ds) H1
 | .nlst as => evs ih cv lo as H fun ds H1 => Q (.ref H1.length) (H1 ++ [.list ds])
 | .ndict => Q (.ref H.length) (H ++ [.dict [] 0])
 | .tup as => evs ih cv lo as H fun ds H1 => Q (.tup ds) H1
 | .sub a b => ih.ev cv lo a H fun x H1 => ih.ev cv lo b H1 fun y H2 => OP (subD H2 x y) fun z => Q z H2
 | .slcTo a b => ih.ev cv lo a H fun x H1 => ih.ev cv lo b H1 fun y H2 => OP (slcToD H2 x y) fun z => Q z H2
 | .slcStep a b c => ih.ev cv lo a H fun x H1 => ih.ev cv lo b H1 fun y H2 => ih.ev cv lo c H2 fun z H3 => OP (slcStepD x y z) fun u => Q u H3
 | .fn f as dx => evs ih cv lo as H fun ds H1 => ih.call f (ds ++ dx) H1 Q
 | .fnk f as kw => evs ih cv lo as H fun ds H1 => ih.ev cv lo kw H1 fun d H2 => ih.call f (ds ++ [d]) H2 Q
 | .bf b as => evs ih cv lo as H fun ds H1 => OP (bfD b ds H1) fun r => Q r.1 r.2
 | .bm m o as => ih.ev cv lo o H fun x H1 => wT (bmK m x H1) <| evs ih cv lo as H1 fun ds H2 => OP (bmD m x ds H2) fun r => Q r.1 r.2
 | .om m o as => ih.ev cv lo o H fun x H1 => wR x fun z => wT (isInst H1 z) <| evs ih cv lo as H1 fun ds H2 => ih.call m (.ref z :: ds) H2 Q
 | .omS m o a => ih.ev cv lo o H fun x H1 => wR x fun z => wT (isInst H1 z) <| ih.ev cv lo a H1 fun y H2 => wSeq y fun ds => wT (decide (ds.length <= lim)) <| ih.call m (.ref z :: ds) H2 Q
 | .new c as dx => evs ih cv lo as H fun ds H1 => newStep ih c (ds ++ dx) H1 Q
 | .att o f => ih.ev cv lo o H fun x H1 => OP (attD H1 x f) fun d => Q d H1
 | .comp tr elt sk src cond nt => evs ih cv lo src H fun ds H1 => compX ih lo elt sk cond nt ds H1 fun ys H2 => wIf tr (Q (.ref H2.length) (H2 ++ [.list ys])) (Q (.lst ys) H2)

noncomputable def tstStep (cv : List D) (lo : Lo) (e : Ex) (H : Hp) (Q : Bool -> Hp -> Prop) : Prop := match e with
 | .and_ as => tsts ih cv lo false as H Q
 | .or_ as => tsts ih cv lo true as H Q
 | .nt a => ih.tst cv lo a H fun b H1 => Q (!b) H1
 | .ite _ _ _ => False
 | .cmp o a b => ih.ev cv lo a H fun x H1 => ih.ev cv lo b H1 fun y H2 => OP (cmpD H2 o x y) fun z => Q z H2
 | .btw a b c => ih.ev cv lo a H fun x H1 => wI x fun x => ih.ev cv lo b H1 fun y H2 => wI y fun y => wIf (decide (x <= y)) (ih.ev cv lo c H2 fun z H3 => wI z fun z => Q (decide (y <= z)) H3) (Q false H2)
 | e => ih.ev cv lo e H fun d H1 => OPT H1 d fun b => Q b H1

noncomputable def trySt (H : Hp) (k l j : Nat) (Q : Hp -> D -> Prop) (E : Hp -> Prop) : Prop := OP (hL H l some) fun ds => wD ds[j]? (E (H.set k .gone)) fun d => Q (H.set k (.iter l (j + 1))) d
noncomputable def iterO (o : Option Ob) (k : Nat -> Nat -> Prop) : Prop := match o with
 | some (.iter l j) => k l j
 | _ => False
noncomputable def exStep (s : Stm) (lo : Lo) (H : Hp) (Q : Fl -> Lo -> Hp -> Prop) : Prop := match s with
 | .asg i e => ih.ev [] lo e H fun d H1 => Q .next (lo.set i (some d)) H1
 | .asg2 i j e => ih.ev [] lo e H fun d H1 => wTup d fun ds => w2 ds fun x y => Q .next ((lo.set i (some x)).set j (some y)) H1
 | .asgAtt o f e => ih.ev [] lo e H fun d H1 => ih.ev [] lo o H1 fun x H2 => OP (setAtt H2 x f d) fun H3 => Q .next lo H3
 | .asgSub o k e => ih.ev [] lo e H fun d H1 => ih.ev [] lo o H1 fun x H2 => ih.ev [] lo k H2 fun y H3 => OP (setSub H3 x y d) fun H4 => Q .next lo H4
 | .asgSubV o k i e => ih.ev [] lo e H fun d H1 => ih.ev [] lo o H1 fun x H2 => ih.ev [] lo k H2 fun y H3 => OP (setSub H3 x y d) fun H4 => Q .next (lo.set i (some d)) H4
 | .augAtt o f op e => ih.ev [] lo o H fun x H1 => OP (attD H1 x f) fun a => wI a fun a => ih.ev [] lo e H1 fun b H2 => wI b fun b => OP (binI op a b) fun c => OP (setAtt H2 x f (.int c)) fun H3 => Q .next lo H3
 | .expr e => ih.ev [] lo e H fun _ H1 => Q .next lo H1
 | .if_ t a b => ih.tst [] lo t H fun c H1 => wIf c (exs ih a lo H1 Q) (exs ih b lo H1 Q)
 | .ifN i e a b => ih.ev [] lo e H fun d H1 => OP (isD d .none) fun c => wIf c (exs ih a (lo.set i (some d)) H1 Q) (exs ih b (lo.set i (some d)) H1 Q)
 | .for_ i sk src body => evs ih [] lo src H fun ds H1 => forX ih i body sk ds lo H1 Q
 | .while_ t body els => whX ih t body els lo H Q
 | .ret e => ih.ev [] lo e H fun d H1 => Q (.ret d) lo H1
 | .brk => Q .brk lo H
 | .cont => Q .cont lo H
 | .assert_ t => ih.tst [] lo t H fun c H1 => wIf c (Q .next lo H1) False
 | .tryNext i e hd => ih.ev [] lo e H fun x H1 => wX x fun k => iterO H1[k]? fun l j => trySt H1 k l j (fun H2 d => Q .brk (lo.set i (some d)) H2) fun H2 => exs ih hd lo H2 Q
 | .delSub o k => ih.ev [] lo o H fun x H1 => ih.ev [] lo k H1 fun y H2 => OP (delSubD H2 x y) fun H3 => Q .next lo H3
 | .stop => False
end
noncomputable def psOf (fn : FnS) (as : List D) : Option (List D) := match fn.va with
 | false => gd (decide (as.length = fn.np)) (some as)
 | true => gd (decide (fn.np <= as.length) && decide (as.length <= lim)) (some (as.take fn.np ++ [D.tup (as.drop fn.np)]))
noncomputable def retQ (Q : D -> Hp -> Prop) (fl : Fl) (_ : Lo) (H : Hp) : Prop := match fl with
 | .ret d => Q d H
 | .next => Q .none H
 | _ => False
noncomputable def fnsN (c : Nat -> List D -> Hp -> (D -> Hp -> Prop) -> Prop) : Nat -> Fns
 | 0 => ⟨fun _ _ _ _ _ => False, fun _ _ _ _ _ => False, fun _ _ _ _ => False, c⟩
 | n + 1 => ⟨evStep (fnsN c n), tstStep (fnsN c n), exStep (fnsN c n), c⟩
noncomputable def callN (T : Nat -> Option FnS) : Nat -> Nat -> List D -> Hp -> (D -> Hp -> Prop) -> Prop
 | 0, _, _, _, _ => False
 | k + 1, f, as, H, Q => wO (T f) fun fn => wO (psOf fn as) fun ps => exs (fnsN (callN T k) 30) fn.body (ps.map some ++ List.replicate (fn.nl - ps.length) none) H (retQ Q)
end Mine
end

section
open PySem
namespace Mine
noncomputable def fn0 : FnS := ⟨1, false, 1, [.if_ (.bf .isinstance [(.v 0), (.g (.type "str"))]) [.stop] [],
 .if_ (.bf .isinstance [(.v 0), (.g (.ref 44))]) [.ret (.v 0)] [],
 .stop]⟩
noncomputable def names0 : List Str := ["s"]
noncomputable def fn1 : FnS := ⟨1, false, 2, [.asg 1 (.bf .type [(.v 0)]),
 .if_ (.cmp .is (.v 1) (.g (.type "str"))) [.stop,
 .ret (.bm .encode (.v 0) [(.k (.str (Str.ofString "ascii")))])] [],
 .if_ (.cmp .is (.v 1) (.g (.type "bytes"))) [.ret (.v 0)] [],
 .if_ (.cmp .is (.v 1) (.g (.type "bytearray"))) [.ret (.bf .bytes [(.v 0)])] [],
 .stop]⟩
noncomputable def names1 : List Str := ["data", "t"]
noncomputable def fn2 : FnS := ⟨1, false, 2, [.asg 1 (.bf .type [(.v 0)]),
 .if_ (.cmp .is (.v 1) (.g (.type "bytes"))) [.ret (.v 0)] [],
 .if_ (.cmp .is (.v 1) (.g (.type "bytearray"))) [.ret (.bf .bytes [(.v 0)])] [],
 .stop]⟩
noncomputable def names2 : List Str := ["data", "t"]
noncomputable def fn3 : FnS := ⟨1, false, 2, [.asg 1 (.bf .type [(.v 0)]),
 .if_ (.or_ [(.cmp .is (.v 0) (.k .none)), (.cmp .is (.v 1) (.g (.type "bool"))), (.cmp .is (.v 1) (.g (.type "int"))), (.cmp .is (.v 1) (.g (.type "float"))), (.cmp .is (.v 1) (.g (.type "complex"))), (.cmp .is (.v 1) (.g (.type "str"))), (.cmp .is (.v 1) (.g (.type "bytes"))), (.cmp .is (.v 1) (.g (.type "bytearray"))), (.cmp .is (.v 1) (.g (.type "list"))), (.cmp .is (.v 1) (.g (.type "tuple"))), (.cmp .is (.v 1) (.g (.type "dict"))), (.cmp .is (.v 1) (.g (.type "set"))), (.cmp .is (.v 1) (.g (.type "frozenset"))), (.cmp .is (.v 1) (.g (.type "range")))]) [.ret (.ite (.v 0) (.k (.bool true)) (.k (.bool false)))] [],
 .stop]⟩
noncomputable def names3 : List Str := ["x", "t"]
noncomputable def fn4 : FnS := ⟨1, false, 1, [.if_ (.btw (.k (.int 65)) (.v 0) (.k (.int 90))) [.ret (.bin .sub (.v 0) (.k (.int 65)))] [],
 .if_ (.btw (.k (.int 97)) (.v 0) (.k (.int 122))) [.ret (.bin .sub (.v 0) (.k (.int 71)))] [],
 .if_ (.btw (.k (.int 48)) (.v 0) (.k (.int 57))) [.ret (.bin .add (.v 0) (.k (.int 4)))] [],
 .if_ (.cmp .eq (.v 0) (.k (.int 43))) [.ret (.k (.int 62))] [],
 .if_ (.cmp .eq (.v 0) (.k (.int 47))) [.ret (.k (.int 63))] [],
 .ret (.k (.int 64))]⟩
noncomputable def names4 : List Str := ["c"]
noncomputable def fn5 : FnS := ⟨2, false, 9, [.asg 2 (.fn 1 [(.v 0)] []),
 .asg 1 (.fn 3 [(.v 1)] []),
 .asg 3 (.nlst []),
 .asg 4 (.k (.int 0)),
 .asg 5 (.k (.int 0)),
 .asg 6 (.k (.int 0)),
 .asg 7 (.k (.int 0)),
 .for_ 8 .it [(.v 2)] [.if_ (.cmp .eq (.v 8) (.k (.int 61))) [.asg 6 (.bin .add (.v 6) (.k (.int 1))),
 .if_ (.and_ [(.cmp .ge (.v 4) (.k (.int 2))), (.cmp .le (.bin .add (.v 4) (.v 6)) (.k (.int 4)))]) [.asg 7 (.bin .add (.v 7) (.k (.int 1))),
 .cont] [],
 .if_ (.nt (.v 1)) [.asg 7 (.bin .add (.v 7) (.k (.int 1))),
 .cont] [],
 .if_ (.cmp .eq (.v 4) (.k (.int 1))) [.brk] [],
 .if_ (.and_ [(.cmp .eq (.v 4) (.k (.int 0))), (.cmp .eq (.v 7) (.k (.int 0)))]) [.stop] [],
 .stop] [],
 .asg 8 (.fn 4 [(.v 8)] []),
 .if_ (.cmp .ge (.v 8) (.k (.int 64))) [.if_ (.v 1) [.stop] [],
 .asg 7 (.bin .add (.v 7) (.k (.int 1))),
 .cont] [],
 .if_ (.and_ [(.v 6), (.v 1)]) [.if_ (.cmp .eq (.bin .add (.v 4) (.v 6)) (.k (.int 4))) [.stop] [],
 .stop] [],
 .asg 6 (.k (.int 0)),
 .if_ (.cmp .eq (.v 4) (.k (.int 0))) [.asg 4 (.k (.int 1)),
 .asg 5 (.v 8)] [.if_ (.cmp .eq (.v 4) (.k (.int 1))) [.asg 4 (.k (.int 2)),
 .expr (.bm .append (.v 3) [(.bin .bor (.bin .shl (.v 5) (.k (.int 2))) (.bin .shr (.v 8) (.k (.int 4))))]),
 .asg 5 (.bin .band (.v 8) (.k (.int 15)))] [.if_ (.cmp .eq (.v 4) (.k (.int 2))) [.asg 4 (.k (.int 3)),
 .expr (.bm .append (.v 3) [(.bin .bor (.bin .shl (.v 5) (.k (.int 4))) (.bin .shr (.v 8) (.k (.int 2))))]),
 .asg 5 (.bin .band (.v 8) (.k (.int 3)))] [.asg 4 (.k (.int 0)),
 .expr (.bm .append (.v 3) [(.bin .bor (.bin .shl (.v 5) (.k (.int 6))) (.v 8))]),
 .asg 5 (.k (.int 0))]]],
 .asg 7 (.bin .add (.v 7) (.k (.int 1)))],
 .if_ (.cmp .eq (.v 4) (.k (.int 1))) [.stop] [],
 .if_ (.and_ [(.cmp .ne (.v 4) (.k (.int 0))), (.cmp .lt (.bin .add (.v 4) (.v 6)) (.k (.int 4)))]) [.stop] [],
 .ret (.bf .bytes [(.v 3)])]⟩
noncomputable def names5 : List Str := ["data", "strict_mode", "ascii_data", "out", "quad_pos", "leftchar", "pads", "i", "this_ch"]
noncomputable def fn6 : FnS := ⟨2, false, 7, [.asg 2 (.fn 2 [(.v 0)] []),
 .asg 1 (.fn 3 [(.v 1)] []),
 .asg 3 (.nlst []),
 .asg 4 (.k (.int 0)),
 .asg 5 (.k (.int 0)),
 .for_ 6 .it [(.v 2)] [.asg 5 (.bin .band (.bin .bor (.bin .shl (.v 5) (.k (.int 8))) (.v 6)) (.k (.int 65535))),
 .asg 4 (.bin .add (.v 4) (.k (.int 8))),
 .while_ (.cmp .ge (.v 4) (.k (.int 6))) [.expr (.bm .append (.v 3) [(.sub (.k (.bytes [65, 66, 67, 68, 69, 70, 71, 72, 73, 74, 75, 76, 77, 78, 79, 80, 81, 82, 83, 84, 85, 86, 87, 88, 89, 90, 97, 98, 99, 100, 101, 102, 103, 104, 105, 106, 107, 108, 109, 110, 111, 112, 113, 114, 115, 116, 117, 118, 119, 120, 121, 122, 48, 49, 50, 51, 52, 53, 54, 55, 56, 57, 43, 47])) (.bin .band (.bin .shr (.v 5) (.bin .sub (.v 4) (.k (.int 6)))) (.k (.int 63))))]),
 .asg 4 (.bin .sub (.v 4) (.k (.int 6)))] []],
 .if_ (.cmp .eq (.v 4) (.k (.int 2))) [.expr (.bm .append (.v 3) [(.sub (.k (.bytes [65, 66, 67, 68, 69, 70, 71, 72, 73, 74, 75, 76, 77, 78, 79, 80, 81, 82, 83, 84, 85, 86, 87, 88, 89, 90, 97, 98, 99, 100, 101, 102, 103, 104, 105, 106, 107, 108, 109, 110, 111, 112, 113, 114, 115, 116, 117, 118, 119, 120, 121, 122, 48, 49, 50, 51, 52, 53, 54, 55, 56, 57, 43, 47])) (.bin .shl (.bin .band (.v 5) (.k (.int 3))) (.k (.int 4))))]),
 .expr (.bm .append (.v 3) [(.k (.int 61))]),
 .expr (.bm .append (.v 3) [(.k (.int 61))])] [.if_ (.cmp .eq (.v 4) (.k (.int 4))) [.expr (.bm .append (.v 3) [(.sub (.k (.bytes [65, 66, 67, 68, 69, 70, 71, 72, 73, 74, 75, 76, 77, 78, 79, 80, 81, 82, 83, 84, 85, 86, 87, 88, 89, 90, 97, 98, 99, 100, 101, 102, 103, 104, 105, 106, 107, 108, 109, 110, 111, 112, 113, 114, 115, 116, 117, 118, 119, 120, 121, 122, 48, 49, 50, 51, 52, 53, 54, 55, 56, 57, 43, 47])) (.bin .shl (.bin .band (.v 5) (.k (.int 15))) (.k (.int 2))))]),
 .expr (.bm .append (.v 3) [(.k (.int 61))])] []],
 .if_ (.v 1) [.expr (.bm .append (.v 3) [(.k (.int 10))])] [],
 .ret (.bf .bytes [(.v 3)])]⟩
noncomputable def names6 : List Str := ["data", "newline", "bin_data", "out", "leftbits", "leftchar", "b"]
noncomputable def fn7 : FnS := ⟨3, false, 4, [.asg 0 (.fn 2 [(.v 0)] []),
 .if_ (.or_ [(.cmp .isNot (.bf .type [(.v 2)]) (.g (.type "int"))), (.cmp .lt (.v 2) (.neg (.k (.int 2147483648)))), (.cmp .gt (.v 2) (.k (.int 2147483647)))]) [.stop] [],
 .if_ (.cmp .is (.v 1) (.g (.ref 109))) [.ret (.bm .encode (.bm .hex (.v 0) []) [(.k (.str (Str.ofString "ascii")))])] [],
 .stop]⟩
noncomputable def names7 : List Str := ["data", "sep", "bytes_per_sep", "t"]
noncomputable def fn8 : FnS := ⟨1, false, 1, [.if_ (.btw (.k (.int 48)) (.v 0) (.k (.int 57))) [.ret (.bin .sub (.v 0) (.k (.int 48)))] [],
 .if_ (.btw (.k (.int 65)) (.v 0) (.k (.int 70))) [.ret (.bin .sub (.v 0) (.k (.int 55)))] [],
 .if_ (.btw (.k (.int 97)) (.v 0) (.k (.int 102))) [.ret (.bin .sub (.v 0) (.k (.int 87)))] [],
 .ret (.k (.int 16))]⟩
noncomputable def names8 : List Str := ["c"]
noncomputable def fn9 : FnS := ⟨1, false, 7, [.asg 1 (.fn 1 [(.v 0)] []),
 .asg 2 (.bf .len [(.v 1)]),
 .if_ (.bin .mod (.v 2) (.k (.int 2))) [.stop] [],
 .asg 3 (.nlst []),
 .asg 4 (.k (.int 0)),
 .while_ (.cmp .lt (.v 4) (.v 2)) [.asg 5 (.fn 8 [(.sub (.v 1) (.v 4))] []),
 .asg 6 (.fn 8 [(.sub (.v 1) (.bin .add (.v 4) (.k (.int 1))))] []),
 .if_ (.or_ [(.cmp .ge (.v 5) (.k (.int 16))), (.cmp .ge (.v 6) (.k (.int 16)))]) [.stop] [],
 .expr (.bm .append (.v 3) [(.bin .add (.bin .shl (.v 5) (.k (.int 4))) (.v 6))]),
 .asg 4 (.bin .add (.v 4) (.k (.int 2)))] [],
 .ret (.bf .bytes [(.v 3)])]⟩
noncomputable def names9 : List Str := ["hexstr", "argbuf", "arglen", "out", "i", "top", "bot"]
noncomputable def fn10 : FnS := ⟨2, false, 3, [.asg 2 (.fnk 6 [(.v 0)] (.k (.bool false))),
 .if_ (.cmp .isNot (.v 1) (.k .none)) [.assert_ (.cmp .eq (.bf .len [(.v 1)]) (.k (.int 2))),
 .ret (.bm .translate (.v 2) [(.bm .maketrans (.g (.type "bytes")) [(.k (.bytes [43, 47])), (.v 1)])])] [],
 .ret (.v 2)]⟩
noncomputable def names10 : List Str := ["s", "altchars", "encoded"]
noncomputable def fn11 : FnS := ⟨3, false, 3, [.asg 0 (.fn 0 [(.v 0)] []),
 .if_ (.cmp .isNot (.v 1) (.k .none)) [.asg 1 (.fn 0 [(.v 1)] []),
 .assert_ (.cmp .eq (.bf .len [(.v 1)]) (.k (.int 2))),
 .asg 0 (.bm .translate (.v 0) [(.bm .maketrans (.g (.type "bytes")) [(.v 1), (.k (.bytes [43, 47]))])])] [],
 .ret (.fnk 5 [(.v 0)] (.v 2))]⟩
noncomputable def names11 : List Str := ["s", "altchars", "validate"]
noncomputable def fn12 : FnS := ⟨1, false, 1, [.ret (.bm .upper (.fn 7 [(.v 0)] [.val (.ref 109), .int 1]) [])]⟩
noncomputable def names12 : List Str := ["s"]
noncomputable def fn13 : FnS := ⟨2, false, 2, [.asg 0 (.fn 0 [(.v 0)] []),
 .if_ (.v 1) [.asg 0 (.bm .upper (.v 0) [])] [],
 .if_ (.bm .search (.g (.ref 43)) [(.v 0)]) [.stop] [],
 .ret (.fn 9 [(.v 0)] [])]⟩
noncomputable def names13 : List Str := ["s", "casefold"]
noncomputable def fn14 : FnS := ⟨1, false, 3, [.asg 1 (.comp true (.c 0) .range1 [(.k (.int 256))] [(.cmp .notIn (.c 0) (.k (.bytes [61, 65, 66, 67, 68, 69, 70, 71, 72, 73, 74, 75, 76, 77, 78, 79, 80, 81, 82, 83, 84, 85, 86, 87, 88, 89, 90, 97, 98, 99, 100, 101, 102, 103, 104, 105, 106, 107, 108, 109, 110, 111, 112, 113, 114, 115, 116, 117, 118, 119, 120, 121, 122, 48, 49, 50, 51, 52, 53, 54, 55, 56, 57])))] 0),
 .asg 2 (.bm .popAt (.v 1) [(.bin .mod (.v 0) (.k (.int 193)))]),
 .ret (.lst [(.v 2), (.sub (.v 1) (.bin .mod (.bin .fdiv (.v 0) (.k (.int 193))) (.k (.int 192))))])]⟩
noncomputable def names14 : List Str := ["number", "others", "first"]
noncomputable def fn15 : FnS := ⟨2, false, 4, [.asg 2 (.bf .nlist [(.v 0)]),
 .asg 3 (.nlst []),
 .while_ (.cmp .ne (.v 2) (.lst [])) [.expr (.bm .append (.v 3) [(.bm .popAt (.v 2) [(.bin .mod (.v 1) (.bf .len [(.v 2)]))])]),
 .asg 1 (.bin .fdiv (.v 1) (.bin .add (.bf .len [(.v 2)]) (.k (.int 1))))] [],
 .ret (.v 3)]⟩
noncomputable def names15 : List Str := ["size", "number", "left", "order"]
noncomputable def fn16 : FnS := ⟨2, false, 8, [.asg 2 (.bin .add (.bf .list [(.k (.bytes [65, 66, 67, 68, 69, 70, 71, 72, 73, 74, 75, 76, 77, 78, 79, 80, 81, 82, 83, 84, 85, 86, 87, 88, 89, 90, 97, 98, 99, 100, 101, 102, 103, 104, 105, 106, 107, 108, 109, 110, 111, 112, 113, 114, 115, 116, 117, 118, 119, 120, 121, 122, 48, 49, 50, 51, 52, 53, 54, 55, 56, 57]))]) (.v 1)),
 .asg 3 (.bin .mod (.neg (.bf .len [(.v 0)])) (.k (.int 3))),
 .asg 4 (.bin .add (.v 0) (.bin .mul (.lst [(.k (.int 0))]) (.v 3))),
 .asg 5 (.nlst []),
 .for_ 6 .range3 [(.k (.int 0)), (.bf .len [(.v 4)]), (.k (.int 3))] [.asg 7 (.bin .add (.bin .add (.bin .mul (.sub (.v 4) (.v 6)) (.k (.int 65536))) (.bin .mul (.sub (.v 4) (.bin .add (.v 6) (.k (.int 1)))) (.k (.int 256)))) (.sub (.v 4) (.bin .add (.v 6) (.k (.int 2))))),
 .expr (.bm .extend (.v 5) [(.comp false (.sub (.v 2) (.bin .mod (.bin .fdiv (.v 7) (.bin .pow (.k (.int 64)) (.c 0))) (.k (.int 64)))) .it [(.lst [(.k (.int 3)), (.k (.int 2)), (.k (.int 1)), (.k (.int 0))])] [] 0)])],
 .ret (.bin .add (.slcTo (.v 5) (.bin .sub (.bf .len [(.v 5)]) (.v 3))) (.bin .mul (.lst [(.k (.int 61))]) (.v 3)))]⟩
noncomputable def names16 : List Str := ["row", "two", "figures", "lack", "filled", "signs", "g", "number"]
noncomputable def fn17 : FnS := ⟨1, false, 4, [.asg 1 (.new 0 [] [.none]),
 .for_ 2 .range1 [(.bin .mul (.k (.int 8)) (.v 0))] [.expr (.om 103 (.v 1) [(.bin .add (.k (.int 100)) (.bin .fdiv (.v 2) (.k (.int 6)))), (.bin .fdiv (.v 2) (.k (.int 4)))]),
 .expr (.om 103 (.v 1) [(.bin .add (.k (.int 200)) (.bin .fdiv (.v 2) (.k (.int 4)))), (.bin .add (.k (.int 100)) (.bin .fdiv (.v 2) (.k (.int 6))))])],
 .for_ 3 .range2 [(.bin .fdiv (.bin .add (.bin .mul (.k (.int 8)) (.v 0)) (.k (.int 5))) (.k (.int 6))), (.bin .mul (.bin .fdiv (.bin .add (.v 0) (.k (.int 2))) (.k (.int 3))) (.k (.int 4)))] [.expr (.om 103 (.v 1) [(.bin .add (.k (.int 100)) (.v 3))])],
 .expr (.om 104 (.v 1) []),
 .ret (.v 1)]⟩
noncomputable def names17 : List Str := ["count", "sorter", "b", "j"]
noncomputable def fn18 : FnS := ⟨3, false, 3, [.ret (.bf .bytes [(.comp false (.ite (.cmp .inn (.c 0) (.v 1)) (.sub (.v 0) (.c 0)) (.sub (.v 2) (.c 0))) .range1 [(.bf .len [(.v 0)])] [] 0)])]⟩
noncomputable def names18 : List Str := ["text", "known", "other"]
noncomputable def fn19 : FnS := ⟨3, false, 13, [.asg 3 (.bin .mul (.k (.bytes [48])) (.bf .len [(.v 0)])),
 .asg 4 (.bin .mul (.k (.bytes [70])) (.bf .len [(.v 0)])),
 .asg 5 (.fn 10 [(.fn 13 [(.fn 18 [(.v 0), (.v 1), (.v 3)] [])] [.bool false]), (.v 2)] []),
 .asg 6 (.fn 10 [(.fn 13 [(.fn 18 [(.v 0), (.v 1), (.v 4)] [])] [.bool false]), (.v 2)] []),
 .asg 7 (.comp false (.c 0) .range1 [(.bf .len [(.v 5)])] [(.cmp .eq (.sub (.v 5) (.c 0)) (.sub (.v 6) (.c 0)))] 0),
 .asg 8 (.fn 18 [(.v 5), (.v 7), (.fn 10 [(.fn 13 [(.v 3)] [.bool false]), (.v 2)] [])] []),
 .asg 9 (.fn 18 [(.v 5), (.v 7), (.fn 10 [(.fn 13 [(.v 4)] [.bool false]), (.v 2)] [])] []),
 .asg 10 (.fn 12 [(.fn 11 [(.v 8), (.v 2), (.k (.bool true))] [])] []),
 .asg 11 (.fn 12 [(.fn 11 [(.v 9), (.v 2), (.k (.bool true))] [])] []),
 .asg 12 (.comp false (.c 0) .range1 [(.bf .len [(.v 10)])] [(.cmp .eq (.sub (.v 10) (.c 0)) (.sub (.v 11) (.c 0)))] 0),
 .ret (.tup [(.comp false (.tup [(.c 0), (.sub (.v 5) (.c 0))]) .it [(.v 7)] [] 0), (.comp false (.tup [(.c 0), (.sub (.v 10) (.c 0))]) .it [(.v 12)] [] 0)])]⟩
noncomputable def names19 : List Str := ["hexes", "came", "alt", "noughts", "ones", "low", "high", "sure", "least", "most", "below", "above", "read"]
noncomputable def fn20 : FnS := ⟨3, false, 17, [.asg 3 (.bf .bytes [(.v 2)]),
 .asg 4 (.fn 16 [(.v 0), (.v 2)] []),
 .asg 5 (.comp false (.sub (.k (.bytes [48, 49, 50, 51, 52, 53, 54, 55, 56, 57, 65, 66, 67, 68, 69, 70])) (.bin .mod (.bin .fdiv (.sub (.v 0) (.bin .fdiv (.c 0) (.k (.int 2)))) (.bin .pow (.k (.int 16)) (.bin .sub (.k (.int 1)) (.bin .mod (.c 0) (.k (.int 2)))))) (.k (.int 16)))) .range1 [(.bin .mul (.k (.int 2)) (.bf .len [(.v 0)]))] [] 0),
 .asg 6 (.fn 12 [(.bf .bytes [(.v 0)])] []),
 .if_ (.cmp .ne (.bf .list [(.v 6)]) (.v 5)) [.ret (.k (.bool false))] [],
 .asg 7 (.fn 17 [(.bf .len [(.v 0)])] []),
 .asg 8 (.comp false (.bin .add (.k (.int 100)) (.c 0)) .range1 [(.bf .len [(.v 4)])] [(.cmp .eq (.sub (.v 4) (.c 0)) (.k (.int 61)))] 0),
 .if_ (.cmp .ne (.om 105 (.v 7) []) (.bf .tuple [(.bin .add (.bf .listRange [(.bf .len [(.v 5)])]) (.v 8))])) [.ret (.k (.bool false))] [],
 .expr (.omS 107 (.v 7) (.v 8)),
 .asg2 9 10 (.fn 19 [(.v 6), (.lst []), (.v 3)] []),
 .if_ (.or_ [(.cmp .ne (.v 9) (.comp false (.tup [(.bin .sub (.c 0) (.k (.int 100))), (.k (.int 61))]) .it [(.v 8)] [] 0)), (.cmp .ne (.v 10) (.lst []))]) [.ret (.k (.bool false))] [],
 .asg 11 (.nlst []),
 .for_ 12 .it [(.v 1)] [.expr (.bm .append (.v 11) [(.v 12)]),
 .expr (.om 107 (.v 7) [(.v 12)]),
 .asg 13 (.om 105 (.v 7) []),
 .expr (.omS 107 (.v 7) (.v 13)),
 .asg 14 (.om 105 (.v 7) []),
 .expr (.omS 107 (.v 7) (.v 14)),
 .asg2 15 16 (.fn 19 [(.v 6), (.v 11), (.v 3)] []),
 .if_ (.cmp .ne (.v 13) (.bf .tuple [(.comp false (.bin .add (.k (.int 100)) (.c 0)) .it [(.v 15)] [(.cmp .notIn (.tup [(.c 0), (.c 1)]) (.v 9))] 2)])) [.ret (.k (.bool false))] [],
 .if_ (.cmp .ne (.v 14) (.bf .tuple [(.comp false (.bin .add (.k (.int 200)) (.c 0)) .it [(.v 16)] [(.cmp .notIn (.tup [(.c 0), (.c 1)]) (.v 10))] 2)])) [.ret (.k (.bool false))] [],
 .if_ (.or_ [(.cmp .ne (.comp false (.c 0) .it [(.v 15)] [(.cmp .ne (.sub (.v 4) (.c 0)) (.c 1))] 2) (.lst [])), (.cmp .ne (.comp false (.c 0) .it [(.v 16)] [(.cmp .ne (.sub (.v 5) (.c 0)) (.c 1))] 2) (.lst []))]) [.ret (.k (.bool false))] [],
 .asg 9 (.v 15),
 .asg 10 (.v 16)],
 .ret (.and_ [(.cmp .eq (.bf .len [(.v 9)]) (.bf .len [(.v 4)])), (.cmp .eq (.bf .len [(.v 10)]) (.bf .len [(.v 5)])), (.nt (.om 106 (.v 7) []))])]⟩
noncomputable def names20 : List Str := ["row", "order", "two", "alt", "signs", "digits", "hexes", "sorter", "pads", "sent", "back", "came", "i", "new", "home", "sure", "read"]
noncomputable def fn21 : FnS := ⟨1, false, 5, [.asg 1 (.bf .sum [(.v 0)]),
 .asg 2 (.bin .sub (.k (.int 5)) (.bin .mod (.v 1) (.k (.int 5)))),
 .asg 3 (.comp false (.bin .mod (.bin .add (.sub (.lst [(.k (.int 163)), (.k (.int 92)), (.k (.int 7)), (.k (.int 250)), (.k (.int 61))]) (.c 0)) (.bf .sum [(.slcStep (.v 0) (.c 0) (.k (.int 5)))])) (.k (.int 256))) .range1 [(.v 2)] [] 0),
 .asg 4 (.fn 15 [(.bin .mul (.k (.int 2)) (.v 2)), (.bin .add (.bin .fdiv (.v 1) (.k (.int 5))) (.k (.int 31415)))] []),
 .ret (.fn 20 [(.v 3), (.v 4), (.fn 14 [(.bin .add (.bin .add (.k (.int 1004)) (.bin .mul (.k (.int 211)) (.bf .len [(.v 0)]))) (.v 1))] [])] [])]⟩
noncomputable def names21 : List Str := ["script", "total", "count", "row", "order"]
noncomputable def fn100 : FnS := ⟨2, false, 4, [.asgAtt (.v 0) 0 .ndict,
 .asgAtt (.v 0) 1 (.k .none),
 .asgAtt (.v 0) 2 (.k (.int 0)),
 .asgAtt (.v 0) 3 (.k (.int 0)),
 .if_ (.cmp .isNot (.v 1) (.k .none)) [.stop] []]⟩
noncomputable def names100 : List Str := ["self", "graph", "node", "predecessors"]
noncomputable def fn101 : FnS := ⟨2, false, 2, [.asgAtt (.v 0) 4 (.v 1),
 .asgAtt (.v 0) 5 (.k (.int 0)),
 .asgAtt (.v 0) 6 (.nlst [])]⟩
noncomputable def names101 : List Str := ["self", "node"]
noncomputable def fn102 : FnS := ⟨2, false, 3, [.ifN 2 (.bm .get (.att (.v 0) 0) [(.v 1)]) [.asgSubV (.att (.v 0) 0) (.v 1) 2 (.new 1 [(.v 1)] [])] [],
 .ret (.v 2)]⟩
noncomputable def names102 : List Str := ["self", "node", "result"]
noncomputable def fn103 : FnS := ⟨2, true, 6, [.if_ (.cmp .isNot (.att (.v 0) 1) (.k .none)) [.stop] [],
 .asg 3 (.om 102 (.v 0) [(.v 1)]),
 .augAtt (.v 3) 5 .add (.bf .len [(.v 2)]),
 .for_ 4 .it [(.v 2)] [.asg 5 (.om 102 (.v 0) [(.v 4)]),
 .expr (.bm .append (.att (.v 5) 6) [(.v 1)])]]⟩
noncomputable def names103 : List Str := ["self", "node", "predecessors", "nodeinfo", "pred", "pred_info"]
noncomputable def fn104 : FnS := ⟨1, false, 2, [.if_ (.cmp .isNot (.att (.v 0) 1) (.k .none)) [.stop] [],
 .asgAtt (.v 0) 1 (.comp true (.att (.c 0) 4) .vals [(.att (.v 0) 0)] [(.cmp .eq (.att (.c 0) 5) (.k (.int 0)))] 0),
 .asg 1 (.om 108 (.v 0) []),
 .if_ (.v 1) [.stop] []]⟩
noncomputable def names104 : List Str := ["self", "cycle"]
noncomputable def fn105 : FnS := ⟨1, false, 4, [.if_ (.cmp .is (.att (.v 0) 1) (.k .none)) [.stop] [],
 .asg 1 (.bf .tuple [(.att (.v 0) 1)]),
 .asg 2 (.att (.v 0) 0),
 .for_ 3 .it [(.v 1)] [.asgAtt (.sub (.v 2) (.v 3)) 5 (.k (.int (-1)))],
 .expr (.bm .clear (.att (.v 0) 1) []),
 .augAtt (.v 0) 2 .add (.bf .len [(.v 1)]),
 .ret (.v 1)]⟩
noncomputable def names105 : List Str := ["self", "result", "n2i", "node"]
noncomputable def fn106 : FnS := ⟨1, false, 1, [.if_ (.cmp .is (.att (.v 0) 1) (.k .none)) [.stop] [],
 .ret (.or_ [(.cmp .lt (.att (.v 0) 3) (.att (.v 0) 2)), (.bf .bool [(.att (.v 0) 1)])])]⟩
noncomputable def names106 : List Str := ["self"]
noncomputable def fn107 : FnS := ⟨1, true, 8, [.if_ (.cmp .is (.att (.v 0) 1) (.k .none)) [.stop] [],
 .asg 2 (.att (.v 0) 0),
 .for_ 3 .it [(.v 1)] [.ifN 4 (.bm .get (.v 2) [(.v 3)]) [.stop] [],
 .asg 5 (.att (.v 4) 5),
 .if_ (.cmp .ne (.v 5) (.k (.int (-1)))) [.if_ (.cmp .ge (.v 5) (.k (.int 0))) [.stop] [.if_ (.cmp .eq (.v 5) (.k (.int (-2)))) [.stop] [.assert_ (.k (.bool false))]]] [],
 .asgAtt (.v 4) 5 (.k (.int (-2))),
 .for_ 6 .it [(.att (.v 4) 6)] [.asg 7 (.sub (.v 2) (.v 6)),
 .augAtt (.v 7) 5 .sub (.k (.int 1)),
 .if_ (.cmp .eq (.att (.v 7) 5) (.k (.int 0))) [.expr (.bm .append (.att (.v 0) 1) [(.v 6)])] []],
 .augAtt (.v 0) 3 .add (.k (.int 1))]]⟩
noncomputable def names107 : List Str := ["self", "nodes", "n2i", "node", "nodeinfo", "stat", "successor", "successor_info"]
noncomputable def fn108 : FnS := ⟨1, false, 7, [.asg 1 (.att (.v 0) 0),
 .asg 2 (.nlst []),
 .asg 3 (.nlst []),
 .asg 4 (.bf .set []),
 .asg 5 .ndict,
 .for_ 6 .it [(.v 1)] [.if_ (.cmp .inn (.v 6) (.v 4)) [.cont] [],
 .while_ (.k (.bool true)) [.if_ (.cmp .inn (.v 6) (.v 4)) [.if_ (.cmp .inn (.v 6) (.v 5)) [.stop] []] [.expr (.bm .sadd (.v 4) [(.v 6)]),
 .expr (.bm .append (.v 3) [(.bm .next (.bf .iter [(.att (.sub (.v 1) (.v 6)) 6)]) [])]),
 .asgSub (.v 5) (.v 6) (.bf .len [(.v 2)]),
 .expr (.bm .append (.v 2) [(.v 6)])],
 .while_ (.v 2) [.tryNext 6 (.sub (.v 3) (.neg (.k (.int 1)))) [.delSub (.v 5) (.bm .pop (.v 2) []),
 .expr (.bm .pop (.v 3) [])]] [.brk]] []],
 .ret (.k .none)]⟩
noncomputable def names108 : List Str := ["self", "n2i", "stack", "itstack", "seen", "node2stacki", "node"]
noncomputable def tabF : Nat -> Option FnS
 | 0 => some fn0
 | 1 => some fn1
 | 2 => some fn2
 | 3 => some fn3
 | 4 => some fn4
 | 5 => some fn5
 | 6 => some fn6
 | 7 => some fn7
 | 8 => some fn8
 | 9 => some fn9
 | 10 => some fn10
 | 11 => some fn11
 | 12 => some fn12
 | 13 => some fn13
 | 14 => some fn14
 | 15 => some fn15
 | 16 => some fn16
 | 17 => some fn17
 | 18 => some fn18
 | 19 => some fn19
 | 20 => some fn20
 | 21 => some fn21
 | 100 => some fn100
 | 101 => some fn101
 | 102 => some fn102
 | 103 => some fn103
 | 104 => some fn104
 | 105 => some fn105
 | 106 => some fn106
 | 107 => some fn107
 | 108 => some fn108
 | _ => none
end Mine
end

section
open PySem
namespace Mine
theorem Runs.size_le {M : Model} {Γ : Ctx} {p : Pos} {t : Sem PySem.Fin} {fs : List Frame} {s s' : Shared} {e : End} (h : Runs M Γ p t fs s e s') : s.heap.objs.size <= s'.heap.objs.size := by
 induction h <;> (try simp only [Shared.setGen, Heap.size_push, Heap.size_after_update] at *) <;> omega
theorem Returns.size_le {M : Model} {Γ : Ctx} {p : Pos} {s s' : Shared} {r : Result} (h : Returns M Γ p s r s') : s.heap.objs.size <= s'.heap.objs.size := Runs.size_le h
theorem Wakes.size_le {M : Model} {Γ : Ctx} {p : Pos} {g : Nat} {r : Resume} {s s' : Shared} {res : GenResult} (h : Wakes M Γ p g r s res s') : s.heap.objs.size <= s'.heap.objs.size := by
 unfold Wakes at h
 split at h
 ·exact h.elim
 ·split at h
  ·obtain ⟨e₁, s₁, hr, _, _, rfl⟩ := h; exact (Runs.size_le hr : (s.setGen g .running).heap.objs.size <= s₁.heap.objs.size)
  ·rw [h.2]; exact Nat.le_refl _
  ·rw [h.2]; exact Nat.le_refl _
 ·obtain ⟨e₁, s₁, hr, _, _, rfl⟩ := h; exact (Runs.size_le hr : (s.setGen g .running).heap.objs.size <= s₁.heap.objs.size)
 ·rw [h.2]; exact Nat.le_refl _
 ·rw [h.2]; exact Nat.le_refl _
theorem wp_size {α : Type} (M : Model) (Γ : Ctx) (n : Nat) (t : Sem α) : ∀ (Q : α -> Pos -> Shared -> Prop) (E : Value -> Pos -> Shared -> Prop) (p : Pos) (s : Shared), n <= s.heap.objs.size -> Sem.wp M Γ t Q E p s ->
  Sem.wp M Γ t (fun a p' s' => n <= s'.heap.objs.size /\ Q a p' s') (fun e p' s' => n <= s'.heap.objs.size /\ E e p' s') p s := by
 induction t with
 | pure a => intro Q E p s hn h; exact ⟨hn, h⟩
 | raise e => intro Q E p s hn h; exact ⟨hn, h⟩
 | unsupported _ => intro Q E p s _ h; exact h
 | finish _ => intro Q E p s _ h; exact h
 | rule _ k ih => intro Q E p s hn h; exact ih () Q E p s hn h
 | «at» p' k ih => intro Q E p s hn h; exact ih () Q E p' s hn h
 | load a _ k ih => intro Q E p s hn h; obtain ⟨o, ho, h⟩ := h; exact ⟨o, ho, ih o Q E p s hn h⟩
 | update a _ f k ih => intro Q E p s hn h; exact ⟨h.1, ih () Q E p _ (by simpa using hn) h.2⟩
 | loadIfAlive a k ih => intro Q E p s hn h; exact ih _ Q E p s hn h
 | point _ k ih => intro Q E p s hn h; exact ih () Q E p s hn h
 | register _ _ => intro Q E p s _ h; exact h
 | alloc o k ih => intro Q E p s hn h; exact ih _ Q E p _ (by show n <= (s.heap.push o).objs.size; rw [Heap.size_push]; omega) h
 | fresh k ih => intro Q E p s hn h; exact ih _ Q E p _ hn h
 | ask k ih => intro Q E p s hn h; exact ih _ Q E p s hn h
 | choose src m k ih => intro Q E p s hn h; exact ⟨h.1, ih _ Q E p _ hn h.2⟩
 | os q _ k ih => intro Q E p s hn h; exact ih _ Q E p _ hn h
 | call c hd _ _ k ih => intro Q E p s hn h; obtain ⟨r, s', hr, h⟩ := h; exact ⟨r, s', hr, ih r Q E p s' (Nat.le_trans hn (Returns.size_le hr)) h⟩
 | handled own k ih => intro Q E p s hn h; exact ih _ Q E p s hn h
 | genState g k ih => intro Q E p s hn h; obtain ⟨st, hs, h⟩ := h; exact ⟨st, hs, ih _ Q E p s hn h⟩
 | newGen c k ih => intro Q E p s hn h; exact ih _ Q E p _ hn h
 | resume g r _ k ih => intro Q E p s hn h; obtain ⟨res, s', hw, h⟩ := h; exact ⟨res, s', hw, ih res Q E p s' (Nat.le_trans hn (Wakes.size_le hw)) h⟩
 | yield _ _ _ _ => intro Q E p s _ h; exact h
 | stack k ih => intro Q E p s hn h; exact ih _ Q E p s hn h
 | fork _ _ => intro Q E p s _ h; exact h
 | thread k ih => intro Q E p s hn h; exact ih _ Q E p s hn h
 | await _ _ _ _ _ => intro Q E p s _ h; exact h
section
variable {α : Type} {M : Model} {A : Around} {s : Shared}
theorem with_size {t : Sem α} {Q : α -> Shared -> Prop} {E : Value -> Shared -> Prop} (h : wpAny M A t (fun a s' => s.heap.objs.size <= s'.heap.objs.size -> Q a s') E s) : wpAny M A t Q E s :=
 fun Γ p hΓ => Sem.wp_mono M Γ t (fun _ _ _ x => x.2 x.1) (fun _ _ _ x => x.2) _ _ (wp_size M Γ _ t _ _ p s (Nat.le_refl _) (h Γ p hΓ))
end
end Mine
end

section
open PySem
namespace Mine

class Off where
 xs : List Addr
 /-- the frames around -/
 fr : List Addr := []
variable [Off]

mutual
noncomputable def VRel (h : Heap) (ad : List Addr) : D -> Value -> Prop
 | .none, v => v = .none
 | .bool b, v => v = .bool b
 | .int i, v => ∃ t, v = .int i t
 | .bytes b, v => ∃ t, v = .bytes b.toArray t
 | .str x, v => ∃ t, v = .str x t
 | .tup ds, v => ∃ a vs n, v = .ref a /\ (a ∉ ad /\ a ∉ Off.xs) /\ h.get? a = some { cls := .type "tuple", data := .seq vs n } /\ VRels h ad ds vs.toList
 | .lst ds, v => ∃ a vs n, v = .ref a /\ (a ∉ ad /\ a ∉ Off.xs) /\ h.get? a = some { cls := .type "list", data := .seq vs n } /\ VRels h ad ds vs.toList
 | .ref k, v => ∃ a, v = .ref a /\ ad[k]? = some a
 | .nxt k, v => ∃ a o ai, v = .ref a /\ (a ∉ ad /\ a ∉ Off.xs) /\ h.get? a = some o /\ o.cls = .type "method-wrapper" /\ o.data = .fields #[.builtin "list_iterator.__next__", .ref ai] /\ ad[k]? = some ai
 | .val w, v => v = w
noncomputable def VRels (h : Heap) (ad : List Addr) : List D -> List Value -> Prop
 | [], vs => vs = []
 | d :: ds, vs => ∃ v r, vs = v :: r /\ VRel h ad d v /\ VRels h ad ds r
end

section
variable (prog : Program) (w : World)
noncomputable def DRel (h : Heap) (ad : List Addr) : List (Int × D) -> List DictEntry -> Prop
 | [], es => es = []
 | p :: r, es => ∃ e t, es = e :: t /\ (intKind prog w).is p.1 e.key = true /\ e.hash = (intKind prog w).hash p.1 /\ VRel h ad p.2 e.val /\ DRel h ad r t
noncomputable def SetOb (o : Obj) (S : Int -> Bool) (n : Nat) : Prop :=
 ∃ es ep t, o.ExactSet /\ o.data = .set es ep t /\ ElemsOf (intKind prog w) es.toList /\ (∀ k, S k = true ↔ ∃ e ∈ es.toList, (intKind prog w).is k e.2 = true)
  /\ es.size < scanBound /\ t.fits es.size = true /\ es.size = n
noncomputable def attName : Nat -> Str
 | 0 => "_node2info"
 | 1 => "_ready_nodes"
 | 2 => "_npassedout"
 | _ => "_nfinished"
noncomputable def clsS : Addr := 278
noncomputable def clsN : Addr := 181
noncomputable def SlRel (h : Heap) (ad : List Addr) (o : Obj) (i : Nat) : Option D -> Prop
 | none => True
 | some d => ∃ v, (o.slots[i]?).join = some v /\ VRel h ad d v

noncomputable def ORel (h : Heap) (ad : List Addr) : Ob -> Obj -> Prop
 | .list ds, o => ∃ vs n, o = { cls := .type "list", data := .seq vs n } /\ VRels h ad ds vs.toList
 | .dict es ep, o => o.ExactDict /\ (es.map (·.1)).Nodup /\ ∃ ents, o.data = .dict ents ep /\ DRel prog w h ad es ents.toList
 | .set es, o => SetOb prog w o (fun k => es.contains k) es.length
 | .attrs es, o => o.cls = .type "dict" /\ o.dict = none /\ o.slots = #[] /\ ∃ ents ep, o.data = .dict ents ep /\ (StrKeys ents /\ ents.size = es.length) /\ (∀ f d, (es.find? fun p => p.1 == f).map (·.2) = some d -> f < 4 -> ∃ v, nsFind ents (attName f) = some v /\ VRel h ad d v) /\
   ∀ x, nsFind ents x ≠ none -> ∃ f, f < 4 /\ x = attName f /\ (es.any fun p => p.1 == f) = true
 | .inst kd, o => ∃ dx, ad[kd]? = some dx /\ o = { cls := .ref clsS, dict := some dx, data := .plain }
 | .node kd sl, o => o.cls = .ref clsN /\ (∃ dx, ad[kd]? = some dx /\ o.dict = some dx) /\ o.data = .plain /\ ∀ i x, sl[i]? = some x -> SlRel h ad o i x
 | .iter k i, o => o.cls = .type "list_iterator" /\ o.dict = none /\ ∃ l, ad[k]? = some l /\ o.data = .fields #[.ref l, .int i 0]
 | .gone, _ => True
end

noncomputable def Hard (o : Obj) : Prop := (∃ vs n, o.data = .seq vs n) \/ ∃ vs, o.data = .fields vs
noncomputable def Like (o o' : Obj) : Prop := (Hard o -> o' = o) /\ o'.data = o.data
theorem Like.refl (o : Obj) : Like o o := ⟨fun _ => rfl, rfl⟩
theorem Like.trans {o o1 o2 : Obj} (a : Like o o1) (b : Like o1 o2) : Like o o2 :=
 ⟨fun h => by have e := a.1 h; subst e; exact b.1 h, b.2.trans a.2⟩
structure Go (ad : List Addr) (h : Heap) (ad' : List Addr) (h' : Heap) : Prop where
 like : ∀ b o, h.get? b = some o -> b ∉ ad -> ∃ o', h'.get? b = some o' /\ Like o o'
 new : ∀ a ∈ ad', h.objs.size <= a
 size : h.objs.size <= h'.objs.size

structure St (prog : Program) (w : World) (B : Heap) (h : Heap) (ad : List Addr) (H : List Ob) : Prop where
 base : ∀ b o, B.get? b = some o -> h.get? b = some o
 new : ∀ a ∈ ad, B.get? a = Option.none
 nd : ad.Nodup
 len : ad.length = H.length
 off : ∀ a ∈ Off.xs, a < h.objs.size /\ a ∉ ad /\ B.get? a = Option.none
 frs : ∀ a ∈ Off.fr, (a ∉ ad /\ a ∉ Off.xs) /\ B.get? a = Option.none /\ ∃ o es ep, h.get? a = some o /\ o.data = .dict es ep
 obj : ∀ (k : Nat) (a : Addr) (o : Ob), ad[k]? = some a -> H[k]? = some o -> ∃ ob, h.get? a = some ob /\ ORel prog w h ad o ob

theorem Go.keep {ad ad' : List Addr} {h h' : Heap} (g : Go ad h ad' h') (b : Addr) (o : Obj) (e : h.get? b = some o) (n : b ∉ ad) (hd : Hard o) : h'.get? b = some o := by
 obtain ⟨o', e', l⟩ := g.like b o e n
 rw [e', l.1 hd]
theorem Go.soft {ad ad' : List Addr} {h h' : Heap} (g : Go ad h ad' h') (b : Addr) (o : Obj) (e : h.get? b = some o) (n : b ∉ ad) : ∃ o', h'.get? b = some o' /\ o'.data = o.data := by
 obtain ⟨o', e', l⟩ := g.like b o e n
 exact ⟨o', e', l.2⟩
theorem Go.notin {ad ad' : List Addr} {h h' : Heap} (g : Go ad h ad' h') {a : Addr} {o : Obj} (e : h.get? a = some o) (n : a ∉ ad) : a ∉ ad ++ ad' := by
 intro m
 rcases List.mem_append.mp m with m | m
 ·exact n m
 ·exact absurd (Heap.lt_size e) (Nat.not_lt.mpr (g.new a m))

mutual
theorem VRel.go {ad ad' : List Addr} {h h' : Heap} (g : Go ad h ad' h') : ∀ {d : D} {v : Value}, VRel h ad d v -> VRel h' (ad ++ ad') d v
 | .none, _, r => by unfold VRel at *; exact r
 | .bool _, _, r => by unfold VRel at *; exact r
 | .int _, _, r => by unfold VRel at *; exact r
 | .bytes _, _, r => by unfold VRel at *; exact r
 | .str _, _, r => by unfold VRel at *; exact r
 | .tup ds, _, r => by
  unfold VRel at *
  refine hid fun zP zk => ?_
  obtain ⟨a, vs, n, ez1, na, e, q⟩ := r
  refine zk ?_
  clear zk zP
  subst ez1
  exact ⟨a, vs, n, rfl, ⟨g.notin e na.1, na.2⟩, g.keep a _ e na.1 (.inl ⟨_, _, rfl⟩), VRels.go g q⟩
 | .lst ds, _, r => by
  unfold VRel at *
  refine hid fun zP zk => ?_
  obtain ⟨a, vs, n, ez2, na, e, q⟩ := r
  refine zk ?_
  clear zk zP
  subst ez2
  exact ⟨a, vs, n, rfl, ⟨g.notin e na.1, na.2⟩, g.keep a _ e na.1 (.inl ⟨_, _, rfl⟩), VRels.go g q⟩
 | .ref k, _, r => by
  unfold VRel at *
  obtain ⟨a, rfl, e⟩ := r
  refine ⟨a, rfl, ?_⟩
  rw [List.getElem?_append_left (List.getElem?_eq_some_iff.mp e).1]; exact e
 | .nxt k, _, r => by
  unfold VRel at *
  refine hid fun zP zk => ?_
  obtain ⟨a, o, ai, ez3, na, e, c, dt, q⟩ := r
  refine zk ?_
  clear zk zP
  subst ez3
  refine ⟨a, o, ai, rfl, ⟨g.notin e na.1, na.2⟩, g.keep a o e na.1 (.inr ⟨_, dt⟩), c, dt, ?_⟩
  rw [List.getElem?_append_left (List.getElem?_eq_some_iff.mp q).1]; exact q
 | .val _, _, r => by unfold VRel at *; exact r
theorem VRels.go {ad ad' : List Addr} {h h' : Heap} (g : Go ad h ad' h') : ∀ {ds : List D} {vs : List Value}, VRels h ad ds vs -> VRels h' (ad ++ ad') ds vs
 | [], _, r => by unfold VRels at *; exact r
 | d :: ds, _, r => by
  unfold VRels at *
  refine hid fun zP zk => ?_
  obtain ⟨v, rest, ez4, r1, r2⟩ := r
  refine zk ?_
  clear zk zP
  subst ez4
  exact ⟨v, rest, rfl, VRel.go g r1, VRels.go g r2⟩
end

theorem Go.of_keeps {ad : List Addr} {h h' : Heap} (k : ∀ b o, h.get? b = some o -> h'.get? b = some o) (s : h.objs.size <= h'.objs.size) : Go ad h [] h' :=
 ⟨fun b o e _ => ⟨o, k b o e, .refl o⟩, fun _ m => (nomatch m), s⟩
theorem Go.refl (ad : List Addr) (h : Heap) : Go ad h [] h := .of_keeps (fun _ _ e => e) (Nat.le_refl _)
theorem Go.trans {ad a1 a2 : List Addr} {h h1 h2 : Heap} (g1 : Go ad h a1 h1) (g2 : Go (ad ++ a1) h1 a2 h2) : Go ad h (a1 ++ a2) h2 :=
 ⟨fun b o e n => by
  refine hid fun zP zk => ?_
  obtain ⟨o1, e1, l1⟩ := g1.like b o e n
  obtain ⟨o2, e2, l2⟩ := g2.like b o1 e1 (g1.notin e n)
  refine zk ?_
  clear zk zP
  exact ⟨o2, e2, l1.trans l2⟩,
  fun a m => by
  rcases List.mem_append.mp m with m | m
  ·exact g1.new a m
  ·exact Nat.le_trans g1.size (g2.new a m), Nat.le_trans g1.size g2.size⟩

section
variable {prog : Program} {w : World}
theorem DRel.map {h h' : Heap} {ad ad2 : List Addr} (f : ∀ d v, VRel h ad d v -> VRel h' ad2 d v) : ∀ {es : List (Int × D)} {l : List DictEntry}, DRel prog w h ad es l -> DRel prog w h' ad2 es l
 | [], _, r => r
 | _ :: _, _, ⟨e, t, q, k1, k2, r, rest⟩ => ⟨e, t, q, k1, k2, f _ _ r, rest.map f⟩
theorem ORel.map {h h' : Heap} {ad ad2 : List Addr} (f : ∀ d v, VRel h ad d v -> VRel h' ad2 d v) (fs : ∀ ds vs, VRels h ad ds vs -> VRels h' ad2 ds vs) (x : ∀ (k : Nat) (a : Addr), ad[k]? = some a -> ad2[k]? = some a) :
  ∀ {o : Ob} {ob : Obj}, ORel prog w h ad o ob -> ORel prog w h' ad2 o ob
 | .list _, _, ⟨vs, n, e, r⟩ => ⟨vs, n, e, fs _ _ r⟩
 | .dict _ _, _, ⟨ed, nd, ents, e, r⟩ => ⟨ed, nd, ents, e, r.map f⟩
 | .set _, _, r => r
 | .attrs _, _, ⟨c1, c2, c3, ents, ep, e, k, q, q2⟩ => ⟨c1, c2, c3, ents, ep, e, k, fun g d hf hg => let ⟨v, e1, r⟩ := q g d hf hg; ⟨v, e1, f _ _ r⟩, q2⟩
 | .inst _, _, ⟨dx, e, q⟩ => ⟨dx, x _ _ e, q⟩
 | .node _ _, _, ⟨c, ⟨dx, dn, dn2⟩, dt, q⟩ => ⟨c, ⟨dx, x _ _ dn, dn2⟩, dt, fun i y e => by
   have := q i y e
   cases y with
   | none => exact trivial
   | some d => obtain ⟨v, e1, r⟩ := this; exact ⟨v, e1, f _ _ r⟩⟩
 | .iter _ _, _, ⟨c, dn, l, e, q⟩ => ⟨c, dn, l, x _ _ e, q⟩
 | .gone, _, _ => trivial
theorem app_get {ad ad' : List Addr} (k : Nat) (a : Addr) (e : ad[k]? = some a) : (ad ++ ad')[k]? = some a := by
 rw [List.getElem?_append_left (List.getElem?_eq_some_iff.mp e).1]; exact e
theorem ORel.go {ad ad' : List Addr} {h h' : Heap} (g : Go ad h ad' h') {o : Ob} {ob : Obj} (r : ORel prog w h ad o ob) : ORel prog w h' (ad ++ ad') o ob :=
 r.map (fun _ _ q => q.go g) (fun _ _ q => q.go g) app_get

theorem St.keeps {B h h' : Heap} {ad : List Addr} {H : List Ob} (S : St prog w B h ad H) (k : ∀ b o, h.get? b = some o -> h'.get? b = some o) (s : h.objs.size <= h'.objs.size) : St prog w B h' ad H :=
 ⟨fun b o e => k b o (S.base b o e), S.new, S.nd, S.len, fun a m => ⟨Nat.lt_of_lt_of_le (S.off a m).1 s, (S.off a m).2⟩, fun a m => by
  refine hid fun zP zk => ?_
  obtain ⟨f1, f2, o, es, ep, e, d⟩ := S.frs a m
  refine zk ?_
  clear zk zP
  exact ⟨f1, f2, o, es, ep, k a o e, d⟩, fun k' a o e1 e2 => by
  obtain ⟨ob, e, r⟩ := S.obj k' a o e1 e2
  have := r.go (Go.of_keeps (ad := ad) k s)
  rw [List.append_nil] at this
  exact ⟨ob, k a ob e, this⟩⟩

theorem St.notB {B h : Heap} {ad : List Addr} {H : List Ob} (S : St prog w B h ad H) {a : Addr} (m : a ∈ ad) {b : Addr} {o : Obj} (e : B.get? b = some o) : b ≠ a := by
 rintro rfl
 rw [S.new b m] at e; cases e

theorem St.set {B h h' : Heap} {ad : List Addr} {H : List Ob} {k : Nat} {a : Addr} {o' : Ob} {ob' : Obj} (S : St prog w B h ad H) (hk : ad[k]? = some a) (sb : Heap.SameBut a h h') (sz : h.objs.size <= h'.objs.size)
  (e : h'.get? a = some ob') (r : ORel prog w h ad o' ob') : St prog w B h' ad (H.set k o') /\ Go ad h [] h' := by
 have ma : a ∈ ad := List.mem_of_getElem? hk
 have g : Go ad h [] h' := ⟨fun b o eb n => ⟨o, (sb.2 b (fun q => n (q ▸ ma))).trans eb, .refl o⟩, fun _ m => (nomatch m), sz⟩
 refine ⟨⟨fun b o eb => (sb.2 b (S.notB ma eb)).trans (S.base b o eb), S.new, S.nd, by rw [List.length_set]; exact S.len, fun a m => ⟨Nat.lt_of_lt_of_le (S.off a m).1 sz, (S.off a m).2⟩, fun b m => by
  refine hid fun zP zk => ?_
  obtain ⟨f1, f2, o, es, ep, e, d⟩ := S.frs b m
  refine zk ?_
  clear zk zP
  exact ⟨f1, f2, o, es, ep, (sb.2 b (fun q => f1.1 (q ▸ ma))).trans e, d⟩, fun j b o e1 e2 => ?_⟩, g⟩
 by_cases hj : j = k
 ·subst hj
  have hb : b = a := Option.some.inj (e1.symm.trans hk)
  subst hb
  have : (H.set j o')[j]? = some o' := by
   rw [List.getElem?_set_self]
   have := (List.getElem?_eq_some_iff.mp hk).1
   rw [S.len] at this; exact this
  have ho : o = o' := Option.some.inj (e2.symm.trans this)
  subst ho
  have := r.go g
  rw [List.append_nil] at this
  exact ⟨ob', e, this⟩
 ·rw [List.getElem?_set_ne (Ne.symm hj)] at e2
  obtain ⟨ob, e3, r3⟩ := S.obj j b o e1 e2
  have nb : b ≠ a := by
   rintro rfl
   have := (List.getElem?_inj (List.getElem?_eq_some_iff.mp e1).1 S.nd).mp (e1.trans hk.symm)
   exact hj this
  have := r3.go g
  rw [List.append_nil] at this
  exact ⟨ob, (sb.2 b nb).trans e3, this⟩

theorem St.alloc {B h : Heap} {ad : List Addr} {H : List Ob} {o : Ob} {ob : Obj} (S : St prog w B h ad H) (hf : ob.isFreed = false) (r : ORel prog w h ad o ob) :
  St prog w B (h.push ob) (ad ++ [h.objs.size]) (H ++ [o]) /\ Go ad h [h.objs.size] (h.push ob) := by
 have g : Go ad h [h.objs.size] (h.push ob) := ⟨fun b o e _ => ⟨o, Heap.get?_push_of_some _ e, .refl o⟩, fun a m => by
  rcases List.mem_singleton.mp m with rfl; exact Nat.le_refl _, by rw [Heap.size_push]; omega⟩
 have fresh : h.get? h.objs.size = Option.none := by
  cases q : h.get? h.objs.size with
  | none => rfl
  | some o' => exact absurd (Heap.lt_size q) (Nat.lt_irrefl _)
 have nin : h.objs.size ∉ ad := fun m => by
  obtain ⟨k, hk⟩ := List.getElem?_of_mem m
  have lk := (List.getElem?_eq_some_iff.mp hk).1
  rw [S.len] at lk
  obtain ⟨ob1, e, _⟩ := S.obj k _ H[k] hk (List.getElem?_eq_getElem lk)
  rw [fresh] at e; cases e
 refine ⟨⟨fun b o e => Heap.get?_push_of_some _ (S.base b o e), fun a m => ?_, ?_, by simp [S.len], fun a m => ?_, fun a m => ?_, fun k a o' e1 e2 => ?_⟩, g⟩
 ·rcases List.mem_append.mp m with m | m
  ·exact S.new a m
  ·rcases List.mem_singleton.mp m with rfl
   cases q : B.get? h.objs.size with
   | none => rfl
   | some o' => exact absurd (Heap.lt_size (S.base _ _ q)) (Nat.lt_irrefl _)
 ·exact List.nodup_append.mpr ⟨S.nd, by simp, fun a m b m' => by
   rcases List.mem_singleton.mp m' with rfl
   rintro rfl; exact nin m⟩
 ·obtain ⟨o1, o2, o3⟩ := S.off a m
  refine ⟨by rw [Heap.size_push]; exact Nat.lt_succ_of_lt o1, fun q => ?_, o3⟩
  rcases List.mem_append.mp q with q | q
  ·exact o2 q
  ·rcases List.mem_singleton.mp q with rfl; exact absurd o1 (Nat.lt_irrefl _)
 ·refine hid fun zP zk => ?_
  obtain ⟨f1, f2, o, es, ep, e, d⟩ := S.frs a m
  refine zk ?_
  clear zk zP
  refine ⟨⟨fun q => ?_, f1.2⟩, f2, o, es, ep, Heap.get?_push_of_some _ e, d⟩
  rcases List.mem_append.mp q with q | q
  ·exact f1.1 q
  ·rcases List.mem_singleton.mp q with rfl; exact absurd (Heap.lt_size e) (Nat.lt_irrefl _)
 ·by_cases hk : k < ad.length
  ·rw [List.getElem?_append_left hk] at e1
   rw [List.getElem?_append_left (S.len ▸ hk)] at e2
   obtain ⟨ob1, e3, r3⟩ := S.obj k a o' e1 e2
   exact ⟨ob1, Heap.get?_push_of_some _ e3, r3.go g⟩
  ·have hk' := Nat.not_lt.mp hk
   rw [List.getElem?_append_right hk'] at e1
   rw [List.getElem?_append_right (S.len ▸ hk')] at e2
   have l0 := (List.getElem?_eq_some_iff.mp e1).1
   have : k - ad.length = 0 := by simpa using l0
   rw [this] at e1
   rw [S.len] at this
   rw [this] at e2
   simp only [List.getElem?_cons_zero, Option.some.injEq] at e1 e2
   subst e1 e2
   exact ⟨ob, Heap.get?_push_size _ hf, r.go g⟩
end
end Mine
end

section
open PySem
namespace Mine
variable [Off]

noncomputable def own (env : Env) : List Addr := env.locals :: env.cells.map (·.2)

structure GoS (env : Env) (ad : List Addr) (h : Heap) (ad' : List Addr) (h' : Heap) : Prop where
 like : ∀ b o, h.get? b = some o -> b ∉ ad -> b ∉ own env -> ∃ o', h'.get? b = some o' /\ Like o o'
 new : ∀ a ∈ ad', h.objs.size <= a
 size : h.objs.size <= h'.objs.size

theorem GoS.keep {env : Env} {ad ad' : List Addr} {h h' : Heap} (g : GoS env ad h ad' h') (b : Addr) (o : Obj) (e : h.get? b = some o) (n : b ∉ ad) (w : b ∉ own env) (hd : Hard o) : h'.get? b = some o := by
 obtain ⟨o', e', l⟩ := g.like b o e n w
 rw [e', l.1 hd]
theorem mem_cells {cs : List (Str × Addr)} {x : Str} {c : Addr} (e : cs.lookup x = some c) : c ∈ cs.map (·.2) := List.mem_map.mpr ⟨(x, c), mem_of_lookup e, rfl⟩
theorem own_cell {env : Env} {x : Str} {c : Addr} (e : env.cells.lookup x = some c) : c ∈ own env := List.mem_cons_of_mem _ (mem_cells e)
theorem own_locals (env : Env) : env.locals ∈ own env := List.mem_cons_self

theorem Go.toS {ad ad' : List Addr} {h h' : Heap} (g : Go ad h ad' h') (env : Env) : GoS env ad h ad' h' := ⟨fun b o e n _ => g.like b o e n, g.new, g.size⟩
theorem GoS.notin {env : Env} {ad ad' : List Addr} {h h' : Heap} (g : GoS env ad h ad' h') {a : Addr} {o : Obj} (e : h.get? a = some o) (n : a ∉ ad) : a ∉ ad ++ ad' := by
 intro m
 rcases List.mem_append.mp m with m | m
 ·exact n m
 ·exact absurd (Heap.lt_size e) (Nat.not_lt.mpr (g.new a m))
theorem GoS.trans {env : Env} {ad a1 a2 : List Addr} {h h1 h2 : Heap} (g1 : GoS env ad h a1 h1) (g2 : GoS env (ad ++ a1) h1 a2 h2) : GoS env ad h (a1 ++ a2) h2 :=
 ⟨fun b o e n w => by
  refine hid fun zP zk => ?_
  obtain ⟨o1, e1, l1⟩ := g1.like b o e n w
  obtain ⟨o2, e2, l2⟩ := g2.like b o1 e1 (g1.notin e n) w
  refine zk ?_
  clear zk zP
  exact ⟨o2, e2, l1.trans l2⟩,
  fun a m => by
  rcases List.mem_append.mp m with m | m
  ·exact g1.new a m
  ·exact Nat.le_trans g1.size (g2.new a m), Nat.le_trans g1.size g2.size⟩

noncomputable def softD : Data -> Prop
 | .seq _ _ => False
 | .fields _ => False
 | _ => True
noncomputable def Soft (h : Heap) (ex : List Addr) : Prop := ∀ a ∈ ex, ∀ o, h.get? a = some o -> softD o.data
theorem Soft.ne {h : Heap} {ex : List Addr} (f : Soft h ex) {a : Addr} {o : Obj} {vs : Array Value} {n : Nat} (e : h.get? a = some o) (d : o.data = .seq vs n) : a ∉ ex := fun m => by
 have := f a m o e
 rw [d] at this; exact this
theorem Soft.ne' {h : Heap} {ex : List Addr} (f : Soft h ex) {a : Addr} {o : Obj} {vs : Array Value} (e : h.get? a = some o) (d : o.data = .fields vs) : a ∉ ex := fun m => by
 have := f a m o e
 rw [d] at this; exact this
structure Fm (B h : Heap) (ad : List Addr) (env : Env) (names : List Str) (lo : List (Option D)) : Prop where
 kind : env.scope.kind = .function
 glob : env.globals = mainGlobals
 blt : env.builtins = builtinsNs
 ns : ∃ m, h.Ns env.locals m /\ ∀ (i : Nat) (x : Str) (d : D), names[i]? = some x -> lo[i]? = some (some d) -> env.kindOf x = some .local -> ∃ v, m x = some v /\ VRel h ad d v
 cell : ∀ (i : Nat) (x : Str), names[i]? = some x -> env.kindOf x = some .cell -> ∃ c ov, env.cells.lookup x = some c /\ h.IsCell c ov /\ ∀ d, lo[i]? = some (some d) -> ∃ v, ov = some v /\ VRel h ad d v
 kinds : ∀ x ∈ names, env.kindOf x = some .local \/ env.kindOf x = some .cell
 nd : names.Nodup
 len : lo.length = names.length
 apart : env.cells.Pairwise fun x y => x.2 ≠ y.2
 above : ∀ c ∈ env.cells.map (·.2), env.locals ≠ c
 far : ∀ a ∈ own env, a ∉ ad /\ B.get? a = Option.none
 offs : ∀ a ∈ own env, a ∉ Off.xs
 soft : ∀ a ∈ own env, ∃ o, h.get? a = some o /\ softD o.data
 frame : env.frame = some env.locals
 inFr : env.locals ∈ Off.fr

theorem Fm.softs {B h : Heap} {ad : List Addr} {env : Env} {names : List Str} {lo : List (Option D)} (F : Fm B h ad env names lo) : Soft h (own env) := fun a m o e => by
 obtain ⟨o', e', q⟩ := F.soft a m
 rw [e] at e'; cases e'
 exact q

mutual
theorem VRel.goS {env : Env} {ad ad' : List Addr} {h h' : Heap} (f : Soft h (own env)) (g : GoS env ad h ad' h') : ∀ {d : D} {v : Value}, VRel h ad d v -> VRel h' (ad ++ ad') d v
 | .none, _, r => by unfold VRel at *; exact r
 | .bool _, _, r => by unfold VRel at *; exact r
 | .int _, _, r => by unfold VRel at *; exact r
 | .bytes _, _, r => by unfold VRel at *; exact r
 | .str _, _, r => by unfold VRel at *; exact r
 | .tup ds, _, r => by
  unfold VRel at *
  refine hid fun zP zk => ?_
  obtain ⟨a, vs, n, ez1, na, e, q⟩ := r
  refine zk ?_
  clear zk zP
  subst ez1
  exact ⟨a, vs, n, rfl, ⟨g.notin e na.1, na.2⟩, g.keep a _ e na.1 (f.ne e rfl) (.inl ⟨_, _, rfl⟩), VRels.goS f g q⟩
 | .lst ds, _, r => by
  unfold VRel at *
  refine hid fun zP zk => ?_
  obtain ⟨a, vs, n, ez2, na, e, q⟩ := r
  refine zk ?_
  clear zk zP
  subst ez2
  exact ⟨a, vs, n, rfl, ⟨g.notin e na.1, na.2⟩, g.keep a _ e na.1 (f.ne e rfl) (.inl ⟨_, _, rfl⟩), VRels.goS f g q⟩
 | .ref k, _, r => by
  unfold VRel at *
  obtain ⟨a, rfl, e⟩ := r
  refine ⟨a, rfl, ?_⟩
  rw [List.getElem?_append_left (List.getElem?_eq_some_iff.mp e).1]; exact e
 | .nxt k, _, r => by
  unfold VRel at *
  refine hid fun zP zk => ?_
  obtain ⟨a, o, ai, ez3, na, e, c, dt, q⟩ := r
  refine zk ?_
  clear zk zP
  subst ez3
  refine ⟨a, o, ai, rfl, ⟨g.notin e na.1, na.2⟩, g.keep a o e na.1 (f.ne' e dt) (.inr ⟨_, dt⟩), c, dt, ?_⟩
  rw [List.getElem?_append_left (List.getElem?_eq_some_iff.mp q).1]; exact q
 | .val _, _, r => by unfold VRel at *; exact r
theorem VRels.goS {env : Env} {ad ad' : List Addr} {h h' : Heap} (f : Soft h (own env)) (g : GoS env ad h ad' h') : ∀ {ds : List D} {vs : List Value}, VRels h ad ds vs -> VRels h' (ad ++ ad') ds vs
 | [], _, r => by unfold VRels at *; exact r
 | d :: ds, _, r => by
  unfold VRels at *
  refine hid fun zP zk => ?_
  obtain ⟨v, rest, ez4, r1, r2⟩ := r
  refine zk ?_
  clear zk zP
  subst ez4
  exact ⟨v, rest, rfl, VRel.goS f g r1, VRels.goS f g r2⟩
end
section
variable {prog : Program} {w : World}
theorem ORel.goS {env : Env} {ad ad' : List Addr} {h h' : Heap} (f : Soft h (own env)) (g : GoS env ad h ad' h') {o : Ob} {ob : Obj} (r : ORel prog w h ad o ob) : ORel prog w h' (ad ++ ad') o ob :=
 r.map (fun _ _ q => q.goS f g) (fun _ _ q => q.goS f g) app_get
end

section
variable {prog : Program} {w : World} {B h h' : Heap} {ad ad' : List Addr} {env : Env} {names : List Str} {lo : List (Option D)} {H : List Ob}

theorem Fm.go (F : Fm B h ad env names lo) (b : ∀ a ∈ ad', B.get? a = Option.none) (g : Go ad h ad' h') : Fm B h' (ad ++ ad') env names lo where
 kind := F.kind
 glob := F.glob
 blt := F.blt
 ns := by
  obtain ⟨m, n, q⟩ := F.ns
  refine ⟨m, ?_, fun i x d e1 e2 e3 => ?_⟩
  ·refine hid fun zP zk => ?_
   obtain ⟨o, es, ep, e, dt, r⟩ := n
   obtain ⟨o', e', dt'⟩ := g.soft _ _ e (F.far _ (own_locals env)).1
   refine zk ?_
   clear zk zP
   exact ⟨o', es, ep, e', dt'.trans dt, r⟩
  ·obtain ⟨v, e, r⟩ := q i x d e1 e2 e3
   exact ⟨v, e, r.go g⟩
 cell := fun i x e1 e2 => by
  refine hid fun zP zk => ?_
  obtain ⟨c, ov, e3, ⟨o, e, dt⟩, q⟩ := F.cell i x e1 e2
  obtain ⟨o', e', dt'⟩ := g.soft _ _ e (F.far _ (own_cell e3)).1
  refine zk ?_
  clear zk zP
  refine ⟨c, ov, e3, ⟨o', e', dt'.trans dt⟩, fun d e4 => ?_⟩
  obtain ⟨v, e5, r⟩ := q d e4
  exact ⟨v, e5, r.go g⟩
 kinds := F.kinds
 nd := F.nd
 len := F.len
 apart := F.apart
 above := F.above
 far := fun a m => by
  obtain ⟨o, e, _⟩ := F.soft a m
  exact ⟨g.notin e (F.far a m).1, (F.far a m).2⟩
 offs := F.offs
 soft := fun a m => by
  refine hid fun zP zk => ?_
  obtain ⟨o, e, q⟩ := F.soft a m
  obtain ⟨o', e', dt'⟩ := g.soft a o e (F.far a m).1
  refine zk ?_
  clear zk zP
  exact ⟨o', e', by rw [dt']; exact q⟩
 frame := F.frame
 inFr := F.inFr

theorem St.new_of (S : St prog w B h' (ad ++ ad') H) : ∀ a ∈ ad', B.get? a = Option.none := fun a m => S.new a (List.mem_append_right _ m)

theorem St.side {c : Addr} (S : St prog w B h ad H) (F : Fm B h ad env names lo) (m : c ∈ own env) (sb : Heap.SameBut c h h') (sz : h.objs.size <= h'.objs.size) (hfr : c ∈ Off.fr -> ∃ o es ep, h'.get? c = some o /\ o.data = .dict es ep) : St prog w B h' ad H /\ GoS env ad h [] h' := by
 have g : GoS env ad h [] h' := ⟨fun b o e n w => ⟨o, (sb.2 b (fun q => w (q ▸ m))).trans e, .refl o⟩, fun _ q => (nomatch q), sz⟩
 refine ⟨⟨fun b o e => (sb.2 b ?_).trans (S.base b o e), S.new, S.nd, S.len, fun a m => ⟨Nat.lt_of_lt_of_le (S.off a m).1 sz, (S.off a m).2⟩, fun a ma => ?_, fun k a o e1 e2 => ?_⟩, g⟩
 ·rintro rfl
  rw [(F.far b m).2] at e; cases e
 ·refine hid fun zP zk => ?_
  obtain ⟨f1, f2, o, es, ep, e, d⟩ := S.frs a ma
  refine zk ?_
  clear zk zP
  by_cases hac : a = c
  ·subst hac; exact ⟨f1, f2, hfr ma⟩
  ·exact ⟨f1, f2, o, es, ep, (sb.2 a hac).trans e, d⟩
 ·obtain ⟨ob, e, r⟩ := S.obj k a o e1 e2
  have na : a ≠ c := by
   rintro rfl
   exact (F.far a m).1 (List.mem_of_getElem? e1)
  have := r.goS F.softs g
  rw [List.append_nil] at this
  exact ⟨ob, (sb.2 a na).trans e, this⟩

theorem getElem?_set_some {α : Type} {l : List α} {i j : Nat} {x y : α} (e : (l.set i x)[j]? = some y) : (j = i /\ y = x) \/ (j ≠ i /\ l[j]? = some y) := by
 by_cases q : j = i
 ·subst q
  have lt := (List.getElem?_eq_some_iff.mp e).1
  rw [List.length_set] at lt
  rw [List.getElem?_set_self lt] at e
  exact .inl ⟨rfl, (Option.some.inj e).symm⟩
 ·rw [List.getElem?_set_ne (Ne.symm q)] at e
  exact .inr ⟨q, e⟩

theorem names_inj (F : Fm B h ad env names lo) {i j : Nat} {x : Str} (e1 : names[i]? = some x) (e2 : names[j]? = some x) : i = j :=
 (List.getElem?_inj (List.getElem?_eq_some_iff.mp e1).1 F.nd).mp (e1.trans e2.symm)

theorem Fm.storeL {i : Nat} {x : Str} {d : D} {v : Value} {m : Str -> Option Value} (S : St prog w B h ad H) (F : Fm B h ad env names lo) (hi : names[i]? = some x) (hk : env.kindOf x = some .local) (r : VRel h ad d v)
  (hm : h.Ns env.locals m) (hmq : ∀ (i : Nat) (x : Str) (d : D), names[i]? = some x -> lo[i]? = some (some d) -> env.kindOf x = some .local -> ∃ v, m x = some v /\ VRel h ad d v)
  (hn : h'.Ns env.locals (fun y => if y = x then some v else m y)) (sb : Heap.SameBut env.locals h h') (sz : h.objs.size <= h'.objs.size) : Fm B h' ad env names (lo.set i (some d)) := by
 obtain ⟨_, g⟩ := S.side F (own_locals env) sb sz (fun _ => let ⟨o, es, ep, e, d, _⟩ := hn; ⟨o, es, ep, e, d⟩)
 have vgo : ∀ {d : D} {v : Value}, VRel h ad d v -> VRel h' ad d v := fun r => by
  have := r.goS F.softs g
  rwa [List.append_nil] at this
 refine ⟨F.kind, F.glob, F.blt, ⟨_, hn, fun j y d' e1 e2 e3 => ?_⟩, fun j y e1 e2 => ?_, F.kinds, F.nd, by rw [List.length_set]; exact F.len, F.apart, F.above, F.far, F.offs, fun a ma => ?_, F.frame, F.inFr⟩
 ·rcases getElem?_set_some e2 with ⟨rfl, q⟩ | ⟨ne, q⟩
  ·cases q
   rw [hi] at e1; cases e1
   exact ⟨v, by rw [if_pos rfl], vgo r⟩
  ·obtain ⟨v', e, r'⟩ := hmq j y d' e1 q e3
   refine ⟨v', ?_, vgo r'⟩
   rw [if_neg]
   ·exact e
   ·rintro rfl
    exact ne (names_inj F e1 hi)
 ·refine hid fun zP zk => ?_
  obtain ⟨c, ov, e3, ic, q⟩ := F.cell j y e1 e2
  refine zk ?_
  clear zk zP
  refine ⟨c, ov, e3, ic.sameBut sb (Ne.symm (F.above c (mem_cells e3))), fun d' e4 => ?_⟩
  rcases getElem?_set_some e4 with ⟨rfl, _⟩ | ⟨ne, e4⟩
  ·rw [hi] at e1; cases e1
   rw [hk] at e2; cases e2
  ·obtain ⟨v', e5, r'⟩ := q d' e4
   exact ⟨v', e5, vgo r'⟩
 ·obtain ⟨o, e, q⟩ := F.soft a ma
  by_cases hc : a = env.locals
  ·subst hc
   refine hid fun zP zk => ?_
   obtain ⟨o', es, ep, e', dt, _⟩ := hn
   refine zk ?_
   clear zk zP
   exact ⟨o', e', by rw [dt]; exact trivial⟩
  ·exact ⟨o, (sb.2 a hc).trans e, q⟩

theorem lookup_addr {cs : List (Str × Addr)} (ap : cs.Pairwise fun x y => x.2 ≠ y.2) {x y : Str} {c : Addr} (e1 : cs.lookup x = some c) (e2 : cs.lookup y = some c) : x = y := name_of_addr ap (mem_of_lookup e1) (mem_of_lookup e2)

theorem St.cell_nfr {i : Nat} {x : Str} {c : Addr} (S : St prog w B h ad H) (hi : names[i]? = some x) (hk : env.kindOf x = some .cell) (F : Fm B h ad env names lo) (hc : env.cells.lookup x = some c) {h'' : Heap} :
  c ∈ Off.fr -> ∃ o es ep, h''.get? c = some o /\ o.data = .dict es ep := fun m => by
 refine hid fun zP zk => ?_
 obtain ⟨_, _, o, es, ep, e, d⟩ := S.frs c m
 obtain ⟨c', ov, hc', ⟨o', e', d'⟩, _⟩ := F.cell i x hi hk
 refine zk ?_
 clear zk zP
 rw [hc] at hc'
 cases hc'
 rw [e] at e'
 cases e'
 rw [d] at d'
 cases d'
theorem Fm.storeC {i : Nat} {x : Str} {d : D} {v : Value} {c : Addr} (S : St prog w B h ad H) (F : Fm B h ad env names lo) (hi : names[i]? = some x) (hk : env.kindOf x = some .cell) (r : VRel h ad d v)
  (hc : env.cells.lookup x = some c) (hn : h'.IsCell c (some v)) (sb : Heap.SameBut c h h') (sz : h.objs.size <= h'.objs.size) : Fm B h' ad env names (lo.set i (some d)) := by
 obtain ⟨_, g⟩ := S.side F (own_cell hc) sb sz (S.cell_nfr hi hk F hc)
 have vgo : ∀ {d : D} {v : Value}, VRel h ad d v -> VRel h' ad d v := fun r => by
  have := r.goS F.softs g
  rwa [List.append_nil] at this
 obtain ⟨m, hm, hmq⟩ := F.ns
 refine ⟨F.kind, F.glob, F.blt, ⟨m, hm.sameBut sb (F.above c (mem_cells hc)), fun j y d' e1 e2 e3 => ?_⟩, fun j y e1 e2 => ?_, F.kinds, F.nd, by rw [List.length_set]; exact F.len, F.apart, F.above, F.far, F.offs, fun a ma => ?_, F.frame, F.inFr⟩
 ·rcases getElem?_set_some e2 with ⟨rfl, _⟩ | ⟨ne, q⟩
  ·rw [hi] at e1; cases e1
   rw [hk] at e3; cases e3
  ·obtain ⟨v', e, r'⟩ := hmq j y d' e1 q e3
   exact ⟨v', e, vgo r'⟩
 ·by_cases hy : y = x
  ·subst hy
   have : j = i := names_inj F e1 hi
   subst this
   refine ⟨c, some v, hc, hn, fun d' e4 => ?_⟩
   rcases getElem?_set_some e4 with ⟨_, q⟩ | ⟨ne, _⟩
   ·cases q; exact ⟨v, rfl, vgo r⟩
   ·exact absurd rfl ne
  ·refine hid fun zP zk => ?_
   obtain ⟨c', ov, e3, ic, q⟩ := F.cell j y e1 e2
   refine zk ?_
   clear zk zP
   have hcc : c' ≠ c := by
    rintro rfl
    exact hy (lookup_addr F.apart e3 hc)
   refine ⟨c', ov, e3, ic.sameBut sb hcc, fun d' e4 => ?_⟩
   rcases getElem?_set_some e4 with ⟨rfl, _⟩ | ⟨ne, e4⟩
   ·rw [hi] at e1; cases e1; exact absurd rfl hy
   ·obtain ⟨v', e5, r'⟩ := q d' e4
    exact ⟨v', e5, vgo r'⟩
 ·obtain ⟨o, e, q⟩ := F.soft a ma
  by_cases hac : a = c
  ·subst hac
   obtain ⟨o', e', dt⟩ := hn
   exact ⟨o', e', by rw [dt]; exact trivial⟩
  ·exact ⟨o, (sb.2 a hac).trans e, q⟩
end

section
variable {prog : Program} {w : World} {M : Model} {A : Around} {E : Value -> Shared -> Prop} {s : Shared} {B : Heap} {ad : List Addr} {env : Env} {names : List Str} {lo : List (Option D)} {H : List Ob}

theorem Fm.load {i : Nat} {x : Str} {d : D} {Q : Value -> Shared -> Prop} (F : Fm B s.heap ad env names lo) (hi : names[i]? = some x) (hl : lo[i]? = some (some d)) (h : ∀ v, VRel s.heap ad d v -> Q v s) :
  wpAny M A (loadName env x) Q E s := by
 rcases F.kinds x (List.mem_of_getElem? hi) with k | k
 ·refine hid fun zP zk => ?_
  obtain ⟨m, hm, q⟩ := F.ns
  obtain ⟨v, e, r⟩ := q i x d hi hl k
  refine zk ?_
  clear zk zP
  exact wpAny_loadName_local F.kind k hm e (h v r)
 ·refine hid fun zP zk => ?_
  obtain ⟨c, ov, hc, ic, q⟩ := F.cell i x hi k
  obtain ⟨v, ez5, r⟩ := q d hl
  refine zk ?_
  clear zk zP
  subst ez5
  exact wpAny_loadName_cell F.kind k hc ic (h v r)

theorem sameBut_size {a : Addr} {h h' : Heap} (s : Heap.SameBut a h h') : h.objs.size <= h'.objs.size := Nat.le_of_eq s.1.symm

theorem Fm.store {i : Nat} {x : Str} {d : D} {v : Value} {Q : Unit -> Shared -> Prop} (S : St prog w B s.heap ad H) (F : Fm B s.heap ad env names lo) (hi : names[i]? = some x) (r : VRel s.heap ad d v)
  (h : ∀ h' tk, St prog w B h' ad H -> Fm B h' ad env names (lo.set i (some d)) -> GoS env ad s.heap [] h' -> Q () { s with heap := h', toks := tk }) :
  wpAny M A (storeName env x v) Q E s := by
 rcases F.kinds x (List.mem_of_getElem? hi) with k | k
 ·obtain ⟨m, hm, q⟩ := F.ns
  refine wpAny_storeName_local k hm (fun h' hn hs => ?_) (by rw [F.kind]; rfl)
  obtain ⟨S', g⟩ := S.side F (own_locals env) hs (sameBut_size hs) (fun _ => let ⟨o, es, ep, e, d, _⟩ := hn; ⟨o, es, ep, e, d⟩)
  exact h h' _ S' (F.storeL S hi k r hm q hn hs (sameBut_size hs)) g
 ·refine hid fun zP zk => ?_
  obtain ⟨c, ov, hc, ic, q⟩ := F.cell i x hi k
  refine zk ?_
  clear zk zP
  refine wpAny_storeName_cell F.kind k hc ic (fun h' hn hs => ?_)
  obtain ⟨S', g⟩ := S.side F (own_cell hc) hs (sameBut_size hs) (S.cell_nfr hi k F hc)
  exact h h' s.toks S' (F.storeC S hi k r hc hn hs (sameBut_size hs)) g
end
end Mine
end

section
open PySem PySem.W PyProof.Rows
namespace Mine
variable [Off]

structure Cx where
 kd : List (Str × NameKind)
 names : List Str
 cn : List Str
 inC : Bool

noncomputable def vOk (X : Cx) (x : Str) : Bool := match X.kd.lookup x with
 | some .cell => true
 | some .free => X.inC
 | some .local => !X.inC
 | _ => false

noncomputable def Rd (h : Heap) (ad : List Addr) (env : Env) (x : Str) (d : D) : Prop :=
 ∃ v, VRel h ad d v /\ ((env.kindOf x = some .local /\ ∃ m, h.Ns env.locals m /\ m x = some v) \/ ((env.kindOf x = some .cell \/ env.kindOf x = some .free) /\ ∃ c, env.cells.lookup x = some c /\ h.IsCell c (some v)))

structure RC (X : Cx) (env : Env) (h : Heap) (ad : List Addr) (lo : Lo) (cv : List D) : Prop where
 kind : env.scope.kind = .function
 glob : env.globals = mainGlobals
 blt : env.builtins = builtinsNs
 sc : env.scope.names = X.kd
 vr : ∀ (i : Nat) (x : Str) (d : D), X.names[i]? = some x -> lo[i]? = some (some d) -> vOk X x = true -> Rd h ad env x d
 cr : ∀ (j : Nat) (x : Str) (d : D), X.cn[j]? = some x -> cv[j]? = some d -> X.kd.lookup x = some .local -> X.inC = true -> Rd h ad env x d
 far : ∀ a ∈ own env, a ∉ ad /\ a < h.objs.size
 cl : ∀ (i : Nat) x, X.names[i]? = some x -> X.kd.lookup x = some .cell -> X.inC = false -> ∃ c, env.cells.lookup x = some c

theorem Rd.go {h h' : Heap} {ad ad' : List Addr} {env : Env} {x : Str} {d : D} (r : Rd h ad env x d) (far : ∀ a ∈ own env, a ∉ ad) (g : Go ad h ad' h') : Rd h' (ad ++ ad') env x d := by
 obtain ⟨v, q, r⟩ := r
 refine ⟨v, q.go g, ?_⟩
 rcases r with ⟨k, m, ⟨o, es, ep, e, dt, r⟩, hm⟩ | ⟨k, c, hc, o, e, dt⟩
 ·obtain ⟨o', e', dt'⟩ := g.soft _ _ e (far _ (own_locals env))
  exact .inl ⟨k, m, ⟨o', es, ep, e', dt'.trans dt, r⟩, hm⟩
 ·obtain ⟨o', e', dt'⟩ := g.soft _ _ e (far _ (own_cell hc))
  exact .inr ⟨k, c, hc, o', e', dt'.trans dt⟩

theorem RC.go {X : Cx} {env : Env} {h h' : Heap} {ad ad' : List Addr} {lo : Lo} {cv : List D} (R : RC X env h ad lo cv) (g : Go ad h ad' h') : RC X env h' (ad ++ ad') lo cv :=
 ⟨R.kind, R.glob, R.blt, R.sc, fun i x d e1 e2 e3 => (R.vr i x d e1 e2 e3).go (fun a m => (R.far a m).1) g, fun j x d e1 e2 e3 e4 => (R.cr j x d e1 e2 e3 e4).go (fun a m => (R.far a m).1) g, fun a m => by
  refine ⟨fun q => ?_, Nat.lt_of_lt_of_le (R.far a m).2 g.size⟩
  rcases List.mem_append.mp q with q | q
  ·exact (R.far a m).1 q
  ·exact absurd (R.far a m).2 (Nat.not_lt.mpr (g.new a q)), R.cl⟩

theorem Rd.load {M : Model} {A : Around} {E : Value -> Shared -> Prop} {s : Shared} {ad : List Addr} {env : Env} {x : Str} {d : D} {Q : Value -> Shared -> Prop} (r : Rd s.heap ad env x d) (hk : env.scope.kind = .function)
  (hn : (x == ("__classdict__" : Str)) = false) (h : ∀ v, VRel s.heap ad d v -> Q v s) : wpAny M A (loadName env x) Q E s := by
 obtain ⟨v, q, r⟩ := r
 rcases r with ⟨k, m, hm, e⟩ | ⟨k | k, c, hc, ic⟩
 ·exact wpAny_loadName_local hk k hm e (h v q)
 ·exact wpAny_loadName_cell hk k hc ic (h v q)
 ·exact wpAny_loadName_free hk k hc ic (h v q) hn

theorem Fm.rc {B h : Heap} {ad : List Addr} {env : Env} {names : List Str} {lo : Lo} (F : Fm B h ad env names lo) : RC ⟨env.scope.names, names, [], false⟩ env h ad lo [] where
 kind := F.kind
 glob := F.glob
 blt := F.blt
 sc := rfl
 vr := fun i x d e1 e2 _ => by
  rcases F.kinds x (List.mem_of_getElem? e1) with k | k
  ·refine hid fun zP zk => ?_
   obtain ⟨m, hm, q⟩ := F.ns
   obtain ⟨v, e, r⟩ := q i x d e1 e2 k
   refine zk ?_
   clear zk zP
   exact ⟨v, r, .inl ⟨k, m, hm, e⟩⟩
  ·refine hid fun zP zk => ?_
   obtain ⟨c, ov, hc, ic, q⟩ := F.cell i x e1 k
   obtain ⟨v, ez1, r⟩ := q d e2
   refine zk ?_
   clear zk zP
   subst ez1
   exact ⟨v, r, .inr ⟨.inl k, c, hc, ic⟩⟩
 cr := fun j x d e1 => by simp at e1
 far := fun a m => ⟨(F.far a m).1, by obtain ⟨o, e, _⟩ := F.soft a m; exact Heap.lt_size e⟩
 cl := fun i x e1 e2 _ => let ⟨c, _, e, _⟩ := F.cell i x e1 e2; ⟨c, e⟩

structure RoomF (fr : List Addr) (A : Around) (n : Nat) : Prop where
 handled : A.handled = Option.none
 depth : A.depth + n < recursionLimit
 units : A.units + 16 * n + 16 < cLine
 frames : ∃ L, A.frames = some L /\ L.map (·.frame) = fr.map some /\ ∀ e ∈ L, e.scope.kind = .function
noncomputable abbrev Room [Off] (A : Around) (n : Nat) : Prop := RoomF Off.fr A n
theorem RoomF.less {fr : List Addr} {A : Around} {n : Nat} (r : RoomF fr A (n + 1)) : RoomF fr A n := ⟨r.handled, by have := r.depth; omega, by have := r.units; omega, r.frames⟩
theorem RoomF.deeper {fr : List Addr} {A : Around} {n : Nat} (r : RoomF fr A (n + 1)) {env : Env} {f : Addr} (hf : env.frame = some f) (hk : env.scope.kind = .function) : RoomF (f :: fr) (A.deeper env) n :=
 ⟨r.handled, by have := r.depth; show A.depth + 1 + n < _; omega, by have := r.units; show A.units + 3 + 16 * n + 16 < _; omega, by
  refine hid fun zP zk => ?_
  obtain ⟨L, e, q, k⟩ := r.frames
  refine zk ?_
  clear zk zP
  refine ⟨env :: L, by show A.frames.map _ = _; rw [e]; rfl, by rw [List.map_cons, List.map_cons, hf, q], fun x m => ?_⟩
  rcases List.mem_cons.mp m with rfl | m
  ·exact hk
  ·exact k x m⟩
section
variable (prog : Program) (w : World) (B : Heap)
noncomputable def PostK (s : Shared) (ad : List Addr) (d : D) (Q : Value -> Shared -> Prop) : Prop :=
 ∀ h' v tk, (∀ b o, s.heap.get? b = some o -> h'.get? b = some o) -> s.heap.objs.size <= h'.objs.size -> VRel h' ad d v -> Q v { s with heap := h', toks := tk }
end

section
variable {prog : Program} {w : World} {B : Heap} {s : Shared} {ad : List Addr} {H : Hp} {d : D} {Q : Value -> Shared -> Prop}
theorem PostK.same (p : PostK s ad d Q) {v : Value} (r : VRel s.heap ad d v) (tk : Nat) : Q v { s with toks := tk } := p s.heap v tk (fun _ _ e => e) (Nat.le_refl _) r

theorem vInt {h : Heap} {ad : List Addr} {i : Int} {v : Value} (r : VRel h ad (.int i) v) : ∃ t, v = .int i t := by unfold VRel at r; exact r
theorem vBool {h : Heap} {ad : List Addr} {b : Bool} {v : Value} (r : VRel h ad (.bool b) v) : v = .bool b := by unfold VRel at r; exact r
theorem vNone {h : Heap} {ad : List Addr} {v : Value} (r : VRel h ad .none v) : v = .none := by unfold VRel at r; exact r
theorem vBytes {h : Heap} {ad : List Addr} {b : List UInt8} {v : Value} (r : VRel h ad (.bytes b) v) : ∃ t, v = .bytes b.toArray t := by unfold VRel at r; exact r
theorem vStr {h : Heap} {ad : List Addr} {x : Str} {v : Value} (r : VRel h ad (.str x) v) : ∃ t, v = .str x t := by unfold VRel at r; exact r
theorem vVal {h : Heap} {ad : List Addr} {x v : Value} (r : VRel h ad (.val x) v) : v = x := by unfold VRel at r; exact r
theorem vRef {h : Heap} {ad : List Addr} {k : Nat} {v : Value} (r : VRel h ad (.ref k) v) : ∃ a, v = .ref a /\ ad[k]? = some a := by unfold VRel at r; exact r
theorem vLst {h : Heap} {ad : List Addr} {ds : List D} {v : Value} (r : VRel h ad (.lst ds) v) : ∃ a vs n, v = .ref a /\ (a ∉ ad /\ a ∉ Off.xs) /\ h.get? a = some { cls := .type "list", data := .seq vs n } /\ VRels h ad ds vs.toList := by unfold VRel at r; exact r
theorem vTup {h : Heap} {ad : List Addr} {ds : List D} {v : Value} (r : VRel h ad (.tup ds) v) : ∃ a vs n, v = .ref a /\ (a ∉ ad /\ a ∉ Off.xs) /\ h.get? a = some { cls := .type "tuple", data := .seq vs n } /\ VRels h ad ds vs.toList := by unfold VRel at r; exact r
theorem iInt (h : Heap) (ad : List Addr) (i : Int) (t : Tok) : VRel h ad (.int i) (.int i t) := by unfold VRel; exact ⟨t, rfl⟩
theorem iBool (h : Heap) (ad : List Addr) (b : Bool) : VRel h ad (.bool b) (.bool b) := by unfold VRel; rfl
theorem iNone (h : Heap) (ad : List Addr) : VRel h ad .none .none := by unfold VRel; rfl
theorem iBytes (h : Heap) (ad : List Addr) (b : List UInt8) (t : Tok) : VRel h ad (.bytes b) (.bytes b.toArray t) := by unfold VRel; exact ⟨t, rfl⟩
theorem iStr (h : Heap) (ad : List Addr) (x : Str) (t : Tok) : VRel h ad (.str x) (.str x t) := by unfold VRel; exact ⟨t, rfl⟩
theorem iVal (h : Heap) (ad : List Addr) (v : Value) : VRel h ad (.val v) v := by unfold VRel; rfl
section
variable {h : Heap} {ad : List Addr} {v : Value} {M : Value -> Prop}
theorem vInt_el {i : Int} (r : VRel h ad (.int i) v) (c : ∀ t, M (.int i t)) : M v := by
 obtain ⟨t, rfl⟩ := vInt r
 exact c t
theorem vBool_el {b : Bool} (r : VRel h ad (.bool b) v) (c : M (.bool b)) : M v := vBool r ▸ c
theorem vBytes_el {b : List UInt8} (r : VRel h ad (.bytes b) v) (c : ∀ t, M (.bytes b.toArray t)) : M v := by
 obtain ⟨t, rfl⟩ := vBytes r
 exact c t
theorem vStr_el {b : Str} (r : VRel h ad (.str b) v) (c : ∀ t, M (.str b t)) : M v := by
 obtain ⟨t, rfl⟩ := vStr r
 exact c t
theorem vVal_el {x : Value} (r : VRel h ad (.val x) v) (c : M x) : M v := vVal r ▸ c
theorem vRef_el {k : Nat} (r : VRel h ad (.ref k) v) (c : ∀ a, ad[k]? = some a -> M (.ref a)) : M v := by
 obtain ⟨a, rfl, e⟩ := vRef r
 exact c a e
theorem vLst_el {ds : List D} (r : VRel h ad (.lst ds) v) (c : ∀ a vs n, (a ∉ ad /\ a ∉ Off.xs) -> h.get? a = some { cls := .type "list", data := .seq vs n } -> VRels h ad ds vs.toList -> M (.ref a)) : M v := by
 refine hid fun zP zk => ?_
 obtain ⟨a, vs, n, ez2, o, g, q⟩ := vLst r
 refine zk ?_
 clear zk zP
 subst ez2
 exact c a vs n o g q
theorem vTup_el {ds : List D} (r : VRel h ad (.tup ds) v) (c : ∀ a vs n, (a ∉ ad /\ a ∉ Off.xs) -> h.get? a = some { cls := .type "tuple", data := .seq vs n } -> VRels h ad ds vs.toList -> M (.ref a)) : M v := by
 refine hid fun zP zk => ?_
 obtain ⟨a, vs, n, ez3, o, g, q⟩ := vTup r
 refine zk ?_
 clear zk zP
 subst ez3
 exact c a vs n o g q
end
theorem vsNil {h : Heap} {ad : List Addr} {vs : List Value} (r : VRels h ad [] vs) : vs = [] := by unfold VRels at r; exact r
theorem vsCons {h : Heap} {ad : List Addr} {d : D} {ds : List D} {vs : List Value} (r : VRels h ad (d :: ds) vs) : ∃ v t, vs = v :: t /\ VRel h ad d v /\ VRels h ad ds t := by unfold VRels at r; exact r
theorem isNil (h : Heap) (ad : List Addr) : VRels h ad [] [] := by unfold VRels; rfl
theorem isCons {h : Heap} {ad : List Addr} {d : D} {ds : List D} {v : Value} {vs : List Value} (r : VRel h ad d v) (rs : VRels h ad ds vs) : VRels h ad (d :: ds) (v :: vs) := by unfold VRels; exact ⟨v, vs, rfl, r, rs⟩
theorem VRels.length {h : Heap} {ad : List Addr} : ∀ {ds : List D} {vs : List Value}, VRels h ad ds vs -> ds.length = vs.length
 | [], _, r => by rw [vsNil r]; rfl
 | _ :: _, _, r => by obtain ⟨v, t, rfl, _, q⟩ := vsCons r; simp [q.length]
theorem VRels.append {h : Heap} {ad : List Addr} : ∀ {ds es : List D} {vs us : List Value}, VRels h ad ds vs -> VRels h ad es us -> VRels h ad (ds ++ es) (vs ++ us)
 | [], _, _, _, r, q => by rw [vsNil r]; exact q
 | _ :: _, _, _, _, r, q => by obtain ⟨v, t, rfl, r1, r2⟩ := vsCons r; exact isCons r1 (r2.append q)
theorem VRels.get {h : Heap} {ad : List Addr} : ∀ {ds : List D} {vs : List Value}, VRels h ad ds vs -> ∀ {i : Nat} {d : D}, ds[i]? = some d -> ∃ v, vs[i]? = some v /\ VRel h ad d v
 | [], _, _, _, _, e => by simp at e
 | x :: _, _, r, 0, d, e => by
  refine hid fun zP zk => ?_
  obtain ⟨v, t, ez4, r1, _⟩ := vsCons r
  refine zk ?_
  clear zk zP
  subst ez4
  have e' : x = d := by simpa using e
  subst e'
  exact ⟨v, rfl, r1⟩
 | _ :: _, _, r, i + 1, d, e => by
  refine hid fun zP zk => ?_
  obtain ⟨v, t, ez5, _, r2⟩ := vsCons r
  refine zk ?_
  clear zk zP
  subst ez5
  simpa using r2.get (i := i) (d := d) (by simpa using e)
end

noncomputable def opOf : Operator -> Option Bin
 | .Add => some .add
 | .Sub => some .sub
 | .Mult => some .mul
 | .FloorDiv => some .fdiv
 | .Mod => some .mod
 | .LShift => some .shl
 | .RShift => some .shr
 | .BitAnd => some .band
 | .BitOr => some .bor
 | .Pow => some .pow
 | _ => none

theorem small_abs {a : Int} (h : small a = true) : a.natAbs < 2 ^ 64 := by
 unfold small at h
 have := Nat.le_of_ble_eq_true h
 omega
theorem small_mul {a b : Int} (h : (small a && small b) = true) : IntMulOk a b := by
 simp only [Bool.and_eq_true] at h
 have h1 := small_abs h.1
 exact IntMulOk.of_left (intBits_le_64 (by omega) (by omega))

section
variable {prog : Program} {w : World} {A : Around} {E : Value -> Shared -> Prop} {s : Shared} {Q : Value -> Shared -> Prop} {ad : List Addr}

theorem no_el {P : Prop} {o : Bin} (h : (none : Option Bin) = some o) : P := nomatch h
theorem bif_el {b : Bool} {x c : Int} {P : Int -> Prop} (e : (match b with | true => some x | false => none) = some c) (k : b = true -> P x) : P c := by
 cases b with
 | false => exact nomatch e
 | true => exact Option.some.inj e ▸ k rfl
theorem binI_sound {op : Operator} {o : Bin} (ho : opOf op = some o) {a b c : Int} {t u : Tok} (e : binI o a b = some c) (h : ∀ t' tk, Q (.int c t') { s with toks := tk }) :
  wpAny (model prog w) A (binaryOp op (.int a t) (.int b u)) Q E s := by
 revert h
 cases op <;> first
  | exact no_el ho
  | rw [<- Option.some.inj ho] at e
 ·exact Option.some.inj e ▸ fun h => add_int (h _ _)
 ·exact Option.some.inj e ▸ fun h => sub_int (h _ _)
 ·exact bif_el (P := fun c => (∀ t' tk, Q (.int c t') { s with toks := tk }) -> _) e fun q h => mul_int (h _ _) (small_mul q)
 ·exact bif_el (P := fun c => (∀ t' tk, Q (.int c t') { s with toks := tk }) -> _) e fun q h => mod_int' (by have q := inB_of q; omega) (h _ _)
 ·refine bif_el (P := fun c => (∀ t' tk, Q (.int c t') { s with toks := tk }) -> _) e fun q h => ?_
  simp only [Bool.and_eq_true, decide_eq_true_eq] at q
  exact pow_int_small q.1.2 (by omega) (small_abs q.1.1) (h _ _)
 ·refine bif_el (P := fun c => (∀ t' tk, Q (.int c t') { s with toks := tk }) -> _) e fun q h => ?_
  simp only [Bool.and_eq_true, decide_eq_true_eq] at q
  exact lshift_int_small q.1.2 (by omega) (small_abs q.1.1) (h _ _)
 ·exact bif_el (P := fun c => (∀ t' tk, Q (.int c t') { s with toks := tk }) -> _) e fun q h => rshift_int (of_decide_eq_true q) (h _ _)
 ·exact Option.some.inj e ▸ fun h => or_int (h _ _)
 ·exact Option.some.inj e ▸ fun h => and_int (h _ _)
 ·exact bif_el (P := fun c => (∀ t' tk, Q (.int c t') { s with toks := tk }) -> _) e fun q h => floordiv_int (by have q := inB_of q; omega) (h _ _) (.inl (PyProof.noPylong_small (by have q := inB_of q; omega)))
end
end Mine
end

section
open PySem PySem.W PyProof.Rows
namespace Mine
variable [Off]

section
variable {h : Heap} {ad : List Addr}
theorem py0_int {d : D} {x : PyData} (e : py0 d = some x) : ∃ i, d = .int i /\ x = .int i := by
 cases d <;> simp only [py0, Option.some.injEq, reduceCtorEq] at e
 exact ⟨_, rfl, e.symm⟩
theorem py0s_reads : ∀ {ds : List D} {xs : List PyData}, py0s ds = some xs -> ∀ {vs : List Value}, VRels h ad ds vs -> ∃ as, ReadsAll h vs xs as
 | [], xs, e, vs, r => by
  simp only [py0s, Option.some.injEq] at e
  subst e
  rw [vsNil r]; exact ⟨_, .nil⟩
 | d :: ds, xs, e, vs, r => by
  refine hid fun zP zk => ?_
  obtain ⟨v, t, ez1, r1, r2⟩ := vsCons r
  refine zk ?_
  clear zk zP
  subst ez1
  simp only [py0s] at e
  split at e
  ·rename_i x q
   split at e
   ·rename_i ys q2
    cases e
    obtain ⟨i, rfl, rfl⟩ := py0_int q
    obtain ⟨tk, rfl⟩ := vInt r1
    obtain ⟨as, ra⟩ := py0s_reads q2 r2
    exact ⟨_, .cons (.int i tk) ra⟩
   ·cases e
  ·cases e
theorem py0s_ok : ∀ {ds : List D} {xs : List PyData}, py0s ds = some xs -> PyData.canLayAll0 xs = true /\ PyData.depthAll xs <= 1
 | [], xs, e => by
  simp only [py0s, Option.some.injEq] at e
  subst e
  exact ⟨rfl, by simp [PyData.depthAll]⟩
 | d :: ds, xs, e => by
  simp only [py0s] at e
  split at e
  ·rename_i x q
   split at e
   ·rename_i ys q2
    cases e
    obtain ⟨i, rfl, rfl⟩ := py0_int q
    obtain ⟨a, b⟩ := py0s_ok q2
    refine ⟨by simp [PyData.canLayAll0, PyData.canLay0, a], ?_⟩
    simp only [PyData.depthAll, PyData.depth]
    omega
   ·cases e
  ·cases e
theorem py1_reads {d : D} {x : PyData} (e : py1 d = some x) {v : Value} (r : VRel h ad d v) : ∃ as, Reads h v x as := by
 cases d <;> simp only [py1, Option.some.injEq, reduceCtorEq] at e
 ·subst e
  obtain ⟨t, rfl⟩ := vInt r
  exact ⟨_, .int _ _⟩
 ·rename_i ds
  obtain ⟨xs, q, rfl⟩ := Option.map_eq_some_iff.mp e
  refine hid fun zP zk => ?_
  obtain ⟨a, vs, n, ez2, _, g, rs⟩ := vTup r
  refine zk ?_
  clear zk zP
  subst ez2
  obtain ⟨as, ra⟩ := py0s_reads q rs
  exact ⟨_, .tuple g rfl rfl ra⟩
theorem py1_ok {d : D} {x : PyData} (e : py1 d = some x) : PyData.canLay0 x = true /\ PyData.depth x <= 2 := by
 cases d <;> simp only [py1, Option.some.injEq, reduceCtorEq] at e
 ·subst e; exact ⟨by simp [PyData.canLay0], by simp [PyData.depth]⟩
 ·obtain ⟨xs, q, rfl⟩ := Option.map_eq_some_iff.mp e
  obtain ⟨a, b⟩ := py0s_ok q
  exact ⟨by simp [PyData.canLay0, a], by simp only [PyData.depth]; omega⟩
theorem py1s_reads : ∀ {ds : List D} {xs : List PyData}, py1s ds = some xs -> ∀ {vs : List Value}, VRels h ad ds vs -> ∃ as, ReadsAll h vs xs as
 | [], xs, e, vs, r => by
  simp only [py1s, Option.some.injEq] at e
  subst e
  rw [vsNil r]; exact ⟨_, .nil⟩
 | d :: ds, xs, e, vs, r => by
  refine hid fun zP zk => ?_
  obtain ⟨v, t, ez3, r1, r2⟩ := vsCons r
  refine zk ?_
  clear zk zP
  subst ez3
  simp only [py1s] at e
  split at e
  ·rename_i x q
   split at e
   ·rename_i ys q2
    cases e
    refine hid fun zP zk => ?_
    obtain ⟨as, ra⟩ := py1_reads q r1
    obtain ⟨bs, rb⟩ := py1s_reads q2 r2
    refine zk ?_
    clear zk zP
    exact ⟨_, .cons ra rb⟩
   ·cases e
  ·cases e
theorem py1s_ok : ∀ {ds : List D} {xs : List PyData}, py1s ds = some xs -> PyData.canLayAll0 xs = true /\ PyData.depthAll xs <= 2
 | [], xs, e => by
  simp only [py1s, Option.some.injEq] at e
  subst e
  exact ⟨rfl, by simp [PyData.depthAll]⟩
 | d :: ds, xs, e => by
  simp only [py1s] at e
  split at e
  ·rename_i x q
   split at e
   ·rename_i ys q2
    cases e
    refine hid fun zP zk => ?_
    obtain ⟨a, b⟩ := py1_ok q
    obtain ⟨a2, b2⟩ := py1s_ok q2
    refine zk ?_
    clear zk zP
    refine ⟨by simp [PyData.canLayAll0, a, a2], ?_⟩
    simp only [PyData.depthAll]
    omega
   ·cases e
  ·cases e
end

noncomputable def cmOf : CmpOp -> Cm
 | .Eq => .eq
 | .NotEq => .ne
 | .Lt => .lt
 | .LtE => .le
 | .Gt => .gt
 | .GtE => .ge
 | .Is => .is
 | .IsNot => .isNot
 | .In => .inn
 | .NotIn => .notIn

section
variable {prog : Program} {w : World} {B : Heap} {A : Around} {E : Value -> Shared -> Prop} {s : Shared} {Q : Value -> Shared -> Prop} {ad : List Addr} {H : Hp} {n : Nat}

theorem isV_same {x y : Value} {b : Bool} (e : isV x y = some b) : isSame x y = pure b := by
 cases x with
 | type a =>
  refine vT_el (M := fun y => isSame _ y = pure b) e fun c e => ?_
  rw [<- Option.some.inj e]
  show (pure (Value.type a == Value.type c) : Sem Bool) = pure (a == c)
  congr 1
  by_cases q : a = c
  ·subst q; simp
  ·rw [beq_false_of_ne q, beq_false_of_ne (fun z => q (Value.type.inj z))]
 | ref a =>
  refine vR_el (M := fun y => isSame _ y = pure b) e fun c e => gd_el e fun q e => ?_
  rw [<- Option.some.inj e, <- eq_of_beq q]
  unfold isSame
  simp
 | _ => exact nomatch e
theorem isD_same {x y : D} {b : Bool} {v u : Value} {h : Heap} (e : isD x y = some b) (rx : VRel h ad x v) (ry : VRel h ad y u) : isSame v u = pure b := by
 have nn : ∀ {v u : Value} {y : D} {c : Bool}, dN y (some c) = some b -> VRel h ad y u -> (isSame v .none = pure c) -> isSame v u = pure b := by
  intro v u y c e ry q
  revert ry
  refine dN_el (M := fun y => VRel h ad y u -> isSame v u = pure b) e fun e ry => ?_
  rw [vNone ry, <- Option.some.inj e]
  exact q
 cases x with
 | none => exact nn e ry (by rw [vNone rx]; exact isSame_none _)
 | val a =>
  revert ry
  refine dV_el (M := fun y => VRel h ad y u -> isSame v u = pure b) e fun c e ry => ?_
  rw [vVal rx, vVal ry]
  exact isV_same e
 | str => exact nomatch e
 | nxt => exact nomatch e
 | bool => exact nn e ry (by rw [vBool rx]; exact isSame_none _)
 | int => exact nn e ry (by obtain ⟨t, rfl⟩ := vInt rx; exact isSame_none _)
 | bytes => exact nn e ry (by obtain ⟨t, rfl⟩ := vBytes rx; exact isSame_none _)
 | lst => exact nn e ry (by obtain ⟨a, vs, n, rfl, _⟩ := vLst rx; exact isSame_none _)
 | tup => exact nn e ry (by obtain ⟨a, vs, n, rfl, _⟩ := vTup rx; exact isSame_none _)
 | ref => exact nn e ry (by obtain ⟨a, rfl, _⟩ := vRef rx; exact isSame_none _)

theorem intKind_is (i : Int) (t : Tok) : (intKind prog w).is i (.int i t) = true := by simp [intKind, Value.isInt]

theorem St.list {k : Nat} {a : Addr} {ds : List D} (S : St prog w B s.heap ad H) (hk : ad[k]? = some a) (ho : H[k]? = some (.list ds)) :
  ∃ vs n, s.heap.get? a = some { cls := .type "list", data := .seq vs n } /\ VRels s.heap ad ds vs.toList := by
 refine hid fun zP zk => ?_
 obtain ⟨ob, e, vs, n, ez4, r⟩ := S.obj k a _ hk ho
 refine zk ?_
 clear zk zP
 subst ez4
 exact ⟨vs, n, e, r⟩
theorem St.setOf {k : Nat} {a : Addr} {es : List Int} (S : St prog w B s.heap ad H) (hk : ad[k]? = some a) (ho : H[k]? = some (.set es)) : s.heap.SetOf (intKind prog w) a (fun k => es.contains k) es.length := by
 refine hid fun zP zk => ?_
 obtain ⟨ob, e, ents, ep, t, r⟩ := S.obj k a _ hk ho
 refine zk ?_
 clear zk zP
 exact ⟨ob, ents, ep, t, e, r⟩

theorem DRel.keys {h : Heap} : ∀ {es : List (Int × D)} {l : List DictEntry}, DRel prog w h ad es l -> ∀ e ∈ l, ∃ k, (intKind prog w).is k e.key = true /\ e.hash = (intKind prog w).hash k
 | [], _, r, e, m => by cases (show _ = [] from r); cases m
 | p :: _, _, ⟨e, t, rfl, k1, k2, _, rest⟩, e', m => by
  rcases List.mem_cons.mp m with rfl | m
  ·exact ⟨p.1, k1, k2⟩
  ·exact rest.keys e' m
theorem DRel.find {h : Heap} (x : Int) : ∀ {es : List (Int × D)} {l : List DictEntry}, DRel prog w h ad es l ->
  (match lookI es x with | some d => ∃ v, (l.find? fun e => (intKind prog w).is x e.key).map (·.val) = some v /\ VRel h ad d v | none => l.find? (fun e => (intKind prog w).is x e.key) = none)
 | [], _, r => by cases (show _ = [] from r); rfl
 | p :: es, _, ⟨e, t, rfl, k1, k2, r, rest⟩ => by
  have hd := KeyKind.is_eq_decide k1 x
  unfold lookI
  by_cases q : p.1 = x
  ·subst q
   simp only [List.find?_cons, BEq.rfl, k1, Option.map_some]
   exact ⟨_, rfl, r⟩
  ·have q1 : (p.1 == x) = false := beq_false_of_ne q
   have q2 : (intKind prog w).is x e.key = false := by rw [hd]; exact decide_eq_false (Ne.symm q)
   simp only [List.find?_cons, q1, q2]
   exact rest.find x

theorem St.mapOf {k : Nat} {a : Addr} {es : List (Int × D)} {ep : Nat} (S : St prog w B s.heap ad H) (hk : ad[k]? = some a) (ho : H[k]? = some (.dict es ep)) :
  ∃ f, s.heap.MapOf (intKind prog w) a f /\ ∀ x, match lookI es x with | some d => ∃ v, f x = some v /\ VRel s.heap ad d v | none => f x = none := by
 refine hid fun zP zk => ?_
 obtain ⟨ob, e, ed, nd, ents, dt, r⟩ := S.obj k a _ hk ho
 refine zk ?_
 clear zk zP
 refine ⟨fun x => findBy (intKind prog w).is ents x, ⟨ob, ents, ep, e, ed, dt, fun e' m => r.keys e' (Array.mem_toList_iff.mpr m), fun _ => rfl⟩, fun x => ?_⟩
 have := r.find x
 have fe : findBy (intKind prog w).is ents x = (ents.toList.find? fun e => (intKind prog w).is x e.key).map (·.val) := by
  unfold findBy
  rw [Array.find?_toList]
 cases q : lookI es x with
 | some d =>
  rw [q] at this
  obtain ⟨v, e1, r1⟩ := this
  exact ⟨v, fe.trans e1, r1⟩
 | none =>
  rw [q] at this
  show findBy _ _ _ = none
  rw [fe, this]; rfl

theorem Reads.ofList {a : Addr} {vs : Array Value} {m : Nat} {xs : List PyData} {as : List Addr} {h : Heap} (e : h.get? a = some { cls := .type "list", data := .seq vs m }) (r : ReadsAll h vs.toList xs as) : Reads h (.ref a) (.list xs) (a :: as) := .list e rfl rfl r

theorem sysMod_ne (S : St prog w B s.heap ad H) {k : Nat} {a : Addr} (hk : ad[k]? = some a) {o : Obj} (hb : B.get? sysModules = some o) : (a == sysModules) = false := by
 refine beq_false_of_ne ?_
 rintro rfl
 rw [S.new _ (List.mem_of_getElem? hk)] at hb; cases hb

theorem lookI_any (es : List (Int × D)) (x : Int) : (es.any fun p => p.1 == x) = (lookI es x).isSome := by
 unfold lookI
 induction es with
 | nil => rfl
 | cons p r ih =>
  simp only [List.any_cons, List.find?_cons]
  cases q : p.1 == x with
  | true => rfl
  | false => simpa using ih

theorem contains_bytes_int {b : Array UInt8} {x : Int} {t u : Tok} (h0 : 0 <= x) (h1 : x < 256) : Gives (Builtin.«bytes.__contains__» ⟨[.bytes b t, .int x u], []⟩) (.val (.bool (b.contains x.toNat.toUInt8))) := by
 refine .of_wp fun M A E s Q hq => ?_
 show wpAny M A (do ret (.bool (<- Builtin.Bytes.containsIn "bytes.__contains__" (.bytes b t) (.int x u)))) _ E s
 refine wpAny_bind ?_
 unfold Builtin.Bytes.containsIn
 refine wpAny_bind (wpAny_attempt ?_)
 have e1 : asIndex (.int x u) = pure x := rfl
 rw [e1]
 refine wpAny_pure ?_
 rw [KBy.buffer_eq]
 refine wpAny_bind (wpAny_pure ?_)
 have e2 : (decide (x < 0) || decide (x >= 256)) = false := by
  rw [Bool.or_eq_false_iff]; exact ⟨decide_eq_false (by omega), decide_eq_false (by omega)⟩
 simp only [e2, Bool.false_eq_true, if_false]
 exact wpAny_pure (wpAny_pure ⟨_, rfl, hq⟩)

theorem neDs_el {P : Prop} {a c : List D} {b : Bool} (h : neDs a c = some b) (k : ∀ x y, py1s a = some x -> py1s c = some y -> (!PyData.eqvAll x y) = b -> P) : P := by
 unfold neDs at h
 cases h1 : py1s a with
 | none => rw [h1] at h; exact nomatch h
 | some x =>
  cases h2 : py1s c with
  | none => rw [h1, h2] at h; exact nomatch h
  | some y => rw [h1, h2] at h; exact k x y (by first | rfl | exact h1) (by first | rfl | exact h2) (Option.some.inj h)
theorem inDs_el {P : Prop} {d : D} {c : List D} {b : Bool} (h : inDs d c = some b) (k : ∀ x y, py1 d = some x -> py1s c = some y -> (y.any fun z => PyData.eqv z x) = b -> P) : P := by
 unfold inDs at h
 cases h1 : py1 d with
 | none => rw [h1] at h; exact nomatch h
 | some x =>
  cases h2 : py1s c with
  | none => rw [h1, h2] at h; exact nomatch h
  | some y => rw [h1, h2] at h; exact k x y (by first | rfl | exact h1) (by first | rfl | exact h2) (Option.some.inj h)
section
variable (hr : Room A n)
include hr
theorem ne_lists {a c : Addr} {vs us : Array Value} {m k : Nat} {ds es : List D} {b : Bool} (g1 : s.heap.get? a = some { cls := .type "list", data := .seq vs m }) (g2 : s.heap.get? c = some { cls := .type "list", data := .seq us k }) (r1 : VRels s.heap ad ds vs.toList) (r2 : VRels s.heap ad es us.toList)
  (e : neDs ds es = some b) (h : ∀ tk, Q (.bool b) { s with toks := tk }) : wpAny (model prog w) A (compareOp .NotEq (.ref a) (.ref c)) Q E s := by
 have hu := hr.units
 refine neDs_el e fun p1 p2 q1 q2 e => ?_
 refine hid fun zP zk => ?_
 obtain ⟨as, ra⟩ := py1s_reads q1 r1
 obtain ⟨bs, rb⟩ := py1s_reads q2 r2
 obtain ⟨c1, d1⟩ := py1s_ok q1
 obtain ⟨c2, d2⟩ := py1s_ok q2
 refine zk ?_
 clear zk zP
 rw [<- e] at h
 exact SeqAt.compareNe_reads (Reads.ofList g1 ra) (Reads.ofList g2 rb) (by simpa [PyData.canLay0] using c1) (by simpa [PyData.canLay0] using c2) (by simp only [PyData.depth]; omega) (by simpa [PyData.eqv] using h s.toks)
theorem ne_tups {a c : Addr} {vs us : Array Value} {m k : Nat} {ds es : List D} {b : Bool} (g1 : s.heap.get? a = some { cls := .type "tuple", data := .seq vs m }) (g2 : s.heap.get? c = some { cls := .type "tuple", data := .seq us k }) (r1 : VRels s.heap ad ds vs.toList) (r2 : VRels s.heap ad es us.toList)
  (e : neDs ds es = some b) (h : ∀ tk, Q (.bool b) { s with toks := tk }) : wpAny (model prog w) A (compareOp .NotEq (.ref a) (.ref c)) Q E s := by
 have hu := hr.units
 refine neDs_el e fun p1 p2 q1 q2 e => ?_
 refine hid fun zP zk => ?_
 obtain ⟨as, ra⟩ := py1s_reads q1 r1
 obtain ⟨bs, rb⟩ := py1s_reads q2 r2
 obtain ⟨c1, d1⟩ := py1s_ok q1
 obtain ⟨c2, d2⟩ := py1s_ok q2
 refine zk ?_
 clear zk zP
 rw [<- e] at h
 exact SeqAt.compareNe_reads (.tuple g1 rfl rfl ra) (.tuple g2 rfl rfl rb) (by simpa [PyData.canLay0] using c1) (by simpa [PyData.canLay0] using c2) (by simp only [PyData.depth]; omega) (by simpa [PyData.eqv] using h s.toks)
theorem in_lists {x : D} {v : Value} {a : Addr} {vs : Array Value} {m : Nat} {ds : List D} {b : Bool} (rx : VRel s.heap ad x v) (g : s.heap.get? a = some { cls := .type "list", data := .seq vs m }) (r : VRels s.heap ad ds vs.toList) (e : inDs x ds = some b) (h : ∀ tk, Q (.bool b) { s with toks := tk }) :
  wpAny (model prog w) A (compareOp .In v (.ref a)) Q E s := by
 have hu := hr.units
 refine inDs_el e fun p1 p2 q1 q2 e => ?_
 refine hid fun zP zk => ?_
 obtain ⟨as, ra⟩ := py1_reads q1 rx
 obtain ⟨bs, rb⟩ := py1s_reads q2 r
 obtain ⟨c1, d1⟩ := py1_ok q1
 obtain ⟨c2, d2⟩ := py1s_ok q2
 refine zk ?_
 clear zk zP
 exact SeqAt.in_list_reads (Reads.ofList g rb) ra c2 c1 (by omega) (e ▸ h s.toks)
theorem notin_lists {x : D} {v : Value} {a : Addr} {vs : Array Value} {m : Nat} {ds : List D} {b : Bool} (rx : VRel s.heap ad x v) (g : s.heap.get? a = some { cls := .type "list", data := .seq vs m }) (r : VRels s.heap ad ds vs.toList) (e : inDs x ds = some b) (h : Q (.bool (!b)) s) :
  wpAny (model prog w) A (compareOp .NotIn v (.ref a)) Q E s := by
 have hu := hr.units
 refine inDs_el e fun p1 p2 q1 q2 e => ?_
 refine hid fun zP zk => ?_
 obtain ⟨as, ra⟩ := py1_reads q1 rx
 obtain ⟨bs, rb⟩ := py1s_reads q2 r
 obtain ⟨c1, d1⟩ := py1_ok q1
 obtain ⟨c2, d2⟩ := py1s_ok q2
 refine zk ?_
 clear zk zP
 exact SeqAt.notIn_list_reads (Reads.ofList g rb) ra c2 c1 (by omega) (e ▸ h)
end
theorem ii_el {P : Value -> Value -> Prop} {x y : D} {f : Int -> Int -> Bool} {b : Bool} {v u : Value} {h : Heap} (e : iiD x y f = some b) (rx : VRel h ad x v) (ry : VRel h ad y u) (c : ∀ i t j t', f i j = b -> P (.int i t) (.int j t')) : P v u := by
 revert rx ry
 refine dI_el (M := fun x => VRel h ad x v -> VRel h ad y u -> P v u) e fun i e rx => ?_
 refine dI_el (M := fun y => VRel h ad y u -> P v u) e fun j e ry => ?_
 obtain ⟨t, rfl⟩ := vInt rx
 obtain ⟨t', rfl⟩ := vInt ry
 exact c i t j t' (Option.some.inj e)
theorem neD_sound (hr : Room A n) (S : St prog w B s.heap ad H) {x y : D} {b : Bool} {v u : Value} (e : neD H x y = some b) (rx : VRel s.heap ad x v) (ry : VRel s.heap ad y u) (h : ∀ tk, Q (.bool b) { s with toks := tk }) : wpAny (model prog w) A (compareOp .NotEq v u) Q E s := by
 revert ry
 cases x with
 | int a =>
  refine dI_el (M := fun y => VRel s.heap ad y u -> _) e fun j e ry => ?_
  apply vInt_el rx; intro t
  apply vInt_el ry; intro t'
  exact ne_int (by rw [<- Option.some.inj e] at h; exact h s.toks)
 | lst a =>
  refine dL_el (M := fun y => VRel s.heap ad y u -> _) e fun j e ry => ?_
  apply vLst_el rx; intro a1 vs m o g r
  apply vLst_el ry; intro a2 vs2 m2 o2 g2 r2
  exact ne_lists hr g g2 r r2 e h
 | tup a =>
  refine dT_el (M := fun y => VRel s.heap ad y u -> _) e fun j e ry => ?_
  apply vTup_el rx; intro a1 vs m o g r
  apply vTup_el ry; intro a2 vs2 m2 o2 g2 r2
  exact ne_tups hr g g2 r r2 e h
 | ref k =>
  refine dL_el (M := fun y => VRel s.heap ad y u -> _) e fun j e ry => hL_el e fun ds q e => ?_
  apply vRef_el rx; intro a1 hk
  refine hid fun zP zk => ?_
  obtain ⟨vs, m, g, r⟩ := S.list hk q
  refine zk ?_
  clear zk zP
  apply vLst_el ry; intro a2 vs2 m2 o2 g2 r2
  exact ne_lists hr g g2 r r2 e h
 | _ => exact nomatch e
theorem inD_sound (hr : Room A n) (S : St prog w B s.heap ad H) {ob : Obj} (hb : B.get? sysModules = some ob) {x : Int} {y : D} {b : Bool} {v u : Value} (e : inD H x y = some b) (rx : VRel s.heap ad (.int x) v) (ry : VRel s.heap ad y u) (h : ∀ tk, Q (.bool b) { s with toks := tk }) : wpAny (model prog w) A (compareOp .In v u) Q E s := by
 cases y with
 | lst ds =>
  apply vLst_el ry; intro a2 vs2 m2 o2 g2 r2
  exact in_lists hr rx g2 r2 e h
 | ref k =>
  apply vRef_el ry; intro a hk
  have e : inO H[k]? x = some b := e
  cases q : H[k]? with
  | none => rw [q] at e; exact nomatch e
  | some o =>
   rw [q] at e
   cases o with
   | list ds =>
    refine hid fun zP zk => ?_
    obtain ⟨vs, m, g, r⟩ := S.list hk q
    refine zk ?_
    clear zk zP
    exact in_lists hr rx g r e h
   | set es =>
    rw [<- Option.some.inj e] at h
    apply vInt_el rx; intro t
    exact wpAny_inSet_of (knd := intKind prog w) (intKind_is _ t) (by rfl) (S.setOf hk q) (h _)
   | dict es ep =>
    rw [<- Option.some.inj e] at h
    apply vInt_el rx; intro t
    obtain ⟨f, hm, hf⟩ := S.mapOf hk q
    refine wpAny_in_of (knd := intKind prog w) (intKind_is _ t) (sysMod_ne S hk hb) hm ?_
    have := hf x
    rw [lookI_any] at h
    cases q2 : lookI es x with
    | some d =>
     rw [q2] at this h
     obtain ⟨v, e1, _⟩ := this
     rw [e1]; exact h _
    | none =>
     rw [q2] at this h
     rw [this]; exact h _
   | _ => exact nomatch e
 | _ => exact nomatch e
theorem any_byte {x : Int} {bs : List UInt8} (h1 : 0 <= x) (h2 : x < 256) : (bs.toArray.contains x.toNat.toUInt8) = (bs.any fun c => (c.toNat : Int) == x) := by
 rw [List.contains_toArray, List.contains_eq_any_beq]
 congr 1
 funext c
 have hx : x.toNat < 256 := by omega
 by_cases hc : c = x.toNat.toUInt8
 ·subst hc
  have : ((x.toNat.toUInt8).toNat : Int) = x := byte_back h1 h2
  rw [this]; simp
 ·have : ¬ ((c.toNat : Int) = x) := by
   intro hh
   apply hc
   have : c.toNat = x.toNat := by omega
   rw [<- this]; simp
  rw [beq_false_of_ne this, beq_false_of_ne (fun z => hc z.symm)]
theorem notInD_sound (hr : Room A n) (S : St prog w B s.heap ad H) {x y : D} {b : Bool} {v u : Value} (e : notInD x y = some b) (rx : VRel s.heap ad x v) (ry : VRel s.heap ad y u) (h : ∀ tk, Q (.bool b) { s with toks := tk }) : wpAny (model prog w) A (compareOp .NotIn v u) Q E s := by
 revert ry
 cases x with
 | tup a =>
  refine dL_el (M := fun y => VRel s.heap ad y u -> _) e fun ds e ry => map_el e fun c e1 e => ?_
  rw [<- e] at h
  apply vLst_el ry; intro a2 vs2 m2 o2 g2 r2
  exact notin_lists hr rx g2 r2 e1 (h s.toks)
 | int i =>
  refine dY_el (M := fun y => VRel s.heap ad y u -> _) e fun bs e ry => gd_el e fun q e => ?_
  rw [<- Option.some.inj e] at h
  simp only [Bool.and_eq_true, decide_eq_true_eq] at q
  apply vInt_el rx; intro t
  apply vBytes_el ry; intro t'
  refine notIn_gives (typeIs_bytes s _ t') FB.slot_bytes_contains FB.entry_bytes_contains (FB.args_bytes_contains_2 _ _) (contains_bytes_int q.1 q.2) ?_
  rw [any_byte q.1 q.2]
  exact h s.toks
 | _ => exact nomatch e
theorem cmpD_sound (hr : Room A n) (S : St prog w B s.heap ad H) {ob : Obj} (hb : B.get? sysModules = some ob) {op : CmpOp} {x y : D} {b : Bool} {v u : Value} (e : cmpD H (cmOf op) x y = some b) (rx : VRel s.heap ad x v) (ry : VRel s.heap ad y u)
  (h : ∀ tk, Q (.bool b) { s with toks := tk }) : wpAny (model prog w) A (compareOp op v u) Q E s := by
 cases op with
 | Eq => exact ii_el (P := fun v u => wpAny (model prog w) A (compareOp .Eq v u) Q E s) e rx ry fun i t j t' q => eq_int (q ▸ h s.toks)
 | NotEq => exact neD_sound hr S e rx ry h
 | Lt => exact ii_el (P := fun v u => wpAny (model prog w) A (compareOp .Lt v u) Q E s) e rx ry fun i t j t' q => lt_int (q ▸ h s.toks)
 | LtE => exact ii_el (P := fun v u => wpAny (model prog w) A (compareOp .LtE v u) Q E s) e rx ry fun i t j t' q => le_int (q ▸ h s.toks)
 | Gt => exact ii_el (P := fun v u => wpAny (model prog w) A (compareOp .Gt v u) Q E s) e rx ry fun i t j t' q => gt_int (q ▸ h s.toks)
 | GtE => exact ii_el (P := fun v u => wpAny (model prog w) A (compareOp .GtE v u) Q E s) e rx ry fun i t j t' q => ge_int (q ▸ h s.toks)
 | Is =>
  show wpAny _ _ (do return .bool (<- isSame v u)) Q E s
  rw [isD_same e rx ry]
  exact wpAny_bind (wpAny_pure (wpAny_pure (h s.toks)))
 | IsNot =>
  refine map_el e fun c e1 e => ?_
  rw [<- e] at h
  show wpAny _ _ (do return .bool (!(<- isSame v u))) Q E s
  rw [isD_same e1 rx ry]
  exact wpAny_bind (wpAny_pure (wpAny_pure (h s.toks)))
 | In =>
  revert rx
  exact dI_el (M := fun x => VRel s.heap ad x v -> _) e fun i e rx => inD_sound hr S hb e rx ry h
 | NotIn => exact notInD_sound hr S e rx ry h
end
end Mine
end

section
open PySem PySem.W PyProof.Rows
namespace Mine
variable [Off]

section
variable {h : Heap} {ad : List Addr}
theorem iLst {ds : List D} {a : Addr} {vs : Array Value} {n : Nat} (na : a ∉ ad /\ a ∉ Off.xs) (e : h.get? a = some { cls := .type "list", data := .seq vs n }) (r : VRels h ad ds vs.toList) : VRel h ad (.lst ds) (.ref a) := by
 unfold VRel; exact ⟨a, vs, n, rfl, na, e, r⟩
theorem iTup {ds : List D} {a : Addr} {vs : Array Value} {n : Nat} (na : a ∉ ad /\ a ∉ Off.xs) (e : h.get? a = some { cls := .type "tuple", data := .seq vs n }) (r : VRels h ad ds vs.toList) : VRel h ad (.tup ds) (.ref a) := by
 unfold VRel; exact ⟨a, vs, n, rfl, na, e, r⟩
theorem VRels.take {h : Heap} {ad : List Addr} : ∀ {ds : List D} {vs : List Value}, VRels h ad ds vs -> ∀ k, VRels h ad (ds.take k) (vs.take k)
 | _, _, _, 0 => by simpa using isNil h ad
 | [], _, r, _ + 1 => by rw [vsNil r]; simpa using isNil h ad
 | _ :: _, _, r, k + 1 => by
  refine hid fun zP zk => ?_
  obtain ⟨v, t, ez1, r1, r2⟩ := vsCons r
  refine zk ?_
  clear zk zP
  subst ez1
  simpa using isCons r1 (r2.take k)
theorem VRels.drop {h : Heap} {ad : List Addr} : ∀ {ds : List D} {vs : List Value}, VRels h ad ds vs -> ∀ k, VRels h ad (ds.drop k) (vs.drop k)
 | _, _, r, 0 => by simpa using r
 | [], _, r, _ + 1 => by rw [vsNil r]; simpa using isNil h ad
 | _ :: _, _, r, k + 1 => by
  refine hid fun zP zk => ?_
  obtain ⟨v, t, ez2, r1, r2⟩ := vsCons r
  refine zk ?_
  clear zk zP
  subst ez2
  simpa using r2.drop k
theorem VRels.getNone {h : Heap} {ad : List Addr} {ds : List D} {vs : List Value} (r : VRels h ad ds vs) {i : Nat} (e : ds[i]? = none) : vs[i]? = none := by
 rw [List.getElem?_eq_none_iff] at *
 rw [<- r.length]; exact e
theorem VRels.pick {h : Heap} {ad : List Addr} {ds : List D} {vs : List Value} (r : VRels h ad ds vs) : ∀ l : List Nat, VRels h ad (l.filterMap (ds[·]?)) (l.filterMap (vs[·]?))
 | [] => by simpa using isNil h ad
 | i :: l => by
  simp only [List.filterMap_cons]
  cases q : ds[i]? with
  | none => rw [r.getNone q]; exact r.pick l
  | some d =>
   obtain ⟨v, e, rv⟩ := r.get q
   rw [e]; exact isCons rv (r.pick l)
theorem VRels.replicate {h : Heap} {ad : List Addr} {d : D} {v : Value} (r : VRel h ad d v) : ∀ n, VRels h ad (List.replicate n d) (List.replicate n v)
 | 0 => isNil h ad
 | n + 1 => by rw [List.replicate_succ, List.replicate_succ]; exact isCons r (VRels.replicate r n)
end

theorem St.size_notin {prog : Program} {w : World} {B h : Heap} {ad : List Addr} {H : Hp} (S : St prog w B h ad H) {k : Nat} (hk : h.objs.size <= k) : k ∉ ad := fun m => by
 obtain ⟨i, hi⟩ := List.getElem?_of_mem m
 have li := (List.getElem?_eq_some_iff.mp hi).1
 rw [S.len] at li
 obtain ⟨ob1, e, _⟩ := S.obj i _ H[i] hi (List.getElem?_eq_getElem li)
 exact absurd (Heap.lt_size e) (Nat.not_lt.mpr hk)

theorem St.size_away {prog : Program} {w : World} {B h : Heap} {ad : List Addr} {H : Hp} (S : St prog w B h ad H) {k : Nat} (hk : h.objs.size <= k) : k ∉ ad /\ k ∉ Off.xs :=
 ⟨S.size_notin hk, fun m => absurd (S.off k m).1 (Nat.not_lt.mpr hk)⟩

section
variable {prog : Program} {w : World} {B : Heap} {A : Around} {E : Value -> Shared -> Prop} {s : Shared} {Q : Value -> Shared -> Prop} {ad : List Addr} {H : Hp} {n : Nat}

theorem PostK.lst (S : St prog w B s.heap ad H) {ds : List D} {vs : Array Value} {m : Nat} (r : VRels s.heap ad ds vs.toList) (p : PostK s ad (.lst ds) Q) (tk : Nat) :
  Q (.ref s.heap.objs.size) { s with heap := s.heap.push { cls := .type "list", data := .seq vs m }, toks := tk } := by
 refine p _ _ tk (fun b o e => Heap.get?_push_of_some _ e) (by rw [Heap.size_push]; omega) ?_
 have g : Go ad s.heap [] (s.heap.push { cls := .type "list", data := .seq vs m }) := Go.of_keeps (fun b o e => Heap.get?_push_of_some _ e) (by rw [Heap.size_push]; omega)
 have := r.go g
 rw [List.append_nil] at this
 exact iLst (S.size_away (Nat.le_refl _)) (Heap.get?_push_size _ rfl) this
theorem PostK.tup (S : St prog w B s.heap ad H) {ds : List D} {vs : Array Value} {m : Nat} (r : VRels s.heap ad ds vs.toList) (p : PostK s ad (.tup ds) Q) (tk : Nat) :
  Q (.ref s.heap.objs.size) { s with heap := s.heap.push { cls := .type "tuple", data := .seq vs m }, toks := tk } := by
 refine p _ _ tk (fun b o e => Heap.get?_push_of_some _ e) (by rw [Heap.size_push]; omega) ?_
 have g : Go ad s.heap [] (s.heap.push { cls := .type "tuple", data := .seq vs m }) := Go.of_keeps (fun b o e => Heap.get?_push_of_some _ e) (by rw [Heap.size_push]; omega)
 have := r.go g
 rw [List.append_nil] at this
 exact iTup (S.size_away (Nat.le_refl _)) (Heap.get?_push_size _ rfl) this

theorem mul_list1 {l : Addr} {v : Value} {k : Nat} {x : Int} {u : Tok} (hl : s.heap.get? l = some { cls := .type "list", data := .seq #[v] k }) (h0 : 0 <= x) (h1 : x <= 1000)
  (h : Q (.ref s.heap.objs.size) { s with heap := s.heap.push { cls := .type "list", data := .seq (List.replicate x.toNat v).toArray } }) :
  wpAny (model prog w) A (binaryOp .Mult (.ref l) (.int x u)) Q E s := by
 have e : (List.foldl (fun x1 x2 => x1 ++ x2) #[] (List.replicate (if (#[v] : Array Value).isEmpty = true then 0 else x.toNat) #[v])) = (List.replicate x.toNat v).toArray := by
  have : ∀ (m : Nat) (acc : List Value), List.foldl (fun x1 x2 => x1 ++ x2) acc.toArray (List.replicate m (#[v] : Array Value)) = (acc ++ List.replicate m v).toArray := by
   intro m
   induction m with
   | zero => intro acc; simp
   | succ m ih =>
    intro acc
    rw [List.replicate_succ, List.foldl_cons]
    have e2 : acc.toArray ++ #[v] = (acc ++ [v]).toArray := by simp
    rw [e2, ih, List.append_assoc]
    rfl
  have := this x.toNat []
  simpa using this
 refine wpAny_binaryOp_repeat_ref (T := "list") (U := "int") (by decide) ⟨_, hl, rfl⟩ (fun s' => typeIs_int s' x u) noFill_list_mul F.fills_int_mul F.slot_int_rmul repeat_list F.slot_int_index.lookup
  (call_meets F.slot_int_rmul (typeIs_int s x u) F.entry_int_rmul (F.args_int_rmul_2 _ _) (int___rmul___int_list x u l #[v] k)
   ⟨hl, rfl, ⟨_, hl, rfl⟩, call_meets F.slot_list_mul ⟨_, hl, rfl⟩ F.entry_list_mul (F.args_list_mul_2 _ _)
    (AutoListH.list___mul___list_int_3 l #[v] k x u (by simp [Builtin.List.listFitsIndex]; omega) (by simp; omega) (by simp [Builtin.List.listTooLong, sizeLine]; omega))
    ⟨hl, ?_⟩⟩)
 rw [e]
 exact h

theorem op_add {op : Operator} (ho : opOf op = some .add) : op = .Add := by cases op <;> first | rfl | exact nomatch ho
theorem op_mul {op : Operator} (ho : opOf op = some .mul) : op = .Mult := by cases op <;> first | rfl | exact nomatch ho
theorem intint (S : St prog w B s.heap ad H) {op : Operator} {o : Bin} (ho : opOf op = some o) {x y d : D} {v u : Value} (e : (dI x fun a => dI y fun b => (binI o a b).map D.int) = some d) (rx : VRel s.heap ad x v) (ry : VRel s.heap ad y u) (p : PostK s ad d Q) :
  wpAny (model prog w) A (binaryOp op v u) Q E s := by
 revert rx ry
 refine dI_el (M := fun x => VRel s.heap ad x v -> VRel s.heap ad y u -> _) e fun a e rx => ?_
 refine dI_el (M := fun y => VRel s.heap ad y u -> _) e fun b e ry => map_el e fun c ec e => ?_
 rw [<- e] at p
 apply vInt_el rx; intro t
 apply vInt_el ry; intro t'
 exact binI_sound ho ec fun t' tk => p.same (iInt _ _ _ _) tk
theorem addD_sound (S : St prog w B s.heap ad H) {x y d : D} {v u : Value} (e : addD x y = some d) (rx : VRel s.heap ad x v) (ry : VRel s.heap ad y u) (p : PostK s ad d Q) : wpAny (model prog w) A (binaryOp .Add v u) Q E s := by
 cases x with
 | int a =>
  refine intint S (op := .Add) (o := .add) rfl (x := .int a) (y := y) ?_ rx ry p
  show (dI y fun b => (binI .add a b).map D.int) = some d
  exact e
 | lst a =>
  revert ry
  refine dL_el (M := fun y => VRel s.heap ad y u -> _) e fun b e ry => gd_el e fun q e => ?_
  rw [<- Option.some.inj e] at p
  apply vLst_el rx; intro a vs m _ g r
  apply vLst_el ry; intro a2 vs2 m2 _ g2 r2
  have q := of_decide_eq_true q
  have l1 := r.length
  have l2 := r2.length
  refine P.add_list (n := m) (n2 := m2) g g2 (PostK.lst S (ds := _) (vs := vs ++ vs2) (m := 0) ?_ p s.toks) (by
   simp only [Array.length_toList] at l1 l2
   rw [sizeLine_eq]
   unfold lim at q
   omega)
  rw [Array.toList_append]
  exact r.append r2
 | _ => exact nomatch e
theorem mulD_sound (S : St prog w B s.heap ad H) {x y d : D} {v u : Value} (e : mulD x y = some d) (rx : VRel s.heap ad x v) (ry : VRel s.heap ad y u) (p : PostK s ad d Q) : wpAny (model prog w) A (binaryOp .Mult v u) Q E s := by
 cases x with
 | int a => exact intint S (op := .Mult) (o := .mul) rfl (x := .int a) (y := y) e rx ry p
 | lst l =>
  revert rx
  refine l1_el (M := fun l => VRel s.heap ad (.lst l) v -> _) e fun d1 e rx => ?_
  revert ry
  refine dI_el (M := fun y => VRel s.heap ad y u -> _) e fun i e ry => gd_el e fun q e => ?_
  rw [<- Option.some.inj e] at p
  simp only [Bool.and_eq_true, decide_eq_true_eq] at q
  apply vLst_el rx; intro a vs m _ g r
  apply vInt_el ry; intro t'
  refine hid fun zP zk => ?_
  obtain ⟨v, t, hv, r1, r2⟩ := vsCons r
  refine zk ?_
  clear zk zP
  have hvs : vs = #[v] := by
   apply Array.toList_inj.mp
   rw [hv, vsNil r2]
  subst hvs
  exact mul_list1 g q.1 q.2 (PostK.lst S (m := 0) (by simpa using VRels.replicate r1 _) p s.toks)
 | bytes l =>
  revert rx
  refine oneB_el (M := fun l => VRel s.heap ad (.bytes l) v -> _) e fun d1 e rx => ?_
  revert ry
  refine dI_el (M := fun y => VRel s.heap ad y u -> _) e fun i e ry => gd_el e fun q e => ?_
  rw [<- Option.some.inj e] at p
  simp only [Bool.and_eq_true, decide_eq_true_eq] at q
  apply vBytes_el rx; intro t
  apply vInt_el ry; intro t'
  refine bytes_mul_K (by simp) q.1 (by omega) (by simp; omega) ?_ (fun t' k => p.same (iBytes _ _ _ _) k)
  generalize i.toNat = m
  induction m with
  | zero => rfl
  | succ m ih => rw [List.replicate_succ, List.flatten_cons, ih]; rfl
 | _ => exact nomatch e
theorem binD_sound (S : St prog w B s.heap ad H) {op : Operator} {o : Bin} (ho : opOf op = some o) {x y d : D} {v u : Value} (e : binD o x y = some d) (rx : VRel s.heap ad x v) (ry : VRel s.heap ad y u) (p : PostK s ad d Q) :
  wpAny (model prog w) A (binaryOp op v u) Q E s := by
 cases o with
 | add => rw [op_add ho]; exact addD_sound S e rx ry p
 | mul => rw [op_mul ho]; exact mulD_sound S e rx ry p
 | _ => exact intint S ho e rx ry p

theorem truth_sound (S : St prog w B s.heap ad H) {x : D} {b : Bool} {v : Value} {Q : Bool -> Shared -> Prop} (e : truth H x = some b) (rx : VRel s.heap ad x v) (h : ∀ tk, Q b { s with toks := tk }) : wpAny (model prog w) A (truthy v) Q E s := by
 cases x with
 | bool c => rw [vBool rx, Option.some.inj e]; exact wpAny_truthy_bool (h s.toks)
 | int i =>
  apply vInt_el rx; intro t
  rw [<- Option.some.inj e] at h
  exact truthy_int (h s.toks)
 | none =>
  rw [<- Option.some.inj e] at h
  rw [vNone rx]
  exact fun _ _ _ => h s.toks
 | ref k =>
  refine hL_el e fun ds q e => gd_el e fun hz e => ?_
  rw [<- Option.some.inj e] at h
  have hz := of_decide_eq_true hz
  apply vRef_el rx; intro a hk
  refine hid fun zP zk => ?_
  obtain ⟨vs, m, g, r⟩ := S.list hk q
  refine zk ?_
  clear zk zP
  have l := r.length
  refine wpAny_truthy_list (items := vs) ⟨_, g, rfl, m, rfl⟩ (by simp only [Array.length_toList] at l; unfold lim at hz; omega) ?_
  have : (!vs.isEmpty) = (!ds.isEmpty) := by
   congr 1
   cases ds with
   | nil => have := vsNil r; simp_all
   | cons d t =>
    refine hid fun zP zk => ?_
    obtain ⟨v', t', hv, _⟩ := vsCons r
    refine zk ?_
    clear zk zP
    have : vs.size ≠ 0 := by
     rw [<- Array.length_toList, hv]; simp
    simp [Array.isEmpty, this]
  rw [this]
  exact h _
 | _ => exact nomatch e
end
end Mine
end

section
open PySem PySem.W PyProof.Rows
namespace Mine
structure Wd where
 s : Shared
 ad : List Addr
 H : Hp
noncomputable def Wd.on (W : Wd) (h : Heap) (tk : Nat) : Wd := ⟨{ W.s with heap := h, toks := tk }, W.ad, W.H⟩
section
variable [Off] (prog : Program) (w : World) (B : Heap)
structure Le (W W' : Wd) : Prop where
 st : St prog w B W'.s.heap W'.ad W'.H
 sh : ∃ h tk, W'.s = { W.s with heap := h, toks := tk }
 go : ∃ ad', W'.ad = W.ad ++ ad' /\ Go W.ad W.s.heap ad' W'.s.heap
structure LeS (env : Env) (W W' : Wd) : Prop where
 st : St prog w B W'.s.heap W'.ad W'.H
 sh : ∃ h tk, W'.s = { W.s with heap := h, toks := tk }
 go : ∃ ad', W'.ad = W.ad ++ ad' /\ GoS env W.ad W.s.heap ad' W'.s.heap
structure RW (X : Cx) (env : Env) (W : Wd) (lo : Lo) (cv : List D) : Prop where
 st : St prog w B W.s.heap W.ad W.H
 rc : RC X env W.s.heap W.ad lo cv
noncomputable def PostE (W : Wd) (R : D -> Hp -> Prop) (Q : Value -> Shared -> Prop) : Prop := ∀ W' d v, Le prog w B W W' -> R d W'.H -> VRel W'.s.heap W'.ad d v -> Q v W'.s
noncomputable def PostT (W : Wd) (R : Bool -> Hp -> Prop) (Q : Bool -> Shared -> Prop) : Prop := ∀ W' b, Le prog w B W W' -> R b W'.H -> Q b W'.s
end
section
variable [Off] {prog : Program} {w : World} {B : Heap} {W W' W2 : Wd} {X : Cx} {env : Env} {lo : Lo} {cv : List D}
theorem sh_trans {s s1 s2 : Shared} (a : ∃ h tk, s1 = { s with heap := h, toks := tk }) (b : ∃ h tk, s2 = { s1 with heap := h, toks := tk }) : ∃ h tk, s2 = { s with heap := h, toks := tk } := by
 obtain ⟨h, tk, rfl⟩ := a
 obtain ⟨h2, tk2, rfl⟩ := b
 exact ⟨h2, tk2, rfl⟩
theorem Le.refl (S : St prog w B W.s.heap W.ad W.H) : Le prog w B W W := ⟨S, ⟨_, _, rfl⟩, [], (List.append_nil _).symm, Go.refl _ _⟩
theorem Le.trans (a : Le prog w B W W') (b : Le prog w B W' W2) : Le prog w B W W2 := by
 refine ⟨b.st, sh_trans a.sh b.sh, ?_⟩
 obtain ⟨a1, e1, g1⟩ := a.go
 obtain ⟨a2, e2, g2⟩ := b.go
 rw [e1] at e2 g2
 exact ⟨a1 ++ a2, e2.trans (List.append_assoc ..), g1.trans g2⟩
theorem Le.toS (a : Le prog w B W W') (env : Env) : LeS prog w B env W W' := ⟨a.st, a.sh, let ⟨x, e, g⟩ := a.go; ⟨x, e, g.toS env⟩⟩
theorem LeS.trans (a : LeS prog w B env W W') (b : LeS prog w B env W' W2) : LeS prog w B env W W2 := by
 refine ⟨b.st, sh_trans a.sh b.sh, ?_⟩
 obtain ⟨a1, e1, g1⟩ := a.go
 obtain ⟨a2, e2, g2⟩ := b.go
 rw [e1] at e2 g2
 exact ⟨a1 ++ a2, e2.trans (List.append_assoc ..), g1.trans g2⟩
theorem Le.keep (S : St prog w B W.s.heap W.ad W.H) {h' : Heap} (k : ∀ b o, W.s.heap.get? b = some o -> h'.get? b = some o) (sz : W.s.heap.objs.size <= h'.objs.size) (tk : Nat) : Le prog w B W (W.on h' tk) :=
 ⟨S.keeps k sz, ⟨_, _, rfl⟩, [], (List.append_nil _).symm, Go.of_keeps k sz⟩
theorem Le.mk' {h' : Heap} {ad' : List Addr} {H' : Hp} {tk : Nat} (S : St prog w B h' (W.ad ++ ad') H') (g : Go W.ad W.s.heap ad' h') : Le prog w B W ⟨{ W.s with heap := h', toks := tk }, W.ad ++ ad', H'⟩ := ⟨S, ⟨_, _, rfl⟩, _, rfl, g⟩
theorem VRel.up {d : D} {v : Value} (r : VRel W.s.heap W.ad d v) (l : Le prog w B W W') : VRel W'.s.heap W'.ad d v := by
 obtain ⟨a, e, g⟩ := l.go
 rw [e]
 exact r.go g
theorem VRels.up {d : List D} {v : List Value} (r : VRels W.s.heap W.ad d v) (l : Le prog w B W W') : VRels W'.s.heap W'.ad d v := by
 obtain ⟨a, e, g⟩ := l.go
 rw [e]
 exact r.go g
theorem RW.up (C : RW prog w B X env W lo cv) (l : Le prog w B W W') : RW prog w B X env W' lo cv := ⟨l.st, by
 obtain ⟨a, e, g⟩ := l.go
 rw [e]
 exact C.rc.go g⟩
theorem PostE.k {R : D -> Hp -> Prop} {Q : Value -> Shared -> Prop} (p : PostE prog w B W R Q) (l : Le prog w B W W') {d : D} (h : R d W'.H) : PostK W'.s W'.ad d Q := fun h' v tk k sz r => p (W'.on h' tk) d v (l.trans (Le.keep l.st k sz tk)) h r
theorem PostE.k0 {R : D -> Hp -> Prop} {Q : Value -> Shared -> Prop} (p : PostE prog w B W R Q) (S : St prog w B W.s.heap W.ad W.H) {d : D} (h : R d W.H) : PostK W.s W.ad d Q := p.k (Le.refl S) h
theorem PostE.more {R : D -> Hp -> Prop} {Q : Value -> Shared -> Prop} (p : PostE prog w B W R Q) (l : Le prog w B W W') : PostE prog w B W' R Q := fun W2 d v l2 h r => p W2 d v (l.trans l2) h r
theorem PostT.more {R : Bool -> Hp -> Prop} {Q : Bool -> Shared -> Prop} (p : PostT prog w B W R Q) (l : Le prog w B W W') : PostT prog w B W' R Q := fun W2 d l2 h => p W2 d (l.trans l2) h
theorem PostT.tk {R : Bool -> Hp -> Prop} {Q : Bool -> Shared -> Prop} (p : PostT prog w B W R Q) (l : Le prog w B W W') {b : Bool} (h : R b W'.H) (tk : Nat) : Q b { W'.s with toks := tk } := p (W'.on _ tk) b (l.trans (Le.keep l.st (fun _ _ e => e) (Nat.le_refl _) tk)) h
end
end Mine
end

section
open PySem PySem.W PyProof.Rows
namespace Mine
theorem nft {P : Prop} (h : false = true) : P := Bool.noConfusion h
theorem ban {a b : Bool} (h : (a && b) = true) : a = true /\ b = true := Bool.and_eq_true_iff.mp h
theorem dcd {p : Prop} [Decidable p] (h : decide p = true) : p := of_decide_eq_true h
noncomputable def exK (f0 : Str -> Pos -> Bool) (f1 : PySem.Const -> Nat -> Pos -> Bool) (f2 : PySem.Expr -> Operator -> PySem.Expr -> Pos -> Bool) (f3 : UnaryOp -> PySem.Expr -> Pos -> Bool) (f4 : PySem.Expr -> (List CmpOp) -> (List PySem.Expr) -> Pos -> Bool) (f5 : PySem.BoolOp -> (List PySem.Expr) -> Pos -> Bool) (f6 : PySem.Expr -> PySem.Expr -> PySem.Expr -> Pos -> Bool) (f7 : (List PySem.Expr) -> Pos -> Bool) (f8 : (List PySem.Expr) -> Nat -> Pos -> Bool) (f9 : (List (Option PySem.Expr)) -> (List PySem.Expr) -> Pos -> Bool) (f10 : PySem.Expr -> PySem.Expr -> Pos -> Bool) (f11 : (Option PySem.Expr) -> (Option PySem.Expr) -> (Option PySem.Expr) -> Pos -> Bool) (f12 : PySem.Expr -> (List PySem.Expr) -> (List Keyword) -> Pos -> Bool) (f13 : PySem.Expr -> Str -> Pos -> Bool) (f14 : PySem.Expr -> Pos -> Bool) (f15 : PySem.Expr -> (List Comprehension) -> Scope -> Pos -> Bool) (f16 : PySem.Expr -> PySem.Expr -> Pos -> Bool) (z : PySem.Expr) : Bool := match z with
 | .Name x p => f0 x p
 | .Constant c k p => f1 c k p
 | .BinOp l o r p => f2 l o r p
 | .UnaryOp o x p => f3 o x p
 | .Compare l os rs p => f4 l os rs p
 | .BoolOp o xs p => f5 o xs p
 | .IfExp t x y p => f6 t x y p
 | .List xs p => f7 xs p
 | .Tuple xs k p => f8 xs k p
 | .Dict ks vs p => f9 ks vs p
 | .Subscript o i p => f10 o i p
 | .Slice a b c p => f11 a b c p
 | .Call f as ks p => f12 f as ks p
 | .Attribute o n p => f13 o n p
 | .Starred x p => f14 x p
 | .ListComp e gs sc p => f15 e gs sc p
 | .NamedExpr t v p => f16 t v p
 | _ => false
theorem exK_el {P : PySem.Expr -> Prop} {f0 : Str -> Pos -> Bool} {f1 : PySem.Const -> Nat -> Pos -> Bool} {f2 : PySem.Expr -> Operator -> PySem.Expr -> Pos -> Bool} {f3 : UnaryOp -> PySem.Expr -> Pos -> Bool} {f4 : PySem.Expr -> (List CmpOp) -> (List PySem.Expr) -> Pos -> Bool} {f5 : PySem.BoolOp -> (List PySem.Expr) -> Pos -> Bool} {f6 : PySem.Expr -> PySem.Expr -> PySem.Expr -> Pos -> Bool} {f7 : (List PySem.Expr) -> Pos -> Bool} {f8 : (List PySem.Expr) -> Nat -> Pos -> Bool} {f9 : (List (Option PySem.Expr)) -> (List PySem.Expr) -> Pos -> Bool} {f10 : PySem.Expr -> PySem.Expr -> Pos -> Bool} {f11 : (Option PySem.Expr) -> (Option PySem.Expr) -> (Option PySem.Expr) -> Pos -> Bool} {f12 : PySem.Expr -> (List PySem.Expr) -> (List Keyword) -> Pos -> Bool} {f13 : PySem.Expr -> Str -> Pos -> Bool} {f14 : PySem.Expr -> Pos -> Bool} {f15 : PySem.Expr -> (List Comprehension) -> Scope -> Pos -> Bool} {f16 : PySem.Expr -> PySem.Expr -> Pos -> Bool} {z : PySem.Expr} (h : exK f0 f1 f2 f3 f4 f5 f6 f7 f8 f9 f10 f11 f12 f13 f14 f15 f16 z = true) (k0 : ∀ x p, f0 x p = true -> P (.Name x p)) (k1 : ∀ c k p, f1 c k p = true -> P (.Constant c k p)) (k2 : ∀ l o r p, f2 l o r p = true -> P (.BinOp l o r p)) (k3 : ∀ o x p, f3 o x p = true -> P (.UnaryOp o x p)) (k4 : ∀ l os rs p, f4 l os rs p = true -> P (.Compare l os rs p)) (k5 : ∀ o xs p, f5 o xs p = true -> P (.BoolOp o xs p)) (k6 : ∀ t x y p, f6 t x y p = true -> P (.IfExp t x y p)) (k7 : ∀ xs p, f7 xs p = true -> P (.List xs p)) (k8 : ∀ xs k p, f8 xs k p = true -> P (.Tuple xs k p)) (k9 : ∀ ks vs p, f9 ks vs p = true -> P (.Dict ks vs p)) (k10 : ∀ o i p, f10 o i p = true -> P (.Subscript o i p)) (k11 : ∀ a b c p, f11 a b c p = true -> P (.Slice a b c p)) (k12 : ∀ f as ks p, f12 f as ks p = true -> P (.Call f as ks p)) (k13 : ∀ o n p, f13 o n p = true -> P (.Attribute o n p)) (k14 : ∀ x p, f14 x p = true -> P (.Starred x p)) (k15 : ∀ e gs sc p, f15 e gs sc p = true -> P (.ListComp e gs sc p)) (k16 : ∀ t v p, f16 t v p = true -> P (.NamedExpr t v p)) : P z := by
 cases z <;> first | exact k0 _ _ h | exact k1 _ _ _ h | exact k2 _ _ _ _ h | exact k3 _ _ _ h | exact k4 _ _ _ _ h | exact k5 _ _ _ h | exact k6 _ _ _ _ h | exact k7 _ _ h | exact k8 _ _ _ h | exact k9 _ _ _ h | exact k10 _ _ _ h | exact k11 _ _ _ _ h | exact k12 _ _ _ _ h | exact k13 _ _ _ h | exact k14 _ _ h | exact k15 _ _ _ _ h | exact k16 _ _ _ h | exact nft h
noncomputable def onName (z : PySem.Expr) (w : Str -> Pos -> Bool) : Bool := exK w (fun _ _ _ => false) (fun _ _ _ _ => false) (fun _ _ _ => false) (fun _ _ _ _ => false) (fun _ _ _ => false) (fun _ _ _ _ => false) (fun _ _ => false) (fun _ _ _ => false) (fun _ _ _ => false) (fun _ _ _ => false) (fun _ _ _ _ => false) (fun _ _ _ _ => false) (fun _ _ _ => false) (fun _ _ => false) (fun _ _ _ _ => false) (fun _ _ _ => false) z
theorem onName_el {z : PySem.Expr} {w : Str -> Pos -> Bool} {P : PySem.Expr -> Prop} (h : onName z w = true) (k : ∀ x p, w x p = true -> P (.Name x p)) : P z := exK_el h k (fun _ _ _ h => nft h) (fun _ _ _ _ h => nft h) (fun _ _ _ h => nft h) (fun _ _ _ _ h => nft h) (fun _ _ _ h => nft h) (fun _ _ _ _ h => nft h) (fun _ _ h => nft h) (fun _ _ _ h => nft h) (fun _ _ _ h => nft h) (fun _ _ _ h => nft h) (fun _ _ _ _ h => nft h) (fun _ _ _ _ h => nft h) (fun _ _ _ h => nft h) (fun _ _ h => nft h) (fun _ _ _ _ h => nft h) (fun _ _ _ h => nft h)
noncomputable def onConstant (z : PySem.Expr) (w : PySem.Const -> Nat -> Pos -> Bool) : Bool := exK (fun _ _ => false) w (fun _ _ _ _ => false) (fun _ _ _ => false) (fun _ _ _ _ => false) (fun _ _ _ => false) (fun _ _ _ _ => false) (fun _ _ => false) (fun _ _ _ => false) (fun _ _ _ => false) (fun _ _ _ => false) (fun _ _ _ _ => false) (fun _ _ _ _ => false) (fun _ _ _ => false) (fun _ _ => false) (fun _ _ _ _ => false) (fun _ _ _ => false) z
theorem onConstant_el {z : PySem.Expr} {w : PySem.Const -> Nat -> Pos -> Bool} {P : PySem.Expr -> Prop} (h : onConstant z w = true) (k : ∀ c k p, w c k p = true -> P (.Constant c k p)) : P z := exK_el h (fun _ _ h => nft h) k (fun _ _ _ _ h => nft h) (fun _ _ _ h => nft h) (fun _ _ _ _ h => nft h) (fun _ _ _ h => nft h) (fun _ _ _ _ h => nft h) (fun _ _ h => nft h) (fun _ _ _ h => nft h) (fun _ _ _ h => nft h) (fun _ _ _ h => nft h) (fun _ _ _ _ h => nft h) (fun _ _ _ _ h => nft h) (fun _ _ _ h => nft h) (fun _ _ h => nft h) (fun _ _ _ _ h => nft h) (fun _ _ _ h => nft h)
noncomputable def onBinOp (z : PySem.Expr) (w : PySem.Expr -> Operator -> PySem.Expr -> Pos -> Bool) : Bool := exK (fun _ _ => false) (fun _ _ _ => false) w (fun _ _ _ => false) (fun _ _ _ _ => false) (fun _ _ _ => false) (fun _ _ _ _ => false) (fun _ _ => false) (fun _ _ _ => false) (fun _ _ _ => false) (fun _ _ _ => false) (fun _ _ _ _ => false) (fun _ _ _ _ => false) (fun _ _ _ => false) (fun _ _ => false) (fun _ _ _ _ => false) (fun _ _ _ => false) z
theorem onBinOp_el {z : PySem.Expr} {w : PySem.Expr -> Operator -> PySem.Expr -> Pos -> Bool} {P : PySem.Expr -> Prop} (h : onBinOp z w = true) (k : ∀ l o r p, w l o r p = true -> P (.BinOp l o r p)) : P z := exK_el h (fun _ _ h => nft h) (fun _ _ _ h => nft h) k (fun _ _ _ h => nft h) (fun _ _ _ _ h => nft h) (fun _ _ _ h => nft h) (fun _ _ _ _ h => nft h) (fun _ _ h => nft h) (fun _ _ _ h => nft h) (fun _ _ _ h => nft h) (fun _ _ _ h => nft h) (fun _ _ _ _ h => nft h) (fun _ _ _ _ h => nft h) (fun _ _ _ h => nft h) (fun _ _ h => nft h) (fun _ _ _ _ h => nft h) (fun _ _ _ h => nft h)
noncomputable def onUnaryOp (z : PySem.Expr) (w : UnaryOp -> PySem.Expr -> Pos -> Bool) : Bool := exK (fun _ _ => false) (fun _ _ _ => false) (fun _ _ _ _ => false) w (fun _ _ _ _ => false) (fun _ _ _ => false) (fun _ _ _ _ => false) (fun _ _ => false) (fun _ _ _ => false) (fun _ _ _ => false) (fun _ _ _ => false) (fun _ _ _ _ => false) (fun _ _ _ _ => false) (fun _ _ _ => false) (fun _ _ => false) (fun _ _ _ _ => false) (fun _ _ _ => false) z
theorem onUnaryOp_el {z : PySem.Expr} {w : UnaryOp -> PySem.Expr -> Pos -> Bool} {P : PySem.Expr -> Prop} (h : onUnaryOp z w = true) (k : ∀ o x p, w o x p = true -> P (.UnaryOp o x p)) : P z := exK_el h (fun _ _ h => nft h) (fun _ _ _ h => nft h) (fun _ _ _ _ h => nft h) k (fun _ _ _ _ h => nft h) (fun _ _ _ h => nft h) (fun _ _ _ _ h => nft h) (fun _ _ h => nft h) (fun _ _ _ h => nft h) (fun _ _ _ h => nft h) (fun _ _ _ h => nft h) (fun _ _ _ _ h => nft h) (fun _ _ _ _ h => nft h) (fun _ _ _ h => nft h) (fun _ _ h => nft h) (fun _ _ _ _ h => nft h) (fun _ _ _ h => nft h)
noncomputable def onCompare (z : PySem.Expr) (w : PySem.Expr -> (List CmpOp) -> (List PySem.Expr) -> Pos -> Bool) : Bool := exK (fun _ _ => false) (fun _ _ _ => false) (fun _ _ _ _ => false) (fun _ _ _ => false) w (fun _ _ _ => false) (fun _ _ _ _ => false) (fun _ _ => false) (fun _ _ _ => false) (fun _ _ _ => false) (fun _ _ _ => false) (fun _ _ _ _ => false) (fun _ _ _ _ => false) (fun _ _ _ => false) (fun _ _ => false) (fun _ _ _ _ => false) (fun _ _ _ => false) z
theorem onCompare_el {z : PySem.Expr} {w : PySem.Expr -> (List CmpOp) -> (List PySem.Expr) -> Pos -> Bool} {P : PySem.Expr -> Prop} (h : onCompare z w = true) (k : ∀ l os rs p, w l os rs p = true -> P (.Compare l os rs p)) : P z := exK_el h (fun _ _ h => nft h) (fun _ _ _ h => nft h) (fun _ _ _ _ h => nft h) (fun _ _ _ h => nft h) k (fun _ _ _ h => nft h) (fun _ _ _ _ h => nft h) (fun _ _ h => nft h) (fun _ _ _ h => nft h) (fun _ _ _ h => nft h) (fun _ _ _ h => nft h) (fun _ _ _ _ h => nft h) (fun _ _ _ _ h => nft h) (fun _ _ _ h => nft h) (fun _ _ h => nft h) (fun _ _ _ _ h => nft h) (fun _ _ _ h => nft h)
noncomputable def onBoolOp (z : PySem.Expr) (w : PySem.BoolOp -> (List PySem.Expr) -> Pos -> Bool) : Bool := exK (fun _ _ => false) (fun _ _ _ => false) (fun _ _ _ _ => false) (fun _ _ _ => false) (fun _ _ _ _ => false) w (fun _ _ _ _ => false) (fun _ _ => false) (fun _ _ _ => false) (fun _ _ _ => false) (fun _ _ _ => false) (fun _ _ _ _ => false) (fun _ _ _ _ => false) (fun _ _ _ => false) (fun _ _ => false) (fun _ _ _ _ => false) (fun _ _ _ => false) z
theorem onBoolOp_el {z : PySem.Expr} {w : PySem.BoolOp -> (List PySem.Expr) -> Pos -> Bool} {P : PySem.Expr -> Prop} (h : onBoolOp z w = true) (k : ∀ o xs p, w o xs p = true -> P (.BoolOp o xs p)) : P z := exK_el h (fun _ _ h => nft h) (fun _ _ _ h => nft h) (fun _ _ _ _ h => nft h) (fun _ _ _ h => nft h) (fun _ _ _ _ h => nft h) k (fun _ _ _ _ h => nft h) (fun _ _ h => nft h) (fun _ _ _ h => nft h) (fun _ _ _ h => nft h) (fun _ _ _ h => nft h) (fun _ _ _ _ h => nft h) (fun _ _ _ _ h => nft h) (fun _ _ _ h => nft h) (fun _ _ h => nft h) (fun _ _ _ _ h => nft h) (fun _ _ _ h => nft h)
noncomputable def onIfExp (z : PySem.Expr) (w : PySem.Expr -> PySem.Expr -> PySem.Expr -> Pos -> Bool) : Bool := exK (fun _ _ => false) (fun _ _ _ => false) (fun _ _ _ _ => false) (fun _ _ _ => false) (fun _ _ _ _ => false) (fun _ _ _ => false) w (fun _ _ => false) (fun _ _ _ => false) (fun _ _ _ => false) (fun _ _ _ => false) (fun _ _ _ _ => false) (fun _ _ _ _ => false) (fun _ _ _ => false) (fun _ _ => false) (fun _ _ _ _ => false) (fun _ _ _ => false) z
theorem onIfExp_el {z : PySem.Expr} {w : PySem.Expr -> PySem.Expr -> PySem.Expr -> Pos -> Bool} {P : PySem.Expr -> Prop} (h : onIfExp z w = true) (k : ∀ t x y p, w t x y p = true -> P (.IfExp t x y p)) : P z := exK_el h (fun _ _ h => nft h) (fun _ _ _ h => nft h) (fun _ _ _ _ h => nft h) (fun _ _ _ h => nft h) (fun _ _ _ _ h => nft h) (fun _ _ _ h => nft h) k (fun _ _ h => nft h) (fun _ _ _ h => nft h) (fun _ _ _ h => nft h) (fun _ _ _ h => nft h) (fun _ _ _ _ h => nft h) (fun _ _ _ _ h => nft h) (fun _ _ _ h => nft h) (fun _ _ h => nft h) (fun _ _ _ _ h => nft h) (fun _ _ _ h => nft h)
noncomputable def onList (z : PySem.Expr) (w : (List PySem.Expr) -> Pos -> Bool) : Bool := exK (fun _ _ => false) (fun _ _ _ => false) (fun _ _ _ _ => false) (fun _ _ _ => false) (fun _ _ _ _ => false) (fun _ _ _ => false) (fun _ _ _ _ => false) w (fun _ _ _ => false) (fun _ _ _ => false) (fun _ _ _ => false) (fun _ _ _ _ => false) (fun _ _ _ _ => false) (fun _ _ _ => false) (fun _ _ => false) (fun _ _ _ _ => false) (fun _ _ _ => false) z
theorem onList_el {z : PySem.Expr} {w : (List PySem.Expr) -> Pos -> Bool} {P : PySem.Expr -> Prop} (h : onList z w = true) (k : ∀ xs p, w xs p = true -> P (.List xs p)) : P z := exK_el h (fun _ _ h => nft h) (fun _ _ _ h => nft h) (fun _ _ _ _ h => nft h) (fun _ _ _ h => nft h) (fun _ _ _ _ h => nft h) (fun _ _ _ h => nft h) (fun _ _ _ _ h => nft h) k (fun _ _ _ h => nft h) (fun _ _ _ h => nft h) (fun _ _ _ h => nft h) (fun _ _ _ _ h => nft h) (fun _ _ _ _ h => nft h) (fun _ _ _ h => nft h) (fun _ _ h => nft h) (fun _ _ _ _ h => nft h) (fun _ _ _ h => nft h)
noncomputable def onTuple (z : PySem.Expr) (w : (List PySem.Expr) -> Nat -> Pos -> Bool) : Bool := exK (fun _ _ => false) (fun _ _ _ => false) (fun _ _ _ _ => false) (fun _ _ _ => false) (fun _ _ _ _ => false) (fun _ _ _ => false) (fun _ _ _ _ => false) (fun _ _ => false) w (fun _ _ _ => false) (fun _ _ _ => false) (fun _ _ _ _ => false) (fun _ _ _ _ => false) (fun _ _ _ => false) (fun _ _ => false) (fun _ _ _ _ => false) (fun _ _ _ => false) z
theorem onTuple_el {z : PySem.Expr} {w : (List PySem.Expr) -> Nat -> Pos -> Bool} {P : PySem.Expr -> Prop} (h : onTuple z w = true) (k : ∀ xs k p, w xs k p = true -> P (.Tuple xs k p)) : P z := exK_el h (fun _ _ h => nft h) (fun _ _ _ h => nft h) (fun _ _ _ _ h => nft h) (fun _ _ _ h => nft h) (fun _ _ _ _ h => nft h) (fun _ _ _ h => nft h) (fun _ _ _ _ h => nft h) (fun _ _ h => nft h) k (fun _ _ _ h => nft h) (fun _ _ _ h => nft h) (fun _ _ _ _ h => nft h) (fun _ _ _ _ h => nft h) (fun _ _ _ h => nft h) (fun _ _ h => nft h) (fun _ _ _ _ h => nft h) (fun _ _ _ h => nft h)
noncomputable def onDict (z : PySem.Expr) (w : (List (Option PySem.Expr)) -> (List PySem.Expr) -> Pos -> Bool) : Bool := exK (fun _ _ => false) (fun _ _ _ => false) (fun _ _ _ _ => false) (fun _ _ _ => false) (fun _ _ _ _ => false) (fun _ _ _ => false) (fun _ _ _ _ => false) (fun _ _ => false) (fun _ _ _ => false) w (fun _ _ _ => false) (fun _ _ _ _ => false) (fun _ _ _ _ => false) (fun _ _ _ => false) (fun _ _ => false) (fun _ _ _ _ => false) (fun _ _ _ => false) z
theorem onDict_el {z : PySem.Expr} {w : (List (Option PySem.Expr)) -> (List PySem.Expr) -> Pos -> Bool} {P : PySem.Expr -> Prop} (h : onDict z w = true) (k : ∀ ks vs p, w ks vs p = true -> P (.Dict ks vs p)) : P z := exK_el h (fun _ _ h => nft h) (fun _ _ _ h => nft h) (fun _ _ _ _ h => nft h) (fun _ _ _ h => nft h) (fun _ _ _ _ h => nft h) (fun _ _ _ h => nft h) (fun _ _ _ _ h => nft h) (fun _ _ h => nft h) (fun _ _ _ h => nft h) k (fun _ _ _ h => nft h) (fun _ _ _ _ h => nft h) (fun _ _ _ _ h => nft h) (fun _ _ _ h => nft h) (fun _ _ h => nft h) (fun _ _ _ _ h => nft h) (fun _ _ _ h => nft h)
noncomputable def onSubscript (z : PySem.Expr) (w : PySem.Expr -> PySem.Expr -> Pos -> Bool) : Bool := exK (fun _ _ => false) (fun _ _ _ => false) (fun _ _ _ _ => false) (fun _ _ _ => false) (fun _ _ _ _ => false) (fun _ _ _ => false) (fun _ _ _ _ => false) (fun _ _ => false) (fun _ _ _ => false) (fun _ _ _ => false) w (fun _ _ _ _ => false) (fun _ _ _ _ => false) (fun _ _ _ => false) (fun _ _ => false) (fun _ _ _ _ => false) (fun _ _ _ => false) z
theorem onSubscript_el {z : PySem.Expr} {w : PySem.Expr -> PySem.Expr -> Pos -> Bool} {P : PySem.Expr -> Prop} (h : onSubscript z w = true) (k : ∀ o i p, w o i p = true -> P (.Subscript o i p)) : P z := exK_el h (fun _ _ h => nft h) (fun _ _ _ h => nft h) (fun _ _ _ _ h => nft h) (fun _ _ _ h => nft h) (fun _ _ _ _ h => nft h) (fun _ _ _ h => nft h) (fun _ _ _ _ h => nft h) (fun _ _ h => nft h) (fun _ _ _ h => nft h) (fun _ _ _ h => nft h) k (fun _ _ _ _ h => nft h) (fun _ _ _ _ h => nft h) (fun _ _ _ h => nft h) (fun _ _ h => nft h) (fun _ _ _ _ h => nft h) (fun _ _ _ h => nft h)
noncomputable def onSlice (z : PySem.Expr) (w : (Option PySem.Expr) -> (Option PySem.Expr) -> (Option PySem.Expr) -> Pos -> Bool) : Bool := exK (fun _ _ => false) (fun _ _ _ => false) (fun _ _ _ _ => false) (fun _ _ _ => false) (fun _ _ _ _ => false) (fun _ _ _ => false) (fun _ _ _ _ => false) (fun _ _ => false) (fun _ _ _ => false) (fun _ _ _ => false) (fun _ _ _ => false) w (fun _ _ _ _ => false) (fun _ _ _ => false) (fun _ _ => false) (fun _ _ _ _ => false) (fun _ _ _ => false) z
theorem onSlice_el {z : PySem.Expr} {w : (Option PySem.Expr) -> (Option PySem.Expr) -> (Option PySem.Expr) -> Pos -> Bool} {P : PySem.Expr -> Prop} (h : onSlice z w = true) (k : ∀ a b c p, w a b c p = true -> P (.Slice a b c p)) : P z := exK_el h (fun _ _ h => nft h) (fun _ _ _ h => nft h) (fun _ _ _ _ h => nft h) (fun _ _ _ h => nft h) (fun _ _ _ _ h => nft h) (fun _ _ _ h => nft h) (fun _ _ _ _ h => nft h) (fun _ _ h => nft h) (fun _ _ _ h => nft h) (fun _ _ _ h => nft h) (fun _ _ _ h => nft h) k (fun _ _ _ _ h => nft h) (fun _ _ _ h => nft h) (fun _ _ h => nft h) (fun _ _ _ _ h => nft h) (fun _ _ _ h => nft h)
noncomputable def onCall (z : PySem.Expr) (w : PySem.Expr -> (List PySem.Expr) -> (List Keyword) -> Pos -> Bool) : Bool := exK (fun _ _ => false) (fun _ _ _ => false) (fun _ _ _ _ => false) (fun _ _ _ => false) (fun _ _ _ _ => false) (fun _ _ _ => false) (fun _ _ _ _ => false) (fun _ _ => false) (fun _ _ _ => false) (fun _ _ _ => false) (fun _ _ _ => false) (fun _ _ _ _ => false) w (fun _ _ _ => false) (fun _ _ => false) (fun _ _ _ _ => false) (fun _ _ _ => false) z
theorem onCall_el {z : PySem.Expr} {w : PySem.Expr -> (List PySem.Expr) -> (List Keyword) -> Pos -> Bool} {P : PySem.Expr -> Prop} (h : onCall z w = true) (k : ∀ f as ks p, w f as ks p = true -> P (.Call f as ks p)) : P z := exK_el h (fun _ _ h => nft h) (fun _ _ _ h => nft h) (fun _ _ _ _ h => nft h) (fun _ _ _ h => nft h) (fun _ _ _ _ h => nft h) (fun _ _ _ h => nft h) (fun _ _ _ _ h => nft h) (fun _ _ h => nft h) (fun _ _ _ h => nft h) (fun _ _ _ h => nft h) (fun _ _ _ h => nft h) (fun _ _ _ _ h => nft h) k (fun _ _ _ h => nft h) (fun _ _ h => nft h) (fun _ _ _ _ h => nft h) (fun _ _ _ h => nft h)
noncomputable def onAttribute (z : PySem.Expr) (w : PySem.Expr -> Str -> Pos -> Bool) : Bool := exK (fun _ _ => false) (fun _ _ _ => false) (fun _ _ _ _ => false) (fun _ _ _ => false) (fun _ _ _ _ => false) (fun _ _ _ => false) (fun _ _ _ _ => false) (fun _ _ => false) (fun _ _ _ => false) (fun _ _ _ => false) (fun _ _ _ => false) (fun _ _ _ _ => false) (fun _ _ _ _ => false) w (fun _ _ => false) (fun _ _ _ _ => false) (fun _ _ _ => false) z
theorem onAttribute_el {z : PySem.Expr} {w : PySem.Expr -> Str -> Pos -> Bool} {P : PySem.Expr -> Prop} (h : onAttribute z w = true) (k : ∀ o n p, w o n p = true -> P (.Attribute o n p)) : P z := exK_el h (fun _ _ h => nft h) (fun _ _ _ h => nft h) (fun _ _ _ _ h => nft h) (fun _ _ _ h => nft h) (fun _ _ _ _ h => nft h) (fun _ _ _ h => nft h) (fun _ _ _ _ h => nft h) (fun _ _ h => nft h) (fun _ _ _ h => nft h) (fun _ _ _ h => nft h) (fun _ _ _ h => nft h) (fun _ _ _ _ h => nft h) (fun _ _ _ _ h => nft h) k (fun _ _ h => nft h) (fun _ _ _ _ h => nft h) (fun _ _ _ h => nft h)
noncomputable def onStarred (z : PySem.Expr) (w : PySem.Expr -> Pos -> Bool) : Bool := exK (fun _ _ => false) (fun _ _ _ => false) (fun _ _ _ _ => false) (fun _ _ _ => false) (fun _ _ _ _ => false) (fun _ _ _ => false) (fun _ _ _ _ => false) (fun _ _ => false) (fun _ _ _ => false) (fun _ _ _ => false) (fun _ _ _ => false) (fun _ _ _ _ => false) (fun _ _ _ _ => false) (fun _ _ _ => false) w (fun _ _ _ _ => false) (fun _ _ _ => false) z
theorem onStarred_el {z : PySem.Expr} {w : PySem.Expr -> Pos -> Bool} {P : PySem.Expr -> Prop} (h : onStarred z w = true) (k : ∀ x p, w x p = true -> P (.Starred x p)) : P z := exK_el h (fun _ _ h => nft h) (fun _ _ _ h => nft h) (fun _ _ _ _ h => nft h) (fun _ _ _ h => nft h) (fun _ _ _ _ h => nft h) (fun _ _ _ h => nft h) (fun _ _ _ _ h => nft h) (fun _ _ h => nft h) (fun _ _ _ h => nft h) (fun _ _ _ h => nft h) (fun _ _ _ h => nft h) (fun _ _ _ _ h => nft h) (fun _ _ _ _ h => nft h) (fun _ _ _ h => nft h) k (fun _ _ _ _ h => nft h) (fun _ _ _ h => nft h)
noncomputable def onListComp (z : PySem.Expr) (w : PySem.Expr -> (List Comprehension) -> Scope -> Pos -> Bool) : Bool := exK (fun _ _ => false) (fun _ _ _ => false) (fun _ _ _ _ => false) (fun _ _ _ => false) (fun _ _ _ _ => false) (fun _ _ _ => false) (fun _ _ _ _ => false) (fun _ _ => false) (fun _ _ _ => false) (fun _ _ _ => false) (fun _ _ _ => false) (fun _ _ _ _ => false) (fun _ _ _ _ => false) (fun _ _ _ => false) (fun _ _ => false) w (fun _ _ _ => false) z
theorem onListComp_el {z : PySem.Expr} {w : PySem.Expr -> (List Comprehension) -> Scope -> Pos -> Bool} {P : PySem.Expr -> Prop} (h : onListComp z w = true) (k : ∀ e gs sc p, w e gs sc p = true -> P (.ListComp e gs sc p)) : P z := exK_el h (fun _ _ h => nft h) (fun _ _ _ h => nft h) (fun _ _ _ _ h => nft h) (fun _ _ _ h => nft h) (fun _ _ _ _ h => nft h) (fun _ _ _ h => nft h) (fun _ _ _ _ h => nft h) (fun _ _ h => nft h) (fun _ _ _ h => nft h) (fun _ _ _ h => nft h) (fun _ _ _ h => nft h) (fun _ _ _ _ h => nft h) (fun _ _ _ _ h => nft h) (fun _ _ _ h => nft h) (fun _ _ h => nft h) k (fun _ _ _ h => nft h)
noncomputable def onNamedExpr (z : PySem.Expr) (w : PySem.Expr -> PySem.Expr -> Pos -> Bool) : Bool := exK (fun _ _ => false) (fun _ _ _ => false) (fun _ _ _ _ => false) (fun _ _ _ => false) (fun _ _ _ _ => false) (fun _ _ _ => false) (fun _ _ _ _ => false) (fun _ _ => false) (fun _ _ _ => false) (fun _ _ _ => false) (fun _ _ _ => false) (fun _ _ _ _ => false) (fun _ _ _ _ => false) (fun _ _ _ => false) (fun _ _ => false) (fun _ _ _ _ => false) w z
theorem onNamedExpr_el {z : PySem.Expr} {w : PySem.Expr -> PySem.Expr -> Pos -> Bool} {P : PySem.Expr -> Prop} (h : onNamedExpr z w = true) (k : ∀ t v p, w t v p = true -> P (.NamedExpr t v p)) : P z := exK_el h (fun _ _ h => nft h) (fun _ _ _ h => nft h) (fun _ _ _ _ h => nft h) (fun _ _ _ h => nft h) (fun _ _ _ _ h => nft h) (fun _ _ _ h => nft h) (fun _ _ _ _ h => nft h) (fun _ _ h => nft h) (fun _ _ _ h => nft h) (fun _ _ _ h => nft h) (fun _ _ _ h => nft h) (fun _ _ _ _ h => nft h) (fun _ _ _ _ h => nft h) (fun _ _ _ h => nft h) (fun _ _ h => nft h) (fun _ _ _ _ h => nft h) k
noncomputable def onSome {α : Type} (o : Option α) (k : α -> Bool) : Bool := match o with
 | some a => k a
 | none => false
theorem onSome_of {α : Type} {o : Option α} {k : α -> Bool} (h : onSome o k = true) : ∃ a, o = some a /\ k a = true := by
 cases o with
 | none => exact nft h
 | some a => exact ⟨a, rfl, h⟩
theorem onSome_el {α : Type} {o : Option α} {w : α -> Bool} {P : Option α -> Prop} (h : onSome o w = true) (k : ∀ a, w a = true -> P (some a)) : P o := by
 cases o with
 | none => exact nft h
 | some a => exact k a h
noncomputable def onNone {α : Type} (o : Option α) : Bool := match o with
 | some _ => false
 | none => true
theorem onNone_el {α : Type} {o : Option α} {P : Option α -> Prop} (h : onNone o = true) (k : P none) : P o := by
 cases o with
 | none => exact k
 | some a => exact nft h
noncomputable def on0 {α : Type} (l : List α) : Bool := match l with
 | [] => true
 | _ :: _ => false
theorem on0_el {α : Type} {l : List α} {P : List α -> Prop} (h : on0 l = true) (k : P []) : P l := by
 cases l with
 | nil => exact k
 | cons _ _ => exact nft h
theorem on0_of {α : Type} {l : List α} (h : on0 l = true) : l = [] := on0_el (P := fun l => l = []) h rfl
theorem dcd_el {α : Type} {a b : α} [i : Decidable (a = b)] {P : α -> Prop} (h : decide (a = b) = true) (k : P b) : P a := dcd h ▸ k
theorem dcd_er {α : Type} {a b : α} [i : Decidable (a = b)] {P : α -> Prop} (h : decide (a = b) = true) (k : P a) : P b := dcd h ▸ k
noncomputable def onC {α : Type} (l : List α) (k : α -> List α -> Bool) : Bool := match l with
 | [] => false
 | a :: r => k a r
theorem onC_el {α : Type} {l : List α} {w : α -> List α -> Bool} {P : List α -> Prop} (h : onC l w = true) (k : ∀ a r, w a r = true -> P (a :: r)) : P l := by
 cases l with
 | nil => exact nft h
 | cons a r => exact k a r h
noncomputable def on1 {α : Type} (l : List α) (k : α -> Bool) : Bool := onC l fun a r => on0 r && k a
theorem on1_el {α : Type} {l : List α} {w : α -> Bool} {P : List α -> Prop} (h : on1 l w = true) (k : ∀ a, w a = true -> P [a]) : P l :=
 onC_el h fun a r h => on0_el (P := fun r => P (a :: r)) (ban h).1 (k a (ban h).2)
noncomputable def on2 {α : Type} (l : List α) (k : α -> α -> Bool) : Bool := onC l fun a r => on1 r fun b => k a b
theorem on2_el {α : Type} {l : List α} {w : α -> α -> Bool} {P : List α -> Prop} (h : on2 l w = true) (k : ∀ a b, w a b = true -> P [a, b]) : P l :=
 onC_el h fun a r h => on1_el (P := fun r => P (a :: r)) h fun b h => k a b h

structure Gs where
 gl : Str -> Option Value
 /-- the functions by their place -/
 fid : Addr -> Option Nat
 /-- the defaults that a call with so many arguments leaves to the function -/
 dx : Nat -> Nat -> Option (List D)
 /-- the one keyword -/
 kw : Nat -> Option Str
 /-- own methods by their names -/
 mid : Str -> Option Nat

noncomputable def notSuper : PySem.Expr -> Bool
 | .Call (.Name _ _) [] [] _ => false
 | _ => true
noncomputable def bfVal : BF -> Option Value
 | .len => some (.builtin "len")
 | .list => some (.type "list")
 | .tuple => some (.type "tuple")
 | .bytes => some (.type "bytes")
 | .sum => some (.builtin "sum")
 | .isinstance => some (.builtin "isinstance")
 | .type => some (.type "type")
 | .bool => some (.type "bool")
 | .set => some (.type "set")
 | .iter => some (.builtin "iter")
 | _ => none
noncomputable def bmName : BM -> Option Str
 | .append => some "append"
 | .extend => some "extend"
 | .pop => some "pop"
 | .popAt => some "pop"
 | .clear => some "clear"
 | .hex => some "hex"
 | .upper => some "upper"
 | .translate => some "translate"
 | .maketrans => some "maketrans"
 | .search => some "search"
 | .get => some "get"
 | .encode => some "encode"
 | .sadd => some "add"
 | .next => none
noncomputable def attNm : Nat -> Option Str
 | 4 => some "node"
 | 5 => some "npredecessors"
 | 6 => some "successors"
 | 0 => some "_node2info"
 | 1 => some "_ready_nodes"
 | 2 => some "_npassedout"
 | 3 => some "_nfinished"
 | _ => none
noncomputable def relK (kd : List (Str × NameKind)) (l : List (Str × NameKind)) : List (Str × NameKind) :=
 l.map fun (n, k) => if (k == .free && kd.lookup n == some .cell) then (n, .cell) else (n, k)
noncomputable def scOk (X : Cx) (sc : Scope) (cn : List Str) : Bool :=
 sc.kind == .function && sc.names.all (fun y => y.2 != .cell) && sc.names.all (fun y => y.2 != .local || sc.names.lookup y.1 == some .local) && sc.names.all (fun y => y.2 != .free || (X.kd.lookup y.1 == some .cell && X.names.contains y.1))
  && cn.all (fun x => sc.names.lookup x == some .local) && !X.inC
noncomputable def isRange (n : Nat) : SK -> Bool
 | .range1 => n == 1
 | .range2 => n == 2
 | .range3 => n == 3
 | _ => false
noncomputable def okName (x : Str) : Bool := !(x == ("__debug__" : Str)) && !(x == ("__classdict__" : Str))

noncomputable def tgOk (tg : PySem.Expr) (nt : Nat) (cn : List Str) : Bool := match nt with
 | 0 => onName tg fun x _ => decide (cn = [x])
 | 2 => onTuple tg fun xs _ _ => on2 xs fun a b => onName a fun x _ => onName b fun y _ => decide (cn = [x, y]) && decide (x ≠ y)
 | _ => false
noncomputable def glob (G : Gs) (X : Cx) (x : Str) (v : Value) : Bool := decide (X.kd.lookup x = some .globalImplicit) && (okName x && decide (G.gl x = some v))
theorem glob_of {G : Gs} {X : Cx} {x : Str} {v : Value} (h : glob G X x v = true) : X.kd.lookup x = some .globalImplicit /\ G.gl x = some v /\ okName x = true :=
 ⟨dcd (ban h).1, dcd (ban (ban h).2).2, (ban (ban h).2).1⟩
noncomputable def txt0 : PySem.Expr -> Bool := exK (fun _ _ => true) (fun _ _ _ => true) (fun _ _ _ _ => true) (fun _ _ _ => true) (fun _ _ _ _ => true) (fun _ _ _ => true) (fun _ _ _ _ => true) (fun _ _ => true) (fun _ _ _ => true) (fun _ _ _ => true) (fun _ _ _ => true) (fun _ _ _ _ => false) (fun _ _ _ _ => true) (fun _ _ _ => true) (fun _ _ => false) (fun _ _ _ _ => true) (fun _ _ _ => false)
noncomputable def plainT : PySem.Expr -> Bool := exK (fun _ _ => true) (fun _ _ _ => true) (fun _ _ _ _ => true) (fun o _ _ => decide (o = .USub)) (fun _ _ _ _ => false) (fun _ _ _ => false) (fun _ _ _ _ => false) (fun _ _ => true) (fun _ _ _ => true) (fun _ _ _ => true) (fun _ _ _ => true) (fun _ _ _ _ => false) (fun _ _ _ _ => true) (fun _ _ _ => true) (fun _ _ => false) (fun _ _ _ _ => true) (fun _ _ _ => false)
noncomputable def plainE : Ex -> Bool
 | .and_ _ | .or_ _ | .nt _ | .ite _ _ _ | .cmp _ _ _ | .btw _ _ _ => false
 | _ => true
noncomputable def isCompT : PySem.Expr -> Bool := exK (fun _ _ => false) (fun _ _ _ => false) (fun _ _ _ _ => false) (fun _ _ _ => false) (fun _ _ _ _ => false) (fun _ _ _ => false) (fun _ _ _ _ => false) (fun _ _ => false) (fun _ _ _ => false) (fun _ _ _ => false) (fun _ _ _ => false) (fun _ _ _ _ => false) (fun _ _ _ _ => false) (fun _ _ _ => false) (fun _ _ => false) (fun _ _ _ _ => true) (fun _ _ _ => false)
noncomputable def isCompE : Ex -> Bool
 | .comp .. => true
 | _ => false
noncomputable def refA (v : Value) (k : Addr -> Bool) : Bool := match v with
 | .ref a => k a
 | _ => false
noncomputable def globRef (G : Gs) (X : Cx) (x : Str) (k : Addr -> Bool) : Bool := decide (X.kd.lookup x = some .globalImplicit) && (okName x && onSome (G.gl x) fun v => refA v k)
noncomputable def dNone (d : D) : Bool := match d with
 | .none => true
 | _ => false
noncomputable def dInt (d : D) (i : Int) : Bool := match d with
 | .int j => decide (i = j)
 | _ => false
noncomputable def dBool (d : D) (b : Bool) : Bool := match d with
 | .bool j => decide (b = j)
 | _ => false
noncomputable def dVal (d : D) (v : Value) : Bool := match d with
 | .val j => decide (v = j)
 | _ => false
noncomputable def dEq (a b : D) : Bool := match a with
 | .none => dNone b
 | .int i => dInt b i
 | .bool i => dBool b i
 | .val v => dVal b v
 | _ => false
theorem dEq_of {a b : D} (h : dEq a b = true) : a = b := by
 cases a with
 | none => cases b <;> first | rfl | exact nft h
 | int i => cases b <;> first | exact congrArg _ (dcd h) | exact nft h
 | bool i => cases b <;> first | exact congrArg _ (dcd h) | exact nft h
 | val i => cases b <;> first | exact congrArg _ (dcd h) | exact nft h
 | _ => exact nft h
noncomputable def dsEq (a b : List D) : Bool := match a with
 | [] => on0 b
 | x :: r => onC b fun y t => dEq x y && dsEq r t
theorem dsEq_of : ∀ {a b : List D}, dsEq a b = true -> a = b
 | [], b, h => (on0_of h).symm
 | x :: r, b, h => onC_el (P := fun b => x :: r = b) h fun y t h => by rw [dEq_of (ban h).1, dsEq_of (ban h).2]
theorem dsEq_el {a b : List D} {P : List D -> Prop} (h : dsEq a b = true) (k : P b) : P a := dsEq_of h ▸ k
noncomputable def chkConst (c : PySem.Const) (d : D) : Bool := match d with
 | .int j => decide (c = .int j)
 | .bool j => decide (c = .bool j)
 | .none => decide (c = .none)
 | .bytes j => decide (c = .bytes j)
 | .str j => decide (c = .str j)
 | _ => false
noncomputable def gkI (v : Value) (i : Int) : Bool := match v with
 | .int j _ => decide (j = i)
 | _ => false
noncomputable def gkB (v : Value) (b : List UInt8) : Bool := match v with
 | .bytes j _ => decide (j.toList = b)
 | _ => false
noncomputable def chkGK (v : Value) (d : D) : Bool := match d with
 | .int j => gkI v j
 | .bytes j => gkB v j
 | _ => false
noncomputable def chkK (G : Gs) (X : Cx) (pe : PySem.Expr) (d : D) : Bool := (onConstant pe fun c _ _ => chkConst c d) || (onName pe fun x _ => decide (X.kd.lookup x = some .globalImplicit) && (okName x && onSome (G.gl x) fun v => chkGK v d))
noncomputable def all2 {α β : Type} (f : α -> β -> Bool) (xs : List α) (ys : List β) : Bool := match ys with
 | [] => on0 xs
 | b :: t => onC xs fun a r => f a b && all2 f r t
section
variable (G : Gs)
noncomputable abbrev CE := Cx -> PySem.Expr -> Ex -> Bool
noncomputable def chkRng (ce : CE) (X : Cx) (pe : PySem.Expr) (sk : SK) (src : List Ex) : Bool := onCall pe fun f args ks _ => onName f fun x _ => on0 ks && (glob G X x (.type "range") && (isRange src.length sk && all2 (ce X) args src))
noncomputable def chkVals (ce : CE) (X : Cx) (pe : PySem.Expr) (src : List Ex) : Bool := onCall pe fun f args ks pos => onAttribute f fun o nm apos => on0 ks && (on0 args && (decide (nm = "values") && (notSuper o && ((apos.endLine == pos.line) && on1 src (ce X o)))))
noncomputable def chkSrcBy (ce : CE) (X : Cx) (pe : PySem.Expr) (sk : SK) (src : List Ex) : Bool := match sk with
 | .it => on1 src (ce X pe)
 | .vals => chkVals ce X pe src
 | .range1 => chkRng G ce X pe .range1 src
 | .range2 => chkRng G ce X pe .range2 src
 | .range3 => chkRng G ce X pe .range3 src
noncomputable def chkLR (ce : CE) (X : Cx) (pe : PySem.Expr) (as : List Ex) : Bool := onCall pe fun f args ks _ => onName f fun x _ => on0 ks && on1 args fun y => onCall y fun f2 args2 ks2 _ => onName f2 fun x2 _ => on0 ks2 && on1 args2 fun e => glob G X x (.type "list") && (glob G X x2 (.type "range") && on1 as (ce X e))
noncomputable def chkB1 (ce : CE) (X : Cx) (pe : PySem.Expr) (v : Value) (as : List Ex) : Bool := onCall pe fun f args ks _ => onName f fun x _ => on0 ks && (glob G X x v && all2 (ce X) args as)
noncomputable def chkBf (ce : CE) (X : Cx) (pe : PySem.Expr) (b : BF) (as : List Ex) : Bool := match bfVal b with
 | some v => chkB1 G ce X pe v as
 | none => chkLR G ce X pe as
noncomputable def chkBm (ce : CE) (X : Cx) (pe : PySem.Expr) (m : BM) (a : Ex) (as : List Ex) : Bool :=
 (onCall pe fun f args ks pos => onAttribute f fun o nm apos => on0 ks && (decide (bmName m = some nm) && (notSuper o && ((apos.endLine == pos.line) && (decide (as.length <= 2) && (ce X o a && all2 (ce X) args as)))))) ||
 (onAttribute pe fun o nm _ => decide (nm = "__next__") && (decide (m = .next) && (on0 as && (notSuper o && ce X o a))))
noncomputable def chkNew (ce : CE) (X : Cx) (pe : PySem.Expr) (c : Nat) (as : List Ex) (dx : List D) : Bool := onCall pe fun f args ks _ => onName f fun x _ => on0 ks &&
 ((on0 args && (on0 as && (decide (c = 0) && (glob G X x (.ref clsS) && dsEq dx [.none])))) || (on1 args fun e => on1 as fun a => decide (c = 1) && (glob G X x (.ref clsN) && (dsEq dx [] && ce X e a))))
noncomputable def nmOf (y : PySem.Expr) : Option Str := match y with
 | .Name x _ => some x
 | _ => none
noncomputable def tgNames (tg : PySem.Expr) : List Str := match tg with
 | .Tuple xs _ _ => xs.filterMap nmOf
 | e => [e].filterMap nmOf
noncomputable def chkComp (ce : CE) (X : Cx) (pe : PySem.Expr) (tr : Bool) (e : Ex) (sk : SK) (src cond : List Ex) (nt : Nat) : Bool := onListComp pe fun elt gs sc _ => on1 gs fun g => decide (g.is_async = 0) && (scOk X sc (tgNames g.target) && (tgOk g.target nt (tgNames g.target) &&
 (chkSrcBy G ce X g.iter sk src && (ce ⟨relK X.kd sc.names, X.names, tgNames g.target, true⟩ elt e && all2 (ce ⟨relK X.kd sc.names, X.names, tgNames g.target, true⟩) g.ifs cond))))
noncomputable def chkB (ce : CE) (X : Cx) (pe : PySem.Expr) (e : Ex) : Bool := match e with
 | .k d => chkK G X pe d
 | .v i => onName pe fun x _ => decide (X.names[i]? = some x) && (vOk X x && okName x)
 | .c j => onName pe fun x _ => decide (X.cn[j]? = some x) && (decide (X.kd.lookup x = some .local) && (X.inC && okName x))
 | .g v => onName pe fun x _ => glob G X x v
 | .bin o a b => onBinOp pe fun l op r _ => decide (opOf op = some o) && (ce X l a && ce X r b)
 | .neg a => onUnaryOp pe fun op x _ => decide (op = .USub) && ce X x a
 | .nt a => onUnaryOp pe fun op x _ => decide (op = .Not) && ce X x a
 | .cmp o a b => onCompare pe fun l os rs _ => on1 os fun op => on1 rs fun r => decide (cmOf op = o) && (ce X l a && ce X r b)
 | .btw a b c => onCompare pe fun l os rs _ => on2 os fun o1 o2 => on2 rs fun m r => decide (o1 = .LtE) && (decide (o2 = .LtE) && (ce X l a && (ce X m b && ce X r c)))
 | .and_ as => onBoolOp pe fun op xs _ => decide (op = .And) && all2 (ce X) xs as
 | .or_ as => onBoolOp pe fun op xs _ => decide (op = .Or) && all2 (ce X) xs as
 | .ite a b c => onIfExp pe fun t x y _ => ce X t a && (ce X x b && ce X y c)
 | .lst as => onList pe fun xs _ => decide (as.length <= 1000) && all2 (ce X) xs as
 | .nlst as => onList pe fun xs _ => decide (as.length <= 1000) && all2 (ce X) xs as
 | .ndict => onDict pe fun ks vs _ => on0 ks && on0 vs
 | .tup as => onTuple pe fun xs _ _ => decide (as.length <= 1000) && all2 (ce X) xs as
 | .sub a b => onSubscript pe fun o i _ => ce X o a && ce X i b
 | .slcTo a b => onSubscript pe fun o i _ => onSlice i fun l u s _ => onNone l && (onNone s && onSome u fun u => ce X o a && ce X u b)
 | .slcStep a b c => onSubscript pe fun o i _ => onSlice i fun l u s _ => onNone u && onSome l fun l => onSome s fun s => ce X o a && (ce X l b && ce X s c)
 | .fn f as dx => onCall pe fun fe args ks _ => onName fe fun x _ => on0 ks && globRef G X x fun a => decide (G.fid a = some f) && ((onSome (G.dx f as.length) fun dy => dsEq dy dx) && all2 (ce X) args as)
 | .fnk f as b => onCall pe fun fe args ks _ => onName fe fun x _ => on1 ks fun kw => onSome kw.arg fun kn => globRef G X x fun a => decide (G.fid a = some f) && (decide (G.kw f = some kn) && (decide (as.length = 1) && (all2 (ce X) args as && ce X kw.value b)))
 | .bf b as => chkBf G ce X pe b as
 | .bm m a as => chkBm ce X pe m a as
 | .om m a as => onCall pe fun f args ks pos => onAttribute f fun o nm apos => on0 ks && (decide (G.mid nm = some m) && (notSuper o && ((apos.endLine == pos.line) && (decide (as.length <= 2) && (ce X o a && all2 (ce X) args as)))))
 | .omS m a b => onCall pe fun f args ks _ => onAttribute f fun o nm _ => on0 ks && on1 args fun s => onStarred s fun e _ => decide (G.mid nm = some m) && (notSuper o && (ce X o a && ce X e b))
 | .new c as dx => chkNew G ce X pe c as dx
 | .att a f => onAttribute pe fun o nm _ => decide (attNm f = some nm) && (notSuper o && ce X o a)
 | .comp tr el sk src cond nt => chkComp G ce X pe tr el sk src cond nt
noncomputable def chkE : Nat -> CE
 | 0, _, _, _ => false
 | n + 1, X, pe, e => ((txt0 pe && (!isCompT pe || isCompE e)) && (!plainE e || plainT pe)) && chkB G (chkE n) X pe e
end
noncomputable def IsE (G : Gs) (X : Cx) (pe : PySem.Expr) (e : Ex) : Prop := ∃ n, chkE G n X pe e = true
noncomputable def IsEs (G : Gs) (X : Cx) (xs : List PySem.Expr) (as : List Ex) : Prop := ∃ n, all2 (chkE G n X) xs as = true
noncomputable def IsSrc (G : Gs) (X : Cx) (pe : PySem.Expr) (sk : SK) (src : List Ex) : Prop := ∃ n, chkSrcBy G (chkE G n) X pe sk src = true
section
variable {G : Gs} {X : Cx}
theorem starEach_of (pe : PySem.Expr) (rest : List PySem.Expr) (env : Env) (h : txt0 pe = true) : starEach (pe :: rest) env = (false, eval pe env) :: starEach rest env := by
 cases pe <;> first | rfl | exact Bool.noConfusion h
theorem inMarks_of (pe : PySem.Expr) (op : CmpOp) (h : txt0 pe = true) : behindInMarks op pe = false := by
 cases pe <;> first | rfl | exact Bool.noConfusion h
theorem isTrue_of (pe : PySem.Expr) (env : Env) (whole : Sem Value) (h : plainT pe = true) : isTrue pe env whole = (do let v <- whole; standAt pe.pos; holding [v] (truthy v)) := by
 cases pe with
 | UnaryOp op x p => cases op <;> first | rfl | exact Bool.noConfusion h
 | _ => first | rfl | exact Bool.noConfusion h
noncomputable def InvE (G : Gs) (X : Cx) (pe : PySem.Expr) : Ex -> Prop
 | .k d => ∀ P : PySem.Expr -> D -> Prop, (∀ i k p, P (.Constant (.int i) k p) (.int i)) -> (∀ i k p, P (.Constant (.bool i) k p) (.bool i)) -> (∀ k p, P (.Constant .none k p) .none) -> (∀ i k p, P (.Constant (.bytes i) k p) (.bytes i)) -> (∀ i k p, P (.Constant (.str i) k p) (.str i)) ->
   (∀ x p i t, X.kd.lookup x = some .globalImplicit -> G.gl x = some (.int i t) -> okName x = true -> P (.Name x p) (.int i)) -> (∀ x p b t, X.kd.lookup x = some .globalImplicit -> G.gl x = some (.bytes b t) -> okName x = true -> P (.Name x p) (.bytes b.toList)) -> P pe d
 | .bf b as => ∀ P : PySem.Expr -> List Ex -> Prop, (∀ x p args pos v as, X.kd.lookup x = some .globalImplicit -> bfVal b = some v -> G.gl x = some v -> okName x = true -> IsEs G X args as -> P (.Call (.Name x p) args [] pos) as) ->
   (∀ x p y q e pos pos2 a, X.kd.lookup x = some .globalImplicit -> G.gl x = some (.type "list") -> okName x = true -> X.kd.lookup y = some .globalImplicit -> G.gl y = some (.type "range") -> okName y = true -> (b = .listRange \/ b = .nlist) -> IsE G X e a -> P (.Call (.Name x p) [.Call (.Name y q) [e] [] pos2] [] pos) [a]) -> P pe as
 | .bm m a as => ∀ P : PySem.Expr -> BM -> List Ex -> Prop, (∀ o name apos args pos as m, bmName m = some name -> notSuper o = true -> (apos.endLine == pos.line) = true -> as.length <= 2 -> IsE G X o a -> IsEs G X args as -> P (.Call (.Attribute o name apos) args [] pos) m as) ->
   (∀ o pos, notSuper o = true -> IsE G X o a -> P (.Attribute o "__next__" pos) .next []) -> P pe m as
 | .new c as dx => ∀ P : PySem.Expr -> Nat -> List Ex -> List D -> Prop, (∀ x p pos, X.kd.lookup x = some .globalImplicit -> G.gl x = some (.ref clsS) -> okName x = true -> P (.Call (.Name x p) [] [] pos) 0 [] [.none]) ->
   (∀ x p e pos a, X.kd.lookup x = some .globalImplicit -> G.gl x = some (.ref clsN) -> okName x = true -> IsE G X e a -> P (.Call (.Name x p) [e] [] pos) 1 [a] []) -> P pe c as dx
 | .v i => ∀ P : PySem.Expr -> Prop, (∀ x p, X.names[i]? = some x -> vOk X x = true -> okName x = true -> P (.Name x p)) -> P pe
 | .c j => ∀ P : PySem.Expr -> Prop, (∀ x p, X.cn[j]? = some x -> X.kd.lookup x = some .local -> X.inC = true -> okName x = true -> P (.Name x p)) -> P pe
 | .g v => ∀ P : PySem.Expr -> Prop, (∀ x p, X.kd.lookup x = some .globalImplicit -> G.gl x = some v -> okName x = true -> P (.Name x p)) -> P pe
 | .bin o a b => ∀ P : PySem.Expr -> Prop, (∀ l op r p, IsE G X l a -> IsE G X r b -> opOf op = some o -> P (.BinOp l op r p)) -> P pe
 | .neg a => ∀ P : PySem.Expr -> Prop, (∀ x p, IsE G X x a -> P (.UnaryOp .USub x p)) -> P pe
 | .nt a => ∀ P : PySem.Expr -> Prop, (∀ x p, IsE G X x a -> P (.UnaryOp .Not x p)) -> P pe
 | .cmp o a b => ∀ P : PySem.Expr -> Prop, (∀ l op r p, o = cmOf op -> IsE G X l a -> IsE G X r b -> P (.Compare l [op] [r] p)) -> P pe
 | .btw a b c => ∀ P : PySem.Expr -> Prop, (∀ l m r p, IsE G X l a -> IsE G X m b -> IsE G X r c -> P (.Compare l [.LtE, .LtE] [m, r] p)) -> P pe
 | .and_ as => ∀ P : PySem.Expr -> Prop, (∀ xs p, IsEs G X xs as -> P (.BoolOp .And xs p)) -> P pe
 | .or_ as => ∀ P : PySem.Expr -> Prop, (∀ xs p, IsEs G X xs as -> P (.BoolOp .Or xs p)) -> P pe
 | .ite a b c => ∀ P : PySem.Expr -> Prop, (∀ t x y p, IsE G X t a -> IsE G X x b -> IsE G X y c -> P (.IfExp t x y p)) -> P pe
 | .lst as => ∀ P : PySem.Expr -> Prop, (∀ xs p, as.length <= 1000 -> IsEs G X xs as -> P (.List xs p)) -> P pe
 | .nlst as => ∀ P : PySem.Expr -> Prop, (∀ xs p, as.length <= 1000 -> IsEs G X xs as -> P (.List xs p)) -> P pe
 | .ndict => ∀ P : PySem.Expr -> Prop, (∀ p, P (.Dict [] [] p)) -> P pe
 | .tup as => ∀ P : PySem.Expr -> Prop, (∀ xs k p, as.length <= 1000 -> IsEs G X xs as -> P (.Tuple xs k p)) -> P pe
 | .sub a b => ∀ P : PySem.Expr -> Prop, (∀ o i p, IsE G X o a -> IsE G X i b -> P (.Subscript o i p)) -> P pe
 | .slcTo a b => ∀ P : PySem.Expr -> Prop, (∀ o u q p, IsE G X o a -> IsE G X u b -> P (.Subscript o (.Slice none (some u) none q) p)) -> P pe
 | .slcStep a b c => ∀ P : PySem.Expr -> Prop, (∀ o l st q p, IsE G X o a -> IsE G X l b -> IsE G X st c -> P (.Subscript o (.Slice (some l) none (some st) q) p)) -> P pe
 | .fn f as dx => ∀ P : PySem.Expr -> Prop, (∀ x p args pos a, X.kd.lookup x = some .globalImplicit -> G.gl x = some (.ref a) -> okName x = true -> G.fid a = some f -> G.dx f as.length = some dx -> IsEs G X args as -> P (.Call (.Name x p) args [] pos)) -> P pe
 | .fnk f as b => ∀ P : PySem.Expr -> Prop, (∀ x p args kn kv kp pos a, X.kd.lookup x = some .globalImplicit -> G.gl x = some (.ref a) -> okName x = true -> G.fid a = some f -> G.kw f = some kn -> as.length = 1 -> IsEs G X args as -> IsE G X kv b -> P (.Call (.Name x p) args [⟨some kn, kv, kp⟩] pos)) -> P pe
 | .om m a as => ∀ P : PySem.Expr -> Prop, (∀ o name apos args pos, G.mid name = some m -> notSuper o = true -> (apos.endLine == pos.line) = true -> as.length <= 2 -> IsE G X o a -> IsEs G X args as -> P (.Call (.Attribute o name apos) args [] pos)) -> P pe
 | .omS m a b => ∀ P : PySem.Expr -> Prop, (∀ o name apos e sp pos, G.mid name = some m -> notSuper o = true -> IsE G X o a -> IsE G X e b -> P (.Call (.Attribute o name apos) [.Starred e sp] [] pos)) -> P pe
 | .att a f => ∀ P : PySem.Expr -> Prop, (∀ o name pos, attNm f = some name -> notSuper o = true -> IsE G X o a -> P (.Attribute o name pos)) -> P pe
 | .comp tr ce sk src cond nt => ∀ P : PySem.Expr -> Prop, (∀ elt tg iter ifs sc pos cn, scOk X sc cn = true -> tgOk tg nt cn = true -> IsSrc G X iter sk src -> IsE G ⟨relK X.kd sc.names, X.names, cn, true⟩ elt ce -> IsEs G ⟨relK X.kd sc.names, X.names, cn, true⟩ ifs cond ->
   P (.ListComp elt [⟨tg, iter, ifs, 0⟩] sc pos)) -> P pe
theorem globRef_el {P : Prop} {x : Str} {k : Addr -> Bool} (h : globRef G X x k = true) (c : ∀ a, X.kd.lookup x = some .globalImplicit -> G.gl x = some (.ref a) -> okName x = true -> k a = true -> P) : P := by
 obtain ⟨v, e, q⟩ := onSome_of (ban (ban h).2).2
 cases v <;> first | exact c _ (dcd (ban h).1) e (ban (ban h).2).1 q | exact nft q
theorem bfVal_none {b : BF} (h : bfVal b = none) : b = .listRange \/ b = .nlist := by cases b <;> first | exact .inl rfl | exact .inr rfl | exact nomatch h
theorem bor_el {P : Prop} {a b : Bool} (h : (a || b) = true) (c1 : a = true -> P) (c2 : b = true -> P) : P := (Bool.or_eq_true_iff.mp h).elim c1 c2
theorem chkConst_el {P : PySem.Const -> D -> Prop} {c : PySem.Const} {d : D} (h : chkConst c d = true) (k1 : ∀ i, P (.int i) (.int i)) (k2 : ∀ i, P (.bool i) (.bool i)) (k3 : P .none .none) (k4 : ∀ i, P (.bytes i) (.bytes i)) (k5 : ∀ i, P (.str i) (.str i)) : P c d := by
 cases d <;> first | exact nft h | exact dcd_el (P := fun c => P c _) h (k1 _) | exact dcd_el (P := fun c => P c _) h (k2 _) | exact dcd_el (P := fun c => P c _) h k3 | exact dcd_el (P := fun c => P c _) h (k4 _) | exact dcd_el (P := fun c => P c _) h (k5 _)
theorem chkGK_el {P : Value -> D -> Prop} {v : Value} {d : D} (h : chkGK v d = true) (k1 : ∀ i t, P (.int i t) (.int i)) (k2 : ∀ b t, P (.bytes b t) (.bytes b.toList)) : P v d := by
 cases d <;> first | exact nft h | skip
 ·cases v <;> first | exact nft h | exact dcd_er (P := fun i => P _ (.int i)) h (k1 _ _)
 ·cases v <;> first | exact nft h | exact dcd_er (P := fun b => P _ (.bytes b)) h (k2 _ _)
theorem chkB_inv {n : Nat} {pe : PySem.Expr} {e : Ex} : chkB G (chkE G n) X pe e = true -> InvE G X pe e := by
  cases e with
  | k d =>
   intro h
   exact fun P k1 k2 k3 k4 k5 k6 k7 => bor_el h (fun h => onConstant_el (P := fun pe => P pe d) h fun c k p h => chkConst_el (P := fun c d => P (.Constant c k p) d) h (fun i => k1 i k p) (fun i => k2 i k p) (k3 k p) (fun i => k4 i k p) (fun i => k5 i k p))
    fun h => onName_el (P := fun pe => P pe d) h fun x p h => by
     obtain ⟨v, e, q⟩ := onSome_of (ban (ban h).2).2
     exact chkGK_el (P := fun v d => G.gl x = some v -> P (.Name x p) d) q (fun i t e => k6 x p i t (dcd (ban h).1) e (ban (ban h).2).1) (fun b t e => k7 x p b t (dcd (ban h).1) e (ban (ban h).2).1) e
  | v i =>
   intro h
   exact fun P k => onName_el h fun x p h => k x p (dcd (ban h).1) (ban (ban h).2).1 (ban (ban h).2).2
  | c j =>
   intro h
   exact fun P k => onName_el h fun x p h => k x p (dcd (ban h).1) (dcd (ban (ban h).2).1) (ban (ban (ban h).2).2).1 (ban (ban (ban h).2).2).2
  | g v =>
   intro h
   exact fun P k => onName_el h fun x p h => k x p (glob_of h).1 (glob_of h).2.1 (glob_of h).2.2
  | bin o a b =>
   intro h
   exact fun P k => onBinOp_el h fun l op r p h => k l op r p ⟨n, (ban (ban h).2).1⟩ ⟨n, (ban (ban h).2).2⟩ (dcd (ban h).1)
  | neg a =>
   intro h
   exact fun P k => onUnaryOp_el h fun op x p h => dcd_el (P := fun op => P (.UnaryOp op x p)) (ban h).1 (k x p ⟨n, (ban h).2⟩)
  | nt a =>
   intro h
   exact fun P k => onUnaryOp_el h fun op x p h => dcd_el (P := fun op => P (.UnaryOp op x p)) (ban h).1 (k x p ⟨n, (ban h).2⟩)
  | cmp o a b =>
   intro h
   exact fun P k => onCompare_el h fun l os rs p h => on1_el (P := fun os => P (.Compare l os rs p)) h fun op h => on1_el (P := fun rs => P (.Compare l [op] rs p)) h fun r h => k l op r p (dcd (ban h).1).symm ⟨n, (ban (ban h).2).1⟩ ⟨n, (ban (ban h).2).2⟩
  | btw a b c =>
   intro h
   exact fun P k => onCompare_el h fun l os rs p h => on2_el (P := fun os => P (.Compare l os rs p)) h fun o1 o2 h => on2_el (P := fun rs => P (.Compare l [o1, o2] rs p)) h fun m r h =>
    dcd_el (P := fun o1 => P (.Compare l [o1, o2] [m, r] p)) (ban h).1 (dcd_el (P := fun o2 => P (.Compare l [.LtE, o2] [m, r] p)) (ban (ban h).2).1 (k l m r p ⟨n, (ban (ban (ban h).2).2).1⟩ ⟨n, (ban (ban (ban (ban h).2).2).2).1⟩ ⟨n, (ban (ban (ban (ban h).2).2).2).2⟩))
  | and_ as =>
   intro h
   exact fun P k => onBoolOp_el h fun op xs p h => dcd_el (P := fun op => P (.BoolOp op xs p)) (ban h).1 (k xs p ⟨n, (ban h).2⟩)
  | or_ as =>
   intro h
   exact fun P k => onBoolOp_el h fun op xs p h => dcd_el (P := fun op => P (.BoolOp op xs p)) (ban h).1 (k xs p ⟨n, (ban h).2⟩)
  | ite a b c =>
   intro h
   exact fun P k => onIfExp_el h fun t x y p h => k t x y p ⟨n, (ban h).1⟩ ⟨n, (ban (ban h).2).1⟩ ⟨n, (ban (ban h).2).2⟩
  | lst as =>
   intro h
   exact fun P k => onList_el h fun xs p h => k xs p (dcd (ban h).1) ⟨n, (ban h).2⟩
  | nlst as =>
   intro h
   exact fun P k => onList_el h fun xs p h => k xs p (dcd (ban h).1) ⟨n, (ban h).2⟩
  | ndict =>
   intro h
   exact fun P k => onDict_el h fun ks vs p h => on0_el (P := fun ks => P (.Dict ks vs p)) (ban h).1 (on0_el (P := fun vs => P (.Dict [] vs p)) (ban h).2 (k p))
  | tup as =>
   intro h
   exact fun P k => onTuple_el h fun xs q p h => k xs q p (dcd (ban h).1) ⟨n, (ban h).2⟩
  | sub a b =>
   intro h
   exact fun P k => onSubscript_el h fun o i p h => k o i p ⟨n, (ban h).1⟩ ⟨n, (ban h).2⟩
  | slcTo a b =>
   intro h
   exact fun P k => onSubscript_el h fun o i p h => onSlice_el (P := fun i => P (.Subscript o i p)) h fun l u s q h => onNone_el (P := fun l => P (.Subscript o (.Slice l u s q) p)) (ban h).1 (onNone_el (P := fun s => P (.Subscript o (.Slice none u s q) p)) (ban (ban h).2).1
    (onSome_el (P := fun u => P (.Subscript o (.Slice none u none q) p)) (ban (ban h).2).2 fun u h => k o u q p ⟨n, (ban h).1⟩ ⟨n, (ban h).2⟩))
  | slcStep a b c =>
   intro h
   exact fun P k => onSubscript_el h fun o i p h => onSlice_el (P := fun i => P (.Subscript o i p)) h fun l u s q h => onNone_el (P := fun u => P (.Subscript o (.Slice l u s q) p)) (ban h).1
    (onSome_el (P := fun l => P (.Subscript o (.Slice l none s q) p)) (ban h).2 fun l h => onSome_el (P := fun s => P (.Subscript o (.Slice (some l) none s q) p)) h fun s h => k o l s q p ⟨n, (ban h).1⟩ ⟨n, (ban (ban h).2).1⟩ ⟨n, (ban (ban h).2).2⟩)
  | fn f as dx =>
   intro h
   exact fun P k => onCall_el h fun fe args ks p h => onName_el (P := fun fe => P (.Call fe args ks p)) h fun x q h => on0_el (P := fun ks => P (.Call (.Name x q) args ks p)) (ban h).1
    (globRef_el (ban h).2 fun a h1 h2 h3 h => by
     obtain ⟨dy, e, q⟩ := onSome_of (ban (ban h).2).1
     exact k x _ args p a h1 h2 h3 (dcd (ban h).1) (dsEq_of q ▸ e) ⟨n, (ban (ban h).2).2⟩)
  | fnk f as b =>
   intro h
   exact fun P k => onCall_el h fun fe args ks p h => onName_el (P := fun fe => P (.Call fe args ks p)) h fun x q h => on1_el (P := fun ks => P (.Call (.Name x q) args ks p)) h fun kw h => by
     obtain ⟨kn, kv, kp⟩ := kw
     exact onSome_el (P := fun kn => P (.Call (.Name x q) args [⟨kn, kv, kp⟩] p)) h fun kn h => globRef_el h fun a h1 h2 h3 h => k x q args kn kv kp p a h1 h2 h3 (dcd (ban h).1) (dcd (ban (ban h).2).1) (dcd (ban (ban (ban h).2).2).1) ⟨n, (ban (ban (ban (ban h).2).2).2).1⟩ ⟨n, (ban (ban (ban (ban h).2).2).2).2⟩
  | bf b as =>
   intro h P k1 k2
   have h : (match bfVal b with | some v => chkB1 G (chkE G n) X pe v as | none => chkLR G (chkE G n) X pe as) = true := h
   cases hb : bfVal b with
   | some v =>
    rw [hb] at h
    exact onCall_el (P := fun pe => P pe as) h fun fe args ks p h => onName_el (P := fun fe => P (.Call fe args ks p) as) h fun x q h => on0_el (P := fun ks => P (.Call (.Name x q) args ks p) as) (ban h).1 (k1 x q args p v as (glob_of (ban (ban h).2).1).1 hb (glob_of (ban (ban h).2).1).2.1 (glob_of (ban (ban h).2).1).2.2 ⟨n, (ban (ban h).2).2⟩)
   | none =>
    rw [hb] at h
    exact onCall_el (P := fun pe => P pe as) h fun fe args ks p h => onName_el (P := fun fe => P (.Call fe args ks p) as) h fun x q h => on0_el (P := fun ks => P (.Call (.Name x q) args ks p) as) (ban h).1 (on1_el (P := fun args => P (.Call (.Name x q) args [] p) as) (ban h).2 fun y h =>
     onCall_el (P := fun y => P (.Call (.Name x q) [y] [] p) as) h fun f2 args2 ks2 p2 h => onName_el (P := fun f2 => P (.Call (.Name x q) [.Call f2 args2 ks2 p2] [] p) as) h fun x2 q2 h => on0_el (P := fun ks2 => P (.Call (.Name x q) [.Call (.Name x2 q2) args2 ks2 p2] [] p) as) (ban h).1
      (on1_el (P := fun args2 => P (.Call (.Name x q) [.Call (.Name x2 q2) args2 [] p2] [] p) as) (ban h).2 fun e h => on1_el (P := fun as => P (.Call (.Name x q) [.Call (.Name x2 q2) [e] [] p2] [] p) as) (ban (ban h).2).2 fun a hh =>
       k2 x q x2 q2 e p p2 a (glob_of (ban h).1).1 (glob_of (ban h).1).2.1 (glob_of (ban h).1).2.2 (glob_of (ban (ban h).2).1).1 (glob_of (ban (ban h).2).1).2.1 (glob_of (ban (ban h).2).1).2.2 (bfVal_none hb) ⟨n, hh⟩))
  | bm m a as =>
   intro h
   exact fun P k1 k2 => bor_el h (fun h => onCall_el (P := fun pe => P pe m as) h fun fe args ks p h => onAttribute_el (P := fun fe => P (.Call fe args ks p) m as) h fun o nm q h => on0_el (P := fun ks => P (.Call (.Attribute o nm q) args ks p) m as) (ban h).1 (by
     have h := (ban h).2
     have h2 := (ban h).2
     have h3 := (ban h2).2
     have h4 := (ban h3).2
     exact k1 o nm q args p as m (dcd (ban h).1) (ban h2).1 (ban h3).1 (dcd (ban h4).1) ⟨n, (ban (ban h4).2).1⟩ ⟨n, (ban (ban h4).2).2⟩))
    fun h => onAttribute_el (P := fun pe => P pe m as) h fun o nm q h => dcd_el (P := fun nm => P (.Attribute o nm q) m as) (ban h).1 (dcd_el (P := fun m => P (.Attribute o "__next__" q) m as) (ban (ban h).2).1
     (on0_el (P := fun as => P (.Attribute o "__next__" q) .next as) (ban (ban (ban h).2).2).1 (k2 o q (ban (ban (ban (ban h).2).2).2).1 ⟨n, (ban (ban (ban (ban h).2).2).2).2⟩)))
  | om m a as =>
   intro h
   exact fun P k => onCall_el h fun fe args ks p h => onAttribute_el (P := fun fe => P (.Call fe args ks p)) h fun o nm q h => on0_el (P := fun ks => P (.Call (.Attribute o nm q) args ks p)) (ban h).1 (by
     have h := (ban h).2
     have h2 := (ban h).2
     have h3 := (ban h2).2
     have h4 := (ban h3).2
     exact k o nm q args p (dcd (ban h).1) (ban h2).1 (ban h3).1 (dcd (ban h4).1) ⟨n, (ban (ban h4).2).1⟩ ⟨n, (ban (ban h4).2).2⟩)
  | omS m a b =>
   intro h
   exact fun P k => onCall_el h fun fe args ks p h => onAttribute_el (P := fun fe => P (.Call fe args ks p)) h fun o nm q h => on0_el (P := fun ks => P (.Call (.Attribute o nm q) args ks p)) (ban h).1 (on1_el (P := fun args => P (.Call (.Attribute o nm q) args [] p)) (ban h).2 fun s h =>
     onStarred_el (P := fun s => P (.Call (.Attribute o nm q) [s] [] p)) h fun e sp h => k o nm q e sp p (dcd (ban h).1) (ban (ban h).2).1 ⟨n, (ban (ban (ban h).2).2).1⟩ ⟨n, (ban (ban (ban h).2).2).2⟩)
  | new c as dx =>
   intro h
   exact fun P k1 k2 => onCall_el (P := fun pe => P pe c as dx) h fun fe args ks p h => onName_el (P := fun fe => P (.Call fe args ks p) c as dx) h fun x q h => on0_el (P := fun ks => P (.Call (.Name x q) args ks p) c as dx) (ban h).1 (bor_el (ban h).2
    (fun h => on0_el (P := fun args => P (.Call (.Name x q) args [] p) c as dx) (ban h).1 (on0_el (P := fun as => P (.Call (.Name x q) [] [] p) c as dx) (ban (ban h).2).1 (dcd_el (P := fun c => P (.Call (.Name x q) [] [] p) c [] dx) (ban (ban (ban h).2).2).1
     (dsEq_el (P := fun dx => P (.Call (.Name x q) [] [] p) 0 [] dx) (ban (ban (ban (ban h).2).2).2).2 (k1 x q p (glob_of (ban (ban (ban (ban h).2).2).2).1).1 (glob_of (ban (ban (ban (ban h).2).2).2).1).2.1 (glob_of (ban (ban (ban (ban h).2).2).2).1).2.2)))))
    fun h => on1_el (P := fun args => P (.Call (.Name x q) args [] p) c as dx) h fun e h => on1_el (P := fun as => P (.Call (.Name x q) [e] [] p) c as dx) h fun a h => dcd_el (P := fun c => P (.Call (.Name x q) [e] [] p) c [a] dx) (ban h).1
     (dsEq_el (P := fun dx => P (.Call (.Name x q) [e] [] p) 1 [a] dx) (ban (ban (ban h).2).2).1 (k2 x q e p a (glob_of (ban (ban h).2).1).1 (glob_of (ban (ban h).2).1).2.1 (glob_of (ban (ban h).2).1).2.2 ⟨n, (ban (ban (ban h).2).2).2⟩)))
  | att a f =>
   intro h
   exact fun P k => onAttribute_el h fun o nm p h => k o nm p (dcd (ban h).1) (ban (ban h).2).1 ⟨n, (ban (ban h).2).2⟩
  | comp tr ce sk src cond nt =>
   intro h
   exact fun P k => onListComp_el h fun elt gs sc p h => on1_el (P := fun gs => P (.ListComp elt gs sc p)) h fun g h => by
    obtain ⟨tg, iter, ifs, as⟩ := g
    exact dcd_el (P := fun as => P (.ListComp elt [⟨tg, iter, ifs, as⟩] sc p)) (ban h).1 (k elt tg iter ifs sc p _ (ban (ban h).2).1 (ban (ban (ban h).2).2).1 ⟨n, (ban (ban (ban (ban h).2).2).2).1⟩ ⟨n, (ban (ban (ban (ban (ban h).2).2).2).2).1⟩ ⟨n, (ban (ban (ban (ban (ban h).2).2).2).2).2⟩)
theorem IsE.inv {pe : PySem.Expr} {e : Ex} (h : IsE G X pe e) : InvE G X pe e := by
 obtain ⟨n, h⟩ := h
 cases n with
 | zero => exact nft h
 | succ n => exact chkB_inv (ban h).2
theorem IsE.shape {pe : PySem.Expr} {e : Ex} (h : IsE G X pe e) : txt0 pe = true /\ (plainE e = true -> plainT pe = true) := by
 obtain ⟨n, h⟩ := h
 cases n with
 | zero => exact nft h
 | succ n => exact ⟨(ban (ban (ban h).1).1).1, fun q => bor_el (ban (ban h).1).2 (fun z => by rw [q] at z; exact nft z) id⟩
theorem IsE.comp {pe : PySem.Expr} {e : Ex} (h : IsE G X pe e) (hp : isCompT pe = true) : isCompE e = true := by
 obtain ⟨n, h⟩ := h
 cases n with
 | zero => exact nft h
 | succ n => exact bor_el (ban (ban (ban h).1).1).2 (fun z => by rw [hp] at z; exact nft z) id
noncomputable def InvEs (G : Gs) (X : Cx) (pes : List PySem.Expr) : List Ex -> Prop
 | [] => ∀ P : List PySem.Expr -> Prop, P [] -> P pes
 | e :: es => ∀ P : List PySem.Expr -> Prop, (∀ x xs, IsE G X x e -> IsEs G X xs es -> P (x :: xs)) -> P pes
theorem IsEs.inv {pes : List PySem.Expr} {es : List Ex} (h : IsEs G X pes es) : InvEs G X pes es := by
 obtain ⟨n, h⟩ := h
 cases es with
 | nil => exact fun P k => on0_el h k
 | cons e es => exact fun P k => onC_el h fun x xs h => k x xs ⟨n, (ban h).1⟩ ⟨n, (ban h).2⟩
theorem IsE.star {pe : PySem.Expr} {e : Ex} (h : IsE G X pe e) (rest : List PySem.Expr) (env : Env) : starEach (pe :: rest) env = (false, eval pe env) :: starEach rest env := starEach_of pe rest env h.shape.1
theorem IsE.mark {pe : PySem.Expr} {e : Ex} (h : IsE G X pe e) (op : CmpOp) : behindInMarks op pe = false := inMarks_of pe op h.shape.1
end
end Mine
end

section
open PySem PySem.W PyProof.Rows
namespace Mine
structure TopOk (B : Heap) (G : Gs) : Prop where
 gl : ∀ x v, G.gl x = some v -> ∃ mg, B.Ns mainGlobals mg /\ (mg x = some v \/ (mg x = Option.none /\ ∃ mb, B.Ns builtinsNs mb /\ mb x = some v))
 nolimit : B.NoLimit
 sysm : ∃ o, B.get? sysModules = some o
section
variable (prog : Program) (w : World) (B : Heap) (G : Gs)
noncomputable def SndE (f : Fns) (n : Nat) : Prop := ∀ [Off] {X : Cx} {env : Env} {pe : PySem.Expr} {e : Ex} {cv : List D} {lo : Lo} {A : Around} {W : Wd} {R : D -> Hp -> Prop} {Q : Value -> Shared -> Prop} {E : Value -> Shared -> Prop},
 IsE G X pe e -> f.ev cv lo e W.H R -> Room A n -> RW prog w B X env W lo cv -> PostE prog w B W R Q -> wpAny (model prog w) A (eval pe env) Q E W.s
noncomputable def SndT (f : Fns) (n : Nat) : Prop := ∀ [Off] {X : Cx} {env : Env} {pe : PySem.Expr} {e : Ex} {cv : List D} {lo : Lo} {A : Around} {W : Wd} {R : Bool -> Hp -> Prop} {Q : Bool -> Shared -> Prop} {E : Value -> Shared -> Prop},
 IsE G X pe e -> f.tst cv lo e W.H R -> Room A n -> RW prog w B X env W lo cv -> PostT prog w B W R Q -> wpAny (model prog w) A (isTrue pe env (eval pe env)) Q E W.s
end
section
variable [Off] {prog : Program} {w : World} {B : Heap} {G : Gs} {f : Fns} {n : Nat} {X : Cx} {env : Env} {cv : List D} {lo : Lo} {A : Around} {s : Shared} {ad : List Addr} {W : Wd} {E : Value -> Shared -> Prop}
theorem evs_sound (hE : SndE prog w B G f n) (r : Room A n) {pos : Pos} {es : List Ex} {pes : List PySem.Expr} {R : List D -> Hp -> Prop} {K : List Value -> Shared -> Prop} (ies : IsEs G X pes es) (h : evs f cv lo es W.H R) (C : RW prog w B X env W lo cv)
  (k : ∀ W' ds vs, Le prog w B W W' -> R ds W'.H -> VRels W'.s.heap W'.ad ds vs -> ds.length = es.length -> K vs W'.s) : wpAny (model prog w) A (spliced (backTo pos (starEach pes env))) K E W.s := by
 induction es generalizing pes W R K with
 | nil =>
  apply ies.inv
  exact wpAny_items_nil (k W [] [] (Le.refl C.st) h (isNil _ _) rfl)
 | cons e es ih =>
  apply ies.inv
  intro x xs ie ies
  exact wpAny_items_cons (hE ie h r C fun W1 d v g1 h1 r1 => ih ies h1 (C.up g1) fun W2 ds vs g2 h2 rs l => k W2 (d :: ds) (v :: vs) (g1.trans g2) h2 (isCons (r1.up g2) rs) (congrArg Nat.succ l)) (ie.star _ _)
theorem RW.loadG {x : Str} {v : Value} {p : Pos} {Q : Value -> Shared -> Prop} (T : TopOk B G) (C : RW prog w B X env W lo cv) (hk : X.kd.lookup x = some .globalImplicit) (hg : G.gl x = some v) (ok : okName x = true) (h : Q v W.s) :
  wpAny (model prog w) A (eval (.Name x p) env) Q E W.s := by
 refine hid fun zP zk => ?_
 obtain ⟨S, R⟩ := C
 obtain ⟨mg, hm, q⟩ := T.gl x v hg
 refine zk ?_
 clear zk zP
 have hd : (x == ("__debug__" : Str)) = false := (Bool.not_eq_true' _).mp (ban ok).1
 have hkk : env.kindOf x = some .globalImplicit := (congrArg (·.lookup x) R.sc).trans hk
 have hm' : W.s.heap.Ns env.globals mg := by rw [R.glob]; exact hm.keeps S.base
 rcases q with q | ⟨q, mb, hb, q2⟩
 ·exact Calls.Name_function_global R.kind hkk (Calls.loadGlobal_global hm' q h) hd
 ·exact Calls.Name_function_global R.kind hkk (Calls.loadGlobal_builtin hm' q (by rw [R.blt]; exact hb.keeps S.base) q2 h) hd
theorem okName_split {x : Str} (ok : okName x = true) : (x == ("__debug__" : Str)) = false /\ (x == ("__classdict__" : Str)) = false := ⟨(Bool.not_eq_true' _).mp (ban ok).1, (Bool.not_eq_true' _).mp (ban ok).2⟩
theorem subscripted_any (slice : PySem.Expr) (o i : Value) : ∃ ops, subscripted slice false o i = operate ops (getItem o i) := by
 cases slice with
 | Slice a b c p => cases c <;> exact ⟨_, rfl⟩
 | _ => exact ⟨_, rfl⟩
theorem idx_sound {value slice : PySem.Expr} {a : Addr} {vs : Array Value} {m : Nat} {ds : List D} {i : Int} {t : Tok} {d : D} {Q : Value -> Shared -> Prop} (g : s.heap.get? a = some { cls := .type "list", data := .seq vs m }) (r : VRels s.heap ad ds vs.toList) (e : idx ds i = some d) (p : PostK s ad d Q) :
  wpAny (model prog w) A (subscriptTail value slice (.ref a) (.int i t)) Q E s := by
 obtain ⟨ops, ho⟩ := subscripted_any slice (.ref a) (.int i t)
 have hl : s.heap.IsList a vs := ⟨_, g, rfl, m, rfl⟩
 refine tail_any hl.typeIs slot_list_getitem.lookup ?_ ho
 unfold idx at e
 cases h0 : decide (0 <= i) with
 | true =>
  rw [h0] at e
  refine gd_el e fun h1 e => ?_
  obtain ⟨v', e', rv⟩ := r.get e
  exact wpAny_getItem_list hl (of_decide_eq_true h0) (by have := Nat.le_of_ble_eq_true h1; omega) (by simpa using e') (p.same rv s.toks)
 | false =>
  rw [h0] at e
  refine gd_el e fun hneg e => ?_
  rw [of_decide_eq_true hneg]
  rw [List.getLast?_eq_getElem?] at e
  obtain ⟨v', e', rv⟩ := r.get e
  have l := r.length
  have lt := (List.getElem?_eq_some_iff.mp e).1
  simp only [Array.length_toList] at l
  refine wpAny_getItem_list_neg hl (by omega) (by omega) (by omega) ?_ (p.same rv s.toks)
  rw [<- Array.getElem?_toList, <- e']
  congr 1
  omega
theorem subD_sound {H : Hp} (S : St prog w B s.heap ad H) {value slice : PySem.Expr} {x y d : D} {v u : Value} {Q : Value -> Shared -> Prop} (e : subD H x y = some d) (rx : VRel s.heap ad x v) (ry : VRel s.heap ad y u) (p : PostK s ad d Q) :
  wpAny (model prog w) A (subscriptTail value slice v u) Q E s := by
 revert ry
 refine dI_el (M := fun y => VRel s.heap ad y u -> _) e fun i e ry => ?_
 apply vInt_el ry; intro t'
 cases x with
 | lst ds =>
  apply vLst_el rx; intro a vs m o g r
  exact idx_sound g r e p
 | bytes b =>
  refine gd_el e fun h0 e => map_el e fun c e' e => ?_
  rw [<- e] at p
  simp only [Bool.and_eq_true, decide_eq_true_eq] at h0
  apply vBytes_el rx; intro t
  obtain ⟨ops, ho⟩ := subscripted_any slice (.bytes b.toArray t) (.int i t')
  have lt := (List.getElem?_eq_some_iff.mp e').1
  refine tail_any (typeIs_bytes s _ t) FB.slot_bytes_getitem.lookup (getItem_bytes ?_ h0.1 (by omega) ?_) ho
  ·have := h0.2; unfold lim at this; omega
  ·have : b.getD i.toNat 0 = c := by rw [List.getD_eq_getElem?_getD, e']; rfl
   rw [this]
   exact p.same (iInt _ _ _ _) _
 | ref k =>
  apply vRef_el rx; intro a hk
  have e : subO H[k]? i = some d := e
  cases q : H[k]? with
  | none => rw [q] at e; exact nomatch e
  | some o =>
   rw [q] at e
   cases o with
   | list ds =>
    refine hid fun zP zk => ?_
    obtain ⟨vs, m, g, r⟩ := S.list hk q
    refine zk ?_
    clear zk zP
    exact idx_sound g r e p
   | dict es ep =>
    refine hid fun zP zk => ?_
    obtain ⟨f, hm, hf⟩ := S.mapOf hk q
    obtain ⟨ops, ho⟩ := subscripted_any slice (.ref a) (.int i t')
    refine zk ?_
    clear zk zP
    have := hf i
    rw [show lookI es i = some d from e] at this
    obtain ⟨v', e1, rv⟩ := this
    exact tail_any hm.typeIs slot_dict_getitem.lookup (wpAny_getItem_of (intKind_is _ t') hm e1 (p.same rv _)) ho
   | _ => exact nomatch e
 | _ => exact nomatch e

theorem St.push {H : Hp} (S : St prog w B s.heap ad H) (o : Obj) : St prog w B (s.heap.push o) ad H := S.keeps (fun b ob e => Heap.get?_push_of_some _ e) (by rw [Heap.size_push]; omega)
theorem VRels.push {ds : List D} {vs : List Value} {h : Heap} (r : VRels h ad ds vs) (o : Obj) : VRels (h.push o) ad ds vs := by
 have := r.go (Go.of_keeps (ad := ad) (h' := h.push o) (fun b ob e => Heap.get?_push_of_some _ e) (by rw [Heap.size_push]; omega))
 rwa [List.append_nil] at this
theorem PostK.push {d : D} {Q : Value -> Shared -> Prop} (p : PostK s ad d Q) (o : Obj) : PostK { s with heap := s.heap.push o } ad d Q := fun h' v tk k sz r =>
 p h' v tk (fun b ob e => k b ob (Heap.get?_push_of_some _ e)) (by rw [Heap.size_push] at sz; omega) r

theorem slice_lists {H : Hp} (S : St prog w B s.heap ad H) {value slice : PySem.Expr} {a : Addr} {vs : Array Value} {m : Nat} {es : List D} {vl vu vst : Value} {lo hi st : Option Int} {Q : Value -> Shared -> Prop} (g : s.heap.get? a = some { cls := .type "list", data := .seq vs m })
  (pl : IsPart vl lo) (pu : IsPart vu hi) (ps : IsPart vst st) (h0 : st ≠ some 0) (hsz : vs.size <= sizeLine) (r : VRels s.heap ad es (slicePick vs lo hi st).toList) (p : PostK s ad (.lst es) Q) :
  wpAny (model prog w) A (subscriptTail value slice (.ref a) (.ref s.heap.objs.size)) Q E { s with heap := s.heap.push { cls := .type "slice", data := .fields #[vl, vu, vst] } } := by
 obtain ⟨ops, ho⟩ := subscripted_any slice (.ref a) (.ref s.heap.objs.size)
 have g' := Heap.get?_push_of_some { cls := .type "slice", data := .fields #[vl, vu, vst] } g
 have hl : ({ s with heap := s.heap.push { cls := .type "slice", data := .fields #[vl, vu, vst] } } : Shared).heap.IsList a vs := ⟨_, g', rfl, m, rfl⟩
 refine tail_any hl.typeIs slot_list_getitem.lookup (wpAny_getItem_list_slice hl (Heap.IsSliceOf.new ..) pl pu ps h0 ?_ hsz) ho
 exact PostK.lst (s := { s with heap := s.heap.push { cls := .type "slice", data := .fields #[vl, vu, vst] } }) (S.push _) (r.push _) (p.push _) s.toks

theorem takeD_sound {H : Hp} (S : St prog w B s.heap ad H) {value slice : PySem.Expr} {a : Addr} {vs : Array Value} {m : Nat} {ds : List D} {i : Int} {t : Tok} {d : D} {Q : Value -> Shared -> Prop} (g : s.heap.get? a = some { cls := .type "list", data := .seq vs m }) (r : VRels s.heap ad ds vs.toList) (e : takeD ds i = some d) (p : PostK s ad d Q) :
  wpAny (model prog w) A (subscriptTail value slice (.ref a) (.ref s.heap.objs.size)) Q E { s with heap := s.heap.push { cls := .type "slice", data := .fields #[.none, .int i t, .none] } } := by
 refine gd_el e fun h0 e => ?_
 rw [<- Option.some.inj e] at p
 simp only [Bool.and_eq_true, decide_eq_true_eq] at h0
 have l := r.length
 simp only [Array.length_toList] at l
 refine slice_lists S (lo := none) (hi := some i) (st := none) g .none (.int i t) .none (by simp) (by rw [sizeLine_eq]; have := h0.2; unfold lim at this; omega) ?_ p
 have : some i = some ((i.toNat : Nat) : Int) := by congr 1; omega
 rw [this, slicePick_upto']
 exact r.take i.toNat
theorem slcTo_sound {H : Hp} (S : St prog w B s.heap ad H) {value slice : PySem.Expr} {x y d : D} {v u : Value} {Q : Value -> Shared -> Prop} (e : slcToD H x y = some d) (rx : VRel s.heap ad x v) (ry : VRel s.heap ad y u) (p : PostK s ad d Q) :
  wpAny (model prog w) A (subscriptTail value slice v (.ref s.heap.objs.size)) Q E { s with heap := s.heap.push { cls := .type "slice", data := .fields #[.none, u, .none] } } := by
 revert ry
 refine dI_el (M := fun y => VRel s.heap ad y u -> _) e fun i e ry => ?_
 apply vInt_el ry; intro t
 cases x with
 | lst ds =>
  apply vLst_el rx; intro a vs m o g r
  exact takeD_sound S g r e p
 | ref k =>
  refine hL_el e fun ds q e => ?_
  apply vRef_el rx; intro a hk
  refine hid fun zP zk => ?_
  obtain ⟨vs, m, g, r⟩ := S.list hk q
  refine zk ?_
  clear zk zP
  exact takeD_sound S g r e p
 | _ => exact nomatch e
theorem slcStep_sound {H : Hp} (S : St prog w B s.heap ad H) {value slice : PySem.Expr} {x y z d : D} {v u st : Value} {Q : Value -> Shared -> Prop} (e : slcStepD x y z = some d) (rx : VRel s.heap ad x v) (ry : VRel s.heap ad y u) (rz : VRel s.heap ad z st) (p : PostK s ad d Q) :
  wpAny (model prog w) A (subscriptTail value slice v (.ref s.heap.objs.size)) Q E { s with heap := s.heap.push { cls := .type "slice", data := .fields #[u, .none, st] } } := by
 revert rx ry rz
 refine dL_el (M := fun x => VRel s.heap ad x v -> VRel s.heap ad y u -> VRel s.heap ad z st -> _) e fun ds e rx => ?_
 refine dI_el (M := fun y => VRel s.heap ad y u -> VRel s.heap ad z st -> _) e fun a0 e ry => ?_
 refine dI_el (M := fun z => VRel s.heap ad z st -> _) e fun s0 e rz => gd_el e fun h0 e => ?_
 rw [<- Option.some.inj e] at p
 simp only [Bool.and_eq_true, decide_eq_true_eq] at h0
 apply vLst_el rx; intro a vs m o g r
 apply vInt_el ry; intro t
 apply vInt_el rz; intro t'
 have l := r.length
 simp only [Array.length_toList] at l
 refine slice_lists S (lo := some _) (hi := none) (st := some _) g (.int _ t) .none (.int _ t') (by have := h0.1.2; simp; omega) (by rw [sizeLine_eq]; have := h0.2; unfold lim at this; omega) ?_ p
 unfold slicePick pickD
 rw [l]
 have := r.pick (sliceRange (sliceBounds (some a0) none (some s0) vs.size).1 (sliceBounds (some a0) none (some s0) vs.size).2.1 (sliceBounds (some a0) none (some s0) vs.size).2.2)
 simpa using this
theorem iRef {H : Hp} {h : Heap} (S : St prog w B h ad H) (h' : Heap) : VRel h' (ad ++ [h.objs.size]) (.ref H.length) (.ref h.objs.size) := by
 unfold VRel
 refine ⟨_, rfl, ?_⟩
 rw [<- S.len]
 simp
theorem size_ok {h : Heap} {ds : List D} {vs : List Value} {n : Nat} (rs : VRels h ad ds vs) (l : ds.length = n) (hl : n <= 1000) : vs.length <= sizeLine := by
 rw [sizeLine_eq, <- rs.length, l]
 exact Nat.le_trans hl (by decide)

noncomputable def stopOf : BoolOp -> Bool
 | .And => false
 | .Or => true
theorem bo_el {P : Sem Value -> Prop} {op : BoolOp} {b : Bool} {x y : Prop} {m1 m2 : Sem Value} (h : wIf (b == stopOf op) x y) (c1 : x -> P m1) (c2 : y -> P m2) : P (match (generalizing := false) op, b with | .And, false | .Or, true => m1 | _, _ => m2) := by
 cases op <;> cases b <;> first | exact c1 h | exact c2 h
theorem boolV_sound (hE : SndE prog w B G f n) (r : Room A n) {pos : Pos} (op : BoolOp) {es : List Ex} {pes : List PySem.Expr} {R : D -> Hp -> Prop} {Q : Value -> Shared -> Prop} (ies : IsEs G X pes es) (h : boolV f cv lo (stopOf op) es W.H R) (C : RW prog w B X env W lo cv) (p : PostE prog w B W R Q) :
  wpAny (model prog w) A (boolOp pos op (evalEach pes env)) Q E W.s := by
 induction es generalizing pes W with
 | nil => exact h.elim
 | cons e es ih =>
  apply ies.inv
  intro x xs ie ies
  cases es with
  | nil =>
   apply ies.inv
   exact hE ie h r C p
  | cons e2 es =>
   have ih := fun W (C : RW prog w B X env W lo cv) h => ih (W := W) ies h C
   revert ih
   apply ies.inv
   intro x2 xs2 _ _ ih
   refine wpAny_bind (hE ie h r C fun W1 d v g1 h1 r1 => wpAny_bind (wpAny_standAt (wpAny_bind (wpAny_holding ?_))))
   refine wB_el (M := fun d => VRel W1.s.heap W1.ad d v -> _) h1 (fun b h1 r1 => ?_) r1
   apply vBool_el r1
   refine wpAny_truthy_bool ?_
   exact bo_el (P := fun m => wpAny (model prog w) A m Q E W1.s) h1 (fun h => wpAny_pure (p W1 _ _ g1 h (iBool _ _ _))) fun h => ih W1 (C.up g1) h (p.more g1)
theorem tsts_sound (hT : SndT prog w B G f n) (r : Room A n) (op : BoolOp) {es : List Ex} {pes : List PySem.Expr} {R : Bool -> Hp -> Prop} {Q : Bool -> Shared -> Prop} (ies : IsEs G X pes es) (h : tsts f cv lo (stopOf op) es W.H R) (C : RW prog w B X env W lo cv) (p : PostT prog w B W R Q) :
  wpAny (model prog w) A (allTrue op pes env) Q E W.s := by
 induction es generalizing pes W with
 | nil =>
  apply ies.inv
  cases op
  ·exact wpAny_allTrue_And_nil (p W _ (Le.refl C.st) h)
  ·exact wpAny_allTrue_Or_nil (p W _ (Le.refl C.st) h)
 | cons e es ih =>
  apply ies.inv
  intro x xs ie ies
  cases op
  ·refine wpAny_allTrue_And_cons (hT ie h r C fun W1 c g1 h1 => ?_)
   cases c with
   | false => exact p W1 _ g1 h1
   | true => exact ih ies h1 (C.up g1) (p.more g1)
  ·refine wpAny_allTrue_Or_cons (hT ie h r C fun W1 c g1 h1 => ?_)
   cases c with
   | true => exact p W1 _ g1 h1
   | false => exact ih ies h1 (C.up g1) (p.more g1)
section
variable {pe : PySem.Expr} {R : D -> Hp -> Prop} {Q : Value -> Shared -> Prop} (C : RW prog w B X env W lo cv) (p : PostE prog w B W R Q)
include C p
theorem snd_k (T : TopOk B G) {x : D} (ie : IsE G X pe (.k x)) (h : evStep f cv lo (.k x) W.H R) : wpAny (model prog w) A (eval pe env) Q E W.s := by
 refine ie.inv (fun pe x => PostK W.s W.ad x Q -> wpAny (model prog w) A (eval pe env) Q E W.s) (fun i k q p => ?_) (fun i k q p => ?_) (fun k q p => ?_) (fun i k q p => ?_) (fun i k q p => ?_) (fun x q i t h1 h2 h3 p => ?_) (fun x q i t h1 h2 h3 p => ?_) (p.k0 C.st h)
 ·exact wpAny_Constant_int (p.same (iInt _ _ _ _) _)
 ·exact wpAny_Constant_bool (p.same (iBool _ _ _) _)
 ·exact wpAny_Constant_none (p.same (iNone _ _) _)
 ·exact Constant_bytes (p.same (iBytes _ _ _ _) _)
 ·exact wpAny_Constant_str (p.same (iStr _ _ _ _) _)
 ·exact C.loadG T h1 h2 h3 (p.same (iInt _ _ _ _) W.s.toks)
 ·exact C.loadG T h1 h2 h3 (p.same (iBytes _ _ i.toList t) W.s.toks)
theorem snd_v {i : Nat} (ie : IsE G X pe (.v i)) (h : evStep f cv lo (.v i) W.H R) : wpAny (model prog w) A (eval pe env) Q E W.s := by
 apply ie.inv
 intro x q h1 h2 h3
 exact wOO_el h fun d e h => wpAny_Name ((C.rc.vr _ _ _ h1 e h2).load C.rc.kind (okName_split h3).2 fun v rv => (p.k0 C.st h).same rv W.s.toks) (okName_split h3).1
theorem snd_c {i : Nat} (ie : IsE G X pe (.c i)) (h : evStep f cv lo (.c i) W.H R) : wpAny (model prog w) A (eval pe env) Q E W.s := by
 apply ie.inv
 intro x q h1 h2 h3 h4
 exact wO_el h fun d e h => wpAny_Name ((C.rc.cr _ _ _ h1 e h2 h3).load C.rc.kind (okName_split h4).2 fun v rv => (p.k0 C.st h).same rv W.s.toks) (okName_split h4).1
theorem snd_g (T : TopOk B G) {v : Value} (ie : IsE G X pe (.g v)) (h : evStep f cv lo (.g v) W.H R) : wpAny (model prog w) A (eval pe env) Q E W.s := by
 apply ie.inv
 intro x q h1 h2 h3
 exact C.loadG T h1 h2 h3 ((p.k0 C.st h).same (iVal _ _ _) W.s.toks)
theorem snd_ndict (ie : IsE G X pe .ndict) (h : evStep f cv lo .ndict W.H R) : wpAny (model prog w) A (eval pe env) Q E W.s := by
 apply ie.inv
 intro q
 obtain ⟨S2, g2⟩ := C.st.alloc (o := .dict [] 0) (ob := { cls := .type "dict", data := .dict #[] }) rfl ⟨⟨rfl, rfl, rfl⟩, List.nodup_nil, #[], rfl, rfl⟩
 exact wpAny_Dict_empty (p ⟨_, _, _⟩ _ _ (Le.mk' (tk := W.s.toks) S2 g2) h (iRef C.st _))
variable (hE : SndE prog w B G f n) (r : Room A n)
include hE r
theorem snd_bin {o : Bin} {a b : Ex} (ie : IsE G X pe (.bin o a b)) (h : evStep f cv lo (.bin o a b) W.H R) : wpAny (model prog w) A (eval pe env) Q E W.s := by
 apply ie.inv
 intro l op r0 q ia ib ho
 exact wpAny_BinOp (hE ia h r C fun W1 x v g1 h1 rv => hE ib h1 r (C.up g1) fun W2 y u g2 h2 ru => op_el (opB_of h2) fun z e h3 => binD_sound g2.st ho e (rv.up g2) ru (p.k (g1.trans g2) h3))
theorem snd_neg {a : Ex} (ie : IsE G X pe (.neg a)) (h : evStep f cv lo (.neg a) W.H R) : wpAny (model prog w) A (eval pe env) Q E W.s := by
 apply ie.inv
 intro x q ia
 refine wpAny_UnaryOp (hE ia h r C fun W1 d v g1 h1 rv => wI_el (M := fun d => VRel W1.s.heap W1.ad d v -> _) h1 (fun i h1 rv => ?_) rv)
 apply vInt_el rv
 exact fun t => neg_int ((p.k g1 h1).same (iInt _ _ _ _) _)
theorem snd_nt {a : Ex} (ie : IsE G X pe (.nt a)) (h : evStep f cv lo (.nt a) W.H R) : wpAny (model prog w) A (eval pe env) Q E W.s := by
 apply ie.inv
 intro x q ia
 exact wpAny_UnaryOp (hE ia h r C fun W1 d v g1 h1 rv => op_el (opT_of h1) fun b e h1 => not_value (truth_sound g1.st e rv fun tk => (p.k g1 h1).same (iBool _ _ _) tk))
theorem snd_cmp (T : TopOk B G) {o : Cm} {a b : Ex} (ie : IsE G X pe (.cmp o a b)) (h : evStep f cv lo (.cmp o a b) W.H R) : wpAny (model prog w) A (eval pe env) Q E W.s := by
 apply ie.inv
 intro l op r0 q ho ia ib
 obtain ⟨ob, hob⟩ := T.sysm
 exact wpAny_Compare1 (hE ia h r C fun W1 x v g1 h1 rv => hE ib h1 r (C.up g1) fun W2 y u g2 h2 ru => op_el h2 fun z e h3 => cmpD_sound r g2.st hob (ho ▸ e) (rv.up g2) ru fun tk => (p.k (g1.trans g2) h3).same (iBool _ _ _) tk) (ib.mark _)
theorem snd_ite (hT : SndT prog w B G f n) {t a b : Ex} (ie : IsE G X pe (.ite t a b)) (h : evStep f cv lo (.ite t a b) W.H R) : wpAny (model prog w) A (eval pe env) Q E W.s := by
 apply ie.inv
 intro t0 x y q ia ib ic
 exact wpAny_IfExp (hT ia h r C fun W1 c g1 h1 => wIf_el (M := fun c => if c = true then _ else _) h1 (fun h => (if_pos rfl).mpr (hE ib h r (C.up g1) (p.more g1))) fun h => (if_neg Bool.false_ne_true).mpr (hE ic h r (C.up g1) (p.more g1)))
theorem snd_lst {as : List Ex} (ie : IsE G X pe (.lst as)) (h : evStep f cv lo (.lst as) W.H R) : wpAny (model prog w) A (eval pe env) Q E W.s := by
 apply ie.inv
 intro xs q hl ies
 exact wpAny_List (evs_sound hE r ies h C fun W1 ds vs g1 h1 rs l => ⟨size_ok rs l hl, PostK.lst g1.st (by simpa using rs) (p.k g1 h1) _⟩)
theorem snd_tup {as : List Ex} (ie : IsE G X pe (.tup as)) (h : evStep f cv lo (.tup as) W.H R) : wpAny (model prog w) A (eval pe env) Q E W.s := by
 apply ie.inv
 intro xs k q hl ies
 exact wpAny_Tuple (evs_sound hE r ies h C fun W1 ds vs g1 h1 rs l => ⟨size_ok rs l hl, PostK.tup g1.st (by simpa using rs) (p.k g1 h1) _⟩)
theorem snd_nlst {as : List Ex} (ie : IsE G X pe (.nlst as)) (h : evStep f cv lo (.nlst as) W.H R) : wpAny (model prog w) A (eval pe env) Q E W.s := by
 apply ie.inv
 intro xs q hl ies
 refine wpAny_List (evs_sound hE r ies h C fun W1 ds vs g1 h1 rs l => ⟨size_ok rs l hl, ?_⟩)
 obtain ⟨S2, g2⟩ := g1.st.alloc (o := .list ds) (ob := { cls := .type "list", data := .seq vs.toArray }) rfl ⟨vs.toArray, 0, rfl, by simpa using rs⟩
 exact p ⟨_, _, _⟩ _ _ (g1.trans (Le.mk' (tk := W1.s.toks) S2 g2)) h1 (iRef g1.st _)
theorem snd_sub {a b : Ex} (ie : IsE G X pe (.sub a b)) (h : evStep f cv lo (.sub a b) W.H R) : wpAny (model prog w) A (eval pe env) Q E W.s := by
 apply ie.inv
 intro o i q ia ib
 exact Subscript_ (hE ia h r C fun W1 x v g1 h1 rv => hE ib h1 r (C.up g1) fun W2 y u g2 h2 ru => op_el h2 fun z e h3 => subD_sound g2.st e (rv.up g2) ru (p.k (g1.trans g2) h3))
theorem snd_slcTo {a b : Ex} (ie : IsE G X pe (.slcTo a b)) (h : evStep f cv lo (.slcTo a b) W.H R) : wpAny (model prog w) A (eval pe env) Q E W.s := by
 apply ie.inv
 intro o u0 q0 q ia ib
 refine Subscript_ (hE ia h r C fun W1 x v g1 h1 rv => wpAny_Slice ?_)
 rw [evalPart_none]
 refine wpAny_pure ?_
 rw [evalPart_some]
 exact hE ib h1 r (C.up g1) fun W2 y u g2 h2 ru => wpAny_pure (op_el h2 fun z e h3 => slcTo_sound g2.st e (rv.up g2) ru (p.k (g1.trans g2) h3))
theorem snd_slcStep {a b c : Ex} (ie : IsE G X pe (.slcStep a b c)) (h : evStep f cv lo (.slcStep a b c) W.H R) : wpAny (model prog w) A (eval pe env) Q E W.s := by
 apply ie.inv
 intro o l st q0 q ia ib ic
 refine Subscript_ (hE ia h r C fun W1 x v g1 h1 rv => wpAny_Slice ?_)
 rw [evalPart_some]
 refine hE ib h1 r (C.up g1) fun W2 y u g2 h2 ru => ?_
 rw [evalPart_none]
 refine wpAny_pure ?_
 rw [evalPart_some]
 exact hE ic h2 r (C.up (g1.trans g2)) fun W3 z st g3 h3 rz => op_el h3 fun z e h4 => slcStep_sound g3.st e (rv.up (g2.trans g3)) (ru.up g3) rz (p.k ((g1.trans g2).trans g3) h4)
theorem snd_and {as : List Ex} (ie : IsE G X pe (.and_ as)) (h : evStep f cv lo (.and_ as) W.H R) : wpAny (model prog w) A (eval pe env) Q E W.s := by
 apply ie.inv
 intro xs q ies
 exact boolV_sound (pos := q) hE r .And ies h C p
theorem snd_or {as : List Ex} (ie : IsE G X pe (.or_ as)) (h : evStep f cv lo (.or_ as) W.H R) : wpAny (model prog w) A (eval pe env) Q E W.s := by
 apply ie.inv
 intro xs q ies
 exact boolV_sound (pos := q) hE r .Or ies h C p
end
section
variable {pe : PySem.Expr} {R : Bool -> Hp -> Prop} {Q : Bool -> Shared -> Prop} (C : RW prog w B X env W lo cv) (p : PostT prog w B W R Q) (hE : SndE prog w B G f n) (r : Room A n)
include C p hE r
theorem btw_test {a m c : Ex} (ie : IsE G X pe (.btw a m c)) (h : tstStep f cv lo (.btw a m c) W.H R) : wpAny (model prog w) A (isTrue pe env (eval pe env)) Q E W.s := by
 apply ie.inv
 intro l m0 r0 pos ia ib ic
 refine isTrue_chain ?_ (by show behindInMarks .LtE _ = false; exact ic.mark .LtE)
 refine hE ia h r C fun W1 x v g1 h1 rv => test_link ?_
 refine wI_el (M := fun x => VRel W1.s.heap W1.ad x v -> _) h1 (fun x h1 rv => ?_) rv
 apply vInt_el rv
 intro t
 refine hE ib h1 r (C.up g1) fun W2 y u g2 h2 ru => ?_
 refine wI_el (M := fun x => VRel W2.s.heap W2.ad x u -> _) h2 (fun y h2 ru => ?_) ru
 apply vInt_el ru
 refine fun t => le_int (wpAny_truthy_bool ?_)
 refine wIf_el (M := fun c => if c = true then _ else _) h2 (fun h2 => (if_pos rfl).mpr ?_) fun h2 => (if_neg Bool.false_ne_true).mpr (p W2 _ (g1.trans g2) h2)
 refine test_last (hE ic h2 r (C.up (g1.trans g2)) fun W3 z v3 g3 h3 rz => ?_)
 refine wI_el (M := fun x => VRel W3.s.heap W3.ad x v3 -> _) h3 (fun z h3 rz => ?_) rz
 apply vInt_el rz
 exact fun t => le_int (wpAny_truthy_bool (p W3 _ ((g1.trans g2).trans g3) h3))
theorem tst_val {e : Ex} (hp : plainT pe = true) (ie : IsE G X pe e) (h : f.ev cv lo e W.H fun d H1 => OPT H1 d fun b => R b H1) : wpAny (model prog w) A (isTrue pe env (eval pe env)) Q E W.s :=
 wpAny_isTrue_value (hE ie h r C fun W1 x v g1 h1 rv => op_el (opT_of h1) fun b e h2 => truth_sound g1.st e rv (p.tk g1 h2)) (isTrue_of _ _ _ hp)
theorem sndT_step (T : TopOk B G) (hT : SndT prog w B G f n) {e : Ex} (ie : IsE G X pe e) (h : tstStep f cv lo e W.H R) : wpAny (model prog w) A (isTrue pe env (eval pe env)) Q E W.s := by
 have tv : ∀ {e}, plainE e = true -> IsE G X pe e -> (f.ev cv lo e W.H fun d H1 => OPT H1 d fun b => R b H1) -> wpAny (model prog w) A (isTrue pe env (eval pe env)) Q E W.s := fun hp ie h => tst_val C p hE r (ie.shape.2 hp) ie h
 induction e using Ex.casesOn with
 | and_ as =>
  apply ie.inv
  intro xs pos ies
  exact wpAny_isTrue_BoolOp (tsts_sound hT r .And ies h C p)
 | or_ as =>
  apply ie.inv
  intro xs pos ies
  exact wpAny_isTrue_BoolOp (tsts_sound hT r .Or ies h C p)
 | nt a =>
  apply ie.inv
  intro x pos ia
  exact wpAny_isTrue_Not (hT ia h r C fun W1 b g1 h1 => p W1 _ g1 h1)
 | ite => exact h.elim
 | cmp o a c =>
  apply ie.inv
  intro l op r0 pos ho ia ib
  obtain ⟨ob, hob⟩ := T.sysm
  exact wpAny_isTrue_Compare1 (hE ia h r C fun W1 x v g1 h1 rv => hE ib h1 r (C.up g1) fun W2 y u g2 h2 ru => op_el h2 fun z e h3 => cmpD_sound r g2.st hob (ho ▸ e) (rv.up g2) ru fun tk => wpAny_truthy_bool (p.tk (g1.trans g2) h3 tk)) (ib.mark _)
 | btw => exact btw_test C p hE r ie h
 | _ => exact tv rfl ie h
end
end
end Mine
end

section
open PySem PySem.W PyProof.Rows
namespace Mine

mutual
theorem VRel.map {o1 o2 : Off} {h h' : Heap} {ad ad2 : List Addr} (kp : ∀ b ob, h.get? b = some ob -> b ∉ ad -> b ∉ o1.xs -> Hard ob -> h'.get? b = some ob /\ b ∉ ad2 /\ b ∉ o2.xs) (ix : ∀ (k : Nat) (a : Addr), ad[k]? = some a -> ad2[k]? = some a) :
  ∀ {d : D} {v : Value}, @VRel o1 h ad d v -> @VRel o2 h' ad2 d v
 | .none, _, r => by unfold VRel at *; exact r
 | .bool _, _, r => by unfold VRel at *; exact r
 | .int _, _, r => by unfold VRel at *; exact r
 | .bytes _, _, r => by unfold VRel at *; exact r
 | .str _, _, r => by unfold VRel at *; exact r
 | .tup ds, _, r => by
  unfold VRel at *
  refine hid fun zP zk => ?_
  obtain ⟨a, vs, n, ez1, na, e, q⟩ := r
  refine zk ?_
  clear zk zP
  subst ez1
  obtain ⟨k1, k2, k3⟩ := kp a _ e na.1 na.2 (.inl ⟨_, _, rfl⟩)
  exact ⟨a, vs, n, rfl, ⟨k2, k3⟩, k1, VRels.map kp ix q⟩
 | .lst ds, _, r => by
  unfold VRel at *
  refine hid fun zP zk => ?_
  obtain ⟨a, vs, n, ez2, na, e, q⟩ := r
  refine zk ?_
  clear zk zP
  subst ez2
  obtain ⟨k1, k2, k3⟩ := kp a _ e na.1 na.2 (.inl ⟨_, _, rfl⟩)
  exact ⟨a, vs, n, rfl, ⟨k2, k3⟩, k1, VRels.map kp ix q⟩
 | .ref k, _, r => by
  unfold VRel at *
  obtain ⟨a, rfl, e⟩ := r
  exact ⟨a, rfl, ix _ _ e⟩
 | .nxt k, _, r => by
  unfold VRel at *
  refine hid fun zP zk => ?_
  obtain ⟨a, o, ai, ez3, na, e, c, dt, q⟩ := r
  refine zk ?_
  clear zk zP
  subst ez3
  obtain ⟨k1, k2, k3⟩ := kp a _ e na.1 na.2 (.inr ⟨_, dt⟩)
  exact ⟨a, o, ai, rfl, ⟨k2, k3⟩, k1, c, dt, ix _ _ q⟩
 | .val _, _, r => by unfold VRel at *; exact r
theorem VRels.map {o1 o2 : Off} {h h' : Heap} {ad ad2 : List Addr} (kp : ∀ b ob, h.get? b = some ob -> b ∉ ad -> b ∉ o1.xs -> Hard ob -> h'.get? b = some ob /\ b ∉ ad2 /\ b ∉ o2.xs) (ix : ∀ (k : Nat) (a : Addr), ad[k]? = some a -> ad2[k]? = some a) :
  ∀ {ds : List D} {vs : List Value}, @VRels o1 h ad ds vs -> @VRels o2 h' ad2 ds vs
 | [], _, r => by unfold VRels at *; exact r
 | d :: ds, _, r => by
  unfold VRels at *
  refine hid fun zP zk => ?_
  obtain ⟨v, rest, ez4, r1, r2⟩ := r
  refine zk ?_
  clear zk zP
  subst ez4
  exact ⟨v, rest, rfl, VRel.map kp ix r1, VRels.map kp ix r2⟩
end

section
variable {prog : Program} {w : World} {B h h' : Heap} {ad : List Addr} {H : Hp}

theorem ORel.map2 {o1 o2 : Off} {ad2 : List Addr} (f : ∀ d v, @VRel o1 h ad d v -> @VRel o2 h' ad2 d v) (fs : ∀ ds vs, @VRels o1 h ad ds vs -> @VRels o2 h' ad2 ds vs) (x : ∀ (k : Nat) (a : Addr), ad[k]? = some a -> ad2[k]? = some a) :
  ∀ {o : Ob} {ob : Obj}, @ORel o1 prog w h ad o ob -> @ORel o2 prog w h' ad2 o ob
 | .list _, _, ⟨vs, n, e, r⟩ => ⟨vs, n, e, fs _ _ r⟩
 | .dict es _, _, ⟨ed, nd, ents, e, r⟩ => ⟨ed, nd, ents, e, by
   clear e nd
   have : ∀ {es : List (Int × D)} {l : List DictEntry}, @DRel o1 prog w h ad es l -> @DRel o2 prog w h' ad2 es l := by
    intro es
    induction es with
    | nil => exact fun r => r
    | cons p t ih =>
     rintro l ⟨e, t, q, k1, k2, r, rest⟩
     exact ⟨e, t, q, k1, k2, f _ _ r, ih rest⟩
   exact this r⟩
 | .set _, _, r => r
 | .attrs _, _, ⟨c1, c2, c3, ents, ep, e, k, q, q2⟩ => ⟨c1, c2, c3, ents, ep, e, k, fun g d hf hg => let ⟨v, e1, r⟩ := q g d hf hg; ⟨v, e1, f _ _ r⟩, q2⟩
 | .inst _, _, ⟨dx, e, q⟩ => ⟨dx, x _ _ e, q⟩
 | .node _ _, _, ⟨c, ⟨dx, dn, dn2⟩, dt, q⟩ => ⟨c, ⟨dx, x _ _ dn, dn2⟩, dt, fun i y e => by
   have := q i y e
   cases y with
   | none => exact trivial
   | some d => obtain ⟨v, e1, r⟩ := this; exact ⟨v, e1, f _ _ r⟩⟩
 | .iter _ _, _, ⟨c, dn, l, e, q⟩ => ⟨c, dn, l, x _ _ e, q⟩
 | .gone, _, _ => trivial

theorem VRel.chg [o : Off] (k : ∀ b ob, h.get? b = some ob -> b ∉ Off.xs -> h'.get? b = some ob) {d : D} {v : Value} (r : VRel h ad d v) : VRel h' ad d v :=
 VRel.map (o1 := o) (o2 := o) (fun b ob e n1 n2 _ => ⟨k b ob e n2, n1, n2⟩) (fun _ _ e => e) r
theorem VRels.chg [o : Off] (k : ∀ b ob, h.get? b = some ob -> b ∉ Off.xs -> h'.get? b = some ob) {ds : List D} {vs : List Value} (r : VRels h ad ds vs) : VRels h' ad ds vs :=
 VRels.map (o1 := o) (o2 := o) (fun b ob e n1 n2 _ => ⟨k b ob e n2, n1, n2⟩) (fun _ _ e => e) r
theorem St.chg [o : Off] (S : St prog w B h ad H) (k : ∀ b ob, h.get? b = some ob -> b ∉ Off.xs -> h'.get? b = some ob) (sz : h.objs.size <= h'.objs.size) : St prog w B h' ad H :=
 ⟨fun b ob e => k b ob (S.base b ob e) (fun m => by have q := (S.off b m).2.2; rw [q] at e; cases e), S.new, S.nd, S.len, fun a m => ⟨Nat.lt_of_lt_of_le (S.off a m).1 sz, (S.off a m).2⟩, fun a m => by
  refine hid fun zP zk => ?_
  obtain ⟨f1, f2, o, es, ep, e, d⟩ := S.frs a m
  refine zk ?_
  clear zk zP
  exact ⟨f1, f2, o, es, ep, k _ _ e f1.2, d⟩, fun i a ob e1 e2 => by
  obtain ⟨ob', e, r⟩ := S.obj i a ob e1 e2
  exact ⟨ob', k _ _ e fun m => (S.off a m).2.1 (List.mem_of_getElem? e1), ORel.map2 (fun _ _ q => q.chg k) (fun _ _ q => q.chg k) (fun _ _ e => e) r⟩⟩
theorem Fm.chg [o : Off] {env : Env} {names : List Str} {lo : Lo} (F : Fm B h ad env names lo) (k : ∀ b ob, h.get? b = some ob -> b ∉ Off.xs -> h'.get? b = some ob) : Fm B h' ad env names lo where
 kind := F.kind
 glob := F.glob
 blt := F.blt
 ns := by
  refine hid fun zP zk => ?_
  obtain ⟨m, ⟨o, es, ep, e, r⟩, q⟩ := F.ns
  refine zk ?_
  clear zk zP
  refine ⟨m, ⟨o, es, ep, k _ _ e (F.offs _ (own_locals env)), r⟩, fun i x d e1 e2 e3 => ?_⟩
  obtain ⟨v, e, r⟩ := q i x d e1 e2 e3
  exact ⟨v, e, r.chg k⟩
 cell := fun i x e1 e2 => by
  refine hid fun zP zk => ?_
  obtain ⟨c, ov, e3, ⟨o, e, dt⟩, q⟩ := F.cell i x e1 e2
  refine zk ?_
  clear zk zP
  refine ⟨c, ov, e3, ⟨o, k _ _ e (F.offs _ (own_cell e3)), dt⟩, fun d e4 => ?_⟩
  obtain ⟨v, e5, r⟩ := q d e4
  exact ⟨v, e5, r.chg k⟩
 kinds := F.kinds
 nd := F.nd
 len := F.len
 apart := F.apart
 above := F.above
 far := F.far
 offs := F.offs
 soft := fun a m => by
  obtain ⟨o, e, q⟩ := F.soft a m
  exact ⟨o, k _ _ e (F.offs a m), q⟩
 frame := F.frame
 inFr := F.inFr

@[reducible] def offBy (o : Off) (ys : List Addr) : Off := ⟨ys ++ o.xs, o.fr⟩
theorem VRel.enter [o : Off] {ys : List Addr} (k : ∀ b ob, h.get? b = some ob -> h'.get? b = some ob) (f : ∀ y ∈ ys, h.objs.size <= y) {d : D} {v : Value} (r : VRel h ad d v) : @VRel (offBy o ys) h' ad d v :=
 VRel.map (o1 := o) (o2 := offBy o ys) (fun b ob e n1 n2 _ => ⟨k b ob e, n1, fun m => by
  rcases List.mem_append.mp m with m | m
  ·exact absurd (Heap.lt_size e) (Nat.not_lt.mpr (f b m))
  ·exact n2 m⟩) (fun _ _ e => e) r
theorem VRels.enter [o : Off] {ys : List Addr} (k : ∀ b ob, h.get? b = some ob -> h'.get? b = some ob) (f : ∀ y ∈ ys, h.objs.size <= y) {ds : List D} {vs : List Value} (r : VRels h ad ds vs) : @VRels (offBy o ys) h' ad ds vs :=
 VRels.map (o1 := o) (o2 := offBy o ys) (fun b ob e n1 n2 _ => ⟨k b ob e, n1, fun m => by
  rcases List.mem_append.mp m with m | m
  ·exact absurd (Heap.lt_size e) (Nat.not_lt.mpr (f b m))
  ·exact n2 m⟩) (fun _ _ e => e) r
theorem St.enter [o : Off] {ys : List Addr} (S : St prog w B h ad H) (k : ∀ b ob, h.get? b = some ob -> h'.get? b = some ob) (f : ∀ y ∈ ys, h.objs.size <= y /\ y < h'.objs.size) (sz : h.objs.size <= h'.objs.size) : @St (offBy o ys) prog w B h' ad H := by
 refine @St.mk (offBy o ys) prog w B h' ad H (fun b ob e => k b ob (S.base b ob e)) S.new S.nd S.len (fun a m => ?_) (fun a m => ?_) (fun i a ob e1 e2 => ?_)
 ·rcases List.mem_append.mp (show a ∈ ys ++ o.xs from m) with m | m
  ·refine ⟨(f a m).2, S.size_notin (f a m).1, ?_⟩
   cases q : B.get? a with
   | none => rfl
   | some ob => exact absurd (Heap.lt_size (S.base _ _ q)) (Nat.not_lt.mpr (f a m).1)
  ·exact ⟨Nat.lt_of_lt_of_le (S.off a m).1 sz, (S.off a m).2⟩
 ·refine hid fun zP zk => ?_
  obtain ⟨f1, f2, ob, es, ep, e, d⟩ := S.frs a m
  refine zk ?_
  clear zk zP
  refine ⟨⟨f1.1, fun q => ?_⟩, f2, ob, es, ep, k _ _ e, d⟩
  rcases List.mem_append.mp (show a ∈ ys ++ o.xs from q) with q | q
  ·exact absurd (Heap.lt_size e) (Nat.not_lt.mpr (f a q).1)
  ·exact f1.2 q
 ·obtain ⟨ob', e, r⟩ := S.obj i a ob e1 e2
  exact ⟨ob', k _ _ e, ORel.map2 (fun _ _ q => q.enter k fun y m => (f y m).1) (fun _ _ q => q.enter k fun y m => (f y m).1) (fun _ _ e => e) r⟩
theorem Fm.enter [o : Off] {ys : List Addr} {env : Env} {names : List Str} {lo : Lo} (F : Fm B h ad env names lo) (k : ∀ b ob, h.get? b = some ob -> h'.get? b = some ob) (f : ∀ y ∈ ys, h.objs.size <= y) : @Fm (offBy o ys) B h' ad env names lo :=
 @Fm.mk (offBy o ys) B h' ad env names lo F.kind F.glob F.blt
 (by
  refine hid fun zP zk => ?_
  obtain ⟨m, ⟨o, es, ep, e, r⟩, q⟩ := F.ns
  refine zk ?_
  clear zk zP
  refine ⟨m, ⟨o, es, ep, k _ _ e, r⟩, fun i x d e1 e2 e3 => ?_⟩
  obtain ⟨v, e, r⟩ := q i x d e1 e2 e3
  exact ⟨v, e, r.enter k f⟩)
 (fun i x e1 e2 => by
  refine hid fun zP zk => ?_
  obtain ⟨c, ov, e3, ⟨o, e, dt⟩, q⟩ := F.cell i x e1 e2
  refine zk ?_
  clear zk zP
  refine ⟨c, ov, e3, ⟨o, k _ _ e, dt⟩, fun d e4 => ?_⟩
  obtain ⟨v, e5, r⟩ := q d e4
  exact ⟨v, e5, r.enter k f⟩)
 F.kinds F.nd F.len F.apart F.above F.far (fun a m q => by
  rcases List.mem_append.mp q with q | q
  ·obtain ⟨o, e, _⟩ := F.soft a m
   exact absurd (Heap.lt_size e) (Nat.not_lt.mpr (f a q))
  ·exact F.offs a m q) (fun a m => by
  obtain ⟨o, e, q⟩ := F.soft a m
  exact ⟨o, k _ _ e, q⟩) F.frame F.inFr
theorem VRel.leave [o : Off] {ys : List Addr} {d : D} {v : Value} (r : @VRel (offBy o ys) h ad d v) : VRel h ad d v :=
 VRel.map (o1 := offBy o ys) (o2 := o) (fun b ob e n1 n2 _ => ⟨e, n1, fun m => n2 (List.mem_append_right _ m)⟩) (fun _ _ e => e) r
theorem VRels.leave [o : Off] {ys : List Addr} {ds : List D} {vs : List Value} (r : @VRels (offBy o ys) h ad ds vs) : VRels h ad ds vs :=
 VRels.map (o1 := offBy o ys) (o2 := o) (fun b ob e n1 n2 _ => ⟨e, n1, fun m => n2 (List.mem_append_right _ m)⟩) (fun _ _ e => e) r
theorem St.leave [o : Off] {ys : List Addr} (S : @St (offBy o ys) prog w B h ad H) : St prog w B h ad H := by
 refine hid fun zP zk => ?_
 obtain ⟨base, new, nd, len, off, frs, obj⟩ := S
 refine zk ?_
 clear zk zP
 refine ⟨base, new, nd, len, fun a m => off a (List.mem_append_right _ m), fun a m => ?_, fun i a ob e1 e2 => ?_⟩
 ·obtain ⟨f1, f2⟩ := frs a m
  exact ⟨⟨f1.1, fun q => f1.2 (List.mem_append_right _ q)⟩, f2⟩
 obtain ⟨ob', e, r⟩ := obj i a ob e1 e2
 exact ⟨ob', e, ORel.map2 (fun _ _ q => q.leave) (fun _ _ q => q.leave) (fun _ _ e => e) r⟩
theorem Fm.leave [o : Off] {ys : List Addr} {env : Env} {names : List Str} {lo : Lo} (F : @Fm (offBy o ys) B h ad env names lo) : Fm B h ad env names lo := by
 refine hid fun zP zk => ?_
 obtain ⟨kind, glob, blt, ns, cell, kinds, nd, len, apart, above, far, offs, soft, frame, inFr⟩ := F
 refine zk ?_
 clear zk zP
 refine ⟨kind, glob, blt, ?_, fun i x e1 e2 => ?_, kinds, nd, len, apart, above, far, fun a m q => offs a m (List.mem_append_right _ q), soft, frame, inFr⟩
 ·obtain ⟨m, hm, q⟩ := ns
  refine ⟨m, hm, fun i x d e1 e2 e3 => ?_⟩
  obtain ⟨v, e, r⟩ := q i x d e1 e2 e3
  exact ⟨v, e, r.leave⟩
 ·refine hid fun zP zk => ?_
  obtain ⟨c, ov, e3, hc, q⟩ := cell i x e1 e2
  refine zk ?_
  clear zk zP
  refine ⟨c, ov, e3, hc, fun d e4 => ?_⟩
  obtain ⟨v, e5, r⟩ := q d e4
  exact ⟨v, e5, r.leave⟩
end

noncomputable def ownsTup (n : String) : Bool := ["enumerate", "zip", "dict_itemiterator", "dict_reverseitemiterator", "odict_iterator", "itertools.zip_longest", "itertools.pairwise"].contains n
noncomputable def Calm (ob : Obj) : Prop := (∃ n, ob.cls = .type n /\ ownsTup n = false) /\ Hard ob
structure Itr (o : Off) (prog : Program) (w : World) (B : Heap) (A : Around) (I : Addr) (nx : Nat -> Hp -> Option (Option D)) (Inv : Nat -> List Addr -> Heap -> Prop) : Prop where
 at_ : ∀ {j ad h}, Inv j ad h -> I ∉ ad /\ ∃ ob, h.get? I = some ob /\ Calm ob
 self : ∀ {j : Nat} {ad : List Addr} {s : Shared} {Q : Value -> Shared -> Prop} {E : Value -> Shared -> Prop}, Inv j ad s.heap -> Q (.ref I) s -> wpAny (model prog w) A (pyIter (.ref I)) Q E s
 keep : ∀ {j : Nat} {ad ad' : List Addr} {h h' : Heap}, Inv j ad h -> (∀ b ob, h.get? b = some ob -> b ∉ ad -> (b = I \/ (b ∉ o.xs /\ Hard ob)) -> h'.get? b = some ob) -> (∀ a ∈ ad', h.objs.size <= a) -> Inv j (ad ++ ad') h'
 item : ∀ {j : Nat} {ad : List Addr} {s : Shared} {H : Hp} {d : D} {Q : Option Value -> Shared -> Prop} {E : Value -> Shared -> Prop}, @St o prog w B s.heap ad H -> Inv j ad s.heap -> nx j H = some (some d) ->
  (∀ v h' tk, @VRel o h' ad d v -> Inv (j + 1) ad h' -> (∀ b ob, s.heap.get? b = some ob -> b ≠ I -> h'.get? b = some ob) -> s.heap.objs.size <= h'.objs.size -> Q (some v) { s with heap := h', toks := tk }) -> wpAny (model prog w) A (pyNext (.ref I)) Q E s
 done : ∀ {j : Nat} {ad : List Addr} {s : Shared} {H : Hp} {Q : Option Value -> Shared -> Prop} {E : Value -> Shared -> Prop}, @St o prog w B s.heap ad H -> Inv j ad s.heap -> nx j H = some none ->
  (∀ h' tk, (∀ b ob, s.heap.get? b = some ob -> b ≠ I -> h'.get? b = some ob) -> s.heap.objs.size <= h'.objs.size -> Q none { s with heap := h', toks := tk }) -> wpAny (model prog w) A (pyNext (.ref I)) Q E s
end Mine
end

section
open PySem PySem.W PyProof.Rows
namespace Mine

noncomputable def FInv (I : Addr) (fp : List Addr) (n : Nat) (P : Nat -> Value -> Prop) (St0 : Nat -> Heap -> Prop) (ds : List D) (o : Off) (j : Nat) (ad : List Addr) (h : Heap) : Prop :=
 (St0 j h /\ j <= n) /\ I ∉ ad /\ (∀ b ∈ fp, b ≠ I -> b ∉ ad /\ b ∉ o.xs /\ ∃ ob, h.get? b = some ob /\ Hard ob) /\ ∀ (i : Nat) d v, ds[i]? = some d -> P i v -> @VRel o h ad d v
section
variable {o : Off} {prog : Program} {w : World} {B : Heap} {A : Around} {I : Addr}

theorem not_new {h : Heap} {ad ad' : List Addr} {a : Addr} {ob : Obj} (n : a ∉ ad) (e : h.get? a = some ob) (nw : ∀ a ∈ ad', h.objs.size <= a) : a ∉ ad ++ ad' := fun m => by
 rcases List.mem_append.mp m with m | m
 ·exact n m
 ·exact absurd (Heap.lt_size e) (Nat.not_lt.mpr (nw _ m))
theorem Itr.frozen {fp : List Addr} {n : Nat} {P : Nat -> Value -> Prop} {St0 : Nat -> Heap -> Prop} (W : Walks prog w A I fp [I] n P St0) (hlive : ∀ i h, St0 i h -> ∃ ob, h.get? I = some ob /\ Calm ob) (hx : I ∈ o.xs) (ds : List D) (hn : ds.length = n) :
  Itr o prog w B A I (fun j _ => some ds[j]?) (FInv I fp n P St0 ds o) where
 at_ := fun i => ⟨i.2.1, hlive _ _ i.1.1⟩
 self := fun i q => W.self _ _ _ _ i.1.1 q
 keep := fun {j ad ad' h h'} i k nw => by
  refine hid fun zP zk => ?_
  obtain ⟨⟨i1, ij⟩, i2, i3, i4⟩ := i
  refine zk ?_
  clear zk zP
  refine ⟨⟨W.frame _ _ _ i1 fun b hb ob e => ?_, ij⟩, ?_, fun b hb hI => ?_, fun i d v e p => ?_⟩
  ·by_cases q : b = I
   ·subst q; exact k _ ob e i2 (.inl rfl)
   ·refine hid fun zP zk => ?_
    obtain ⟨n1, n2, ob', e', hd⟩ := i3 b hb q
    refine zk ?_
    clear zk zP
    rw [e] at e'; cases e'
    exact k b ob e n1 (.inr ⟨n2, hd⟩)
  ·obtain ⟨ob, e, _⟩ := hlive _ _ i1
   exact not_new i2 e nw
  ·refine hid fun zP zk => ?_
   obtain ⟨n1, n2, ob', e', hd⟩ := i3 b hb hI
   refine zk ?_
   clear zk zP
   exact ⟨not_new n1 e' nw, n2, ob', k b ob' e' n1 (.inr ⟨n2, hd⟩), hd⟩
  ·exact VRel.map (o1 := o) (o2 := o) (fun b ob e n1 n2 hd => ⟨k b ob e n1 (.inr ⟨n2, hd⟩), not_new n1 e nw, n2⟩) app_get (i4 i d v e p)
 item := fun {j ad s H d Q E} S i e q => by
  refine hid fun zP zk => ?_
  obtain ⟨⟨i1, ij⟩, i2, i3, i4⟩ := i
  refine zk ?_
  clear zk zP
  have e := Option.some.inj e
  have lt := (List.getElem?_eq_some_iff.mp e).1
  refine with_size (W.item j s _ E (by omega) i1 fun v h' tk p st k sz => ?_)
  have kk : ∀ b ob, s.heap.get? b = some ob -> b ≠ I -> h'.get? b = some ob := fun b ob e n => k b ob (by simpa using n) e
  have ki : ∀ {d v}, @VRel o s.heap ad d v -> @VRel o h' ad d v := fun r => VRel.map (o1 := o) (o2 := o) (fun b ob e n1 n2 hd => ⟨kk b ob e (fun q => n2 (q ▸ hx)), n1, n2⟩) (fun _ _ e => e) r
  exact q v h' tk (ki (i4 j d v e p)) ⟨⟨st, by omega⟩, i2, fun b hb hI => by
   refine hid fun zP zk => ?_
   obtain ⟨n1, n2, ob', e', hd⟩ := i3 b hb hI
   refine zk ?_
   clear zk zP
   exact ⟨n1, n2, ob', kk b ob' e' hI, hd⟩, fun i d v e p => ki (i4 i d v e p)⟩ kk sz
 done := fun {j ad s H Q E} S i e q => by
  have e := Option.some.inj e
  refine hid fun zP zk => ?_
  obtain ⟨⟨i1, ij⟩, i2, i3, i4⟩ := i
  refine zk ?_
  clear zk zP
  have ge := List.getElem?_eq_none_iff.mp e
  have : j = n := by omega
  subst this
  exact with_size (W.done s _ E i1 fun h' tk k sz => q h' tk (fun b ob e n => k b ob (by simpa using n) e) sz)

theorem Itr.list (hh : A.handled = none) (hx : I ∈ o.xs) (k : Nat) :
  Itr o prog w B A I (nxL k) (fun j ad h => I ∉ ad /\ ∃ l, ad[k]? = some l /\ h.IsListIter I l j) where
 at_ := fun ⟨i1, l, e, ob, e', c, dt⟩ => ⟨i1, ob, e', ⟨"list_iterator", c, by decide⟩, .inr ⟨_, dt⟩⟩
 self := fun ⟨_, l, _, it⟩ q => wpAny_pyIter_listiter it q
 keep := fun {j ad ad' h h'} i kp nw => by
  refine hid fun zP zk => ?_
  obtain ⟨i1, l, e, ob, e', c⟩ := i
  refine zk ?_
  clear zk zP
  exact ⟨not_new i1 e' nw, l, app_get k l e, ob, kp I ob e' i1 (.inl rfl), c⟩
 item := fun {j ad s H d Q E} S i e q => by
  refine hid fun zP zk => ?_
  obtain ⟨i1, l, hl, it⟩ := i
  refine zk ?_
  clear zk zP
  refine hL_el e fun ds eq e => ?_
  refine hid fun zP zk => ?_
  obtain ⟨vs, m, g, r⟩ := St.list (s := s) S hl eq
  obtain ⟨v, ev, rv⟩ := r.get (Option.some.inj e)
  refine zk ?_
  clear zk zP
  refine with_size (wpAny_pyNext_list_item it ⟨_, g, rfl, m, rfl⟩ (x := v) (by rw [<- Array.getElem?_toList]; exact ev) fun h' it' sb sz => ?_)
  exact q v h' s.toks (VRel.chg (o := o) (fun b ob e n => (sb.2 b (fun q => n (q ▸ hx))).trans e) rv) ⟨i1, l, hl, it'⟩ (fun b ob e n => (sb.2 b n).trans e) sz
 done := fun {j ad s H Q E} S i e q => by
  refine hid fun zP zk => ?_
  obtain ⟨i1, l, hl, it⟩ := i
  refine zk ?_
  clear zk zP
  refine hL_el e fun ds eq e => ?_
  refine hid fun zP zk => ?_
  obtain ⟨vs, m, g, r⟩ := St.list (s := s) S hl eq
  refine zk ?_
  clear zk zP
  refine with_size (wpAny_pyNext_list_end hh it ⟨_, g, rfl, m, rfl⟩ (by have := r.getNone (Option.some.inj e); rwa [Array.getElem?_toList] at this) fun h' eb sz => ?_)
  exact q h' s.toks (fun b ob e n => eb b ob n e) sz

theorem DRel.pairs [Off] {h : Heap} {ad : List Addr} : ∀ {es : List (Int × D)} {l : List DictEntry}, DRel prog w h ad es l ->
  ∃ kvs : List (Int × Value), Pairs (intKind prog w) l kvs /\ kvs.map (·.1) = es.map (·.1) /\ ∀ (i : Nat) p, es[i]? = some p -> ∃ v, kvs[i]? = some (p.1, v) /\ VRel h ad p.2 v
 | [], _, r => by cases (show _ = [] from r); exact ⟨[], .nil, rfl, fun i p e => by simp at e⟩
 | p :: es, _, ⟨e, t, rfl, k1, k2, r, rest⟩ => by
  refine hid fun zP zk => ?_
  obtain ⟨kvs, a1, a2, a3⟩ := rest.pairs
  refine zk ?_
  clear zk zP
  refine ⟨(p.1, e.val) :: kvs, .cons k1 rfl a1, by simp [a2], fun i q hq => ?_⟩
  cases i with
  | zero => simp only [List.getElem?_cons_zero, Option.some.injEq] at hq ⊢; subst hq; exact ⟨_, rfl, r⟩
  | succ j => simp only [List.getElem?_cons_succ] at hq ⊢; exact a3 j q hq
theorem St.dictAt [Off] {h : Heap} {ad : List Addr} {H : Hp} {k : Nat} {a : Addr} {es : List (Int × D)} {ep : Nat} (S : St prog w B h ad H) (hk : ad[k]? = some a) (ho : H[k]? = some (.dict es ep)) :
  ∃ kvs : List (Int × Value), h.DictAt (intKind prog w) a kvs ep /\ kvs.length = es.length /\ ∀ (i : Nat) p, es[i]? = some p -> ∃ v, kvs[i]? = some (p.1, v) /\ VRel h ad p.2 v := by
 refine hid fun zP zk => ?_
 obtain ⟨ob, e, ed, nd, ents, dt, r⟩ := S.obj k a _ hk ho
 obtain ⟨kvs, a1, a2, a3⟩ := r.pairs
 refine zk ?_
 clear zk zP
 refine ⟨kvs, ⟨ob, ents, e, ed, dt, fun e' m => r.keys e' (Array.mem_toList_iff.mpr m), a1, by rw [a2]; exact nd⟩, ?_, a3⟩
 have := congrArg List.length a2
 simpa using this

theorem nxP_el {P : Prop} {k ep len j : Nat} {H : Hp} {x : Option (Int × D)} (h : nxP k ep len j H = some x) (c : ∀ es, len = es.length -> H[k]? = some (.dict es ep) -> es[j]? = x -> P) : P :=
 dictO_el h fun es ep' e h => gd_el h fun q h => by
  simp only [Bool.and_eq_true, decide_eq_true_eq] at q
  rw [q.1] at e
  exact c es q.2.symm e (Option.some.inj h)
theorem omap_none {α : Type} {o : Option α} {f : α -> D} (h : o.map f = none) : o = none := Option.map_eq_none_iff.mp h

theorem key_int_el {M : Value -> Prop} {i : Int} {key : Value} (h : (intKind prog w).is i key = true) (c : ∀ t, M (.int i t)) : M key := by
 unfold intKind at h
 cases key with
 | int a t => exact eq_of_beq (show (a == i) = true from h) ▸ c t
 | _ => exact Bool.noConfusion h
theorem Itr.keys (hh : A.handled = none) (hx : I ∈ o.xs) (k ep len : Nat) :
  Itr o prog w B A I (nxK k ep len) (fun j ad h => I ∉ ad /\ ∃ l, ad[k]? = some l /\ h.IsKeyIter I l j len ep) where
 at_ := fun ⟨i1, l, e, ob, e', c, dt⟩ => ⟨i1, ob, e', ⟨"dict_keyiterator", c, by decide⟩, .inr ⟨_, dt⟩⟩
 self := fun ⟨_, l, _, it⟩ q => wpAny_pyIter_keyiter it q
 keep := fun {j ad ad' h h'} i kp nw => by
  refine hid fun zP zk => ?_
  obtain ⟨i1, l, e, ob, e', c⟩ := i
  refine zk ?_
  clear zk zP
  exact ⟨not_new i1 e' nw, l, app_get k l e, ob, kp I ob e' i1 (.inl rfl), c⟩
 item := fun {j ad s H d Q E} S i e q => by
  refine hid fun zP zk => ?_
  obtain ⟨i1, l, hl, it⟩ := i
  refine zk ?_
  clear zk zP
  refine map_el e fun x e e2 => nxP_el e fun es el eq e => ?_
  rw [<- e] at e2
  refine map_el e2 fun p e3 ed => ?_
  refine hid fun zP zk => ?_
  obtain ⟨kvs, hd, hlen, hkv⟩ := S.dictAt hl eq
  obtain ⟨v, ev, rv⟩ := hkv j p e3
  refine zk ?_
  clear zk zP
  have el := el.trans hlen.symm
  rw [el] at it q
  refine with_size (wpAny_pyNext_dict_item it hd ev fun key h' hkey it' sb sz => ?_)
  apply key_int_el hkey
  intro t
  exact q _ h' s.toks (ed ▸ iInt _ _ _ _) ⟨i1, l, hl, it'⟩ (fun b ob e n => (sb.2 b n).trans e) sz
 done := fun {j ad s H Q E} S i e q => by
  refine hid fun zP zk => ?_
  obtain ⟨i1, l, hl, it⟩ := i
  refine zk ?_
  clear zk zP
  refine map_el e fun x e e2 => nxP_el e fun es el eq e => ?_
  rw [<- e] at e2
  refine hid fun zP zk => ?_
  obtain ⟨kvs, hd, hlen, hkv⟩ := S.dictAt hl eq
  refine zk ?_
  clear zk zP
  have el := el.trans hlen.symm
  rw [el] at it
  refine with_size (wpAny_pyNext_dict_end hh it hd (by have := List.getElem?_eq_none_iff.mp (omap_none e2); rw [<- hlen] at this; exact List.getElem?_eq_none_iff.mpr this) fun h' eb sz => ?_)
  exact q h' s.toks (fun b ob e n => eb b ob n e) sz
theorem Itr.vals (hh : A.handled = none) (hx : I ∈ o.xs) (k ep len : Nat) :
  Itr o prog w B A I (nxV k ep len) (fun j ad h => I ∉ ad /\ ∃ l, ad[k]? = some l /\ h.IsValIter I l j len ep) where
 at_ := fun ⟨i1, l, e, ob, e', c, dt⟩ => ⟨i1, ob, e', ⟨"dict_valueiterator", c, by decide⟩, .inr ⟨_, dt⟩⟩
 self := fun ⟨_, l, _, it⟩ q => wpAny_pyIter_valiter it q
 keep := fun {j ad ad' h h'} i kp nw => by
  refine hid fun zP zk => ?_
  obtain ⟨i1, l, e, ob, e', c⟩ := i
  refine zk ?_
  clear zk zP
  exact ⟨not_new i1 e' nw, l, app_get k l e, ob, kp I ob e' i1 (.inl rfl), c⟩
 item := fun {j ad s H d Q E} S i e q => by
  refine hid fun zP zk => ?_
  obtain ⟨i1, l, hl, it⟩ := i
  refine zk ?_
  clear zk zP
  refine map_el e fun x e e2 => nxP_el e fun es el eq e => ?_
  rw [<- e] at e2
  refine map_el e2 fun p e3 ed => ?_
  refine hid fun zP zk => ?_
  obtain ⟨kvs, hd, hlen, hkv⟩ := S.dictAt hl eq
  obtain ⟨v, ev, rv⟩ := hkv j p e3
  refine zk ?_
  clear zk zP
  have el := el.trans hlen.symm
  rw [el] at it q
  refine with_size (wpAny_pyNext_values_item it hd ev fun h' it' sb sz => ?_)
  exact q _ h' s.toks (ed ▸ VRel.chg (o := o) (fun b ob e n => (sb.2 b (fun q => n (q ▸ hx))).trans e) rv) ⟨i1, l, hl, it'⟩ (fun b ob e n => (sb.2 b n).trans e) sz
 done := fun {j ad s H Q E} S i e q => by
  refine hid fun zP zk => ?_
  obtain ⟨i1, l, hl, it⟩ := i
  refine zk ?_
  clear zk zP
  refine map_el e fun x e e2 => nxP_el e fun es el eq e => ?_
  rw [<- e] at e2
  refine hid fun zP zk => ?_
  obtain ⟨kvs, hd, hlen, hkv⟩ := S.dictAt hl eq
  refine zk ?_
  clear zk zP
  have el := el.trans hlen.symm
  rw [el] at it
  refine with_size (wpAny_pyNext_values_end hh it hd (by have := List.getElem?_eq_none_iff.mp (omap_none e2); rw [<- hlen] at this; exact List.getElem?_eq_none_iff.mpr this) fun h' eb sz => ?_)
  exact q h' s.toks (fun b ob e n => eb b ob n e) sz
end
end Mine
end

section
open PySem PySem.W PyProof.Rows
namespace Mine

noncomputable def Starts (o : Off) (prog : Program) (w : World) (B : Heap) (A : Around) (s : Shared) (ad : List Addr) (nx : Nat -> Hp -> Option (Option D)) (it : Value) (s' : Shared) : Prop :=
 ∃ (I : Addr) (h' : Heap) (tk : Nat) (Inv : Off -> Nat -> List Addr -> Heap -> Prop), it = .ref I /\ s' = { s with heap := h', toks := tk } /\ (∀ b ob, s.heap.get? b = some ob -> h'.get? b = some ob) /\ s.heap.objs.size <= I /\ I < h'.objs.size /\
  ∀ ys, I ∈ ys -> (∀ y ∈ ys, s.heap.objs.size <= y) -> Itr (offBy o ys) prog w B A I nx (Inv (offBy o ys)) /\ ∀ h'', (∀ b ob, h'.get? b = some ob -> h''.get? b = some ob) -> Inv (offBy o ys) 0 ad h''

section
variable [o : Off] {prog : Program} {w : World} {B : Heap} {A : Around} {E : Value -> Shared -> Prop} {s : Shared} {ad : List Addr} {H : Hp}

theorem push_keeps (h : Heap) (ob : Obj) : ∀ b o, h.get? b = some o -> (h.push ob).get? b = some o := fun _ _ e => Heap.get?_push_of_some _ e
theorem lt_push (h : Heap) (ob : Obj) : h.objs.size < (h.push ob).objs.size := by rw [Heap.size_push]; exact Nat.lt_succ_self _
theorem ListIter.up {h h' : Heap} {I l : Addr} {i : Nat} (x : h.IsListIter I l i) (k : ∀ b ob, h.get? b = some ob -> h'.get? b = some ob) : h'.IsListIter I l i := x.at fun ob e => k _ ob e

theorem notin_off {ys : List Addr} {a : Addr} {ob : Obj} (e : s.heap.get? a = some ob) (n : a ∉ o.xs) (f : ∀ y ∈ ys, s.heap.objs.size <= y) : a ∉ (offBy o ys).xs := fun m => by
 rcases List.mem_append.mp m with m | m
 ·exact absurd (Heap.lt_size e) (Nat.not_lt.mpr (f a m))
 ·exact n m

theorem start_lst (hh : A.handled = none) (S : St prog w B s.heap ad H) {ds : List D} {v : Value} (r : VRel s.heap ad (.lst ds) v) : wpAny (model prog w) A (pyIter v) (Starts o prog w B A s ad fun j _ => some ds[j]?) E s := by
 refine hid fun zP zk => ?_
 obtain ⟨a, vs, n, ez1, na, e, rs⟩ := vLst r
 refine zk ?_
 clear zk zP
 subst ez1
 refine wpAny_pyIter_list ⟨_, e, rfl, n, rfl⟩ ?_
 refine ⟨s.heap.objs.size, _, s.toks, FInv s.heap.objs.size [s.heap.objs.size, a] vs.size (fun i v => vs[i]? = some v) (fun i h => h.IsListIter s.heap.objs.size a i /\ h.IsList a vs) ds, rfl, rfl, push_keeps _ _, Nat.le_refl _, lt_push _ _, fun ys hI hy => ?_⟩
 have ne : a ≠ s.heap.objs.size := Nat.ne_of_lt (Heap.lt_size e)
 refine ⟨Itr.frozen (Walks.list hh s.heap.objs.size a ne vs) (fun i h st => let ⟨ob, e, c, dt⟩ := st.1; ⟨ob, e, ⟨_, c, by decide⟩, .inr ⟨_, dt⟩⟩) (List.mem_append_left _ hI) ds (by have := rs.length; simpa using this), fun h'' k => ⟨⟨⟨ListIter.up ⟨_, Heap.get?_push_size _ rfl, rfl, rfl⟩ k, ⟨_, k _ _ (push_keeps _ _ _ _ e), rfl, n, rfl⟩⟩, Nat.zero_le _⟩, S.size_notin (Nat.le_refl _), fun b hb nb => ?_, fun i d v e1 e2 => ?_⟩⟩
 ·simp only [List.mem_cons, List.not_mem_nil, or_false] at hb
  rcases hb with hb | rfl
  ·exact absurd hb nb
  ·exact ⟨na.1, notin_off e na.2 hy, _, k _ _ (push_keeps _ _ _ _ e), .inl ⟨_, _, rfl⟩⟩
 ·obtain ⟨v', e3, rv⟩ := rs.get e1
  have : v = v' := by
   have e2 : vs[i]? = some v := e2
   simp only [Array.getElem?_toList] at e3
   rw [e2] at e3
   exact Option.some.inj e3
  subst this
  exact rv.enter (fun b ob e => k b ob (push_keeps _ _ _ _ e)) hy

theorem start_tup (hh : A.handled = none) (S : St prog w B s.heap ad H) {ds : List D} {v : Value} (r : VRel s.heap ad (.tup ds) v) : wpAny (model prog w) A (pyIter v) (Starts o prog w B A s ad fun j _ => some ds[j]?) E s := by
 refine hid fun zP zk => ?_
 obtain ⟨a, vs, n, ez2, na, e, rs⟩ := vTup r
 refine zk ?_
 clear zk zP
 subst ez2
 refine wpAny_pyIter_tuple ⟨_, e, rfl, n, rfl⟩ ?_
 refine ⟨s.heap.objs.size, _, s.toks, FInv s.heap.objs.size [s.heap.objs.size, a] vs.size (fun i v => vs[i]? = some v) (fun i h => h.IsTupleIter s.heap.objs.size a i /\ h.IsTuple a vs) ds, rfl, rfl, push_keeps _ _, Nat.le_refl _, lt_push _ _, fun ys hI hy => ?_⟩
 have ne : a ≠ s.heap.objs.size := Nat.ne_of_lt (Heap.lt_size e)
 refine ⟨Itr.frozen (Walks.tuple hh s.heap.objs.size a ne vs) (fun i h st => let ⟨ob, e, c, dt⟩ := st.1; ⟨ob, e, ⟨_, c, by decide⟩, .inr ⟨_, dt⟩⟩) (List.mem_append_left _ hI) ds (by have := rs.length; simpa using this), fun h'' k => ⟨⟨⟨⟨_, k _ _ (Heap.get?_push_size _ rfl), rfl, rfl⟩, ⟨_, k _ _ (push_keeps _ _ _ _ e), rfl, n, rfl⟩⟩, Nat.zero_le _⟩, S.size_notin (Nat.le_refl _), fun b hb nb => ?_, fun i d v e1 e2 => ?_⟩⟩
 ·simp only [List.mem_cons, List.not_mem_nil, or_false] at hb
  rcases hb with hb | rfl
  ·exact absurd hb nb
  ·exact ⟨na.1, notin_off e na.2 hy, _, k _ _ (push_keeps _ _ _ _ e), .inl ⟨_, _, rfl⟩⟩
 ·obtain ⟨v', e3, rv⟩ := rs.get e1
  have : v = v' := by
   have e2 : vs[i]? = some v := e2
   simp only [Array.getElem?_toList] at e3
   rw [e2] at e3
   exact Option.some.inj e3
  subst this
  exact rv.enter (fun b ob e => k b ob (push_keeps _ _ _ _ e)) hy

theorem start_bytes (hh : A.handled = none) (S : St prog w B s.heap ad H) {b : List UInt8} {v : Value} (r : VRel s.heap ad (.bytes b) v) :
  wpAny (model prog w) A (pyIter v) (Starts o prog w B A s ad fun j _ => some (b.map fun c => D.int c.toNat)[j]?) E s := by
 obtain ⟨t, rfl⟩ := vBytes r
 refine KBw.pyIter_bytes ?_
 refine ⟨s.heap.objs.size, _, s.toks, FInv s.heap.objs.size [s.heap.objs.size] b.toArray.size (fun i v => ∃ c u, b.toArray[i]? = some c /\ v = .int (c.toNat : Int) u) (fun i h => KBw.IsBytesIter h s.heap.objs.size b.toArray t i) (b.map fun c => D.int c.toNat), rfl, rfl, push_keeps _ _, Nat.le_refl _, lt_push _ _, fun ys hI hy => ?_⟩
 refine ⟨Itr.frozen (KBw.walks hh s.heap.objs.size b.toArray t) (fun i h st => let ⟨ob, e, c, dt⟩ := st; ⟨ob, e, ⟨_, c, by decide⟩, .inr ⟨_, dt⟩⟩) (List.mem_append_left _ hI) (b.map fun c => D.int c.toNat) (by simp), fun h'' k => ⟨⟨⟨_, k _ _ (Heap.get?_push_size _ rfl), rfl, rfl⟩, Nat.zero_le _⟩, S.size_notin (Nat.le_refl _), fun b hb nb => ?_, fun i d v e1 e2 => ?_⟩⟩
 ·exact absurd (List.mem_singleton.mp hb) nb
 ·refine hid fun zP zk => ?_
  obtain ⟨c, u, e3, ez3⟩ := e2
  refine zk ?_
  clear zk zP
  subst ez3
  simp only [List.getElem?_map] at e1
  obtain ⟨c', e4, rfl⟩ := Option.map_eq_some_iff.mp e1
  have : c = c' := by
   have e3 : b[i]? = some c := by simpa using e3
   rw [e3] at e4; exact Option.some.inj e4
  subst this
  exact @iInt (offBy o ys) _ _ _ _

theorem start_list (hh : A.handled = none) (S : St prog w B s.heap ad H) {k : Nat} {ds : List D} {v : Value} (r : VRel s.heap ad (.ref k) v) (e : H[k]? = some (.list ds)) : wpAny (model prog w) A (pyIter v) (Starts o prog w B A s ad (nxL k)) E s := by
 obtain ⟨a, rfl, ha⟩ := vRef r
 refine hid fun zP zk => ?_
 obtain ⟨vs, n, g, rs⟩ := S.list ha e
 refine zk ?_
 clear zk zP
 refine wpAny_pyIter_list ⟨_, g, rfl, n, rfl⟩ ?_
 refine ⟨s.heap.objs.size, _, s.toks, fun _ j ad h => s.heap.objs.size ∉ ad /\ ∃ l, ad[k]? = some l /\ h.IsListIter s.heap.objs.size l j, rfl, rfl, push_keeps _ _, Nat.le_refl _, lt_push _ _, fun ys hI hy => ?_⟩
 exact ⟨Itr.list (o := offBy o ys) hh (List.mem_append_left _ hI) k, fun h'' kp => ⟨S.size_notin (Nat.le_refl _), a, ha, _, kp _ _ (Heap.get?_push_size _ rfl), rfl, rfl⟩⟩

theorem start_keys (hh : A.handled = none) (S : St prog w B s.heap ad H) {ob : Obj} (hb : B.get? sysModules = some ob) {k : Nat} {es : List (Int × D)} {ep : Nat} {v : Value} (r : VRel s.heap ad (.ref k) v) (e : H[k]? = some (.dict es ep)) :
  wpAny (model prog w) A (pyIter v) (Starts o prog w B A s ad (nxK k ep es.length)) E s := by
 obtain ⟨a, rfl, ha⟩ := vRef r
 refine hid fun zP zk => ?_
 obtain ⟨kvs, hd, hlen, _⟩ := S.dictAt ha e
 refine zk ?_
 clear zk zP
 refine wpAny_pyIter_dict (sysMod_ne S ha hb) hd ?_
 rw [hlen]
 refine ⟨s.heap.objs.size, _, s.toks, fun _ j ad h => s.heap.objs.size ∉ ad /\ ∃ l, ad[k]? = some l /\ h.IsKeyIter s.heap.objs.size l j es.length ep, rfl, rfl, push_keeps _ _, Nat.le_refl _, lt_push _ _, fun ys hI hy => ?_⟩
 exact ⟨Itr.keys (o := offBy o ys) hh (List.mem_append_left _ hI) k ep es.length, fun h'' kp => ⟨S.size_notin (Nat.le_refl _), a, ha, _, kp _ _ (Heap.get?_push_size _ rfl), rfl, rfl⟩⟩

theorem start_vals (hh : A.handled = none) (S : St prog w B s.heap ad H) {k : Nat} {a va : Addr} {es : List (Int × D)} {ep : Nat} (ha : ad[k]? = some a) (hv : s.heap.IsValuesView va a) (e : H[k]? = some (.dict es ep)) :
  wpAny (model prog w) A (pyIter (.ref va)) (Starts o prog w B A s ad (nxV k ep es.length)) E s := by
 refine hid fun zP zk => ?_
 obtain ⟨kvs, hd, hlen, _⟩ := S.dictAt ha e
 refine zk ?_
 clear zk zP
 refine wpAny_pyIter_values hv hd ?_
 rw [hlen]
 refine ⟨s.heap.objs.size, _, s.toks, fun _ j ad h => s.heap.objs.size ∉ ad /\ ∃ l, ad[k]? = some l /\ h.IsValIter s.heap.objs.size l j es.length ep, rfl, rfl, push_keeps _ _, Nat.le_refl _, lt_push _ _, fun ys hI hy => ?_⟩
 exact ⟨Itr.vals (o := offBy o ys) hh (List.mem_append_left _ hI) k ep es.length, fun h'' kp => ⟨S.size_notin (Nat.le_refl _), a, ha, _, kp _ _ (Heap.get?_push_size _ rfl), rfl, rfl⟩⟩

theorem start_range (hh : A.handled = none) (S : St prog w B s.heap ad H) {r : Addr} {a b c : Int} {t u v : Tok} {n : Nat} (hr : IsRange s.heap r a b c t u v) (sm : Builtin.Range.small a b c = true) (hn : Builtin.Range.rangeSize a b c = (n : Int)) :
  wpAny (model prog w) A (pyIter (.ref r)) (Starts o prog w B A s ad fun j _ => some ((List.range n).map fun (i : Nat) => D.int (a + c * (i : Int)))[j]?) E s := by
 refine wpAny_pyIter_range hr sm ?_
 refine ⟨s.heap.objs.size, _, s.toks, FInv s.heap.objs.size [s.heap.objs.size] n (fun i v => ∃ t, v = .int (a + i * c) t) (fun i h => IsRangeIter h s.heap.objs.size (a + (i : Nat) * c) ((n : Int) - (i : Nat)) c) ((List.range n).map fun (i : Nat) => D.int (a + c * (i : Int))), rfl, rfl, push_keeps _ _, Nat.le_refl _, lt_push _ _, fun ys hI hy => ?_⟩
 refine ⟨Itr.frozen (Walks.range hh s.heap.objs.size a c n) (fun i h st => ⟨_, st, ⟨_, rfl, by decide⟩, .inr ⟨_, rfl⟩⟩) (List.mem_append_left _ hI) ((List.range n).map fun (i : Nat) => D.int (a + c * (i : Int))) (by simp), fun h'' k => ⟨⟨?_, Nat.zero_le _⟩, S.size_notin (Nat.le_refl _), fun b hb nb => ?_, fun i d v e1 e2 => ?_⟩⟩
 ·have := k _ _ (Heap.get?_push_size s.heap (o := { cls := .type "range_iterator", data := .fields #[rawInt a, rawInt (Builtin.Range.rangeSize a b c), rawInt c] }) rfl)
  rw [hn] at this
  simpa using this
 ·exact absurd (List.mem_singleton.mp hb) nb
 ·obtain ⟨t, rfl⟩ := e2
  simp only [List.getElem?_map] at e1
  obtain ⟨c', e4, rfl⟩ := Option.map_eq_some_iff.mp e1
  have lt := (List.getElem?_eq_some_iff.mp e4).1
  rw [List.length_range] at lt
  rw [List.getElem?_range lt] at e4
  have := Option.some.inj e4
  subst this
  rw [Int.mul_comm]
  exact @iInt (offBy o ys) _ _ _ _
end
end Mine
end

section
open PySem PySem.W PyProof.Rows
namespace Mine

theorem backTo_cons (pos : Pos) (t : Sem Value) (r : List (Bool × Sem Value)) : backTo pos ((false, t) :: r) = (false, t) :: backTo pos r := rfl

section
variable {G : Gs} {X : Cx}
theorem IsEs.plain {pos : Pos} {env : Env} : ∀ {es : List Ex} {pes : List PySem.Expr}, IsEs G X pes es -> (backTo pos (starEach pes env)).any (·.1) = false
 | [], _, h => by
  apply h.inv
  rfl
 | _ :: es, _, h => by
  apply h.inv
  intro x xs ie ies
  rw [ie.star, backTo_cons, List.any_cons, IsEs.plain ies]
  rfl
theorem IsEs.length : ∀ {es : List Ex} {pes : List PySem.Expr}, IsEs G X pes es -> pes.length = es.length
 | [], _, h => by
  apply h.inv
  rfl
 | _ :: es, _, h => by
  apply h.inv
  intro x xs _ ies
  rw [List.length_cons, List.length_cons, IsEs.length ies]
noncomputable def InvSrc (G : Gs) (X : Cx) (pe : PySem.Expr) (sk : SK) (src : List Ex) : Prop := match sk with
 | .it => ∀ P : List Ex -> Prop, (∀ a, IsE G X pe a -> P [a]) -> P src
 | .vals => ∀ P : PySem.Expr -> List Ex -> Prop, (∀ o apos pos a, notSuper o = true -> (apos.endLine == pos.line) = true -> IsE G X o a -> P (.Call (.Attribute o "values" apos) [] [] pos) [a]) -> P pe src
 | sk => ∀ P : PySem.Expr -> Prop, (∀ x p args pos, X.kd.lookup x = some .globalImplicit -> G.gl x = some (.type "range") -> okName x = true -> isRange src.length sk = true -> IsEs G X args src -> P (.Call (.Name x p) args [] pos)) -> P pe
theorem IsSrc.inv {pe : PySem.Expr} {sk : SK} {src : List Ex} (h : IsSrc G X pe sk src) : InvSrc G X pe sk src := by
 obtain ⟨n, h⟩ := h
 have rg : ∀ sk, chkRng G (chkE G n) X pe sk src = true -> ∀ P : PySem.Expr -> Prop, (∀ x p args pos, X.kd.lookup x = some .globalImplicit -> G.gl x = some (.type "range") -> okName x = true -> isRange src.length sk = true -> IsEs G X args src -> P (.Call (.Name x p) args [] pos)) -> P pe := fun sk h P k =>
  onCall_el h fun fe args ks p h => onName_el (P := fun fe => P (.Call fe args ks p)) h fun x q h => on0_el (P := fun ks => P (.Call (.Name x q) args ks p)) (ban h).1
   (k x q args p (glob_of (ban (ban h).2).1).1 (glob_of (ban (ban h).2).1).2.1 (glob_of (ban (ban h).2).1).2.2 (ban (ban (ban h).2).2).1 ⟨n, (ban (ban (ban h).2).2).2⟩)
 cases sk with
 | it => exact fun P k => on1_el h fun a h => k a ⟨n, h⟩
 | vals =>
  exact fun P k => onCall_el (P := fun pe => P pe src) h fun fe args ks p h => onAttribute_el (P := fun fe => P (.Call fe args ks p) src) h fun o nm q h => on0_el (P := fun ks => P (.Call (.Attribute o nm q) args ks p) src) (ban h).1
   (on0_el (P := fun args => P (.Call (.Attribute o nm q) args [] p) src) (ban (ban h).2).1 (dcd_el (P := fun nm => P (.Call (.Attribute o nm q) [] [] p) src) (ban (ban (ban h).2).2).1
    (on1_el (P := fun src => P (.Call (.Attribute o "values" q) [] [] p) src) (ban (ban (ban (ban (ban h).2).2).2).2).2 fun a h1 => k o q p a (ban (ban (ban (ban h).2).2).2).1 (ban (ban (ban (ban (ban h).2).2).2).2).1 ⟨n, h1⟩)))
 | range1 => exact rg _ h
 | range2 => exact rg _ h
 | range3 => exact rg _ h
end

section
variable [o : Off] {prog : Program} {w : World} {B : Heap} {G : Gs} {f : Fns} {n : Nat} {X : Cx} {env : Env} {cv : List D} {lo : Lo} {A : Around} {s : Shared} {ad : List Addr} {W : Wd} {E : Value -> Shared -> Prop}
section
variable (hE : SndE prog w B G f n) (r : Room A n) {pos : Pos} {pes : List PySem.Expr} {es : List Ex} {R : List D -> Hp -> Prop} (ies : IsEs G X pes es) (h : evs f cv lo es W.H R) (C : RW prog w B X env W lo cv)
include hE r ies h C
theorem args_sound {fv : Value} {K : Args -> Shared -> Prop} (k : ∀ W' ds vs, Le prog w B W W' -> R ds W'.H -> VRels W'.s.heap W'.ad ds vs -> ds.length = es.length -> K ⟨vs, []⟩ W'.s) :
  wpAny (model prog w) A (evalArgs fv true (backTo pos (starEach pes env)) []) K E W.s := by
 cases es with
 | nil =>
  apply ies.inv
  exact PySem.evalArgs_none (k W [] [] (Le.refl C.st) h (isNil _ _) rfl)
 | cons e0 es =>
  have this := evs_sound (pos := pos) (E := E) (K := fun vs s' => K ⟨vs, []⟩ s') hE r ies h C k
  revert this
  apply ies.inv
  intro x xs ie ies this
  rw [ie.star, backTo_cons] at this ⊢
  exact Calls.evalArgs_plain this
variable {Q : Value -> Shared -> Prop}
theorem callB_sound {id : String} {first : List Value} (k : ∀ W' ds vs, Le prog w B W W' -> R ds W'.H -> VRels W'.s.heap W'.ad ds vs -> ds.length = es.length -> wpAny (model prog w) A (call (.builtin id) (first ++ vs)) Q E W'.s) :
  wpAny (model prog w) A (callWith pos (.builtin id) first (backTo pos (starEach pes env)) []) Q E W.s :=
 Calls.callWith_builtin ies.plain (args_sound hE r ies h C k)
theorem callT_sound {T : String} (k : ∀ W' ds vs, Le prog w B W W' -> R ds W'.H -> VRels W'.s.heap W'.ad ds vs -> ds.length = es.length -> wpAny (model prog w) A (call (.type T) vs) Q E W'.s) :
  wpAny (model prog w) A (callWith pos (.type T) [] (backTo pos (starEach pes env)) []) Q E W.s :=
 PySem.callWith_type ies.plain (args_sound hE r ies h C k)
end
theorem attributeBase_of {e : PySem.Expr} {name : Str} (h : notSuper e = true) (whole : Sem Value) : attributeBase e name env whole = whole := by
 cases e with
 | Call f a k p =>
  cases f with
  | Name x q =>
   cases a with
   | nil =>
    cases k with
    | nil => exact Bool.noConfusion h
    | cons => rfl
   | cons => rfl
  | _ => rfl
 | _ => rfl

theorem size_len (a b c : Int) (hc : 1 <= c) : Builtin.Range.rangeSize a b c = (((b - a + c - 1).fdiv c).toNat : Int) := by
 unfold Builtin.Range.rangeSize
 rw [if_pos (by omega)]
 rw [Int.fdiv_eq_ediv_of_nonneg _ (by omega)]
 split
 ·have : b - a + c - 1 = (b - a - 1) + c * 1 := by omega
  rw [this, Int.add_mul_ediv_left _ _ (by omega)]
  have h0 : 0 <= (b - a - 1) / c := Int.ediv_nonneg (by omega) (by omega)
  omega
 ·have : (b - a + c - 1) / c <= 0 := by
   have h1 : (b - a + c - 1) / c < 1 := Int.ediv_lt_of_lt_mul (by omega) (by omega)
   omega
  omega
theorem small_r {a b c : Int} (a0 : 0 <= a) (a1 : a <= 1000) (b0 : 0 <= b) (b1 : b <= 1000) (c0 : 1 <= c) (c1 : c <= 1000) : Builtin.Range.small a b c = true := by
 have h0 : 0 <= Builtin.Range.rangeSize a b c := by rw [size_len a b c c0]; omega
 have h1 : Builtin.Range.rangeSize a b c <= 1000 := by
  unfold Builtin.Range.rangeSize
  rw [if_pos (by omega)]
  split
  ·have : (b - a - 1) / c <= b - a - 1 := Int.ediv_le_self _ (by omega)
   omega
  ·omega
 unfold Builtin.Range.small
 rw [if_pos (by omega)]
 simp only [Builtin.Range.rangeFitsLong, Bool.and_eq_true, Bool.or_eq_true, decide_eq_true_eq, beq_iff_eq]
 omega
theorem rng2_of {a b : Int} (q : rng2 a b = true) : 0 <= a /\ a <= 1000 /\ 0 <= b /\ b <= 1000 := by
 unfold rng2 at q
 simp only [Bool.and_eq_true, decide_eq_true_eq] at q
 exact ⟨q.1.1.1, q.1.1.2, q.1.2, q.2⟩
theorem items_r1 {M : List D -> List D -> Prop} {ds xs : List D} (e : itemsOf .range1 ds = some xs) (c : ∀ n, 0 <= n -> n <= 1000 -> M [.int n] (rangeL n)) : M ds xs :=
 l1_el (M := fun ds => M ds xs) e fun x e => dI_el (M := fun x => M [x] xs) e fun n e => gd_el e fun q e => by
  simp only [Bool.and_eq_true, decide_eq_true_eq] at q
  rw [<- Option.some.inj e]
  exact c n q.1 q.2
theorem items_r2 {M : List D -> List D -> Prop} {ds xs : List D} (e : itemsOf .range2 ds = some xs) (c : ∀ a b, (0 <= a /\ a <= 1000 /\ 0 <= b /\ b <= 1000) -> M [.int a, .int b] (range3L a b 1)) : M ds xs :=
 l2_el (M := fun ds => M ds xs) e fun x y e => dI_el (M := fun x => M [x, y] xs) e fun a e => dI_el (M := fun y => M [.int a, y] xs) e fun b e => gd_el e fun q e => by
  rw [<- Option.some.inj e]
  exact c a b (rng2_of q)
theorem items_r3 {M : List D -> List D -> Prop} {ds xs : List D} (e : itemsOf .range3 ds = some xs) (c : ∀ a b z, (0 <= a /\ a <= 1000 /\ 0 <= b /\ b <= 1000) -> 1 <= z -> z <= 1000 -> M [.int a, .int b, .int z] (range3L a b z)) : M ds xs :=
 lC_el (M := fun ds => M ds xs) e fun x t e => l2_el (M := fun t => M (x :: t) xs) e fun y z e => dI_el (M := fun x => M [x, y, z] xs) e fun a e => dI_el (M := fun y => M [.int a, y, z] xs) e fun b e => dI_el (M := fun z => M [.int a, .int b, z] xs) e fun z e => gd_el e fun q e => by
  simp only [Bool.and_eq_true, decide_eq_true_eq] at q
  rw [<- Option.some.inj e]
  exact c a b z (rng2_of q.1.1) q.1.2 q.2

theorem range_map (n : Int) : rangeL n = (List.range n.toNat).map fun (i : Nat) => D.int (0 + 1 * (i : Int)) := by
 unfold rangeL
 congr 1
 funext i
 rw [Int.one_mul, Int.zero_add]

section
variable {h : Heap} {M : List Value -> Prop}
theorem vsNil_el {vs : List Value} (r : VRels h ad [] vs) (c : M []) : M vs := vsNil r ▸ c
theorem vsCons_el {d : D} {ds : List D} {vs : List Value} (r : VRels h ad (d :: ds) vs) (c : ∀ v t, VRel h ad d v -> VRels h ad ds t -> M (v :: t)) : M vs := by
 refine hid fun zP zk => ?_
 obtain ⟨v, t, ez1, r1, r2⟩ := vsCons r
 refine zk ?_
 clear zk zP
 subst ez1
 exact c v t r1 r2
theorem vsOne_el {d : D} {vs : List Value} (r : VRels h ad [d] vs) (c : ∀ v, VRel h ad d v -> M [v]) : M vs :=
 vsCons_el r fun v _ r1 r2 => vsNil_el (M := fun t => M (v :: t)) r2 (c v r1)
theorem vsTwo_el {d e : D} {vs : List Value} (r : VRels h ad [d, e] vs) (c : ∀ v u, VRel h ad d v -> VRel h ad e u -> M [v, u]) : M vs :=
 vsCons_el r fun v _ r1 r2 => vsOne_el (M := fun t => M (v :: t)) r2 fun u => c v u r1
theorem vsThree_el {d e g : D} {vs : List Value} (r : VRels h ad [d, e, g] vs) (c : ∀ v u t, VRel h ad d v -> VRel h ad e u -> VRel h ad g t -> M [v, u, t]) : M vs :=
 vsCons_el r fun v _ r1 r2 => vsTwo_el (M := fun t => M (v :: t)) r2 fun u t => c v u t r1
end
theorem size_1 (i : Int) : Builtin.Range.rangeSize 0 i 1 = (i.toNat : Int) := by
 rw [size_len _ _ _ (by decide), Int.fdiv_one]
 congr 2
 omega
theorem ne_of_one {c : Int} (h : 1 <= c) : c ≠ 0 := by omega
theorem nxO_el {P : Prop} {k : Nat} {o : Option Ob} {nx : Nat -> Hp -> Option (Option D)} (h : nxO k o = some nx) (c1 : ∀ ds, o = some (.list ds) -> nxL k = nx -> P) (c2 : ∀ es ep, o = some (.dict es ep) -> nxK k ep es.length = nx -> P) : P := by
 cases o with
 | none => exact nomatch h
 | some x => cases x <;> first | exact c1 _ rfl (Option.some.inj h) | exact c2 _ _ rfl (Option.some.inj h) | exact nomatch h
theorem nxW_el {P : Prop} {k : Nat} {o : Option Ob} {nx : Nat -> Hp -> Option (Option D)} (h : nxW k o = some nx) (c2 : ∀ es ep, o = some (.dict es ep) -> nxV k ep es.length = nx -> P) : P :=
 dictO_el h fun es ep e h => c2 es ep e (Option.some.inj h)
theorem it_starts (T : TopOk B G) (r : Room A n) {d : D} {H : Hp} {nx : Nat -> Hp -> Option (Option D)} {v : Value} (hnx : nxI d H = some nx) (S : St prog w B s.heap ad H) (rv : VRel s.heap ad d v) : wpAny (model prog w) A (pyIter v) (Starts o prog w B A s ad nx) E s := by
 cases d with
 | lst ds => exact Option.some.inj hnx ▸ start_lst r.handled S rv
 | tup ds => exact Option.some.inj hnx ▸ start_tup r.handled S rv
 | bytes b => exact Option.some.inj hnx ▸ start_bytes r.handled S rv
 | ref k =>
  refine nxO_el hnx (fun ds q e => ?_) (fun es ep q e => ?_)
  ·exact e ▸ start_list r.handled S rv q
  ·obtain ⟨ob, hob⟩ := T.sysm
   exact e ▸ start_keys r.handled S hob rv q
 | _ => exact nomatch hnx

theorem start_go {v : Value} {nx nx' : Nat -> Hp -> Option (Option D)} {K : Value -> Shared -> Prop} (e : nx' = nx) (q : wpAny (model prog w) A (pyIter v) (Starts o prog w B A W.s W.ad nx') E W.s) (k : ∀ it s2, Starts o prog w B A W.s W.ad nx it s2 -> K it s2) : wpAny (model prog w) A (pyIter v) K E W.s :=
 wpAny_mono q (fun it s2 z => k it s2 (e ▸ z)) fun _ _ z => z
theorem Le.push (S : St prog w B W.s.heap W.ad W.H) (ob : Obj) (tk : Nat) : Le prog w B W (W.on (W.s.heap.push ob) tk) := Le.keep S (push_keeps _ _) (Nat.le_of_lt (lt_push _ _)) tk

theorem src_sound (T : TopOk B G) (hE : SndE prog w B G f n) (r : Room A n) {iter : PySem.Expr} {sk : SK} {src : List Ex} {R : List D -> (Nat -> Hp -> Option (Option D)) -> Hp -> Prop} {K : Value -> Shared -> Prop} (is : IsSrc G X iter sk src)
  (h : evs f cv lo src W.H fun ds H1 => OP (nxOf sk ds H1) fun nx => R ds nx H1) (C : RW prog w B X env W lo cv) (k : ∀ W1 ds nx, Le prog w B W W1 -> R ds nx W1.H -> ∀ it s2, Starts o prog w B A W1.s W1.ad nx it s2 -> K it s2) :
  wpAny (model prog w) A (eval iter env) (fun x s1 => wpAny (model prog w) A (pyIter x) K E s1) E W.s := by
 cases sk with
 | it =>
  revert h
  apply is.inv
  intro a ie h
  exact hE ie h r C fun W1 d v g1 h1 rv => op_el h1 fun nx hnx h2 => start_go rfl (it_starts T r hnx g1.st rv) (k W1 [d] nx g1 h2)
 | vals =>
  revert h
  apply is.inv
  intro o0 apos pos a ns hl ie h
  obtain ⟨ob, hob⟩ := T.sysm
  refine wpAny_Call_method (T := "dict") (id := "dict.values") (attributeBase_of ns _) rfl hl F.plainAttrs_dict F.slot_dict_values F.type_dict_values ?_
  refine hE ie h r C fun W1 d v g1 h1 rv => op_el h1 fun nx hnx h2 => ?_
  refine dR_el (M := fun d => VRel W1.s.heap W1.ad d v -> R [d] nx W1.H -> _) hnx (fun i hnx rv h2 => nxW_el hnx fun es ep q e => ?_) rv h2
  apply vRef_el rv
  intro a ha
  refine hid fun zP zk => ?_
  obtain ⟨kvs, hd, hlen, hkv⟩ := g1.st.dictAt ha q
  refine zk ?_
  clear zk zP
  refine ⟨hd.dictOf.typeIs, hd.dictOf.mapOf.noDict, ?_⟩
  refine method_meetsIn F.slot_dict_values F.entry_dict_values rfl (PySem.evalArgs_none ⟨rfl, hd.dictOf.typeIs, F.args_dict_values_1 _, _, meets_dict_values (intKind prog w) a (sysMod_ne g1.st ha hob), ⟨kvs, hd.dictOf⟩, ?_⟩)
  have g2 := Le.push g1.st { cls := .type "dict_values", data := .fields #[.ref a] } W1.s.toks
  exact start_go (W := W1.on _ _) e (start_vals r.handled g2.st ha ⟨_, Heap.get?_push_size _ rfl, rfl, rfl⟩ q) (k (W1.on _ _) _ nx (g1.trans g2) h2)
 | range1 =>
  apply is.inv
  intro x p args pos h1 h2 h3 hr ies
  refine wpAny_Call_ofName (C.loadG T h1 h2 h3 ?_)
  refine callT_sound hE r ies h C fun W1 ds vs g1 h1 rs l => op_el h1 fun nx hnx h2 => map_el hnx fun xs ei hnx => ?_
  refine items_r1 (M := fun ds xs => (fun j (_ : Hp) => some xs[j]?) = nx -> VRels W1.s.heap W1.ad ds vs -> R ds nx W1.H -> _) ei (fun i q1 q2 hnx rs h2 => ?_) hnx rs h2
  apply vsOne_el rs
  intro v rv
  apply vInt_el rv
  intro t
  refine call_range_1 ?_
  have g2 := Le.push g1.st { cls := .type "range", data := .fields #[.int 0 W1.s.toks, .int i t, .int 1 (W1.s.toks + 1)] } (W1.s.toks + 1 + 1)
  refine start_go (W := W1.on _ _) hnx ?_ (k (W1.on _ _) _ nx (g1.trans g2) h2)
  rw [range_map]
  exact start_range r.handled g2.st (IsRange.new ..) (small_r (by decide) (by decide) q1 q2 (by decide) (by decide)) (size_1 i)
 | range2 =>
  apply is.inv
  intro x p args pos h1 h2 h3 hr ies
  refine wpAny_Call_ofName (C.loadG T h1 h2 h3 ?_)
  refine callT_sound hE r ies h C fun W1 ds vs g1 h1 rs l => op_el h1 fun nx hnx h2 => map_el hnx fun xs ei hnx => ?_
  refine items_r2 (M := fun ds xs => (fun j (_ : Hp) => some xs[j]?) = nx -> VRels W1.s.heap W1.ad ds vs -> R ds nx W1.H -> _) ei (fun a b q hnx rs h2 => ?_) hnx rs h2
  apply vsTwo_el rs
  intro v u rv ru
  apply vInt_el rv
  intro t
  apply vInt_el ru
  intro t2
  refine call_range_2 ?_
  have g2 := Le.push g1.st { cls := .type "range", data := .fields #[.int a t, .int b t2, .int 1 W1.s.toks] } (W1.s.toks + 1)
  exact start_go (W := W1.on _ _) hnx (start_range r.handled g2.st (IsRange.new ..) (small_r q.1 q.2.1 q.2.2.1 q.2.2.2 (by decide) (by decide)) (size_len _ _ _ (by decide))) (k (W1.on _ _) _ nx (g1.trans g2) h2)
 | range3 =>
  apply is.inv
  intro x p args pos h1 h2 h3 hr ies
  refine wpAny_Call_ofName (C.loadG T h1 h2 h3 ?_)
  refine callT_sound hE r ies h C fun W1 ds vs g1 h1 rs l => op_el h1 fun nx hnx h2 => map_el hnx fun xs ei hnx => ?_
  refine items_r3 (M := fun ds xs => (fun j (_ : Hp) => some xs[j]?) = nx -> VRels W1.s.heap W1.ad ds vs -> R ds nx W1.H -> _) ei (fun a b c q qc qd hnx rs h2 => ?_) hnx rs h2
  apply vsThree_el rs
  intro v u x rv ru rx
  apply vInt_el rv
  intro t
  apply vInt_el ru
  intro t2
  apply vInt_el rx
  intro t3
  refine call_range_3 (ne_of_one qc) ?_ (.inl (PyProof.noPylong_small (by omega)))
  have g2 := Le.push g1.st { cls := .type "range", data := .fields #[.int a t, .int b t2, .int c t3] } W1.s.toks
  exact start_go (W := W1.on _ _) hnx (start_range r.handled g2.st (IsRange.new ..) (small_r q.1 q.2.1 q.2.2.1 q.2.2.2 qc qd) (size_len _ _ _ qc)) (k (W1.on _ _) _ nx (g1.trans g2) h2)
end
end Mine
end

section
open PySem PySem.W PyProof.Rows
namespace Mine
noncomputable def notComp (e : PySem.Expr) : Bool := !isCompT e
noncomputable def swapB (X : Cx) (value : PySem.Expr) (x : Str) (px : Pos) : Bool := match value with
 | .ListComp _ _ sc p => X.kd.lookup x == some .local && px.line == p.line && !(sc.names.any fun (n, k) => n == x && (k == .local || k == .cell))
 | _ => false

noncomputable def stK (f0 : (List PySem.Expr) -> PySem.Expr -> Pos -> Bool) (f1 : PySem.Expr -> Operator -> PySem.Expr -> Pos -> Bool) (f2 : PySem.Expr -> Pos -> Bool) (f3 : PySem.Expr -> (List PySem.Stmt) -> (List PySem.Stmt) -> Pos -> Bool) (f4 : PySem.Expr -> PySem.Expr -> (List PySem.Stmt) -> (List PySem.Stmt) -> Pos -> Bool) (f5 : PySem.Expr -> (List PySem.Stmt) -> (List PySem.Stmt) -> Pos -> Bool) (f6 : (Option PySem.Expr) -> Pos -> Bool) (f7 : Pos -> Bool) (f8 : Pos -> Bool) (f9 : PySem.Expr -> (Option PySem.Expr) -> Pos -> Bool) (f10 : (List PySem.Stmt) -> (List ExceptHandler) -> (List PySem.Stmt) -> (List PySem.Stmt) -> Pos -> Bool) (f11 : (List PySem.Expr) -> Pos -> Bool) (z : PySem.Stmt) : Bool := match z with
 | .Assign ts v p => f0 ts v p
 | .AugAssign t o v p => f1 t o v p
 | .Expr v p => f2 v p
 | .If t b c p => f3 t b c p
 | .For t i b c p => f4 t i b c p
 | .While t b c p => f5 t b c p
 | .Return v p => f6 v p
 | .Break p => f7 p
 | .Continue p => f8 p
 | .Assert t m p => f9 t m p
 | .Try b h c d p => f10 b h c d p
 | .Delete ts p => f11 ts p
 | _ => false
theorem stK_el {P : PySem.Stmt -> Prop} {f0 : (List PySem.Expr) -> PySem.Expr -> Pos -> Bool} {f1 : PySem.Expr -> Operator -> PySem.Expr -> Pos -> Bool} {f2 : PySem.Expr -> Pos -> Bool} {f3 : PySem.Expr -> (List PySem.Stmt) -> (List PySem.Stmt) -> Pos -> Bool} {f4 : PySem.Expr -> PySem.Expr -> (List PySem.Stmt) -> (List PySem.Stmt) -> Pos -> Bool} {f5 : PySem.Expr -> (List PySem.Stmt) -> (List PySem.Stmt) -> Pos -> Bool} {f6 : (Option PySem.Expr) -> Pos -> Bool} {f7 : Pos -> Bool} {f8 : Pos -> Bool} {f9 : PySem.Expr -> (Option PySem.Expr) -> Pos -> Bool} {f10 : (List PySem.Stmt) -> (List ExceptHandler) -> (List PySem.Stmt) -> (List PySem.Stmt) -> Pos -> Bool} {f11 : (List PySem.Expr) -> Pos -> Bool} {z : PySem.Stmt} (h : stK f0 f1 f2 f3 f4 f5 f6 f7 f8 f9 f10 f11 z = true) (k0 : ∀ ts v p, f0 ts v p = true -> P (.Assign ts v p)) (k1 : ∀ t o v p, f1 t o v p = true -> P (.AugAssign t o v p)) (k2 : ∀ v p, f2 v p = true -> P (.Expr v p)) (k3 : ∀ t b c p, f3 t b c p = true -> P (.If t b c p)) (k4 : ∀ t i b c p, f4 t i b c p = true -> P (.For t i b c p)) (k5 : ∀ t b c p, f5 t b c p = true -> P (.While t b c p)) (k6 : ∀ v p, f6 v p = true -> P (.Return v p)) (k7 : ∀ p, f7 p = true -> P (.Break p)) (k8 : ∀ p, f8 p = true -> P (.Continue p)) (k9 : ∀ t m p, f9 t m p = true -> P (.Assert t m p)) (k10 : ∀ b h c d p, f10 b h c d p = true -> P (.Try b h c d p)) (k11 : ∀ ts p, f11 ts p = true -> P (.Delete ts p)) : P z := by
 cases z <;> first | exact k0 _ _ _ h | exact k1 _ _ _ _ h | exact k2 _ _ h | exact k3 _ _ _ _ h | exact k4 _ _ _ _ _ h | exact k5 _ _ _ _ h | exact k6 _ _ h | exact k7 _ h | exact k8 _ h | exact k9 _ _ _ h | exact k10 _ _ _ _ _ h | exact k11 _ _ h | exact nft h
noncomputable def osAssign (z : PySem.Stmt) (w : (List PySem.Expr) -> PySem.Expr -> Pos -> Bool) : Bool := stK w (fun _ _ _ _ => false) (fun _ _ => false) (fun _ _ _ _ => false) (fun _ _ _ _ _ => false) (fun _ _ _ _ => false) (fun _ _ => false) (fun _ => false) (fun _ => false) (fun _ _ _ => false) (fun _ _ _ _ _ => false) (fun _ _ => false) z
theorem osAssign_el {z : PySem.Stmt} {w : (List PySem.Expr) -> PySem.Expr -> Pos -> Bool} {P : PySem.Stmt -> Prop} (h : osAssign z w = true) (k : ∀ ts v p, w ts v p = true -> P (.Assign ts v p)) : P z := stK_el h k (fun _ _ _ _ h => nft h) (fun _ _ h => nft h) (fun _ _ _ _ h => nft h) (fun _ _ _ _ _ h => nft h) (fun _ _ _ _ h => nft h) (fun _ _ h => nft h) (fun _ h => nft h) (fun _ h => nft h) (fun _ _ _ h => nft h) (fun _ _ _ _ _ h => nft h) (fun _ _ h => nft h)
noncomputable def osAugAssign (z : PySem.Stmt) (w : PySem.Expr -> Operator -> PySem.Expr -> Pos -> Bool) : Bool := stK (fun _ _ _ => false) w (fun _ _ => false) (fun _ _ _ _ => false) (fun _ _ _ _ _ => false) (fun _ _ _ _ => false) (fun _ _ => false) (fun _ => false) (fun _ => false) (fun _ _ _ => false) (fun _ _ _ _ _ => false) (fun _ _ => false) z
theorem osAugAssign_el {z : PySem.Stmt} {w : PySem.Expr -> Operator -> PySem.Expr -> Pos -> Bool} {P : PySem.Stmt -> Prop} (h : osAugAssign z w = true) (k : ∀ t o v p, w t o v p = true -> P (.AugAssign t o v p)) : P z := stK_el h (fun _ _ _ h => nft h) k (fun _ _ h => nft h) (fun _ _ _ _ h => nft h) (fun _ _ _ _ _ h => nft h) (fun _ _ _ _ h => nft h) (fun _ _ h => nft h) (fun _ h => nft h) (fun _ h => nft h) (fun _ _ _ h => nft h) (fun _ _ _ _ _ h => nft h) (fun _ _ h => nft h)
noncomputable def osExpr (z : PySem.Stmt) (w : PySem.Expr -> Pos -> Bool) : Bool := stK (fun _ _ _ => false) (fun _ _ _ _ => false) w (fun _ _ _ _ => false) (fun _ _ _ _ _ => false) (fun _ _ _ _ => false) (fun _ _ => false) (fun _ => false) (fun _ => false) (fun _ _ _ => false) (fun _ _ _ _ _ => false) (fun _ _ => false) z
theorem osExpr_el {z : PySem.Stmt} {w : PySem.Expr -> Pos -> Bool} {P : PySem.Stmt -> Prop} (h : osExpr z w = true) (k : ∀ v p, w v p = true -> P (.Expr v p)) : P z := stK_el h (fun _ _ _ h => nft h) (fun _ _ _ _ h => nft h) k (fun _ _ _ _ h => nft h) (fun _ _ _ _ _ h => nft h) (fun _ _ _ _ h => nft h) (fun _ _ h => nft h) (fun _ h => nft h) (fun _ h => nft h) (fun _ _ _ h => nft h) (fun _ _ _ _ _ h => nft h) (fun _ _ h => nft h)
noncomputable def osIf (z : PySem.Stmt) (w : PySem.Expr -> (List PySem.Stmt) -> (List PySem.Stmt) -> Pos -> Bool) : Bool := stK (fun _ _ _ => false) (fun _ _ _ _ => false) (fun _ _ => false) w (fun _ _ _ _ _ => false) (fun _ _ _ _ => false) (fun _ _ => false) (fun _ => false) (fun _ => false) (fun _ _ _ => false) (fun _ _ _ _ _ => false) (fun _ _ => false) z
theorem osIf_el {z : PySem.Stmt} {w : PySem.Expr -> (List PySem.Stmt) -> (List PySem.Stmt) -> Pos -> Bool} {P : PySem.Stmt -> Prop} (h : osIf z w = true) (k : ∀ t b c p, w t b c p = true -> P (.If t b c p)) : P z := stK_el h (fun _ _ _ h => nft h) (fun _ _ _ _ h => nft h) (fun _ _ h => nft h) k (fun _ _ _ _ _ h => nft h) (fun _ _ _ _ h => nft h) (fun _ _ h => nft h) (fun _ h => nft h) (fun _ h => nft h) (fun _ _ _ h => nft h) (fun _ _ _ _ _ h => nft h) (fun _ _ h => nft h)
noncomputable def osFor (z : PySem.Stmt) (w : PySem.Expr -> PySem.Expr -> (List PySem.Stmt) -> (List PySem.Stmt) -> Pos -> Bool) : Bool := stK (fun _ _ _ => false) (fun _ _ _ _ => false) (fun _ _ => false) (fun _ _ _ _ => false) w (fun _ _ _ _ => false) (fun _ _ => false) (fun _ => false) (fun _ => false) (fun _ _ _ => false) (fun _ _ _ _ _ => false) (fun _ _ => false) z
theorem osFor_el {z : PySem.Stmt} {w : PySem.Expr -> PySem.Expr -> (List PySem.Stmt) -> (List PySem.Stmt) -> Pos -> Bool} {P : PySem.Stmt -> Prop} (h : osFor z w = true) (k : ∀ t i b c p, w t i b c p = true -> P (.For t i b c p)) : P z := stK_el h (fun _ _ _ h => nft h) (fun _ _ _ _ h => nft h) (fun _ _ h => nft h) (fun _ _ _ _ h => nft h) k (fun _ _ _ _ h => nft h) (fun _ _ h => nft h) (fun _ h => nft h) (fun _ h => nft h) (fun _ _ _ h => nft h) (fun _ _ _ _ _ h => nft h) (fun _ _ h => nft h)
noncomputable def osWhile (z : PySem.Stmt) (w : PySem.Expr -> (List PySem.Stmt) -> (List PySem.Stmt) -> Pos -> Bool) : Bool := stK (fun _ _ _ => false) (fun _ _ _ _ => false) (fun _ _ => false) (fun _ _ _ _ => false) (fun _ _ _ _ _ => false) w (fun _ _ => false) (fun _ => false) (fun _ => false) (fun _ _ _ => false) (fun _ _ _ _ _ => false) (fun _ _ => false) z
theorem osWhile_el {z : PySem.Stmt} {w : PySem.Expr -> (List PySem.Stmt) -> (List PySem.Stmt) -> Pos -> Bool} {P : PySem.Stmt -> Prop} (h : osWhile z w = true) (k : ∀ t b c p, w t b c p = true -> P (.While t b c p)) : P z := stK_el h (fun _ _ _ h => nft h) (fun _ _ _ _ h => nft h) (fun _ _ h => nft h) (fun _ _ _ _ h => nft h) (fun _ _ _ _ _ h => nft h) k (fun _ _ h => nft h) (fun _ h => nft h) (fun _ h => nft h) (fun _ _ _ h => nft h) (fun _ _ _ _ _ h => nft h) (fun _ _ h => nft h)
noncomputable def osReturn (z : PySem.Stmt) (w : (Option PySem.Expr) -> Pos -> Bool) : Bool := stK (fun _ _ _ => false) (fun _ _ _ _ => false) (fun _ _ => false) (fun _ _ _ _ => false) (fun _ _ _ _ _ => false) (fun _ _ _ _ => false) w (fun _ => false) (fun _ => false) (fun _ _ _ => false) (fun _ _ _ _ _ => false) (fun _ _ => false) z
theorem osReturn_el {z : PySem.Stmt} {w : (Option PySem.Expr) -> Pos -> Bool} {P : PySem.Stmt -> Prop} (h : osReturn z w = true) (k : ∀ v p, w v p = true -> P (.Return v p)) : P z := stK_el h (fun _ _ _ h => nft h) (fun _ _ _ _ h => nft h) (fun _ _ h => nft h) (fun _ _ _ _ h => nft h) (fun _ _ _ _ _ h => nft h) (fun _ _ _ _ h => nft h) k (fun _ h => nft h) (fun _ h => nft h) (fun _ _ _ h => nft h) (fun _ _ _ _ _ h => nft h) (fun _ _ h => nft h)
noncomputable def osBreak (z : PySem.Stmt) (w : Pos -> Bool) : Bool := stK (fun _ _ _ => false) (fun _ _ _ _ => false) (fun _ _ => false) (fun _ _ _ _ => false) (fun _ _ _ _ _ => false) (fun _ _ _ _ => false) (fun _ _ => false) w (fun _ => false) (fun _ _ _ => false) (fun _ _ _ _ _ => false) (fun _ _ => false) z
theorem osBreak_el {z : PySem.Stmt} {w : Pos -> Bool} {P : PySem.Stmt -> Prop} (h : osBreak z w = true) (k : ∀ p, w p = true -> P (.Break p)) : P z := stK_el h (fun _ _ _ h => nft h) (fun _ _ _ _ h => nft h) (fun _ _ h => nft h) (fun _ _ _ _ h => nft h) (fun _ _ _ _ _ h => nft h) (fun _ _ _ _ h => nft h) (fun _ _ h => nft h) k (fun _ h => nft h) (fun _ _ _ h => nft h) (fun _ _ _ _ _ h => nft h) (fun _ _ h => nft h)
noncomputable def osContinue (z : PySem.Stmt) (w : Pos -> Bool) : Bool := stK (fun _ _ _ => false) (fun _ _ _ _ => false) (fun _ _ => false) (fun _ _ _ _ => false) (fun _ _ _ _ _ => false) (fun _ _ _ _ => false) (fun _ _ => false) (fun _ => false) w (fun _ _ _ => false) (fun _ _ _ _ _ => false) (fun _ _ => false) z
theorem osContinue_el {z : PySem.Stmt} {w : Pos -> Bool} {P : PySem.Stmt -> Prop} (h : osContinue z w = true) (k : ∀ p, w p = true -> P (.Continue p)) : P z := stK_el h (fun _ _ _ h => nft h) (fun _ _ _ _ h => nft h) (fun _ _ h => nft h) (fun _ _ _ _ h => nft h) (fun _ _ _ _ _ h => nft h) (fun _ _ _ _ h => nft h) (fun _ _ h => nft h) (fun _ h => nft h) k (fun _ _ _ h => nft h) (fun _ _ _ _ _ h => nft h) (fun _ _ h => nft h)
noncomputable def osAssert (z : PySem.Stmt) (w : PySem.Expr -> (Option PySem.Expr) -> Pos -> Bool) : Bool := stK (fun _ _ _ => false) (fun _ _ _ _ => false) (fun _ _ => false) (fun _ _ _ _ => false) (fun _ _ _ _ _ => false) (fun _ _ _ _ => false) (fun _ _ => false) (fun _ => false) (fun _ => false) w (fun _ _ _ _ _ => false) (fun _ _ => false) z
theorem osAssert_el {z : PySem.Stmt} {w : PySem.Expr -> (Option PySem.Expr) -> Pos -> Bool} {P : PySem.Stmt -> Prop} (h : osAssert z w = true) (k : ∀ t m p, w t m p = true -> P (.Assert t m p)) : P z := stK_el h (fun _ _ _ h => nft h) (fun _ _ _ _ h => nft h) (fun _ _ h => nft h) (fun _ _ _ _ h => nft h) (fun _ _ _ _ _ h => nft h) (fun _ _ _ _ h => nft h) (fun _ _ h => nft h) (fun _ h => nft h) (fun _ h => nft h) k (fun _ _ _ _ _ h => nft h) (fun _ _ h => nft h)
noncomputable def osTry (z : PySem.Stmt) (w : (List PySem.Stmt) -> (List ExceptHandler) -> (List PySem.Stmt) -> (List PySem.Stmt) -> Pos -> Bool) : Bool := stK (fun _ _ _ => false) (fun _ _ _ _ => false) (fun _ _ => false) (fun _ _ _ _ => false) (fun _ _ _ _ _ => false) (fun _ _ _ _ => false) (fun _ _ => false) (fun _ => false) (fun _ => false) (fun _ _ _ => false) w (fun _ _ => false) z
theorem osTry_el {z : PySem.Stmt} {w : (List PySem.Stmt) -> (List ExceptHandler) -> (List PySem.Stmt) -> (List PySem.Stmt) -> Pos -> Bool} {P : PySem.Stmt -> Prop} (h : osTry z w = true) (k : ∀ b h c d p, w b h c d p = true -> P (.Try b h c d p)) : P z := stK_el h (fun _ _ _ h => nft h) (fun _ _ _ _ h => nft h) (fun _ _ h => nft h) (fun _ _ _ _ h => nft h) (fun _ _ _ _ _ h => nft h) (fun _ _ _ _ h => nft h) (fun _ _ h => nft h) (fun _ h => nft h) (fun _ h => nft h) (fun _ _ _ h => nft h) k (fun _ _ h => nft h)
noncomputable def osDelete (z : PySem.Stmt) (w : (List PySem.Expr) -> Pos -> Bool) : Bool := stK (fun _ _ _ => false) (fun _ _ _ _ => false) (fun _ _ => false) (fun _ _ _ _ => false) (fun _ _ _ _ _ => false) (fun _ _ _ _ => false) (fun _ _ => false) (fun _ => false) (fun _ => false) (fun _ _ _ => false) (fun _ _ _ _ _ => false) w z
theorem osDelete_el {z : PySem.Stmt} {w : (List PySem.Expr) -> Pos -> Bool} {P : PySem.Stmt -> Prop} (h : osDelete z w = true) (k : ∀ ts p, w ts p = true -> P (.Delete ts p)) : P z := stK_el h (fun _ _ _ h => nft h) (fun _ _ _ _ h => nft h) (fun _ _ h => nft h) (fun _ _ _ _ h => nft h) (fun _ _ _ _ _ h => nft h) (fun _ _ _ _ h => nft h) (fun _ _ h => nft h) (fun _ h => nft h) (fun _ h => nft h) (fun _ _ _ h => nft h) (fun _ _ _ _ _ h => nft h) k
noncomputable def isSubscr : PySem.Expr -> Bool := exK (fun _ _ => false) (fun _ _ _ => false) (fun _ _ _ _ => false) (fun _ _ _ => false) (fun _ _ _ _ => false) (fun _ _ _ => false) (fun _ _ _ _ => false) (fun _ _ => false) (fun _ _ _ => false) (fun _ _ _ => false) (fun _ _ _ => true) (fun _ _ _ _ => false) (fun _ _ _ _ => false) (fun _ _ _ => false) (fun _ _ => false) (fun _ _ _ _ => false) (fun _ _ _ => false)
noncomputable def noTup (e : PySem.Expr) : Bool := !(exK (fun _ _ => false) (fun _ _ _ => false) (fun _ _ _ _ => false) (fun _ _ _ => false) (fun _ _ _ _ => false) (fun _ _ _ => false) (fun _ _ _ _ => false) (fun _ _ => false) (fun _ _ _ => true) (fun _ _ _ => false) (fun _ _ _ => false) (fun _ _ _ _ => false) (fun _ _ _ _ => false) (fun _ _ _ => false) (fun _ _ => false) (fun _ _ _ _ => false) (fun _ _ _ => false) e)
noncomputable def onPop (ce : PySem.Expr) (k : Str -> Bool) : Bool := onCall ce fun fe as ks cp => onAttribute fe fun o p ap => onName o fun st _ => on0 as && (on0 ks && (decide (p = "pop") && ((ap.endLine == cp.line) && k st)))
theorem onPop_el {ce : PySem.Expr} {w : Str -> Bool} {P : PySem.Expr -> Prop} (h : onPop ce w = true) (k : ∀ {st sp ap cp}, (ap.endLine == cp.line) = true -> w st = true -> P (.Call (.Attribute (.Name st sp) "pop" ap) [] [] cp)) : P ce := by
 apply onCall_el h; intros; rename_i h
 apply onAttribute_el h; intros; rename_i h
 apply onName_el h; intros; rename_i h
 apply on0_el (ban h).1
 apply on0_el (ban (ban h).2).1
 apply dcd_el (ban (ban (ban h).2).2).1
 exact k (ban (ban (ban (ban h).2).2).2).1 (ban (ban (ban (ban h).2).2).2).2
noncomputable def exV (e : Ex) (k : Nat -> Bool) : Bool := match e with
 | .v i => k i
 | _ => false
theorem exV_el {e : Ex} {w : Nat -> Bool} {P : Ex -> Prop} (h : exV e w = true) (k : ∀ {i}, w i = true -> P (.v i)) : P e := by
 cases e <;> first | exact k h | exact nft h
noncomputable def exPop (e : Ex) (k : Nat -> Bool) : Bool := match e with
 | .bm m a as => decide (m = .pop) && (on0 as && exV a k)
 | _ => false
theorem exPop_el {e : Ex} {w : Nat -> Bool} {P : Ex -> Prop} (h : exPop e w = true) (k : ∀ {i}, w i = true -> P (.bm .pop (.v i) [])) : P e := by
 cases e <;> first | exact nft h | skip
 apply dcd_el (ban h).1
 apply on0_el (ban (ban h).2).1
 exact exV_el (P := fun z => P (.bm .pop z [])) (ban (ban h).2).2 k
noncomputable def stDel (s : Stm) (k : Ex -> Ex -> Bool) : Bool := match s with
 | .delSub a b => k a b
 | _ => false
theorem stDel_el {s : Stm} {w : Ex -> Ex -> Bool} {P : Stm -> Prop} (h : stDel s w = true) (k : ∀ {a b}, w a b = true -> P (.delSub a b)) : P s := by
 cases s <;> first | exact k h | exact nft h
noncomputable def stEx (s : Stm) (k : Ex -> Bool) : Bool := match s with
 | .expr a => k a
 | _ => false
theorem stEx_el {s : Stm} {w : Ex -> Bool} {P : Stm -> Prop} (h : stEx s w = true) (k : ∀ {a}, w a = true -> P (.expr a)) : P s := by
 cases s <;> first | exact k h | exact nft h
noncomputable def chkHd (X : Cx) (hs : List PySem.Stmt) (hb : List Stm) : Bool := on2 hs fun s1 s2 => osDelete s1 fun ts _ => on1 ts fun t => onSubscript t fun o ce _ => onName o fun d _ => onPop ce fun st => osExpr s2 fun c2 _ => onPop c2 fun it =>
 on2 hb fun b1 b2 => stDel b1 fun a1 a2 => exV a1 fun j1 => exPop a2 fun j2 => stEx b2 fun a3 => exPop a3 fun j3 =>
 decide (X.names[j1]? = some d) && (decide (X.names[j2]? = some st) && (decide (X.names[j3]? = some it) && (okName d && (okName st && okName it))))
noncomputable def stops : Stm -> Bool
 | .stop => true
 | _ => false
section
variable (G : Gs)
noncomputable def chkNx (ce : CE) (X : Cx) (i : Nat) (e : Ex) (hb : List Stm) (ts : List PySem.Expr) (value : PySem.Expr) (h : ExceptHandler) : Bool := match h with
 | .ExceptHandler ty nm hs _ => on1 ts fun t => onName t fun x _ => onCall value fun fe as ks _ => onSome ty fun ty => onName ty fun hx _ => onNone nm && (on0 as && (on0 ks && (decide (X.names[i]? = some x) && (ce X fe e && (isSubscr fe && (glob G X hx (.type "StopIteration") && chkHd X hs hb))))))
noncomputable def chkSs (cs : Cx -> PySem.Stmt -> Stm -> Bool) (X : Cx) (ss : List PySem.Stmt) (ts : List Stm) : Bool := match ts with
 | [] => on0 ss
 | t :: ts => stops t || onC ss fun s ss => cs X s t && chkSs cs X ss ts
noncomputable def chkSt (ce : CE) (cs : Cx -> PySem.Stmt -> Stm -> Bool) (X : Cx) (st : PySem.Stmt) (m : Stm) : Bool := match m with
 | .stop => true
 | .asg i e => osAssign st fun ts value _ => on1 ts fun t => onName t fun x _ => decide (X.names[i]? = some x) && ce X value e
 | .asg2 i j e => osAssign st fun ts value _ => on1 ts fun t => onTuple t fun xs _ _ => on2 xs fun a b => onName a fun x _ => onName b fun y _ => decide (X.names[i]? = some x) && (decide (X.names[j]? = some y) && (notComp value && (noTup value && ce X value e)))
 | .asgAtt a f e => osAssign st fun ts value _ => on1 ts fun t => onAttribute t fun ob nm _ => decide (attNm f = some nm) && (ce X ob a && ce X value e)
 | .asgSub a b e => osAssign st fun ts value _ => on1 ts fun t => onSubscript t fun ob ix _ => ce X ob a && (ce X ix b && ce X value e)
 | .asgSubV a b i e => osAssign st fun ts value _ => on2 ts fun t t2 => onSubscript t fun ob ix _ => onName t2 fun x _ => decide (X.names[i]? = some x) && (ce X ob a && (ce X ix b && ce X value e))
 | .augAtt a f o e => osAugAssign st fun t op value _ => onAttribute t fun ob nm _ => decide (attNm f = some nm) && (decide (opOf op = some o) && (decide (op = .Add \/ op = .Sub) && (ce X ob a && ce X value e)))
 | .expr e => osExpr st fun value _ => notComp value && ce X value e
 | .if_ e b' c' => osIf st fun t b c _ => ce X t e && (chkSs cs X b b' && chkSs cs X c c')
 | .ifN i e b' c' => osIf st fun t b c _ => onCompare t fun l os rs _ => onNamedExpr l fun tg value _ => onName tg fun x _ => on1 os fun op => on1 rs fun r => onConstant r fun k _ _ => decide (op = .Is) && (decide (k = .none) && (decide (X.names[i]? = some x) && (ce X value e && (chkSs cs X b b' && chkSs cs X c c'))))
 | .for_ i sk src b' => osFor st fun t iter b c _ => onName t fun x _ => on0 c && (decide (X.names[i]? = some x) && (chkSrcBy G ce X iter sk src && chkSs cs X b b'))
 | .while_ e b' c' => osWhile st fun t b c _ => ce X t e && (chkSs cs X b b' && chkSs cs X c c')
 | .ret e => osReturn st fun v _ => onSome v fun v => ce X v e
 | .brk => osBreak st fun _ => true
 | .cont => osContinue st fun _ => true
 | .assert_ e => osAssert st fun t _ _ => ce X t e
 | .tryNext i e hb => osTry st fun b h c d _ => on0 c && (on0 d && (on2 b fun s1 s2 => osAssign s1 fun ts value _ => osBreak s2 fun _ => on1 h fun hd => chkNx G ce X i e hb ts value hd))
 | .delSub a b => osDelete st fun ts _ => on1 ts fun t => onSubscript t fun ob ix _ => ce X ob a && ce X ix b
noncomputable def chkS : Nat -> Cx -> PySem.Stmt -> Stm -> Bool
 | 0, _, _, _ => false
 | n + 1, X, st, m => chkSt G (chkE G n) (chkS n) X st m
end
noncomputable def IsS (G : Gs) (X : Cx) (st : PySem.Stmt) (m : Stm) : Prop := ∃ n, chkS G n X st m = true
noncomputable def IsSs (G : Gs) (X : Cx) (ss : List PySem.Stmt) (ts : List Stm) : Prop := ∃ n, chkSs (chkS G n) X ss ts = true
theorem chkHd_el {X : Cx} {hs : List PySem.Stmt} {hb : List Stm} {P : List PySem.Stmt -> List Stm -> Prop} (h : chkHd X hs hb = true) (k : ∀ {d dp st sp ap1 cp1 tp dpos it ip ap2 cp2 epos j1 j2 j3},
  X.names[j1]? = some d -> X.names[j2]? = some st -> X.names[j3]? = some it -> (ap1.endLine == cp1.line) = true -> (ap2.endLine == cp2.line) = true -> okName d = true -> okName st = true -> okName it = true ->
  P [.Delete [.Subscript (.Name d dp) (.Call (.Attribute (.Name st sp) "pop" ap1) [] [] cp1) tp] dpos, .Expr (.Call (.Attribute (.Name it ip) "pop" ap2) [] [] cp2) epos] [.delSub (.v j1) (.bm .pop (.v j2) []), .expr (.bm .pop (.v j3) [])]) : P hs hb := by
 apply on2_el h; intro s1 s2 h
 apply osDelete_el h; intros; rename_i h
 apply on1_el h; intro t h
 apply onSubscript_el h; intros; rename_i h
 apply onName_el h; intros; rename_i h
 apply onPop_el h; intros; rename_i q1 h
 apply osExpr_el h; intros; rename_i h
 apply onPop_el h; intros; rename_i q2 h
 apply on2_el h; intro b1 b2 h
 apply stDel_el h; intros; rename_i h
 apply exV_el h; intros; rename_i h
 apply exPop_el h; intros; rename_i h
 apply stEx_el h; intros; rename_i h
 apply exPop_el h; intros; rename_i h
 have h1 := (ban h).2
 have h2 := (ban h1).2
 have h3 := (ban h2).2
 exact k (dcd (ban h).1) (dcd (ban h1).1) (dcd (ban h2).1) q1 q2 (ban h3).1 (ban (ban h3).2).1 (ban (ban h3).2).2
noncomputable def InvS (G : Gs) (X : Cx) (st : PySem.Stmt) : Stm -> Prop
 | .asg i e => ∀ P : PySem.Stmt -> Prop, (∀ x px value pos, X.names[i]? = some x -> IsE G X value e -> P (.Assign [.Name x px] value pos)) -> P st
 | .asg2 i j e => ∀ P : PySem.Stmt -> Prop, (∀ x y px py k tp value pos, X.names[i]? = some x -> X.names[j]? = some y -> notComp value = true -> IsE G X value e -> noTup value = true -> P (.Assign [.Tuple [.Name x px, .Name y py] k tp] value pos)) -> P st
 | .asgAtt a f e => ∀ P : PySem.Stmt -> Prop, (∀ ob name tp value pos, attNm f = some name -> IsE G X ob a -> IsE G X value e -> P (.Assign [.Attribute ob name tp] value pos)) -> P st
 | .asgSub a b e => ∀ P : PySem.Stmt -> Prop, (∀ ob ix tp value pos, IsE G X ob a -> IsE G X ix b -> IsE G X value e -> P (.Assign [.Subscript ob ix tp] value pos)) -> P st
 | .asgSubV a b i e => ∀ P : PySem.Stmt -> Prop, (∀ ob ix tp x px value pos, X.names[i]? = some x -> IsE G X ob a -> IsE G X ix b -> IsE G X value e -> P (.Assign [.Subscript ob ix tp, .Name x px] value pos)) -> P st
 | .augAtt a f o e => ∀ P : PySem.Stmt -> Prop, (∀ ob name tp op value pos, attNm f = some name -> opOf op = some o -> (op = .Add \/ op = .Sub) -> IsE G X ob a -> IsE G X value e -> P (.AugAssign (.Attribute ob name tp) op value pos)) -> P st
 | .expr e => ∀ P : PySem.Stmt -> Prop, (∀ value pos, notComp value = true -> IsE G X value e -> P (.Expr value pos)) -> P st
 | .if_ e b' c' => ∀ P : PySem.Stmt -> Prop, (∀ t b c pos, IsE G X t e -> IsSs G X b b' -> IsSs G X c c' -> P (.If t b c pos)) -> P st
 | .ifN i e b' c' => ∀ P : PySem.Stmt -> Prop, (∀ x px value q k p p2 b c pos, X.names[i]? = some x -> IsE G X value e -> IsSs G X b b' -> IsSs G X c c' -> P (.If (.Compare (.NamedExpr (.Name x px) value q) [.Is] [.Constant .none k p] p2) b c pos)) -> P st
 | .for_ i sk src b' => ∀ P : PySem.Stmt -> Prop, (∀ x px iter b pos, X.names[i]? = some x -> IsSrc G X iter sk src -> IsSs G X b b' -> P (.For (.Name x px) iter b [] pos)) -> P st
 | .while_ e b' c' => ∀ P : PySem.Stmt -> Prop, (∀ t b c pos, IsE G X t e -> IsSs G X b b' -> IsSs G X c c' -> P (.While t b c pos)) -> P st
 | .ret e => ∀ P : PySem.Stmt -> Prop, (∀ value pos, IsE G X value e -> P (.Return (some value) pos)) -> P st
 | .brk => ∀ P : PySem.Stmt -> Prop, (∀ pos, P (.Break pos)) -> P st
 | .cont => ∀ P : PySem.Stmt -> Prop, (∀ pos, P (.Continue pos)) -> P st
 | .assert_ e => ∀ P : PySem.Stmt -> Prop, (∀ t msg pos, IsE G X t e -> P (.Assert t msg pos)) -> P st
 | .tryNext i e hd => ∀ P : PySem.Stmt -> List Stm -> Prop, (∀ x px fe cp ap bp hx hp hpos pos d dp st sp ap1 cp1 tp dpos it ip ap2 cp2 epos j1 j2 j3, X.names[i]? = some x -> IsE G X fe e -> isSubscr fe = true -> X.kd.lookup hx = some .globalImplicit -> okName hx = true -> G.gl hx = some (.type "StopIteration") ->
   X.names[j1]? = some d -> X.names[j2]? = some st -> X.names[j3]? = some it -> (ap1.endLine == cp1.line) = true -> (ap2.endLine == cp2.line) = true -> okName d = true -> okName st = true -> okName it = true ->
   P (.Try [.Assign [.Name x px] (.Call fe [] [] cp) ap, .Break bp] [.ExceptHandler (some (.Name hx hp)) none [.Delete [.Subscript (.Name d dp) (.Call (.Attribute (.Name st sp) "pop" ap1) [] [] cp1) tp] dpos, .Expr (.Call (.Attribute (.Name it ip) "pop" ap2) [] [] cp2) epos] hpos] [] [] pos)
    [.delSub (.v j1) (.bm .pop (.v j2) []), .expr (.bm .pop (.v j3) [])]) -> P st hd
 | .delSub a b => ∀ P : PySem.Stmt -> Prop, (∀ ob ix tp pos, IsE G X ob a -> IsE G X ix b -> P (.Delete [.Subscript ob ix tp] pos)) -> P st
 | .stop => True
noncomputable def InvSs (G : Gs) (X : Cx) (ss : List PySem.Stmt) : List Stm -> Prop
 | [] => ∀ P : List PySem.Stmt -> Prop, P [] -> P ss
 | t :: ts => ∀ P : List PySem.Stmt -> Prop, (∀ s ss, IsS G X s t -> IsSs G X ss ts -> P (s :: ss)) -> (t = .stop -> P ss) -> P ss
section
variable {G : Gs} {X : Cx}
theorem chkSs_el {P : List PySem.Stmt -> Prop} {n : Nat} {ss : List PySem.Stmt} {t : Stm} {ts : List Stm} (h : chkSs (chkS G n) X ss (t :: ts) = true) (k1 : ∀ s ss, IsS G X s t -> IsSs G X ss ts -> P (s :: ss)) (k2 : t = .stop -> P ss) : P ss :=
 bor_el h (fun h => k2 (by cases t <;> first | rfl | exact nft h)) fun h => onC_el h fun s ss h => k1 s ss ⟨n, (ban h).1⟩ ⟨n, (ban h).2⟩
theorem IsSs.inv {ss : List PySem.Stmt} {ts : List Stm} (h : IsSs G X ss ts) : InvSs G X ss ts := by
 obtain ⟨n, h⟩ := h
 cases ts with
 | nil => exact fun P k => on0_el h k
 | cons t ts => exact fun P k1 k2 => chkSs_el h k1 k2
theorem chkSt_inv {n : Nat} {st : PySem.Stmt} {m : Stm} : chkSt G (chkE G n) (chkS G n) X st m = true -> InvS G X st m := by
 induction m using Stm.casesOn with
 | stop => exact fun _ => trivial
 | asg i e => exact fun h P k => osAssign_el h fun ts v p h => on1_el (P := fun ts => P (.Assign ts v p)) h fun t h => onName_el (P := fun t => P (.Assign [t] v p)) h fun x q h => k x q v p (dcd (ban h).1) ⟨n, (ban h).2⟩
 | asg2 i j e =>
  exact fun h P k => osAssign_el h fun ts v p h => on1_el (P := fun ts => P (.Assign ts v p)) h fun t h => onTuple_el (P := fun t => P (.Assign [t] v p)) h fun xs q tp h => on2_el (P := fun xs => P (.Assign [.Tuple xs q tp] v p)) h fun a b h =>
   onName_el (P := fun a => P (.Assign [.Tuple [a, b] q tp] v p)) h fun x px h => onName_el (P := fun b => P (.Assign [.Tuple [.Name x px, b] q tp] v p)) h fun y py h => k x y px py q tp v p (dcd (ban h).1) (dcd (ban (ban h).2).1) (ban (ban (ban h).2).2).1 ⟨n, (ban (ban (ban (ban h).2).2).2).2⟩ (ban (ban (ban (ban h).2).2).2).1
 | asgAtt a f e =>
  exact fun h P k => osAssign_el h fun ts v p h => on1_el (P := fun ts => P (.Assign ts v p)) h fun t h => onAttribute_el (P := fun t => P (.Assign [t] v p)) h fun ob nm q h => k ob nm q v p (dcd (ban h).1) ⟨n, (ban (ban h).2).1⟩ ⟨n, (ban (ban h).2).2⟩
 | asgSub a b e =>
  exact fun h P k => osAssign_el h fun ts v p h => on1_el (P := fun ts => P (.Assign ts v p)) h fun t h => onSubscript_el (P := fun t => P (.Assign [t] v p)) h fun ob ix q h => k ob ix q v p ⟨n, (ban h).1⟩ ⟨n, (ban (ban h).2).1⟩ ⟨n, (ban (ban h).2).2⟩
 | asgSubV a b i e =>
  exact fun h P k => osAssign_el h fun ts v p h => on2_el (P := fun ts => P (.Assign ts v p)) h fun t t2 h => onSubscript_el (P := fun t => P (.Assign [t, t2] v p)) h fun ob ix q h => onName_el (P := fun t => P (.Assign [.Subscript ob ix q, t] v p)) h fun x px h =>
   k ob ix q x px v p (dcd (ban h).1) ⟨n, (ban (ban h).2).1⟩ ⟨n, (ban (ban (ban h).2).2).1⟩ ⟨n, (ban (ban (ban h).2).2).2⟩
 | augAtt a f o e =>
  exact fun h P k => osAugAssign_el h fun t op v p h => onAttribute_el (P := fun t => P (.AugAssign t op v p)) h fun ob nm q h => k ob nm q op v p (dcd (ban h).1) (dcd (ban (ban h).2).1) (dcd (ban (ban (ban h).2).2).1) ⟨n, (ban (ban (ban (ban h).2).2).2).1⟩ ⟨n, (ban (ban (ban (ban h).2).2).2).2⟩
 | expr e => exact fun h P k => osExpr_el h fun v p h => k v p (ban h).1 ⟨n, (ban h).2⟩
 | if_ e b c => exact fun h P k => osIf_el h fun t b c p h => k t b c p ⟨n, (ban h).1⟩ ⟨n, (ban (ban h).2).1⟩ ⟨n, (ban (ban h).2).2⟩
 | ifN i e b c =>
  exact fun h P k => osIf_el h fun t b c p h => onCompare_el (P := fun t => P (.If t b c p)) h fun l os rs q h => onNamedExpr_el (P := fun l => P (.If (.Compare l os rs q) b c p)) h fun tg v q2 h => onName_el (P := fun tg => P (.If (.Compare (.NamedExpr tg v q2) os rs q) b c p)) h fun x px h =>
   on1_el (P := fun os => P (.If (.Compare (.NamedExpr (.Name x px) v q2) os rs q) b c p)) h fun op h => on1_el (P := fun rs => P (.If (.Compare (.NamedExpr (.Name x px) v q2) [op] rs q) b c p)) h fun r h => onConstant_el (P := fun r => P (.If (.Compare (.NamedExpr (.Name x px) v q2) [op] [r] q) b c p)) h fun kc kk kp h =>
   dcd_el (P := fun op => P (.If (.Compare (.NamedExpr (.Name x px) v q2) [op] [.Constant kc kk kp] q) b c p)) (ban h).1 (dcd_el (P := fun kc => P (.If (.Compare (.NamedExpr (.Name x px) v q2) [.Is] [.Constant kc kk kp] q) b c p)) (ban (ban h).2).1 (by
    have h := (ban (ban (ban h).2).2)
    exact k x px v q2 kk kp q b c p (dcd h.1) ⟨n, (ban h.2).1⟩ ⟨n, (ban (ban h.2).2).1⟩ ⟨n, (ban (ban h.2).2).2⟩))
 | for_ i sk src b =>
  exact fun h P k => osFor_el h fun t iter b c p h => onName_el (P := fun t => P (.For t iter b c p)) h fun x q h => on0_el (P := fun c => P (.For (.Name x q) iter b c p)) (ban h).1 (k x q iter b p (dcd (ban (ban h).2).1) ⟨n, (ban (ban (ban h).2).2).1⟩ ⟨n, (ban (ban (ban h).2).2).2⟩)
 | while_ e b c => exact fun h P k => osWhile_el h fun t b c p h => k t b c p ⟨n, (ban h).1⟩ ⟨n, (ban (ban h).2).1⟩ ⟨n, (ban (ban h).2).2⟩
 | ret e => exact fun h P k => osReturn_el h fun v p h => onSome_el (P := fun v => P (.Return v p)) h fun v h => k v p ⟨n, h⟩
 | brk => exact fun h P k => osBreak_el h fun p _ => k p
 | cont => exact fun h P k => osContinue_el h fun p _ => k p
 | assert_ e => exact fun h P k => osAssert_el h fun t m p h => k t m p ⟨n, h⟩
 | tryNext i e hb =>
  exact fun h P k => osTry_el (P := fun st => P st hb) h fun b hd c d p h => on0_el (P := fun c => P (.Try b hd c d p) hb) (ban h).1 (on0_el (P := fun d => P (.Try b hd [] d p) hb) (ban (ban h).2).1 (on2_el (P := fun b => P (.Try b hd [] [] p) hb) (ban (ban h).2).2 fun s1 s2 h =>
   osAssign_el (P := fun s1 => P (.Try [s1, s2] hd [] [] p) hb) h fun ts v ap h => osBreak_el (P := fun s2 => P (.Try [.Assign ts v ap, s2] hd [] [] p) hb) h fun bp h => on1_el (P := fun hd => P (.Try [.Assign ts v ap, .Break bp] hd [] [] p) hb) h fun hd h => by
    refine hid fun zP zk => ?_
    obtain ⟨ty, nm, hs, hpos⟩ := hd
    refine zk ?_
    clear zk zP
    exact on1_el (P := fun ts => P (.Try [.Assign ts v ap, .Break bp] [.ExceptHandler ty nm hs hpos] [] [] p) hb) h fun t h => onName_el (P := fun t => P (.Try [.Assign [t] v ap, .Break bp] [.ExceptHandler ty nm hs hpos] [] [] p) hb) h fun x px h =>
     onCall_el (P := fun v => P (.Try [.Assign [.Name x px] v ap, .Break bp] [.ExceptHandler ty nm hs hpos] [] [] p) hb) h fun fe as ks cp h => onSome_el (P := fun ty => P (.Try [.Assign [.Name x px] (.Call fe as ks cp) ap, .Break bp] [.ExceptHandler ty nm hs hpos] [] [] p) hb) h fun ty h =>
     onName_el (P := fun ty => P (.Try [.Assign [.Name x px] (.Call fe as ks cp) ap, .Break bp] [.ExceptHandler (some ty) nm hs hpos] [] [] p) hb) h fun hx hp h => onNone_el (P := fun nm => P (.Try [.Assign [.Name x px] (.Call fe as ks cp) ap, .Break bp] [.ExceptHandler (some (.Name hx hp)) nm hs hpos] [] [] p) hb) (ban h).1
     (on0_el (P := fun as => P (.Try [.Assign [.Name x px] (.Call fe as ks cp) ap, .Break bp] [.ExceptHandler (some (.Name hx hp)) none hs hpos] [] [] p) hb) (ban (ban h).2).1 (on0_el (P := fun ks => P (.Try [.Assign [.Name x px] (.Call fe [] ks cp) ap, .Break bp] [.ExceptHandler (some (.Name hx hp)) none hs hpos] [] [] p) hb) (ban (ban (ban h).2).2).1 (by
      have h := (ban (ban (ban h).2).2).2
      have h2 := (ban h).2
      have h3 := (ban h2).2
      have h4 := (ban h3).2
      exact chkHd_el (P := fun hs hb => P (.Try [.Assign [.Name x px] (.Call fe [] [] cp) ap, .Break bp] [.ExceptHandler (some (.Name hx hp)) none hs hpos] [] [] p) hb) (ban h4).2 fun n1 n2 n3 q1 q2 k1 k2 k3 =>
       k x px fe cp ap bp hx hp hpos p _ _ _ _ _ _ _ _ _ _ _ _ _ _ _ _ (dcd (ban h).1) ⟨n, (ban h2).1⟩ (ban h3).1 (glob_of (ban h4).1).1 (glob_of (ban h4).1).2.2 (glob_of (ban h4).1).2.1 n1 n2 n3 q1 q2 k1 k2 k3)))))
 | delSub a b => exact fun h P k => osDelete_el h fun ts p h => on1_el (P := fun ts => P (.Delete ts p)) h fun t h => onSubscript_el (P := fun t => P (.Delete [t] p)) h fun ob ix q h => k ob ix q p ⟨n, (ban h).1⟩ ⟨n, (ban h).2⟩
theorem IsS.inv {st : PySem.Stmt} {stm : Stm} (h : IsS G X st stm) : InvS G X st stm := by
 obtain ⟨n, h⟩ := h
 cases n with
 | zero => exact nft h
 | succ n => exact chkSt_inv h
end

noncomputable def FlRel [Off] (h : Heap) (ad : List Addr) : Fl -> Flow -> Prop
 | .next, f => f = .next
 | .brk, f => f = .brk
 | .cont, f => f = .cont
 | .ret d, f => ∃ v, f = .ret v /\ VRel h ad d v
section
variable [Off] (prog : Program) (w : World) (B : Heap)
structure FW (env : Env) (names : List Str) (W : Wd) (lo : Lo) : Prop where
 st : St prog w B W.s.heap W.ad W.H
 fm : Fm B W.s.heap W.ad env names lo
noncomputable def PostS (env : Env) (names : List Str) (W : Wd) (R : Fl -> Lo -> Hp -> Prop) (Q : Flow -> Shared -> Prop) : Prop :=
 ∀ W' fl lo' g, LeS prog w B env W W' -> FW prog w B env names W' lo' -> R fl lo' W'.H -> FlRel W'.s.heap W'.ad fl g -> Q g W'.s
end
noncomputable def SndS (prog : Program) (w : World) (B : Heap) (G : Gs) (f : Fns) (n : Nat) : Prop := ∀ [Off] {env : Env} {names : List Str} {st : PySem.Stmt} {stm : Stm} {lo : Lo} {A : Around} {W : Wd} {R : Fl -> Lo -> Hp -> Prop} {Q : Flow -> Shared -> Prop} {E : Value -> Shared -> Prop},
 IsS G ⟨env.scope.names, names, [], false⟩ st stm -> f.ex stm lo W.H R -> Room A n -> FW prog w B env names W lo -> PostS prog w B env names W R Q -> wpAny (model prog w) A (exec st env) Q E W.s

section
variable [o : Off] {prog : Program} {w : World} {B : Heap} {G : Gs} {f : Fns} {n : Nat} {env : Env} {names : List Str} {lo lo' : Lo} {A : Around} {W W' : Wd} {E : Value -> Shared -> Prop} {R : Fl -> Lo -> Hp -> Prop} {Q : Flow -> Shared -> Prop}
theorem FW.up (F : FW prog w B env names W lo) (l : Le prog w B W W') : FW prog w B env names W' lo := ⟨l.st, by
 obtain ⟨a, e, g⟩ := l.go
 have S := l.st
 rw [e] at S ⊢
 exact F.fm.go S.new_of g⟩
theorem FW.rc (F : FW prog w B env names W lo) : RW prog w B ⟨env.scope.names, names, [], false⟩ env W lo [] := ⟨F.st, F.fm.rc⟩
theorem LeS.refl (S : St prog w B W.s.heap W.ad W.H) : LeS prog w B env W W := (Le.refl S).toS env
theorem PostS.after (p : PostS prog w B env names W R Q) (l : LeS prog w B env W W') : PostS prog w B env names W' R Q := fun W2 fl lo2 g l2 => p W2 fl lo2 g (l.trans l2)
theorem PostS.aft (p : PostS prog w B env names W R Q) (l : Le prog w B W W') : PostS prog w B env names W' R Q := p.after (l.toS env)
theorem FW.store {i : Nat} {x : Str} {d : D} {v : Value} {Q : Unit -> Shared -> Prop} (F : FW prog w B env names W lo) (hi : names[i]? = some x) (r : VRel W.s.heap W.ad d v)
  (k : ∀ h' tk, LeS prog w B env W (W.on h' tk) -> FW prog w B env names (W.on h' tk) (lo.set i (some d)) -> Q () (W.on h' tk).s) : wpAny (model prog w) A (storeName env x v) Q E W.s :=
 F.fm.store F.st hi r fun h' tk S F g => k h' tk ⟨S, ⟨_, _, rfl⟩, [], (List.append_nil _).symm, g⟩ ⟨S, F⟩
theorem thn_el {M : Flow -> Prop} {fl : Fl} {g : Flow} {h : Heap} {ad : List Addr} {a b : Prop} (q : thn fl a b) (r : FlRel h ad fl g) (c1 : a -> M .next) (c2 : b -> M .brk) (c3 : b -> M .cont) (c4 : ∀ v, b -> M (.ret v)) : M g := by
 cases fl with
 | next => exact (show g = .next from r) ▸ c1 q
 | brk => exact (show g = .brk from r) ▸ c2 q
 | cont => exact (show g = .cont from r) ▸ c3 q
 | ret d =>
  obtain ⟨v, e, _⟩ := r
  exact e ▸ c4 v q
theorem exs_sound (hS : SndS prog w B G f n) (r : Room A n) {sts : List PySem.Stmt} {stms : List Stm} (iss : IsSs G ⟨env.scope.names, names, [], false⟩ sts stms) (h : exs f stms lo W.H R) (hst : ∀ lo H R, ¬ f.ex .stop lo H R) (F : FW prog w B env names W lo)
  (p : PostS prog w B env names W R Q) : wpAny (model prog w) A (execs sts env) Q E W.s := by
 induction stms generalizing sts lo W with
 | nil =>
  apply iss.inv
  exact wpAny_execs_nil (p W _ _ _ (LeS.refl F.st) F h rfl)
 | cons t ts ih =>
  apply iss.inv
  ·intro st ss is iss
   refine wpAny_execs_cons (hS is h r F fun W1 fl lo1 g g1 F1 h1 r1 => ?_)
   exact thn_el (M := fun g => FlRel W1.s.heap W1.ad fl g -> (match (motive := Flow -> Prop) g with | .next => _ | f => Q f _)) h1 r1 (fun h _ => ih iss h F1 (p.after g1)) (fun h r => p W1 _ _ _ g1 F1 h r) (fun h r => p W1 _ _ _ g1 F1 h r) (fun v h r => p W1 _ _ _ g1 F1 h r) r1
  ·intro q
   rw [q] at h
   exact (hst _ _ _ h).elim
end
end Mine
end

section
open PySem PySem.W PyProof.Rows
namespace Mine

theorem lp_el {M : Fl -> Prop} {fl : Fl} {lo : Lo} {H : Hp} {k : Lo -> Hp -> Prop} {Q : Fl -> Lo -> Hp -> Prop} (h : lp fl lo H k Q) (c1 : (fl = .next \/ fl = .cont) -> k lo H -> M fl) (c2 : Q .next lo H -> M .brk) (c3 : ∀ d, Q (.ret d) lo H -> M (.ret d)) : M fl := by
 cases fl with
 | next => exact c1 (.inl rfl) h
 | cont => exact c1 (.inr rfl) h
 | brk => exact c2 h
 | ret d => exact c3 _ h
theorem FlRel.go [Off] {h : Heap} {ad : List Addr} {fl : Fl} {g : Flow} (r : FlRel h ad fl g) (q : fl = .next \/ fl = .cont) : g = .next \/ g = .cont := by
 rcases q with q | q
 ·exact .inl (show FlRel h ad .next g from q ▸ r)
 ·exact .inr (show FlRel h ad .cont g from q ▸ r)
theorem go_el {M : Flow -> Prop} {g : Flow} (q : g = .next \/ g = .cont) (c1 : M .next) (c2 : M .cont) : M g := by
 rcases q with q | q
 ·exact q ▸ c1
 ·exact q ▸ c2
theorem brk_el [Off] {h : Heap} {ad : List Addr} {M : Flow -> Prop} {g : Flow} (r : FlRel h ad .brk g) (c : M .brk) : M g := by
 have r : g = .brk := r
 exact r ▸ c
theorem ret_el [Off] {h : Heap} {ad : List Addr} {d : D} {M : Flow -> Prop} {g : Flow} (r : FlRel h ad (.ret d) g) (c : ∀ v, VRel h ad d v -> M (.ret v)) : M g := by
 obtain ⟨v, q, rv⟩ := r
 exact q ▸ c v rv

section
variable [o : Off] {prog : Program} {w : World} {B : Heap} {G : Gs} {f : Fns} {n : Nat} {env : Env} {names : List Str} {lo lo' : Lo} {A : Around} {s : Shared} {ad : List Addr} {W W' : Wd} {E : Value -> Shared -> Prop} {R : Fl -> Lo -> Hp -> Prop} {Q : Flow -> Shared -> Prop}
theorem GoS.turn {g h h1 : Heap} {ad' : List Addr} {I : Addr} (x : GoS env ad g ad' h) (hI : g.objs.size <= I) (k : ∀ b ob, h.get? b = some ob -> b ≠ I -> h1.get? b = some ob) (sz : h.objs.size <= h1.objs.size) : GoS env ad g ad' h1 :=
 ⟨fun b ob e n1 n2 => let ⟨o', e', l⟩ := x.like b ob e n1 n2; ⟨o', k b o' e' (fun q => absurd (Heap.lt_size e) (Nat.not_lt.mpr (q ▸ hI))), l⟩, x.new, Nat.le_trans x.size sz⟩

theorem Fm.hard {I : Addr} (hI : I ∈ o.xs) {h h' : Heap} {ad ad' : List Addr} {lo : Lo} (F : Fm B h ad env names lo) (g : GoS env ad h ad' h') (hc : ∃ ob, h.get? I = some ob /\ Calm ob) (b : Addr) (ob : Obj) (e : h.get? b = some ob) (n : b ∉ ad) (q : b = I \/ (b ∉ o.xs /\ Hard ob)) : h'.get? b = some ob := by
 have hd : Hard ob := by
  rcases q with q | q
  ·obtain ⟨ob', e', c⟩ := hc
   exact Option.some.inj ((q ▸ e).symm.trans e') ▸ c.2
  ·exact q.2
 refine g.keep b ob e n (fun m => ?_) hd
 rcases q with q | q
 ·exact F.offs I (q ▸ m) hI
 ·have sf := F.softs
  rcases q.2 with ⟨vs, m', q⟩ | ⟨vs, q⟩
  ·exact Soft.ne sf e q m
  ·exact Soft.ne' sf e q m
theorem LeS.turn {I : Addr} (l : LeS prog w B env W W') (hI : W.s.heap.objs.size <= I) (hx : I ∈ o.xs) {h' : Heap} (k : ∀ b ob, W'.s.heap.get? b = some ob -> b ≠ I -> h'.get? b = some ob) (sz : W'.s.heap.objs.size <= h'.objs.size) (tk : Nat) : LeS prog w B env W (W'.on h' tk) :=
 ⟨l.st.chg (fun b ob e n => k b ob e fun q => n (q ▸ hx)) sz, sh_trans l.sh ⟨_, _, rfl⟩, let ⟨a, e, g⟩ := l.go; ⟨a, e, g.turn hI k sz⟩⟩
theorem FW.turn {I : Addr} (F : FW prog w B env names W lo) (hx : I ∈ o.xs) {h' : Heap} (k : ∀ b ob, W.s.heap.get? b = some ob -> b ≠ I -> h'.get? b = some ob) (sz : W.s.heap.objs.size <= h'.objs.size) (tk : Nat) : FW prog w B env names (W.on h' tk) lo :=
 ⟨F.st.chg (fun b ob e n => k b ob e fun q => n (q ▸ hx)) sz, F.fm.chg fun b ob e n => k b ob e fun q => n (q ▸ hx)⟩
theorem Itr.up {I : Addr} {nx : Nat -> Hp -> Option (Option D)} {Inv : Nat -> List Addr -> Heap -> Prop} (T : Itr o prog w B A I nx Inv) (hI : I ∈ o.xs) {j : Nat} (F : FW prog w B env names W lo) (l : LeS prog w B env W W') (J : Inv j W.ad W.s.heap) : Inv j W'.ad W'.s.heap := by
 obtain ⟨a, e, g⟩ := l.go
 rw [e]
 exact T.keep J (F.fm.hard hI g (T.at_ J).2) g.new
noncomputable def ForAt (o : Off) (prog : Program) (w : World) (B : Heap) (f : Fns) (env : Env) (names : List Str) (W : Wd) (R : Fl -> Lo -> Hp -> Prop) (nx : Nat -> Hp -> Option (Option D)) (i : Nat) (b' : List Stm) (Inv : Nat -> List Addr -> Heap -> Prop) (k : Nat) (s' : Shared) : Prop :=
 ∃ W' lo1 j, s' = W'.s /\ LeS prog w B env W W' /\ FW prog w B env names W' lo1 /\ Inv j W'.ad W'.s.heap /\ forN f nx i b' k j lo1 W'.H R
theorem for_loop (hS : SndS prog w B G f n) (hst : ∀ lo H R, ¬ f.ex .stop lo H R) (r : Room A n) {x : Str} {px : Pos} {b : List PySem.Stmt} {i : Nat} {b' : List Stm} {I : Addr} {Inv : Nat -> List Addr -> Heap -> Prop}
  {nx : Nat -> Hp -> Option (Option D)} {m : Nat} (hi : names[i]? = some x) (ib : IsSs G ⟨env.scope.names, names, [], false⟩ b b') (T : Itr o prog w B A I nx Inv) (hI : I ∈ o.xs) (hIs : W.s.heap.objs.size <= I) {K : Result -> Shared -> Prop}
  (p : PostS prog w B env names W R fun f s' => K (.ok f) s') {s' : Shared} (J : ForAt o prog w B f env names W R nx i b' Inv m s') : codeAny (model prog w) A (.forLoop (.Name x px) (.ref I) b [] env) K s' := by
 refine codeAny_forLoop_any (ForAt o prog w B f env names W R nx i b' Inv) (fun k s' J => ?_) m J
 refine hid fun zP zk => ?_
 obtain ⟨W1, lo1, j, ez1, l1, F1, J, h⟩ := J
 refine zk ?_
 clear zk zP
 subst ez1
 cases k with
 | zero => exact h.elim
 | succ k =>
  refine op_el h fun x hn h => wD_el (M := fun x => nx j W1.H = some x -> _) h (fun h hn => ?_) (fun d h hn => ?_) hn
  ·exact T.done F1.st J hn fun h4 tk4 k4 sz4 => wpAny_execs_nil (p (W1.on h4 tk4) .next lo1 .next (l1.turn hIs hI k4 sz4 tk4) (F1.turn hI k4 sz4 tk4) h rfl)
  ·refine T.item F1.st J hn fun v h4 tk4 rv J4 k4 sz4 => wpAny_of_eq (a := ()) rfl (wpAny_assign_Name ?_)
   have l4 := l1.turn hIs hI k4 sz4 tk4
   have F4 := F1.turn hI k4 sz4 tk4
   refine F4.store hi rv fun h5 tk5 l5 F5 => ?_
   have J5 := T.up hI F4 l5 J4
   have l5 := l4.trans l5
   refine exs_sound hS r ib h hst F5 fun W6 fl6 lo6 g l6 F6 h6 r6 => ?_
   have J6 := T.up hI F5 l6 J5
   have l6 := l5.trans l6
   refine lp_el (M := fun fl => FlRel W6.s.heap W6.ad fl g -> _) h6 (fun go h6 r6 => ?_) (fun h6 r6 => ?_) (fun d h6 r6 => ?_) r6
   ·apply go_el (r6.go go) <;> exact ⟨k, Nat.lt_succ_self _, W6, lo6, j + 1, rfl, l6, F6, J6, h6⟩
   ·apply brk_el r6
    exact p W6 _ lo6 .next l6 F6 h6 rfl
   ·apply ret_el r6
    exact fun v rv => p W6 _ lo6 (.ret v) l6 F6 h6 ⟨v, rfl, rv⟩
theorem FlRel.leave {ys : List Addr} {h : Heap} {fl : Fl} {g : Flow} (r : @FlRel (offBy o ys) h ad fl g) : FlRel h ad fl g := by
 cases fl with
 | ret d =>
  obtain ⟨v, q, rv⟩ := r
  exact ⟨v, q, rv.leave⟩
 | _ => exact r
theorem folded_of (pe : PySem.Expr) (h : txt0 pe = true) (v : Value) : foldedSetIterable pe env v = pure v := by
 cases pe <;> first | rfl | exact Bool.noConfusion h
theorem src_plain {X : Cx} {iter : PySem.Expr} {sk : SK} {src : List Ex} (is : IsSrc G X iter sk src) (v : Value) : foldedSetIterable iter env v = pure v := by
 cases sk with
 | it =>
  apply is.inv
  intro a ie
  exact folded_of _ ie.shape.1 v
 | vals =>
  apply is.inv
  intros
  rfl
 | _ =>
  apply is.inv
  intros
  rfl
theorem LeS.leave {ys : List Addr} (l : @LeS (offBy o ys) prog w B env W W') : LeS prog w B env W W' := by
 obtain ⟨a, b, c⟩ := l
 exact ⟨a.leave, b, c⟩
theorem FW.leave {ys : List Addr} (l : @FW (offBy o ys) prog w B env names W lo) : FW prog w B env names W lo := by
 obtain ⟨a, b⟩ := l
 exact ⟨a.leave, b.leave⟩
theorem for_sound (T : TopOk B G) (hE : SndE prog w B G f n) (hS : SndS prog w B G f n) (hst : ∀ lo H R, ¬ f.ex .stop lo H R) (r : Room A n) {st : PySem.Stmt} {i : Nat} {sk : SK} {src : List Ex} {b' : List Stm}
  (is : IsS G ⟨env.scope.names, names, [], false⟩ st (.for_ i sk src b')) (h : exStep f (.for_ i sk src b') lo W.H R) (F : FW prog w B env names W lo) (p : PostS prog w B env names W R Q) : wpAny (model prog w) A (exec st env) Q E W.s := by
 apply is.inv
 intro x px iter b pos hi is ib
 have h : evs f [] lo src W.H fun ds H1 => OP (nxOf sk ds H1) fun nx => forN f nx i b' (turns sk ds) 0 lo H1 R := by with_unfolding_all exact h
 refine wpAny_For (src_sound T hE r is (R := fun ds nx H1 => forN f nx i b' (turns sk ds) 0 lo H1 R) h F.rc fun W1 ds nx g1 h1 it s2 st => ?_) (src_plain is)
 refine hid fun zP zk => ?_
 obtain ⟨I, h2, tk2, Inv, ez2, ez3, k2, hI1, hI2, hI⟩ := st
 refine zk ?_
 clear zk zP
 subst ez2 ez3
 obtain ⟨T, J⟩ := hI [I] (List.mem_singleton.mpr rfl) (fun y m => by rw [List.mem_singleton.mp m]; exact hI1)
 have F1 := F.up g1
 have sz2 : W1.s.heap.objs.size <= h2.objs.size := Nat.le_of_lt (Nat.lt_of_le_of_lt hI1 hI2)
 have m1 : ∀ y ∈ [I], W1.s.heap.objs.size <= y /\ y < h2.objs.size := fun y m => by rw [List.mem_singleton.mp m]; exact ⟨hI1, hI2⟩
 have F2 : @FW (offBy o [I]) prog w B env names (W1.on h2 tk2) lo := @FW.mk (offBy o [I]) prog w B env names (W1.on h2 tk2) lo (F1.st.enter k2 m1 sz2) (F1.fm.enter k2 fun y m => (m1 y m).1)
 have l2 : @LeS (offBy o [I]) prog w B env W (W1.on h2 tk2) := by
  obtain ⟨a, e, g⟩ := g1.go
  have g2 : GoS env W1.ad W1.s.heap [] h2 := (Go.of_keeps k2 sz2).toS env
  refine @LeS.mk (offBy o [I]) prog w B env W (W1.on h2 tk2) (F1.st.enter k2 m1 sz2) (sh_trans g1.sh ⟨_, _, rfl⟩) ⟨a, e, ?_⟩
  rw [e] at g2
  have := (g.toS env).trans g2
  rwa [List.append_nil] at this
 have sI : W.s.heap.objs.size <= I := by
  obtain ⟨a, e, g⟩ := g1.go
  exact Nat.le_trans g.size hI1
 exact @for_loop (offBy o [I]) prog w B G f n env names A W R hS hst r _ _ _ _ _ _ _ _ _ hi ib T (List.mem_append_left _ (List.mem_singleton.mpr rfl)) sI _ (fun W' fl lo' g l F h q => p W' fl lo' g l.leave F.leave h q.leave) _
  ⟨W1.on h2 tk2, lo, 0, rfl, l2, F2, J h2 (fun _ _ e => e), h1⟩
theorem while_sound (hT : SndT prog w B G f n) (hS : SndS prog w B G f n) (hst : ∀ lo H R, ¬ f.ex .stop lo H R) (r : Room A n) {st : PySem.Stmt} {te : Ex} {b' c' : List Stm}
  (is : IsS G ⟨env.scope.names, names, [], false⟩ st (.while_ te b' c')) (h : exStep f (.while_ te b' c') lo W.H R) (F : FW prog w B env names W lo) (p : PostS prog w B env names W R Q) : wpAny (model prog w) A (exec st env) Q E W.s := by
 apply is.inv
 intro t b c pos it ib ic
 have h : whileL f te b' c' loopMax lo W.H R := by with_unfolding_all exact h
 refine wpAny_While (codeAny_whileLoop (fun k s' => ∃ W' lo1, s' = W'.s /\ LeS prog w B env W W' /\ FW prog w B env names W' lo1 /\ whileL f te b' c' k lo1 W'.H R) (fun k s' J => ?_) loopMax ⟨W, lo, rfl, LeS.refl F.st, F, h⟩)
 refine hid fun zP zk => ?_
 obtain ⟨W1, lo1, ez4, l1, F1, h⟩ := J
 refine zk ?_
 clear zk zP
 subst ez4
 cases k with
 | zero => exact h.elim
 | succ k =>
  refine hT it h r F1.rc fun W4 c g4 h4 => wIf_el (M := fun c => if c = true then _ else _) h4 (fun h => (if_pos rfl).mpr ?_) fun h => (if_neg Bool.false_ne_true).mpr ?_
  ·refine exs_sound hS r ib h hst (F1.up g4) fun W6 fl6 lo6 g l6 F6 h6 r6 => ?_
   have l6 := (l1.trans (g4.toS env)).trans l6
   refine lp_el (M := fun fl => FlRel W6.s.heap W6.ad fl g -> _) h6 (fun go h6 r6 => ?_) (fun h6 r6 => ?_) (fun d h6 r6 => ?_) r6
   ·apply go_el (r6.go go) <;> exact ⟨k, Nat.lt_succ_self _, W6, lo6, rfl, l6, F6, h6⟩
   ·apply brk_el r6
    exact p W6 _ lo6 .next l6 F6 h6 rfl
   ·apply ret_el r6
    exact fun v rv => p W6 _ lo6 (.ret v) l6 F6 h6 ⟨v, rfl, rv⟩
  ·exact exs_sound hS r ic h hst (F1.up g4) ((p.after l1).aft g4)
end
end Mine
end

section
open PySem PySem.W PyProof.Rows
namespace Mine

theorem swaps_of {value : PySem.Expr} {env : Env} (h : txt0 value = true) (nc : notComp value = true) {t : Option PySem.Expr} {line : Nat} : swapsWith value t line env = pure false := by
 cases value <;> first | exact nft h | exact nft nc | rfl
theorem swaps_name {X : Cx} {value : PySem.Expr} {env : Env} (h : txt0 value = true) (hk : env.scope.kind = .function) (hn : env.scope.names = X.kd) {x : Str} {px : Pos} (hs : swapB X value x px = false) {line : Nat} : swapsWith value (some (.Name x px)) line env = pure false := by
 cases hc : notComp value with
 | true => exact swaps_of h hc
 | false =>
  cases value with
  | ListComp elt gs sc pos =>
   have hb : (env.blockKind == ScopeKind.function) = true := by unfold Env.blockKind; rw [hk]; rfl
   have hkk : env.kindOf x = X.kd.lookup x := congrArg (·.lookup x) hn
   show pure (env.blockKind == .function && env.kindOf x == some .local && px.line == pos.line && !(sc.names.any fun (n, k) => n == x && (k == .local || k == .cell))) = _
   rw [hb, hkk, Bool.true_and]
   exact congrArg pure hs
  | _ => exact nft hc.symm
theorem asg_plain {value : PySem.Expr} {xs : List PySem.Expr} {k : Nat} {tp : Pos} {env : Env} (h : txt0 value = true) (nt : noTup value = true) : swappedStores [.Tuple xs k tp] value env = pure none := by
 cases value <;> first | rfl | exact nft nt | exact nft h
theorem vsTwo [Off] {h : Heap} {ad : List Addr} {d e : D} {vs : List Value} (r : VRels h ad [d, e] vs) : ∃ v u, vs = [v, u] /\ VRel h ad d v /\ VRel h ad e u := by
 apply vsTwo_el r
 exact fun v u rv ru => ⟨v, u, rfl, rv, ru⟩
theorem VRel.upS [Off] {prog : Program} {w : World} {B : Heap} {env : Env} {names : List Str} {lo : Lo} {W W' : Wd} {d : D} {v : Value} (r : VRel W.s.heap W.ad d v) (F : Fm B W.s.heap W.ad env names lo) (l : LeS prog w B env W W') : VRel W'.s.heap W'.ad d v := by
 obtain ⟨a, e, g⟩ := l.go
 rw [e]
 exact r.goS F.softs g
section
variable [o : Off] {prog : Program} {w : World} {B : Heap} {G : Gs} {f : Fns} {n : Nat} {env : Env} {names : List Str} {lo : Lo} {A : Around} {s : Shared} {W : Wd} {E : Value -> Shared -> Prop} {R : Fl -> Lo -> Hp -> Prop} {Q : Flow -> Shared -> Prop}
theorem assign_pair {x y : Str} {px py tp : Pos} {k : Nat} {t : Addr} {a b : Value} {Q : Unit -> Shared -> Prop} (hh : A.handled = none) (ht : s.heap.IsTuple t #[a, b])
  (h : ∀ h2, Heap.ExtBut s.heap.objs.size s.heap h2 -> s.heap.objs.size <= h2.objs.size -> wpAny (model prog w) A (storeName env x a) (fun _ s1 => wpAny (model prog w) A (storeName env y b) Q E s1) E { s with heap := h2 }) :
  wpAny (model prog w) A (assign (.Tuple [.Name x px, .Name y py] k tp) env (.ref t)) Q E s := by
 rw [arm_assign_Tuple]
 refine wpAny_bind (wpAny_standAt ?_)
 unfold unpack
 refine wpAny_bind (wpAny_holding (with_size (wpAny_unpackItems_tuple (items := #[a, b]) hh ht fun h2 eb sz => ?_)))
 refine wpAny_bind (wpAny_holding (wpAny_assign_Name ?_))
 refine wpAny_mono (h h2 eb sz) (fun _ s1 h1 => ?_) fun _ _ z => z
 refine wpAny_bind (wpAny_holding (wpAny_assign_Name ?_))
 exact wpAny_mono h1 (fun _ _ z => wpAny_pure z) fun _ _ z => z

variable (F : FW prog w B env names W lo) (p : PostS prog w B env names W R Q) {st : PySem.Stmt}
include F p
theorem snd_brk (is : IsS G ⟨env.scope.names, names, [], false⟩ st .brk) (h : exStep f .brk lo W.H R) : wpAny (model prog w) A (exec st env) Q E W.s := by
 apply is.inv
 exact fun _ => wpAny_Break (p W _ lo .brk (LeS.refl F.st) F h rfl)
theorem snd_cont (is : IsS G ⟨env.scope.names, names, [], false⟩ st .cont) (h : exStep f .cont lo W.H R) : wpAny (model prog w) A (exec st env) Q E W.s := by
 apply is.inv
 exact fun _ => wpAny_Continue (p W _ lo .cont (LeS.refl F.st) F h rfl)
variable (hE : SndE prog w B G f n) (r : Room A n)
include hE r
theorem snd_asg {i : Nat} {x : Str} {px pos : Pos} {value : PySem.Expr} {e : Ex} (h1 : names[i]? = some x) (h2 : swapB ⟨env.scope.names, names, [], false⟩ value x px = false) (ie : IsE G ⟨env.scope.names, names, [], false⟩ value e) (h : exStep f (.asg i e) lo W.H R) :
  wpAny (model prog w) A (exec (.Assign [.Name x px] value pos) env) Q E W.s :=
 wpAny_Assign_Name (hE ie h r F.rc fun W1 d v g1 hh r1 => (F.up g1).store h1 r1 fun h2 tk2 l2 F2 => p _ _ _ .next ((g1.toS env).trans l2) F2 hh rfl) (swaps_name ie.shape.1 F.fm.kind rfl h2)
theorem snd_asg2 {i j : Nat} {e : Ex} (is : IsS G ⟨env.scope.names, names, [], false⟩ st (.asg2 i j e)) (h : exStep f (.asg2 i j e) lo W.H R) : wpAny (model prog w) A (exec st env) Q E W.s := by
 apply is.inv
 intro x y px py k tp value pos h1 h2 nc ie nt
 refine wpAny_Assign_stores (hE ie h r F.rc fun W1 d v g1 hh r1 => ?_) (show swapsWith value (some (.Tuple [.Name x px, .Name y py] k tp)) pos.line env = pure false from swaps_of ie.shape.1 nc) (asg_plain ie.shape.1 nt)
 refine wTup_el (M := fun d => VRel W1.s.heap W1.ad d v -> _) hh (fun ds hh r1 => ?_) r1
 apply vTup_el r1
 intro t vs m na e rs
 revert rs
 refine w2_el (M := fun ds => VRels W1.s.heap W1.ad ds vs.toList -> _) hh fun a b hh rs => ?_
 refine hid fun zP zk => ?_
 obtain ⟨va, vb, hv, ra, rb⟩ := vsTwo rs
 refine zk ?_
 clear zk zP
 have hvs : vs = #[va, vb] := Array.toList_inj.mp hv
 rw [hvs] at e
 refine assign_pair (k := 0) r.handled ⟨_, e, rfl, m, rfl⟩ fun h2' eb sz => ?_
 have g2 : Le prog w B W1 (W1.on h2' W1.s.toks) := Le.keep g1.st (fun b ob e => eb b ob (Nat.ne_of_lt (Heap.lt_size e)) e) sz _
 have F2 := (F.up g1).up g2
 refine F2.store h1 (ra.up g2) fun h3 tk3 l3 F3 => F3.store h2 ((rb.up g2).upS F2.fm l3) fun h4 tk4 l4 F4 => ?_
 exact p _ _ _ .next (((g1.trans g2).toS env).trans (l3.trans l4)) F4 hh rfl
theorem snd_expr {e : Ex} (is : IsS G ⟨env.scope.names, names, [], false⟩ st (.expr e)) (h : exStep f (.expr e) lo W.H R) : wpAny (model prog w) A (exec st env) Q E W.s := by
 apply is.inv
 intro value pos nc ie
 exact wpAny_Expr_any (hE ie h r F.rc fun W1 d v g1 hh r1 => p W1 _ lo .next (g1.toS env) (F.up g1) hh rfl) (by unfold interactive; rw [F.fm.kind]; rfl) (swaps_of ie.shape.1 nc)
theorem snd_ret {e : Ex} (is : IsS G ⟨env.scope.names, names, [], false⟩ st (.ret e)) (h : exStep f (.ret e) lo W.H R) : wpAny (model prog w) A (exec st env) Q E W.s := by
 apply is.inv
 intro value pos ie
 exact wpAny_Return_some (hE ie h r F.rc fun W1 d v g1 hh r1 => p W1 _ lo (.ret v) (g1.toS env) (F.up g1) hh ⟨v, rfl, r1⟩)
omit hE in
theorem snd_assert (hT : SndT prog w B G f n) {e : Ex} (is : IsS G ⟨env.scope.names, names, [], false⟩ st (.assert_ e)) (h : exStep f (.assert_ e) lo W.H R) : wpAny (model prog w) A (exec st env) Q E W.s := by
 apply is.inv
 intro t msg pos ie
 exact wpAny_Assert_holds (hT ie h r F.rc fun W1 c g1 h1 => wIf_el (M := fun c => c = true /\ _) h1 (fun h => ⟨rfl, p W1 _ lo .next (g1.toS env) (F.up g1) h rfl⟩) False.elim)
variable (hS : SndS prog w B G f n) (hst : ∀ lo H R, ¬ f.ex .stop lo H R)
include hS hst
omit hE in
theorem snd_if (hT : SndT prog w B G f n) {e : Ex} {b' c' : List Stm} (is : IsS G ⟨env.scope.names, names, [], false⟩ st (.if_ e b' c')) (h : exStep f (.if_ e b' c') lo W.H R) : wpAny (model prog w) A (exec st env) Q E W.s := by
 apply is.inv
 intro t b c pos ie ib ic
 exact wpAny_If (hT ie h r F.rc fun W1 c g1 h1 => wIf_el (M := fun c => if c = true then _ else _) h1 (fun h => (if_pos rfl).mpr (exs_sound hS r ib h hst (F.up g1) (p.aft g1))) fun h => (if_neg Bool.false_ne_true).mpr (exs_sound hS r ic h hst (F.up g1) (p.aft g1)))
theorem snd_ifN {i : Nat} {e : Ex} {b' c' : List Stm} (is : IsS G ⟨env.scope.names, names, [], false⟩ st (.ifN i e b' c')) (h : exStep f (.ifN i e b' c') lo W.H R) : wpAny (model prog w) A (exec st env) Q E W.s := by
 apply is.inv
 intro x px value q k p1 p2 b c pos h1 ie ib ic
 refine wpAny_If (wpAny_isTrue_Compare1 (wpAny_NamedExpr (hE ie h r F.rc fun W1 d v g1 hh r1 => wpAny_assign_Name ((F.up g1).store h1 r1 fun h2 tk2 l2 F2 => wpAny_Constant_none ?_))))
 have l2 := (g1.toS env).trans l2
 refine op_el hh fun c e hh => wpAny_bind (m := isSame v .none) ?_
 rw [isD_same e r1 (iNone _ _)]
 refine wpAny_pure (wpAny_pure (wpAny_truthy_bool ?_))
 exact wIf_el (M := fun c => if c = true then _ else _) hh (fun h => (if_pos rfl).mpr (exs_sound hS r ib h hst F2 (p.after l2))) fun h => (if_neg Bool.false_ne_true).mpr (exs_sound hS r ic h hst F2 (p.after l2))
end
end Mine
end

section
open PySem PySem.W PyProof.Rows
namespace Mine
section
variable {o1 o2 : Off} {h : Heap} {ad : List Addr} {prog : Program} {w : World} {B : Heap} {H : Hp}
theorem VRel.sub (k : ∀ a ∈ o2.xs, a ∈ o1.xs) {d : D} {v : Value} (r : @VRel o1 h ad d v) : @VRel o2 h ad d v := VRel.map (o1 := o1) (o2 := o2) (fun b ob e n1 n2 _ => ⟨e, n1, fun m => n2 (k b m)⟩) (fun _ _ e => e) r
theorem VRels.sub (k : ∀ a ∈ o2.xs, a ∈ o1.xs) {ds : List D} {vs : List Value} (r : @VRels o1 h ad ds vs) : @VRels o2 h ad ds vs := VRels.map (o1 := o1) (o2 := o2) (fun b ob e n1 n2 _ => ⟨e, n1, fun m => n2 (k b m)⟩) (fun _ _ e => e) r
theorem St.sub (k : ∀ a ∈ o2.xs, a ∈ o1.xs) (S : @St o1 prog w B h ad H) (kf : ∀ a ∈ o2.fr, a ∈ o1.fr := by exact fun _ m => m) : @St o2 prog w B h ad H := by
 refine hid fun zP zk => ?_
 obtain ⟨base, new, nd, len, off, frs, obj⟩ := S
 refine zk ?_
 clear zk zP
 refine @St.mk o2 prog w B h ad H base new nd len (fun a m => off a (k a m)) (fun a m => ⟨⟨(frs a (kf a m)).1.1, fun q => (frs a (kf a m)).1.2 (k a q)⟩, (frs a (kf a m)).2⟩) fun i a ob e1 e2 => ?_
 obtain ⟨ob', e, r⟩ := obj i a ob e1 e2
 exact ⟨ob', e, ORel.map2 (fun _ _ q => q.sub k) (fun _ _ q => q.sub k) (fun _ _ e => e) r⟩
theorem St.adopt {D0 : Addr} {ob : Obj} {x : Ob} (hD : D0 ∈ o1.xs) (k : ∀ a ∈ o2.xs, a ∈ o1.xs) (hD2 : D0 ∉ o2.xs) (S : @St o1 prog w B h ad H) (e : h.get? D0 = some ob) (r : @ORel o1 prog w h ad x ob) (kf : ∀ a ∈ o2.fr, a ∈ o1.fr := by exact fun _ m => m) : @St o2 prog w B h (ad ++ [D0]) (H ++ [x]) := by
 refine hid fun zP zk => ?_
 obtain ⟨base, new, nd, len, off, frs, obj⟩ := S
 obtain ⟨d1, d2, d3⟩ := off D0 hD
 refine zk ?_
 clear zk zP
 have vm : ∀ d v, @VRel o1 h ad d v -> @VRel o2 h (ad ++ [D0]) d v := fun d v r => VRel.map (o1 := o1) (o2 := o2) (fun b ob e n1 n2 _ => ⟨e, fun m => by
  rcases List.mem_append.mp m with m | m
  ·exact n1 m
  ·exact n2 (List.mem_singleton.mp m ▸ hD), fun m => n2 (k b m)⟩) app_get r
 have vms : ∀ ds vs, @VRels o1 h ad ds vs -> @VRels o2 h (ad ++ [D0]) ds vs := fun d v r => VRels.map (o1 := o1) (o2 := o2) (fun b ob e n1 n2 _ => ⟨e, fun m => by
  rcases List.mem_append.mp m with m | m
  ·exact n1 m
  ·exact n2 (List.mem_singleton.mp m ▸ hD), fun m => n2 (k b m)⟩) app_get r
 refine @St.mk o2 prog w B h (ad ++ [D0]) (H ++ [x]) base (fun a m => ?_) (List.nodup_append.mpr ⟨nd, by simp, fun a m b m' => ?_⟩) (by simp [len]) (fun a m => ?_) (fun a m => ?_) fun i a ob' e1 e2 => ?_
 ·rcases List.mem_append.mp m with m | m
  ·exact new a m
  ·rw [List.mem_singleton.mp m]; exact d3
 ·rcases List.mem_singleton.mp m' with rfl
  rintro rfl; exact d2 m
 ·obtain ⟨q1, q2, q3⟩ := off a (k a m)
  refine ⟨q1, fun m2 => ?_, q3⟩
  rcases List.mem_append.mp m2 with m2 | m2
  ·exact q2 m2
  ·exact hD2 (List.mem_singleton.mp m2 ▸ m)
 ·obtain ⟨f1, f2, f3⟩ := frs a (kf a m)
  refine ⟨⟨fun q => ?_, fun q => f1.2 (k a q)⟩, f2, f3⟩
  rcases List.mem_append.mp q with q | q
  ·exact f1.1 q
  ·exact f1.2 (List.mem_singleton.mp q ▸ hD)
 ·by_cases hk : i < ad.length
  ·rw [List.getElem?_append_left hk] at e1
   rw [List.getElem?_append_left (len ▸ hk)] at e2
   obtain ⟨ob1, e3, r3⟩ := obj i a ob' e1 e2
   exact ⟨ob1, e3, ORel.map2 vm vms app_get r3⟩
  ·have hk' := Nat.not_lt.mp hk
   rw [List.getElem?_append_right hk'] at e1
   rw [List.getElem?_append_right (len ▸ hk')] at e2
   have l0 := (List.getElem?_eq_some_iff.mp e1).1
   have : i - ad.length = 0 := by simpa using l0
   rw [this] at e1
   rw [len] at this
   rw [this] at e2
   simp only [List.getElem?_cons_zero, Option.some.injEq] at e1 e2
   subst e1 e2
   exact ⟨ob, e, ORel.map2 vm vms app_get r⟩
end

section
variable {prog : Program} {w : World} {A : Around} {R : Result -> Shared -> Prop} {s : Shared}
theorem compLoop_go {elt target iter : PySem.Expr} {ifs : List PySem.Expr} {scope : Scope} {pos : Pos} {it acc : Value} {env : Env} (I : Nat -> Shared -> Prop)
  (turn : ∀ n s, I n s -> wpAny (model prog w) A (pyNext it) (fun r s₁ => match r with
   | none => R (.ok .next) s₁
   | some v => wpAny (model prog w) A (letOwnedTupleGo target it v) (fun _ s₁' => wpAny (model prog w) A (assign target env v) (fun _ s₂ =>
     wpAny (model prog w) A (forIn ifs true fun c r => if r = true then do let ok <- isTrue c env (eval c env); pure (ForInStep.yield ok) else pure (ForInStep.yield r)) (fun ok s₃ =>
      if ok = true then wpAny (model prog w) A (eval elt env) (fun x s₄ =>
       wpAny (model prog w) A (call (.builtin "list.append") [acc, x]) (fun _ s₅ => ∃ m, m < n /\ I m s₅) (notedBy (model prog w) A env fun e s' => R (.error e) s') s₄) (notedBy (model prog w) A env fun e s' => R (.error e) s') s₃
      else ∃ m, m < n /\ I m s₃) (notedBy (model prog w) A env fun e s' => R (.error e) s') s₂) (notedBy (model prog w) A env fun e s' => R (.error e) s') s₁') (notedBy (model prog w) A env fun e s' => R (.error e) s') s₁) (notedBy (model prog w) A env fun e s' => R (.error e) s') s)
  (n : Nat) (h : I n s) :
  codeAny (model prog w) A (.compLoop (.ListComp elt [⟨target, iter, ifs, 0⟩] scope pos) 0 it acc env) R s := by
 refine codeAny_loop rfl I (fun n s hI => ?_) n h
 show wpAny _ A ((compTurn (.ListComp elt [⟨target, iter, ifs, 0⟩] scope pos) 0 it acc env).onRaise (fun x => do noteFrame x env; theTreesLotGoes x)) _ _ s
 refine wpAny_noted ?_
 rw [compTurn_list]
 refine wpAny_bind (wpAny_standAt (wpAny_bind (wpAny_mono (turn n s hI) (fun r s₁ h₁ => ?_) fun _ _ h' => h')))
 cases r with
 | none => exact wpAny_pure h₁
 | some v =>
  refine wpAny_bind (wpAny_mono h₁ (fun _ s₁' h₁' => ?_) fun _ _ h' => h')
  refine wpAny_bind (wpAny_mono h₁' (fun _ s₂ h₂ => wpAny_bind (wpAny_mono h₂ (fun ok s₃ h₃ => ?_) fun _ _ h' => h')) fun _ _ h' => h')
  cases ok with
  | false => exact wpAny_pure ⟨rfl, h₃⟩
  | true =>
   exact wpAny_bind (wpAny_bind (wpAny_mono h₃ (fun x s₄ h₄ => wpAny_bind (wpAny_mono h₄ (fun _ s₅ h₅ => wpAny_pure (wpAny_pure ⟨rfl, h₅⟩)) fun _ _ h' => h')) fun _ _ h' => h'))

theorem letGo_calm {E : Value -> Shared -> Prop} {target : PySem.Expr} {I : Addr} {v : Value} {ob : Obj} {Q : Unit -> Shared -> Prop} (e : s.heap.get? I = some ob) (c : Calm ob) (h : Q () s) : wpAny (model prog w) A (letOwnedTupleGo target (.ref I) v) Q E s := by
 refine hid fun zP zk => ?_
 obtain ⟨⟨n, hc, hn⟩, _⟩ := c
 refine zk ?_
 clear zk zP
 have body : wpAny (model prog w) A (do
   let (.ref r, .ref a) := (Value.ref I, v) | return
   let o <- load r
   match o.cls, o.data with
   | .type n, .fields vs =>
    if ["enumerate", "zip", "dict_itemiterator", "dict_reverseitemiterator", "odict_iterator", "itertools.zip_longest", "itertools.pairwise"].contains n && vs[0]? == some (rawInt a) then
     rule "for.unpacks-the-owned-tuple"
     updateField r 0 .none
   | _, _ => pure ()) Q E s := by
  cases v with
  | ref a =>
   refine wpAny_bind (wpAny_load e ?_)
   rw [hc]
   cases hd : ob.data with
   | fields vs =>
    dsimp only
    unfold ownsTup at hn
    rw [hn, Bool.false_and, if_neg Bool.false_ne_true]
    exact wpAny_pure h
   | _ => exact wpAny_pure h
  | _ => exact wpAny_pure h
 cases target <;> first | exact wpAny_pure h | exact body

theorem ifs_false {E : Value -> Shared -> Prop} {env : Env} {Q : Bool -> Shared -> Prop} (h : Q false s) : ∀ (cs : List PySem.Expr),
  wpAny (model prog w) A (forIn cs false fun c r => if r = true then do let ok <- isTrue c env (eval c env); pure (ForInStep.yield ok) else pure (ForInStep.yield r)) Q E s
 | [] => by rw [List.forIn_nil]; exact wpAny_pure h
 | c :: cs => by
  rw [List.forIn_cons]
  refine wpAny_bind ?_
  rw [if_neg Bool.false_ne_true]
  exact wpAny_pure (ifs_false h cs)
end
section
variable [o : Off] {prog : Program} {w : World} {B : Heap} {G : Gs} {f : Fns} {n : Nat} {X : Cx} {env : Env} {cv : List D} {lo : Lo} {A : Around} {W : Wd} {E : Value -> Shared -> Prop}
theorem ifs_sound (hT : SndT prog w B G f n) (r : Room A n) {pes : List PySem.Expr} {es : List Ex} {R : Bool -> Hp -> Prop} {Q : Bool -> Shared -> Prop} (ies : IsEs G X pes es) (h : tsts f cv lo false es W.H R) (C : RW prog w B X env W lo cv) (p : PostT prog w B W R Q) :
  wpAny (model prog w) A (forIn pes true fun c r => if r = true then do let ok <- isTrue c env (eval c env); pure (ForInStep.yield ok) else pure (ForInStep.yield r)) Q E W.s := by
 induction es generalizing pes W with
 | nil =>
  apply ies.inv
  rw [List.forIn_nil]
  exact wpAny_pure (p W _ (Le.refl C.st) h)
 | cons e es ih =>
  apply ies.inv
  intro pe pes ie ies
  rw [List.forIn_cons]
  refine wpAny_bind ?_
  rw [if_pos rfl]
  refine wpAny_bind (hT ie h r C fun W1 b g1 h1 => wpAny_pure ?_)
  cases b with
  | false => exact ifs_false (p W1 _ g1 h1) pes
  | true => exact ih ies h1 (C.up g1) (p.more g1)
end
end Mine
end

section
open PySem PySem.W PyProof.Rows
namespace Mine

noncomputable def cloF (cells : List (Str × Addr)) : List (Str × NameKind) -> List (Str × Addr) -> List (Str × Addr)
 | [], cs => cs
 | (x, k) :: r, cs => if k == .free then (match cells.lookup x with | some c => cloF cells r ((x, c) :: cs) | none => cloF cells r cs) else cloF cells r cs
theorem closureFor_of {scope : Scope} {env : Env} (h : ∀ y ∈ scope.names, y.2 = .free -> ∃ c, env.cells.lookup y.1 = some c) : closureFor scope env = pure (cloF env.cells scope.names []) := by
 have key : ∀ (l : List (Str × NameKind)) (cs : List (Str × Addr)), (∀ y ∈ l, y.2 = .free -> ∃ c, env.cells.lookup y.1 = some c) ->
   (forIn l cs fun x (r : List (Str × Addr)) => (if x.2 == .free then do let c <- cellOf env x.1; pure (.yield ((x.1, c) :: r)) else pure (.yield r) : Sem (ForInStep (List (Str × Addr))))) = pure (cloF env.cells l cs) := by
  intro l
  induction l with
  | nil => intro cs _; rfl
  | cons y l ih =>
   intro cs hl
   obtain ⟨x, k⟩ := y
   rw [List.forIn_cons]
   unfold cloF
   by_cases hk : (k == NameKind.free) = true
   ·have hk' : k = .free := eq_of_beq hk
    obtain ⟨c, hc⟩ := hl (x, k) List.mem_cons_self hk'
    have hco : cellOf env x = pure c := by unfold cellOf; rw [hc]
    simp only [hk, if_true, hc, hco, pure_bind]
    exact ih _ fun y m => hl y (List.mem_cons_of_mem _ m)
   ·simp only [hk, if_false, pure_bind]
    exact ih _ fun y m => hl y (List.mem_cons_of_mem _ m)
 unfold closureFor
 have e := key scope.names [] h
 have e2 := congrArg (fun t : Sem (List (Str × Addr)) => t >>= fun r => pure r) e
 exact e2
theorem cloF_from {cells : List (Str × Addr)} : ∀ (l : List (Str × NameKind)) (cs : List (Str × Addr)), (∀ p ∈ cs, cells.lookup p.1 = some p.2) -> ∀ p ∈ cloF cells l cs, cells.lookup p.1 = some p.2
 | [], cs, h, p, m => h p m
 | (x, k) :: r, cs, h, p, m => by
  unfold cloF at m
  split at m
  ·split at m
   ·rename_i c hc
    exact cloF_from r _ (fun q mq => by
     rcases List.mem_cons.mp mq with rfl | mq
     ·exact hc
     ·exact h q mq) p m
   ·exact cloF_from r _ h p m
  ·exact cloF_from r _ h p m
theorem cloF_keep {cells : List (Str × Addr)} : ∀ (l : List (Str × NameKind)) (cs : List (Str × Addr)) (p : Str × Addr), p ∈ cs -> p ∈ cloF cells l cs
 | [], cs, p, m => m
 | (x, k) :: r, cs, p, m => by
  unfold cloF
  split
  ·split
   ·exact cloF_keep r _ p (List.mem_cons_of_mem _ m)
   ·exact cloF_keep r _ p m
  ·exact cloF_keep r _ p m
theorem cloF_has {cells : List (Str × Addr)} {x : Str} {c : Addr} (hc : cells.lookup x = some c) : ∀ (l : List (Str × NameKind)) (cs : List (Str × Addr)), (x, NameKind.free) ∈ l -> (x, c) ∈ cloF cells l cs
 | (y, k) :: r, cs, m => by
  rcases List.mem_cons.mp m with e | m
  ·cases e
   unfold cloF
   rw [if_pos (by decide), hc]
   exact cloF_keep r _ _ List.mem_cons_self
  ·unfold cloF
   split
   ·split
    ·exact cloF_has hc r _ m
    ·exact cloF_has hc r _ m
   ·exact cloF_has hc r _ m
theorem lookup_of_all {l : List (Str × Addr)} {x : Str} {c : Addr} (h : ∀ p ∈ l, p.1 = x -> p.2 = c) (m : (x, c) ∈ l) : l.lookup x = some c := by
 induction l with
 | nil => cases m
 | cons p r ih =>
  obtain ⟨y, d⟩ := p
  rw [List.lookup_cons]
  by_cases q : x = y
  ·subst q
   rw [beq_self_eq_true]
   have := h (x, d) List.mem_cons_self rfl
   subst this
   rfl
  ·rw [beq_false_of_ne q]
   refine ih (fun p mp => h p (List.mem_cons_of_mem _ mp)) ?_
   rcases List.mem_cons.mp m with e | m
   ·cases e; exact absurd rfl q
   ·exact m
theorem cloF_lookup {cells : List (Str × Addr)} {l : List (Str × NameKind)} {x : Str} {c : Addr} (hc : cells.lookup x = some c) (m : (x, NameKind.free) ∈ l) : (cloF cells l []).lookup x = some c :=
 lookup_of_all (fun p mp e => by
  have := cloF_from l [] (fun _ m => nomatch m) p mp
  rw [e, hc] at this
  exact (Option.some.inj this).symm) (cloF_has hc l [] m)
end Mine
end

section
open PySem PySem.W PyProof.Rows
namespace Mine

section
variable {X : Cx} {env : Env} {h h' : Heap} {ad ad2 : List Addr} {lo : Lo} {cv : List D}
theorem RC.map {o1 o2 : Off} (f : ∀ d v, @VRel o1 h ad d v -> @VRel o2 h' ad2 d v) (kp : ∀ a ∈ own env, ∀ ob, h.get? a = some ob -> h'.get? a = some ob) (fr : ∀ a ∈ own env, a ∉ ad2 /\ a < h'.objs.size) (R : @RC o1 X env h ad lo cv) : @RC o2 X env h' ad2 lo cv := by
 refine hid fun zP zk => ?_
 obtain ⟨kind, glob, blt, sc, vr, cr, far, cl⟩ := R
 refine zk ?_
 clear zk zP
 have rd : ∀ {x : Str} {d : D}, @Rd o1 h ad env x d -> @Rd o2 h' ad2 env x d := by
  rintro x d ⟨v, q, r⟩
  refine ⟨v, f _ _ q, ?_⟩
  rcases r with ⟨k, m, ⟨o, es, ep, e, r⟩, hm⟩ | ⟨k, c, hc, o, e, dt⟩
  ·exact .inl ⟨k, m, ⟨o, es, ep, kp _ (own_locals env) _ e, r⟩, hm⟩
  ·exact .inr ⟨k, c, hc, o, kp _ (own_cell hc) _ e, dt⟩
 exact @RC.mk o2 X env h' ad2 lo cv kind glob blt sc (fun i x d e1 e2 e3 => rd (vr i x d e1 e2 e3)) (fun j x d e1 e2 e3 e4 => rd (cr j x d e1 e2 e3 e4)) fr cl

theorem lookup_relK {kd : List (Str × NameKind)} : ∀ {l : List (Str × NameKind)} {x : Str} {k : NameKind}, (relK kd l).lookup x = some k -> ∃ k0, (x, k0) ∈ l /\ l.lookup x = some k0 /\ k = if (k0 == .free && kd.lookup x == some .cell) then .cell else k0
 | [], _, _, e => by simp [relK] at e
 | (y, k1) :: r, x, k, e => by
  have hc : relK kd ((y, k1) :: r) = (if (k1 == .free && kd.lookup y == some .cell) then (y, NameKind.cell) else (y, k1)) :: relK kd r := rfl
  rw [hc] at e
  by_cases q : x = y
  ·subst q
   refine ⟨k1, List.mem_cons_self, by simp, ?_⟩
   split at e
   ·rename_i hq
    rw [List.lookup_cons, beq_self_eq_true] at e
    rw [if_pos hq]; exact (Option.some.inj e).symm
   ·rename_i hq
    rw [List.lookup_cons, beq_self_eq_true] at e
    rw [if_neg hq]; exact (Option.some.inj e).symm
  ·have e' : (relK kd r).lookup x = some k := by
    split at e
    ·rwa [List.lookup_cons, beq_false_of_ne q] at e
    ·rwa [List.lookup_cons, beq_false_of_ne q] at e
   refine hid fun zP zk => ?_
   obtain ⟨k0, m, l0, hk⟩ := lookup_relK e'
   refine zk ?_
   clear zk zP
   exact ⟨k0, List.mem_cons_of_mem _ m, by rw [List.lookup_cons, beq_false_of_ne q]; exact l0, hk⟩
theorem relabel_names {sc : Scope} (hk : env.scope.kind = .function) (hn : env.scope.names = X.kd) : (relabel sc env).names = relK X.kd sc.names := by
 unfold relabel relK
 simp only [hk, Env.kindOf, hn]
 congr 1
 funext ⟨n, k⟩
 simp

structure ScOk (X : Cx) (sc : Scope) (cn : List Str) : Prop where
 kind : sc.kind = .function
 nocell : ∀ y ∈ sc.names, y.2 ≠ .cell
 loc : ∀ y ∈ sc.names, y.2 = .local -> sc.names.lookup y.1 = some .local
 free : ∀ y ∈ sc.names, y.2 = .free -> X.kd.lookup y.1 = some .cell
 nm : ∀ y ∈ sc.names, y.2 = .free -> y.1 ∈ X.names
 cn : ∀ x ∈ cn, sc.names.lookup x = some .local
 inC : X.inC = false
theorem scOk_of {sc : Scope} {cn : List Str} (h : scOk X sc cn = true) : ScOk X sc cn := by
 unfold scOk at h
 simp only [Bool.and_eq_true, beq_iff_eq, List.all_eq_true, bne_iff_ne, ne_eq, Bool.or_eq_true, Bool.not_eq_true'] at h
 refine hid fun zP zk => ?_
 obtain ⟨⟨⟨⟨⟨h1, h2⟩, h3⟩, h4⟩, h5⟩, h6⟩ := h
 refine zk ?_
 clear zk zP
 exact ⟨h1, h2, fun y m e => (h3 y m).resolve_left (fun q => q e), fun y m e => ((h4 y m).resolve_left (fun q => q e)).1, fun y m e => by have := ((h4 y m).resolve_left (fun q => q e)).2; simpa using this, h5, h6⟩

theorem RC.cells {o : Off} {sc : Scope} {cn : List Str} (R : @RC o X env h ad lo cv) (K : ScOk X sc cn) : closureFor sc env = pure (cloF env.cells sc.names []) := by
 refine hid fun zP zk => ?_
 obtain ⟨_, _, _, _, _, _, _, cl⟩ := R
 refine zk ?_
 clear zk zP
 refine closureFor_of fun y m e => ?_
 obtain ⟨i, hi⟩ := List.getElem?_of_mem (K.nm y m e)
 exact cl i y.1 hi (K.free y m e) K.inC

theorem cloF_own {cells : List (Str × Addr)} {l : List (Str × NameKind)} {a : Addr} (m : a ∈ (cloF cells l []).map (·.2)) : a ∈ cells.map (·.2) := by
 obtain ⟨p, mp, rfl⟩ := List.mem_map.mp m
 haveI : Off := ⟨[], []⟩
 exact mem_cells (cloF_from l [] (fun _ m => nomatch m) p mp)

theorem RC.comp {o : Off} {sc : Scope} {cn : List Str} {C : Addr} {m : Str -> Option Value} {cvs : List D} (R : @RC o X env h ad lo cv) (K : ScOk X sc cn) (hn : h.Ns C m) (hC : C ∉ ad)
  (hcv : ∀ (j : Nat) x d, cn[j]? = some x -> cvs[j]? = some d -> ∃ v, m x = some v /\ @VRel o h ad d v) :
  @RC o ⟨relK X.kd sc.names, X.names, cn, true⟩ (compEnvC sc (cloF env.cells sc.names []) C env) h ad lo cvs := by
 refine hid fun zP zk => ?_
 obtain ⟨kind, glob, blt, hsc, vr, cr, far, _⟩ := R
 refine zk ?_
 clear zk zP
 have hnm := relabel_names (X := X) (sc := sc) kind hsc
 refine @RC.mk o _ _ h ad lo cvs (by show sc.kind = _; exact K.kind) glob blt hnm (fun i x d e1 e2 e3 => ?_) (fun j x d e1 e2 e3 _ => ?_) (fun a ma => ?_) (fun _ _ _ _ z => nomatch z)
 ·have hk : ∃ k, (relK X.kd sc.names).lookup x = some k /\ (k = .cell \/ k = .free) := by
   unfold vOk at e3
   split at e3
   ·rename_i q; exact ⟨_, q, .inl rfl⟩
   ·rename_i q; exact ⟨_, q, .inr rfl⟩
   ·cases e3
   ·cases e3
  refine hid fun zP zk => ?_
  obtain ⟨k, hk, kk⟩ := hk
  obtain ⟨k0, mk, lk, hk0⟩ := lookup_relK hk
  refine zk ?_
  clear zk zP
  have nk : k0 = .free := by
   have := K.nocell _ mk
   split at hk0
   ·rename_i q; simp only [Bool.and_eq_true, beq_iff_eq] at q; exact q.1
   ·rcases kk with rfl | rfl
    ·exact absurd hk0.symm this
    ·exact hk0.symm
  subst nk
  have hcell := K.free _ mk rfl
  have hvo : vOk X x = true := by unfold vOk; rw [hcell]
  obtain ⟨v, rv, q⟩ := vr i x d e1 e2 hvo
  refine ⟨v, rv, .inr ⟨.inl ?_, ?_⟩⟩
  ·show (relabel sc env).names.lookup x = _
   rw [hnm, hk, hk0, hcell]; rfl
  ·rcases q with ⟨q, _⟩ | ⟨_, c, hc, ic⟩
   ·exact absurd (show X.kd.lookup x = some .local from hsc ▸ q) (by rw [hcell]; intro z; cases z)
   ·exact ⟨c, cloF_lookup hc mk, ic⟩
 ·obtain ⟨v, e4, rv⟩ := hcv j x d e1 e2
  exact ⟨v, rv, .inl ⟨by show (relabel sc env).names.lookup x = _; rw [hnm]; exact e3, m, hn, e4⟩⟩
 ·rcases List.mem_cons.mp ma with rfl | ma
  ·exact ⟨hC, hn.lt⟩
  ·exact far a (List.mem_cons_of_mem _ (cloF_own ma))
end
end Mine
end

section
open PySem PySem.W PyProof.Rows
namespace Mine

theorem Go.turn {g h h1 : Heap} {ad ad' : List Addr} (x : Go ad g ad' h) (k : ∀ b ob, h.get? b = some ob -> b < g.objs.size -> h1.get? b = some ob) (sz : h.objs.size <= h1.objs.size) : Go ad g ad' h1 :=
 ⟨fun b ob e n1 => let ⟨o', e', l⟩ := x.like b ob e n1; ⟨o', k b o' e' (Heap.lt_size e), l⟩, x.new, Nat.le_trans x.size sz⟩

section
variable {o : Off} {prog : Program} {w : World} {B : Heap} {X : Cx} {env : Env} {A : Around} {E : Value -> Shared -> Prop} {s : Shared} {ad : List Addr}

variable {sc : Scope} {cl : List (Str × Addr)} {C : Addr} {m : Str -> Option Value} {cn : List Str} {cvs : List D} {Q : Unit -> Shared -> Prop}
noncomputable def CvPost (o : Off) (s : Shared) (ad : List Addr) (C : Addr) (cn : List Str) (cvs : List D) (Q : Unit -> Shared -> Prop) : Prop :=
 ∀ h1 m1 tk, h1.Ns C m1 -> (∀ b ob, s.heap.get? b = some ob -> b ≠ C -> h1.get? b = some ob) -> s.heap.objs.size <= h1.objs.size -> (∀ (j : Nat) x d, cn[j]? = some x -> cvs[j]? = some d -> ∃ v, m1 x = some v /\ @VRel o h1 ad d v) -> Q () { s with heap := h1, toks := tk }
theorem cv_plain (K : ScOk X sc cn) : ((compEnvC sc cl C env).scope.kind == .class || ((compEnvC sc cl C env).scope.kind == .module && (compEnvC sc cl C env).locals != (compEnvC sc cl C env).globals)) = false := by
 show (sc.kind == .class || (sc.kind == .module && _)) = false
 rw [K.kind]; rfl
theorem cv_local (K : ScOk X sc cn) : ∀ x ∈ cn, (compEnvC sc cl C env).kindOf x = some .local := fun x mx => lookup_relabel_local (K.cn x mx)
theorem assign_cv1 {x : Str} {px : Pos} {d : D} {v : Value} (K : ScOk X sc [x]) (hC : C ∈ o.xs) (hn : s.heap.Ns C m) (rv : @VRel o s.heap ad d v) (h : CvPost o s ad C [x] [d] Q) :
  wpAny (model prog w) A (assign (.Name x px) (compEnvC sc cl C env) v) Q E s := by
 refine wpAny_assign_Name (wpAny_storeName_local (cv_local K x List.mem_cons_self) hn (fun h1 hn1 sb => ?_) (cv_plain K))
 have kp : ∀ b ob, s.heap.get? b = some ob -> b ≠ C -> h1.get? b = some ob := fun b ob e n => (sb.2 b n).trans e
 refine h h1 _ _ hn1 kp (Nat.le_of_eq sb.1.symm) fun j x' d' e1 e2 => ?_
 cases j with
 | zero => exact Option.some.inj e1 ▸ Option.some.inj e2 ▸ ⟨v, if_pos rfl, @VRel.chg _ _ _ o (fun b ob e n => kp b ob e (fun q => n (q ▸ hC))) _ _ rv⟩
 | succ j => exact nomatch e1
theorem assign_cv2 (hh : A.handled = none) {x y : Str} {px py tp : Pos} {k : Nat} {d e : D} {v : Value} (K : ScOk X sc [x, y]) (hne : x ≠ y) (hC : C ∈ o.xs) (hn : s.heap.Ns C m) (rv : @VRel o s.heap ad (.tup [d, e]) v) (h : CvPost o s ad C [x, y] [d, e] Q) :
  wpAny (model prog w) A (assign (.Tuple [.Name x px, .Name y py] k tp) (compEnvC sc cl C env) v) Q E s := by
 refine hid fun zP zk => ?_
 obtain ⟨t, vs, nn, ez1, na, et, rs⟩ := @vTup o _ _ _ _ rv
 refine zk ?_
 clear zk zP
 subst ez1
 refine hid fun zP zk => ?_
 obtain ⟨a, b, hab, ra, rb⟩ := @vsTwo o _ _ _ _ _ rs
 refine zk ?_
 clear zk zP
 rw [show vs = #[a, b] from Array.toList_inj.mp hab] at et
 refine @assign_pair o prog w _ A s E _ _ _ _ _ _ _ _ _ _ hh ⟨_, et, rfl, nn, rfl⟩ fun h2 eb sz => ?_
 have kp2 : ∀ b ob, s.heap.get? b = some ob -> h2.get? b = some ob := fun b ob e => eb b ob (Nat.ne_of_lt (Heap.lt_size e)) e
 refine wpAny_storeName_local (s := { s with heap := h2 }) (cv_local K x List.mem_cons_self) (hn.keeps kp2) (fun h3 hn3 sb3 => ?_) (cv_plain K)
 refine wpAny_storeName_local (cv_local K y (List.mem_cons_of_mem _ List.mem_cons_self)) hn3 (fun h4 hn4 sb4 => ?_) (cv_plain K)
 have kp : ∀ b ob, s.heap.get? b = some ob -> b ≠ C -> h4.get? b = some ob := fun b ob e n => (sb4.2 b n).trans ((sb3.2 b n).trans (kp2 b ob e))
 have up : ∀ {d v}, @VRel o s.heap ad d v -> @VRel o h4 ad d v := fun r => @VRel.chg _ _ _ o (fun b ob e n => kp b ob e (fun q => n (q ▸ hC))) _ _ r
 refine h h4 _ _ hn4 kp (Nat.le_trans sz (Nat.le_of_eq (sb4.1.trans sb3.1).symm)) fun j x2 d' e1 e2 => ?_
 rcases j with _ | _ | j
 ·exact Option.some.inj e1 ▸ Option.some.inj e2 ▸ ⟨a, (if_neg hne).trans (if_pos rfl), up ra⟩
 ·exact Option.some.inj e1 ▸ Option.some.inj e2 ▸ ⟨b, if_pos rfl, up rb⟩
 ·exact nomatch e1
theorem len2_el {M : List D -> Prop} {l : List D} (h : l.length = 2) (k : ∀ a b, M [a, b]) : M l := by
 rcases l with _ | ⟨a, _ | ⟨b, _ | ⟨c, l⟩⟩⟩
 ·exact nomatch h
 ·exact nomatch h
 ·exact k a b
 ·exact absurd h (by simp)
theorem assign_cv (hh : A.handled = none) {tg : PySem.Expr} {nt : Nat} {d : D} {v : Value} (K : ScOk X sc cn) (ht : tgOk tg nt cn = true) (hc : cvOf nt d = some cvs) (hC : C ∈ o.xs) (hn : s.heap.Ns C m) (rv : @VRel o s.heap ad d v) (h : CvPost o s ad C cn cvs Q) :
  wpAny (model prog w) A (assign tg (compEnvC sc cl C env) v) Q E s := by
 rcases nt with _ | _ | _ | nt
 ·apply onName_el ht; intro x px ht
  rw [dcd ht] at K h
  rw [<- Option.some.inj hc] at h
  exact assign_cv1 K hC hn rv h
 ·exact nft ht
 ·apply onTuple_el ht; intro xs k tp ht
  apply on2_el ht; intro a b ht
  apply onName_el ht; intro x px ht
  apply onName_el ht; intro y py ht
  rw [dcd (ban ht).1] at K h
  revert rv
  refine dT_el (M := fun d => @VRel o s.heap ad d v -> _) hc fun ds hc => gd_el hc fun hl hc rv => ?_
  rw [<- Option.some.inj hc] at h
  revert rv
  revert h
  exact len2_el (M := fun ds => CvPost o s ad C [x, y] ds Q -> @VRel o s.heap ad (.tup ds) v -> _) (of_decide_eq_true hl) fun d e h rv => assign_cv2 hh K (dcd (ban ht).2) hC hn rv h
 ·exact nft ht
end
end Mine
end

section
open PySem PySem.W PyProof.Rows
namespace Mine

theorem lim_line : lim <= sizeLine := by rw [sizeLine_eq]; decide
section
variable [o : Off] {prog : Program} {w : World} {B : Heap} {G : Gs} {f : Fns} {n : Nat} {X : Cx} {env : Env} {cv : List D} {lo : Lo} {A : Around} {E : Value -> Shared -> Prop} {W W' : Wd}
section
variable {Y : Addr} (hY : Y ∈ o.xs) {h' : Heap} (k : ∀ b ob, W'.s.heap.get? b = some ob -> b ≠ Y -> h'.get? b = some ob)
include hY k
theorem Le.turn (l : Le prog w B W W') (sY : W.s.heap.objs.size <= Y) (sz : W'.s.heap.objs.size <= h'.objs.size) (tk : Nat) : Le prog w B W (W'.on h' tk) :=
 ⟨l.st.chg (fun b ob e n => k b ob e fun q => n (q ▸ hY)) sz, sh_trans l.sh ⟨_, _, rfl⟩, let ⟨a, e, g⟩ := l.go; ⟨a, e, g.turn (fun b ob e lt => k b ob e fun q => absurd lt (Nat.not_lt.mpr (q ▸ sY))) sz⟩⟩
theorem RW.turn (C : RW prog w B X env W' lo cv) (own' : ∀ a ∈ own env, a ≠ Y) (sz : W'.s.heap.objs.size <= h'.objs.size) (tk : Nat) : RW prog w B X env (W'.on h' tk) lo cv :=
 have k' : ∀ b ob, W'.s.heap.get? b = some ob -> b ∉ o.xs -> h'.get? b = some ob := fun b ob e n => k b ob e fun q => n (q ▸ hY)
 ⟨C.st.chg k' sz, RC.map (o1 := o) (o2 := o) (fun d v q => q.chg k') (fun a m ob e => k a ob e (own' a m)) (fun a m => ⟨(C.rc.far a m).1, Nat.lt_of_lt_of_le (C.rc.far a m).2 sz⟩) C.rc⟩
theorem VRels.turn {ds : List D} {vs : List Value} (r : VRels W'.s.heap W'.ad ds vs) : VRels h' W'.ad ds vs := r.chg fun b ob e n => k b ob e fun q => n (q ▸ hY)
theorem Itr.turn {I : Addr} {nx : Nat -> Hp -> Option (Option D)} {Inv : Nat -> List Addr -> Heap -> Prop} (T : Itr o prog w B A I nx Inv) {j : Nat} (n : I ≠ Y) (J : Inv j W'.ad W'.s.heap) : Inv j W'.ad h' := by
 have := T.keep (ad' := []) (h' := h') J (fun b ob e _ q => k b ob e fun z => by
  rcases q with q | q
  ·exact n (q.symm.trans z)
  ·exact q.1 (z ▸ hY)) (fun _ m => nomatch m)
 rwa [List.append_nil] at this
end
theorem Le.hard (l : Le prog w B W W') {b : Addr} {ob : Obj} (e : W.s.heap.get? b = some ob) (n : b ∉ W.ad) (hd : Hard ob) : W'.s.heap.get? b = some ob :=
 let ⟨_, _, g⟩ := l.go
 g.keep b ob e n hd
theorem Le.ns (l : Le prog w B W W') {C : Addr} {m : Str -> Option Value} (hn : W.s.heap.Ns C m) (n : C ∉ W.ad) : W'.s.heap.Ns C m := by
 refine hid fun zP zk => ?_
 obtain ⟨ob, es, ep, e, dt, q⟩ := hn
 obtain ⟨a, _, g⟩ := l.go
 obtain ⟨ob', e', dt'⟩ := g.soft _ _ e n
 refine zk ?_
 clear zk zP
 exact ⟨ob', es, ep, e', dt'.trans dt, q⟩
theorem Itr.le {I : Addr} {nx : Nat -> Hp -> Option (Option D)} {Inv : Nat -> List Addr -> Heap -> Prop} (T : Itr o prog w B A I nx Inv) {j : Nat} (l : Le prog w B W W') (J : Inv j W.ad W.s.heap) : Inv j W'.ad W'.s.heap := by
 obtain ⟨a, e, g⟩ := l.go
 rw [e]
 refine T.keep J (fun b ob e n q => g.keep b ob e n ?_) g.new
 rcases q with q | q
 ·refine hid fun zP zk => ?_
  obtain ⟨_, ob', e', c⟩ := T.at_ J
  refine zk ?_
  clear zk zP
  exact Option.some.inj ((q ▸ e).symm.trans e') ▸ c.2
 ·exact q.2
inductive CompAt (o : Off) (prog : Program) (w : World) (B : Heap) (f : Fns) (X : Cx) (env : Env) (lo : Lo) (cv : List D) (W : Wd) (R : List D -> Hp -> Prop) (nx : Nat -> Hp -> Option (Option D)) (ce : Ex) (cond : List Ex) (nt : Nat) (Inv : Nat -> List Addr -> Heap -> Prop) (Da Ca : Addr) (k : Nat) : Shared -> Prop
 | mk (W' : Wd) (j : Nat) (ys : Array Value) (nn : Nat) (dn : List D) (m' : Str -> Option Value) (R' : List D -> Hp -> Prop) (l : Le prog w B W W') (C : RW prog w B X env W' lo cv) (J : Inv j W'.ad W'.s.heap) (eD : W'.s.heap.get? Da = some { cls := .type "list", data := .seq ys nn }) (rd : VRels W'.s.heap W'.ad dn ys.toList) (hn : W'.s.heap.Ns Ca m') (hk : ys.size + k <= lim + 1)
  (h : compN f nx lo ce cond nt k j W'.H R') (im : ∀ xs H, R' xs H -> R (dn ++ xs) H) : CompAt o prog w B f X env lo cv W R nx ce cond nt Inv Da Ca k W'.s
theorem comp_loop (hE : SndE prog w B G f n) (hT : SndT prog w B G f n) (r : Room A n) {elt tg iter : PySem.Expr} {ifs : List PySem.Expr} {sc : Scope} {pos : Pos} {ce : Ex} {cond : List Ex} {nt : Nat} {cn : List Str} {nx : Nat -> Hp -> Option (Option D)} {fu : Nat} {R : List D -> Hp -> Prop}
  {I Da Ca : Addr} {Inv : Nat -> List Addr -> Heap -> Prop} (hI : I ∈ o.xs) (hD : Da ∈ o.xs) (hC : Ca ∈ o.xs) (sI : W.s.heap.objs.size <= I) (sD : W.s.heap.objs.size <= Da) (sC : W.s.heap.objs.size <= Ca) (nID : I ≠ Da) (nIC : I ≠ Ca) (nDC : Da ≠ Ca) (ow : ∀ a ∈ own env, a < W.s.heap.objs.size)
  (K : ScOk X sc cn) (ht : tgOk tg nt cn = true) (ie : IsE G ⟨relK X.kd sc.names, X.names, cn, true⟩ elt ce) (ies : IsEs G ⟨relK X.kd sc.names, X.names, cn, true⟩ ifs cond) (T : Itr o prog w B A I nx Inv) {RR : Result -> Shared -> Prop}
  (hRR : ∀ W' xs m' ys nn, Le prog w B W W' -> R xs W'.H -> VRels W'.s.heap W'.ad xs ys.toList -> W'.s.heap.get? Da = some { cls := .type "list", data := .seq ys nn } -> W'.s.heap.Ns Ca m' -> RR (.ok .next) W'.s) {s' : Shared} (J : CompAt o prog w B f X env lo cv W R nx ce cond nt Inv Da Ca fu s') :
  codeAny (model prog w) A (.compLoop (.ListComp elt [⟨tg, iter, ifs, 0⟩] sc pos) 0 (.ref I) (.ref Da) (compEnvC sc (cloF env.cells sc.names []) Ca env)) RR s' := by
 have owne : ∀ Y, W.s.heap.objs.size <= Y -> ∀ a ∈ own env, a ≠ Y := fun Y sY a m q => absurd (ow a m) (Nat.not_lt.mpr (q ▸ sY))
 refine compLoop_go (CompAt o prog w B f X env lo cv W R nx ce cond nt Inv Da Ca) ?_ fu J
 rintro k s' ⟨W1, j, ys, nn, dn, m1, R', l1, C1, J, eD, rd, hn, hk, h, im⟩
 cases k with
 | zero => exact h.elim
 | succ k =>
  refine op_el h fun x hx h => wD_el (M := fun x => nx j W1.H = some x -> _) h (fun h hx => ?_) (fun d h hx => op_el h fun cvs ecv h => ?_) hx
  ·exact T.done C1.st J hx fun h6 tk6 k6 sz6 => hRR (W1.on h6 tk6) dn m1 ys nn (l1.turn hI k6 sI sz6 tk6) (List.append_nil dn ▸ im [] _ h) (rd.turn hI k6) (k6 _ _ eD (Ne.symm nID)) (hn.at' fun ob e => k6 _ ob e (Ne.symm nIC))
  ·refine T.item C1.st J hx fun v h6 tk6 rv J6 k6 sz6 => ?_
   have l6 := l1.turn hI k6 sI sz6 tk6
   have C6 := C1.turn hI k6 (owne I sI) sz6 tk6
   refine hid fun zP zk => ?_
   obtain ⟨_, obI, eI, cI⟩ := T.at_ J6
   refine zk ?_
   clear zk zP
   refine letGo_calm eI cI (assign_cv (o := o) r.handled K ht ecv hC (hn.at' fun ob e => k6 _ ob e (Ne.symm nIC)) rv fun h7 m7 tk7 hn7 k7 sz7 hcv => ?_)
   have k7 : ∀ b ob, (W1.on h6 tk6).s.heap.get? b = some ob -> b ≠ Ca -> h7.get? b = some ob := k7
   have l7 := l6.turn hC k7 sC sz7 tk7
   have C7 := C6.turn hC k7 (owne Ca sC) sz7 tk7
   have J7 := T.turn hC k7 nIC J6
   have eD7 := k7 _ _ (k6 _ _ eD (Ne.symm nID)) nDC
   have rd7 : VRels h7 W1.ad dn ys.toList := VRels.turn (W' := W1.on h6 tk6) hC k7 (rd.turn hI k6)
   have nC := (C7.st.off Ca hC).2.1
   have nD := (C7.st.off Da hD).2.1
   have Rc : RW prog w B ⟨relK X.kd sc.names, X.names, cn, true⟩ (compEnvC sc (cloF env.cells sc.names []) Ca env) ((W1.on h6 tk6).on h7 tk7) lo cvs := ⟨C7.st, RC.comp (o := o) C7.rc K hn7 nC hcv⟩
   refine ifs_sound (W := (W1.on h6 tk6).on h7 tk7) hT r ies h Rc fun W8 b g8 h8 => ?_
   refine wIf_el (M := fun b => if b = true then _ else _) h8 (fun h => (if_pos rfl).mpr ?_) fun h => (if_neg Bool.false_ne_true).mpr ?_
   ·refine hE ie h r (Rc.up g8) fun W9 y v9 g9 h9 r9 => ?_
    have g := g8.trans g9
    refine wpAny_list_append_plain (hsz := Nat.le_trans (Nat.le_of_succ_le_succ (Nat.le_trans (Nat.succ_le_succ (Nat.le_add_right _ k)) hk)) lim_line) ⟨nn, g.hard eD7 nD (.inl ⟨_, _, rfl⟩)⟩ fun h10 hl10 sb10 => ?_
    obtain ⟨n10, e10⟩ := hl10
    have k10 : ∀ b ob, W9.s.heap.get? b = some ob -> b ≠ Da -> h10.get? b = some ob := fun b ob e n => (sb10.2 b n).trans e
    have sz10 := Nat.le_of_eq sb10.1.symm
    have rd9 := (rd7.up (W := (W1.on h6 tk6).on h7 tk7) g).append (isCons r9 (isNil _ _))
    exact ⟨k, Nat.lt_succ_self _, W9.on h10 W9.s.toks, j + 1, ys.push v9, n10, dn ++ [y], m7, fun xs H => R' (y :: xs) H, (l7.trans g).turn hD k10 sD sz10 _, (C7.up g).turn hD k10 (owne Da sD) sz10 _, T.turn hD k10 nID (T.le g J7), e10,
     by rw [Array.toList_push]; exact rd9.turn hD k10, (g.ns hn7 nC).at' fun ob e => k10 _ ob e (Ne.symm nDC), by rw [Array.size_push]; omega, h9, fun xs H q => by rw [List.append_assoc]; exact im (y :: xs) H q⟩
   ·exact ⟨k, Nat.lt_succ_self _, W8, j + 1, ys, nn, dn, m7, R', l7.trans g8, C7.up g8, T.le g8 J7, g8.hard eD7 nD (.inl ⟨_, _, rfl⟩), rd7.up (W := (W1.on h6 tk6).on h7 tk7) g8, g8.ns hn7 nC, by omega, h, im⟩

theorem comp_core (hE : SndE prog w B G f n) (hT : SndT prog w B G f n) (r : Room A n) {elt tg iter : PySem.Expr} {ifs : List PySem.Expr} {sc : Scope} {pos : Pos} {ce : Ex} {cond : List Ex} {nt : Nat} {cn : List Str} {nx : Nat -> Hp -> Option (Option D)} {fu : Nat} {R : List D -> Hp -> Prop}
  {RR : Value -> Addr -> Result -> Shared -> Prop} {it : Value} {s2 : Shared} (K : ScOk X sc cn) (ht : tgOk tg nt cn = true) (ie : IsE G ⟨relK X.kd sc.names, X.names, cn, true⟩ elt ce) (ies : IsEs G ⟨relK X.kd sc.names, X.names, cn, true⟩ ifs cond)
  (hm : fu <= lim + 1) (h : compN f nx lo ce cond nt fu 0 W.H R) (C : RW prog w B X env W lo cv) (st : Starts o prog w B A W.s W.ad nx it s2)
  (hRR : ∀ I Da Ca W' xs m' ys nn, @Le (offBy o [I, Da, Ca]) prog w B W W' -> R xs W'.H -> @VRels (offBy o [I, Da, Ca]) W'.s.heap W'.ad xs ys.toList -> W'.s.heap.get? Da = some { cls := .type "list", data := .seq ys nn } -> W'.s.heap.Ns Ca m' ->
   W.s.heap.objs.size <= Da -> W.s.heap.objs.size <= Ca -> Da ≠ Ca -> RR (.ref Da) Ca (.ok .next) W'.s) :
  wpAny (model prog w) A (newList []) (fun acc s₃ => wpAny (model prog w) A (newFunctionEnv sc env.globals (cloF env.cells sc.names []) [] env.qual none .none (some env)) (fun cenv s₄ =>
   codeAny (model prog w) A (.compStart (.ListComp elt [⟨tg, iter, ifs, 0⟩] sc pos) 0 it acc { cenv with scope := relabel sc env }) (RR acc cenv.locals) s₄) E s₃) E s2 := by
 refine hid fun zP zk => ?_
 obtain ⟨I, h2, tk2, Inv, ez1, ez2, k2, sI, lI, hI⟩ := st
 refine zk ?_
 clear zk zP
 subst ez1 ez2
 refine wpAny_newObj_type (wpAny_newFunctionEnv K.nocell (by intro y hy; simp at hy) (fun h4 hns4 hsb4 => ?_) K.kind)
 dsimp only at hns4 hsb4 ⊢
 generalize hH3 : h2.push { cls := .type "list", dict := none, data := .seq ([] : List Value).toArray } = h3 at hns4 hsb4 ⊢
 have z3 : h3.objs.size = h2.objs.size + 1 := by rw [<- hH3, Heap.size_push]
 have z4 : h4.objs.size = h3.objs.size + 1 := by rw [hsb4.1, Heap.size_push]
 have k4 : ∀ b ob, h2.get? b = some ob -> h4.get? b = some ob := fun b ob e => (hsb4.2 b (Nat.ne_of_lt (by rw [z3]; exact Nat.lt_succ_of_lt (Heap.lt_size e)))).trans (Heap.get?_push_of_some _ (hH3 ▸ Heap.get?_push_of_some _ e))
 have hD4 : h4.get? h2.objs.size = some { cls := .type "list", data := .seq #[] } := (hsb4.2 _ (Nat.ne_of_lt (by rw [z3]; exact Nat.lt_succ_self _))).trans (Heap.get?_push_of_some _ (hH3 ▸ Heap.get?_push_size _ rfl))
 have lDC : h2.objs.size < h3.objs.size := by rw [z3]; exact Nat.lt_succ_self _
 have lC4 : h3.objs.size < h4.objs.size := by rw [z4]; exact Nat.lt_succ_self _
 clear z3 z4 hsb4 hH3
 generalize h2.objs.size = Da at lI lDC hD4 ⊢
 generalize h3.objs.size = Ca at lDC lC4 hns4 ⊢
 have sD : W.s.heap.objs.size <= Da := Nat.le_trans sI (Nat.le_of_lt lI)
 have sC : W.s.heap.objs.size <= Ca := Nat.le_trans sD (Nat.le_of_lt lDC)
 have hys : ∀ y ∈ [I, Da, Ca], W.s.heap.objs.size <= y /\ y < h4.objs.size := fun y m => by
  simp only [List.mem_cons, List.not_mem_nil, or_false] at m
  rcases m with rfl | rfl | rfl
  ·exact ⟨sI, Nat.lt_trans lI (Nat.lt_trans lDC lC4)⟩
  ·exact ⟨sD, Nat.lt_trans lDC lC4⟩
  ·exact ⟨sC, lC4⟩
 obtain ⟨T, J⟩ := hI [I, Da, Ca] List.mem_cons_self fun y m => (hys y m).1
 have kk : ∀ b ob, W.s.heap.get? b = some ob -> h4.get? b = some ob := fun b ob e => k4 b ob (k2 b ob e)
 have zz : W.s.heap.objs.size <= h4.objs.size := Nat.le_trans sC (Nat.le_of_lt lC4)
 have S4 : @St (offBy o [I, Da, Ca]) prog w B h4 W.ad W.H := C.st.enter kk hys zz
 have R4 : @RC (offBy o [I, Da, Ca]) X env h4 W.ad lo cv :=
  RC.map (o1 := o) (o2 := offBy o [I, Da, Ca]) (fun d v q => q.enter kk fun y m => (hys y m).1) (fun a m ob e => kk a ob e) (fun a m => ⟨(C.rc.far a m).1, Nat.lt_of_lt_of_le (C.rc.far a m).2 zz⟩) C.rc
 have l4 : @Le (offBy o [I, Da, Ca]) prog w B W (W.on h4 tk2) := @Le.mk (offBy o [I, Da, Ca]) prog w B W (W.on h4 tk2) S4 ⟨_, _, rfl⟩ ⟨[], (List.append_nil _).symm, Go.of_keeps kk zz⟩
 have mD : ∀ y ∈ [I, Da, Ca], y ∈ (offBy o [I, Da, Ca]).xs := fun y m => List.mem_append_left _ m
 have loop := @comp_loop (offBy o [I, Da, Ca]) prog w B G f n X env cv lo A W hE hT r elt tg iter ifs sc pos ce cond nt cn nx fu R I Da Ca _ (mD _ (by simp)) (mD _ (by simp)) (mD _ (by simp)) sI sD sC (Nat.ne_of_lt lI) (Nat.ne_of_lt (Nat.lt_trans lI lDC)) (Nat.ne_of_lt lDC) (fun a m => (C.rc.far a m).2) K ht ie ies T
  (RR (.ref Da) Ca) (fun W' xs m' ys nn l h r e q => hRR I Da Ca W' xs m' ys nn l h r e q sD sC (Nat.ne_of_lt lDC)) _ ⟨W.on h4 tk2, 0, #[], 0, [], _, R, l4, @RW.mk (offBy o [I, Da, Ca]) prog w B X env (W.on h4 tk2) lo cv S4 R4, J h4 k4, hD4, @isNil (offBy o [I, Da, Ca]) _ _, hns4, (Nat.zero_add _).symm ▸ hm, h, fun _ _ q => q⟩
 exact codeAny_compStart_list loop (T.self (s := (W.on h4 tk2).s) (J h4 k4) loop)
end
end Mine
end

section
open PySem PySem.W PyProof.Rows
namespace Mine

section
variable [o : Off] {prog : Program} {w : World} {B : Heap} {G : Gs} {f : Fns} {n : Nat} {X : Cx} {env : Env} {cv : List D} {lo : Lo} {A : Around} {E : Value -> Shared -> Prop} {W : Wd} {ad : List Addr}

theorem comp_fin {I D0 C : Addr} {W' : Wd} {xs : List D} {ys : Array Value} {nn : Nat} (S0 : St prog w B W.s.heap W.ad W.H) (l : @Le (offBy o [I, D0, C]) prog w B W W') (rs : @VRels (offBy o [I, D0, C]) W'.s.heap W'.ad xs ys.toList)
  (e : W'.s.heap.get? D0 = some { cls := .type "list", data := .seq ys nn }) (sD : W.s.heap.objs.size <= D0) (nDC : D0 ≠ C) {tr : Bool} {R : D -> Hp -> Prop} (h : wIf tr (R (.ref W'.H.length) (W'.H ++ [.list xs])) (R (.lst xs) W'.H)) :
  ∃ W2 d, W2.s = W'.s /\ @Le (offBy o [C]) prog w B W W2 /\ R d W2.H /\ @VRel (offBy o [C]) W2.s.heap W2.ad d (.ref D0) := by
 refine hid fun zP zk => ?_
 obtain ⟨S, sh, ad', ea, g⟩ := l
 refine zk ?_
 clear zk zP
 have hDo : D0 ∈ (offBy o [I, D0, C]).xs := List.mem_append_left _ (by simp)
 have hsub : ∀ a ∈ (offBy o [C]).xs, a ∈ (offBy o [I, D0, C]).xs := fun a m => by
  rcases List.mem_append.mp m with m | m
  ·rw [List.mem_singleton.mp m]; exact List.mem_append_left _ (by simp)
  ·exact List.mem_append_right _ m
 have hD2 : D0 ∉ (offBy o [C]).xs := fun m => by
  rcases List.mem_append.mp m with m | m
  ·exact nDC (List.mem_singleton.mp m)
  ·exact absurd (S0.off D0 m).1 (Nat.not_lt.mpr sD)
 have len : W'.ad.length = W'.H.length := @St.len (offBy o [I, D0, C]) _ _ _ _ _ _ S
 cases tr with
 | false => exact ⟨W', .lst xs, rfl, @Le.mk (offBy o [C]) prog w B W W' (S.sub hsub) sh ⟨ad', ea, g⟩, h, @iLst (offBy o [C]) _ _ _ _ _ _ ⟨(@St.off (offBy o [I, D0, C]) _ _ _ _ _ _ S D0 hDo).2.1, hD2⟩ e (rs.sub hsub)⟩
 | true =>
  refine ⟨⟨W'.s, W'.ad ++ [D0], W'.H ++ [Ob.list xs]⟩, .ref W'.H.length, rfl, @Le.mk (offBy o [C]) prog w B W _ (St.adopt (x := .list xs) (o1 := offBy o [I, D0, C]) (o2 := offBy o [C]) hDo hsub hD2 S e ⟨ys, nn, rfl, rs⟩) sh ⟨ad' ++ [D0], by rw [ea, List.append_assoc], g.like, fun a m => ?_, g.size⟩, h, ?_⟩
  ·rcases List.mem_append.mp m with m | m
   ·exact g.new a m
   ·rw [List.mem_singleton.mp m]; exact sD
  ·unfold VRel
   refine ⟨D0, rfl, ?_⟩
   rw [<- len]
   simp
theorem Le.leave {W' : Wd} {ys : List Addr} (l : @Le (offBy o ys) prog w B W W') : Le prog w B W W' := by
 obtain ⟨a, b, c⟩ := l
 exact ⟨a.leave, b, c⟩
theorem comp_run {ce : Ex} {sk : SK} {src cond : List Ex} {nt : Nat} {tr : Bool} {R : D -> Hp -> Prop} (h : evStep f cv lo (.comp tr ce sk src cond nt) W.H R) :
  evs f cv lo src W.H fun ds H1 => OP (nxOf sk ds H1) fun nx => wT (decide (turns sk ds <= lim + 1)) <| compN f nx lo ce cond nt (turns sk ds) 0 H1 fun ys H2 => wIf tr (R (.ref H2.length) (H2 ++ [.list ys])) (R (.lst ys) H2) := by
 with_unfolding_all exact h
theorem comp_sound (T : TopOk B G) (hE : SndE prog w B G f n) (hT : SndT prog w B G f n) (r : Room A n) {pe : PySem.Expr} {ce : Ex} {sk : SK} {src cond : List Ex} {nt : Nat} {tr : Bool} {R : D -> Hp -> Prop} {Q : Value -> Shared -> Prop}
  (ie : IsE G X pe (.comp tr ce sk src cond nt)) (h : evStep f cv lo (.comp tr ce sk src cond nt) W.H R) (C : RW prog w B X env W lo cv) (p : PostE prog w B W R Q) : wpAny (model prog w) A (eval pe env) Q E W.s := by
 apply ie.inv
 intro elt tg iter ifs sc pos cn hsc htg isr iel iif
 have K := scOk_of hsc
 rw [eval_ListComp]
 refine wpAny_comprehension_free (use := none) rfl (src_plain isr) (C.rc.cells K) K.kind K.loc (src_sound T hE r isr (comp_run h) C fun W1 ds nx g1 h1 it s2 st => ?_)
 refine comp_core (RR := fun acc C => compPost (model prog w) A E none Q acc C) hE hT r K htg iel iif (of_decide_eq_true (wT_of h1).1) (wT_of h1).2 (C.up g1) st ?_
 intro I D0 Ca W2 xs m' ys nn l2 h2 rs e hn sD sC nDC
 refine ⟨m', hn, fun h'' sb => ?_⟩
 refine hid fun zP zk => ?_
 obtain ⟨W3, d, e3, l3, h3, r3⟩ := comp_fin g1.st l2 rs e sD nDC h2
 refine zk ?_
 clear zk zP
 rw [<- e3] at sb ⊢
 have hCo : Ca ∈ (offBy o [Ca]).xs := List.mem_append_left _ (List.mem_singleton.mpr rfl)
 have k : ∀ b ob, W3.s.heap.get? b = some ob -> b ≠ Ca -> h''.get? b = some ob := fun b ob e n => (sb.2 b n).trans e
 have l4 := @Le.turn (offBy o [Ca]) prog w B W1 W3 Ca hCo h'' k l3 sC (Nat.le_of_eq sb.1.symm) W3.s.toks
 exact p (W3.on h'' W3.s.toks) d (.ref D0) (g1.trans l4.leave) h3 (VRel.leave (@VRel.chg W3.s.heap h'' _ (offBy o [Ca]) (fun b ob e n => k b ob e fun q => n (q ▸ hCo)) _ _ r3))
theorem Fm.map {o1 o2 : Off} {h h' : Heap} {ad2 : List Addr} {names : List Str} (fv : ∀ d v, @VRel o1 h ad d v -> @VRel o2 h' ad2 d v) (kp : ∀ a ∈ own env, ∀ ob, h.get? a = some ob -> ∃ ob', h'.get? a = some ob' /\ ob'.data = ob.data) (fr : ∀ a ∈ own env, a ∉ ad2 /\ a ∉ o2.xs) (fe : o2.fr = o1.fr) (F : @Fm o1 B h ad env names lo) : @Fm o2 B h' ad2 env names lo := by
 refine hid fun zP zk => ?_
 obtain ⟨kind, glob, blt, ns, cell, kinds, nd, len, apart, above, far, offs, soft, frame, inFr⟩ := F
 refine zk ?_
 clear zk zP
 refine @Fm.mk o2 B h' ad2 env names lo kind glob blt ?_ (fun i x e1 e2 => ?_) kinds nd len apart above (fun a m => ⟨(fr a m).1, (far a m).2⟩) (fun a m => (fr a m).2) (fun a m => ?_) frame (fe ▸ inFr)
 ·refine hid fun zP zk => ?_
  obtain ⟨m, ⟨ob, es, ep, e, dt, r⟩, q⟩ := ns
  obtain ⟨ob', e', dt'⟩ := kp _ (own_locals env) _ e
  refine zk ?_
  clear zk zP
  refine ⟨m, ⟨ob', es, ep, e', dt'.trans dt, r⟩, fun i x d e1 e2 e3 => ?_⟩
  obtain ⟨v, e, r⟩ := q i x d e1 e2 e3
  exact ⟨v, e, fv _ _ r⟩
 ·refine hid fun zP zk => ?_
  obtain ⟨c, ov, e3, ⟨ob, e, dt⟩, q⟩ := cell i x e1 e2
  obtain ⟨ob', e', dt'⟩ := kp _ (own_cell e3) _ e
  refine zk ?_
  clear zk zP
  refine ⟨c, ov, e3, ⟨ob', e', dt'.trans dt⟩, fun d e4 => ?_⟩
  obtain ⟨v, e5, r⟩ := q d e4
  exact ⟨v, e5, fv _ _ r⟩
 ·refine hid fun zP zk => ?_
  obtain ⟨ob, e, q⟩ := soft a m
  obtain ⟨ob', e', dt'⟩ := kp a m ob e
  refine zk ?_
  clear zk zP
  exact ⟨ob', e', by rw [dt']; exact q⟩

theorem asgU_sound (T : TopOk B G) (hE : SndE prog w B G f n) (hT : SndT prog w B G f n) (r : Room A n) {names : List Str} {x : Str} {px pos : Pos} {i : Nat} {ce : Ex} {sk : SK} {src cond : List Ex} {nt : Nat} {tr : Bool} {R : Fl -> Lo -> Hp -> Prop} {Q : Flow -> Shared -> Prop} {value : PySem.Expr}
  (h : evStep f [] lo (.comp tr ce sk src cond nt) W.H fun d H1 => R .next (lo.set i (some d)) H1) (F : FW prog w B env names W lo) (p : PostS prog w B env names W R Q) (h1 : names[i]? = some x)
  (hsw : swapsWith value (some (.Name x px)) pos.line env = pure true) (ie : IsE G ⟨env.scope.names, names, [], false⟩ value (.comp tr ce sk src cond nt)) : wpAny (model prog w) A (exec (.Assign [.Name x px] value pos) env) Q E W.s := by
 revert hsw
 apply ie.inv
 intro elt tg iter ifs sc cpos cn hsc htg isr iel iif hsw
 have K := scOk_of hsc
 rw [exec_Assign_Name_used _ _ _ _ hsw]
 refine wpAny_bind (wpAny_standAt (wpAny_bind ?_))
 show wpAny _ A (do let _ <- comprehension (.ListComp elt [⟨tg, iter, ifs, 0⟩] sc cpos) sc env _ (newList []) false (eval iter env) (some (assign (.Name x px) env))) _ _ W.s
 refine wpAny_bind (wpAny_mono (wpAny_comprehension_free (use := some (assign (.Name x px) env)) (Q := fun _ s' => Q .next s') rfl (src_plain isr) (F.rc.rc.cells K) K.kind K.loc (src_sound T hE r isr (comp_run h) F.rc fun W1 ds nx g1 h1' it s2 st => ?_)) (fun _ s' hq => wpAny_pure (wpAny_pure hq)) fun _ _ e => e)
 refine comp_core (RR := fun acc C => compPost (model prog w) A E (some (assign (.Name x px) env)) (fun _ s' => Q .next s') acc C) hE hT r K htg iel iif (of_decide_eq_true (wT_of h1').1) (wT_of h1').2 (F.rc.up g1) st ?_
 intro I D0 C W2 xs m' ys nn l2 h2 rs e hn sD sC nDC
 refine hid fun zP zk => ?_
 obtain ⟨W3, d, e3, l3, h3, r3⟩ := comp_fin (tr := tr) (R := fun d H1 => R .next (lo.set i (some d)) H1) g1.st l2 rs e sD nDC h2
 refine zk ?_
 clear zk zP
 have F1 := F.up g1
 rw [<- e3] at hn ⊢
 have hCo : C ∈ (offBy o [C]).xs := List.mem_append_left _ (List.mem_singleton.mpr rfl)
 have nO : ∀ a, a < W1.s.heap.objs.size -> a ∉ o.xs -> a ∉ (offBy o [C]).xs := fun a lt n z => by
  rcases List.mem_append.mp z with z | z
  ·exact absurd lt (Nat.not_lt.mpr (List.mem_singleton.mp z ▸ sC))
  ·exact n z
 have F3 : @FW (offBy o [C]) prog w B env names W3 lo := by
  refine hid fun zP zk => ?_
  obtain ⟨S3, _, a, ea, g3⟩ := l3
  refine zk ?_
  clear zk zP
  refine @FW.mk (offBy o [C]) prog w B env names W3 lo S3 ?_
  rw [ea]
  refine Fm.map (o1 := o) (o2 := offBy o [C]) (fun d v q => ?_) (fun a m ob e => g3.soft a ob e (F1.fm.far a m).1) (fun a m => ?_) rfl F1.fm
  ·exact VRel.map (o1 := o) (o2 := offBy o [C]) (fun b ob e n1 n2 hd => ⟨g3.keep b ob e n1 hd, g3.notin e n1, nO b (Heap.lt_size e) n2⟩) app_get q
  ·obtain ⟨ob, e, _⟩ := F1.fm.soft a m
   exact ⟨g3.notin e (F1.fm.far a m).1, nO a (Heap.lt_size e) (F1.fm.offs a m)⟩
 have nCad : C ∉ W3.ad := (@St.off (offBy o [C]) _ _ _ _ _ _ (@Le.st (offBy o [C]) _ _ _ _ _ l3) C hCo).2.1
 have nCown : C ∉ own env := fun z => by
  obtain ⟨ob, e, _⟩ := F1.fm.soft C z
  exact absurd (Heap.lt_size e) (Nat.not_lt.mpr sC)
 show wpAny _ A (assign (.Name x px) env (.ref D0)) _ _ _
 refine wpAny_assign_Name (@FW.store (offBy o [C]) prog w B env names lo A W3 _ i x d (.ref D0) _ F3 h1 r3 fun h4 tk4 l4 F4 => ?_)
 have hn4 : h4.Ns C m' := by
  refine hid fun zP zk => ?_
  obtain ⟨ob, es, ep, e, dt, q⟩ := hn
  obtain ⟨_, _, a, _, g4⟩ := l4
  obtain ⟨ob', e', l⟩ := g4.like C ob e nCad nCown
  refine zk ?_
  clear zk zP
  exact ⟨ob', es, ep, e', l.2.trans dt, q⟩
 refine ⟨m', hn4, fun h'' sb => ?_⟩
 have k : ∀ b ob, (W3.on h4 tk4).s.heap.get? b = some ob -> b ≠ C -> h''.get? b = some ob := fun b ob e n => (sb.2 b n).trans e
 have sz := Nat.le_of_eq sb.1.symm
 have l5 : LeS prog w B env W1 ((W3.on h4 tk4).on h'' tk4) := @LeS.leave o prog w B env W1 _ [C] (@LeS.turn (offBy o [C]) prog w B env W1 (W3.on h4 tk4) C (@LeS.trans (offBy o [C]) prog w B W1 W3 _ env (@Le.toS (offBy o [C]) prog w B W1 W3 l3 env) l4) sC hCo h'' k sz tk4)
 exact p _ _ _ .next ((g1.toS env).trans l5) (@FW.leave o prog w B env names _ _ [C] (@FW.turn (offBy o [C]) prog w B env names _ _ C F4 hCo h'' k sz tk4)) h3 rfl
end
end Mine
end

section
open PySem PySem.W PyProof.Rows
namespace Mine

theorem bindL_other (kf : Str -> Option NameKind) {x : Str} : ∀ (l : List (Str × Value)) (m : Str -> Option Value), x ∉ l.map (·.1) -> bindL kf l m x = m x
 | [], m, _ => rfl
 | (y, v) :: r, m, h => by
  unfold bindL
  simp only [List.map_cons, List.mem_cons, not_or] at h
  rw [bindL_other kf r _ h.2]
  split
  ·exact if_neg h.1
  ·rfl
theorem bindC_other (kf : Str -> Option NameKind) {x : Str} : ∀ (l : List (Str × Value)) (m : Str -> Option Value), x ∉ l.map (·.1) -> bindC kf l m x = m x
 | [], m, _ => rfl
 | (y, v) :: r, m, h => by
  unfold bindC
  simp only [List.map_cons, List.mem_cons, not_or] at h
  rw [bindC_other kf r _ h.2]
  split
  ·rfl
  ·exact if_neg h.1
theorem bindL_at (kf : Str -> Option NameKind) {x : Str} {v : Value} (hk : kf x = some .local) : ∀ (l : List (Str × Value)) (m : Str -> Option Value), (l.map (·.1)).Nodup -> (x, v) ∈ l -> bindL kf l m x = some v
 | (y, u) :: r, m, nd, h => by
  unfold bindL
  rw [List.map_cons, List.nodup_cons] at nd
  rcases List.mem_cons.mp h with e | h
  ·cases e
   rw [bindL_other kf r _ nd.1, if_pos hk, if_pos rfl]
  ·exact bindL_at kf hk r _ nd.2 h
theorem bindC_at (kf : Str -> Option NameKind) {x : Str} {v : Value} (hk : kf x ≠ some .local) : ∀ (l : List (Str × Value)) (m : Str -> Option Value), (l.map (·.1)).Nodup -> (x, v) ∈ l -> bindC kf l m x = some v
 | (y, u) :: r, m, nd, h => by
  unfold bindC
  rw [List.map_cons, List.nodup_cons] at nd
  rcases List.mem_cons.mp h with e | h
  ·cases e
   rw [bindC_other kf r _ nd.1, if_neg hk, if_pos rfl]
  ·exact bindC_at kf hk r _ nd.2 h
theorem cellsFrom_keep {x : Str} : ∀ (l : List (Str × NameKind)) (n : Nat) (acc : List (Str × Addr)), (acc.lookup x).isSome = true -> ((cellsFrom n l acc).lookup x).isSome = true
 | [], _, _, h => h
 | (y, k) :: r, n, acc, h => by
  unfold cellsFrom
  split
  ·refine cellsFrom_keep r _ _ ?_
   rw [List.lookup_cons]
   split
   ·rfl
   ·exact h
  ·exact cellsFrom_keep r _ _ h
theorem cellsFrom_has {x : Str} : ∀ (l : List (Str × NameKind)) (n : Nat) (acc : List (Str × Addr)), (x, NameKind.cell) ∈ l -> ((cellsFrom n l acc).lookup x).isSome = true
 | (y, k) :: r, n, acc, h => by
  unfold cellsFrom
  rcases List.mem_cons.mp h with e | h
  ·cases e
   rw [if_pos (by decide)]
   exact cellsFrom_keep r _ _ (by rw [List.lookup_cons, beq_self_eq_true]; rfl)
  ·split
   ·exact cellsFrom_has r _ _ h
   ·exact cellsFrom_has r _ _ h

theorem cellsFrom_lookup : ∀ (l : List (Str × NameKind)) (n : Nat) (acc : List (Str × Addr)), (l.map (·.1)).Nodup -> (∀ p ∈ acc, p.1 ∉ l.map (·.1)) -> (∀ p ∈ acc, acc.lookup p.1 = some p.2) -> ∀ p ∈ cellsFrom n l acc, (cellsFrom n l acc).lookup p.1 = some p.2
 | [], _, _, _, _, h, p, m => h p m
 | (y, k) :: r, n, acc, nd, hd, h, p, m => by
  rw [List.map_cons, List.nodup_cons] at nd
  unfold cellsFrom at m ⊢
  split at m
  ·rename_i q
   rw [if_pos q]
   refine cellsFrom_lookup r _ _ nd.2 (fun p mp => ?_) (fun p mp => ?_) p m
   ·rcases List.mem_cons.mp mp with rfl | mp
    ·exact nd.1
    ·exact fun z => hd p mp (List.mem_cons_of_mem _ z)
   ·rcases List.mem_cons.mp mp with rfl | mp
    ·rw [List.lookup_cons, beq_self_eq_true]
    ·have : p.1 ≠ y := fun z => hd p mp (by rw [z]; exact List.mem_cons_self)
     rw [List.lookup_cons, beq_false_of_ne this]
     exact h p mp
  ·rename_i q
   rw [if_neg q]
   exact cellsFrom_lookup r _ _ nd.2 (fun p mp z => hd p mp (List.mem_cons_of_mem _ z)) h p m

section
variable [o : Off] {prog : Program} {w : World} {B : Heap} {s s1 : Shared} {ad : List Addr} {H : Hp}

@[reducible] def callOff (o : Off) (f : Addr) : Off := ⟨o.xs, f :: o.fr⟩
theorem St.called {h : Heap} {L : Addr} (S : St prog w B h ad H) (n : L ∉ ad /\ L ∉ Off.xs) (b : B.get? L = Option.none) (e : ∃ o es ep, h.get? L = some o /\ o.data = .dict es ep) : @St (callOff o L) prog w B h ad H := by
 refine hid fun zP zk => ?_
 obtain ⟨base, new, nd, len, off, frs, obj⟩ := S
 refine zk ?_
 clear zk zP
 refine @St.mk (callOff o L) prog w B h ad H base new nd len off (fun a m => ?_) fun i a ob e1 e2 => ?_
 ·rcases List.mem_cons.mp m with rfl | m
  ·exact ⟨n, b, e⟩
  ·exact frs a m
 ·obtain ⟨ob', e, r⟩ := obj i a ob e1 e2
  exact ⟨ob', e, ORel.map2 (fun _ _ q => VRel.sub (o1 := o) (o2 := callOff o L) (fun _ m => m) q) (fun _ _ q => VRels.sub (o1 := o) (o2 := callOff o L) (fun _ m => m) q) (fun _ _ e => e) r⟩
theorem St.returned {h : Heap} {L : Addr} {ad : List Addr} {H : Hp} (S : @St (callOff o L) prog w B h ad H) : St prog w B h ad H :=
 St.sub (o1 := callOff o L) (o2 := o) (fun _ m => m) S (fun _ m => List.mem_cons_of_mem _ m)
theorem VRel.returned {h : Heap} {L : Addr} {ad : List Addr} {d : D} {v : Value} (r : @VRel (callOff o L) h ad d v) : VRel h ad d v := VRel.sub (o1 := callOff o L) (o2 := o) (fun _ m => m) r
theorem entry_fm {scope : Scope} {qual : Str} {func : Option Addr} {code : Value} {binds : List (Str × Value)} {names : List Str} {ps : List D} {vs : List Value} {env : Env} (he : env = newEnv scope s.heap.objs.size mainGlobals (cellsFrom (s.heap.objs.size + 1) scope.names []) qual func code none builtinsNs)
  (hk : scope.kind = .function) (hkinds : ∀ x ∈ names, scope.names.lookup x = some .local \/ scope.names.lookup x = some .cell) (nd : names.Nodup) (nds : (scope.names.map (·.1)).Nodup) (hb : binds = (names.take ps.length).zip vs) (hl : ps.length <= names.length) (S : St prog w B s.heap ad H) (rs : VRels s.heap ad ps vs)
  (x : InCallC s env.locals (bindL env.kindOf binds fun _ => none) env.cells (bindC env.kindOf binds fun _ => none) s1) :
  @Fm (callOff o env.locals) B s1.heap ad env names (ps.map some ++ List.replicate (names.length - ps.length) none) /\ @St (callOff o env.locals) prog w B s1.heap ad H /\ Go ad s.heap [] s1.heap := by
 refine hid fun zP zk => ?_
 obtain ⟨⟨⟨h1, tk, ez1⟩, ns, keep, fresh⟩, cell, apart, above⟩ := x
 refine zk ?_
 clear zk zP
 subst ez1
 have hloc : env.locals = s.heap.objs.size := by rw [he]; rfl
 have hcel : env.cells = cellsFrom (s.heap.objs.size + 1) scope.names [] := by rw [he]; rfl
 have hkf : ∀ x, env.kindOf x = scope.names.lookup x := fun x => by rw [he]; rfl
 have sz : s.heap.objs.size <= h1.objs.size := by have := ns.lt; rw [hloc] at this; exact Nat.le_of_lt this
 have rs1 := rs.go (Go.of_keeps (ad := ad) keep sz)
 rw [List.append_nil] at rs1
 replace rs1 : @VRels (callOff o env.locals) h1 ad ps vs := VRels.sub (o1 := o) (o2 := callOff o env.locals) (fun a m => m) rs1
 have hnb : (binds.map (·.1)).Nodup := by
  rw [hb]
  have : ((names.take ps.length).zip vs).map (·.1) = names.take ps.length := List.map_fst_zip (by have := rs.length; rw [List.length_take]; omega)
  rw [this]
  exact nd.sublist (List.take_sublist _ _)
 have hown : ∀ a ∈ own env, s.heap.objs.size <= a := fun a m => by
  rcases List.mem_cons.mp m with rfl | m
  ·rw [hloc]; exact Nat.le_refl _
  ·obtain ⟨p, mp, rfl⟩ := List.mem_map.mp m
   have := above p.1 p.2 mp
   rw [hloc] at this
   exact Nat.le_of_lt this
 have hget : ∀ (i : Nat) (x : Str) (d : D), names[i]? = some x -> (ps.map some ++ List.replicate (names.length - ps.length) none)[i]? = some (some d) -> ∃ v, (x, v) ∈ binds /\ @VRel (callOff o env.locals) h1 ad d v := by
  intro i x d e1 e2
  by_cases hi : i < ps.length
  ·rw [List.getElem?_append_left (by simpa using hi), List.getElem?_map] at e2
   obtain ⟨d', e3, e4⟩ := Option.map_eq_some_iff.mp e2
   cases e4
   obtain ⟨v, ev, rv⟩ := @VRels.get (callOff o env.locals) _ _ _ _ rs1 _ _ e3
   refine ⟨v, ?_, rv⟩
   rw [hb]
   refine List.mem_of_getElem? (i := i) ?_
   rw [List.getElem?_zip_eq_some]
   exact ⟨by rw [List.getElem?_take, if_pos hi]; exact e1, ev⟩
  ·have hi := Nat.not_lt.mp hi
   rw [List.getElem?_append_right (by simpa using hi)] at e2
   obtain ⟨lt, e3⟩ := List.getElem?_eq_some_iff.mp e2
   rw [List.getElem_replicate] at e3
   cases e3
 have hlenn : (ps.map some ++ List.replicate (names.length - ps.length) (none : Option D)).length = names.length := by
  rw [List.length_append, List.length_map, List.length_replicate]; omega
 refine ⟨@Fm.mk (callOff o env.locals) B h1 ad env names _ (by rw [he]; exact hk) (by rw [he]; rfl) (by rw [he]; rfl) ⟨_, ns, fun i x d e1 e2 e3 => ?_⟩ (fun i x e1 e2 => ?_) (fun x m => by rw [hkf]; exact hkinds x m) nd hlenn apart (fun c m => ?_) (fun a m => ⟨S.size_notin (hown a m), ?_⟩) (fun a m q => absurd (S.off a q).1 (Nat.not_lt.mpr (hown a m))) (fun a m => ?_) (by rw [he]; rfl) List.mem_cons_self, St.called (S.keeps keep sz) (S.size_away (hown _ (own_locals env))) ?_ (let ⟨ob, es, ep, e, dt, _⟩ := ns; ⟨ob, es, ep, e, dt⟩), Go.of_keeps keep sz⟩
 ·obtain ⟨v, mv, rv⟩ := hget i x d e1 e2
  exact ⟨v, bindL_at _ e3 binds _ hnb mv, rv⟩
 ·have hm : (x, NameKind.cell) ∈ scope.names := mem_of_lookup (by rw [<- hkf]; exact e2)
  obtain ⟨c, hc⟩ := Option.isSome_iff_exists.mp (cellsFrom_has scope.names (s.heap.objs.size + 1) [] hm)
  rw [<- hcel] at hc
  refine ⟨c, _, hc, cell x c hc, fun d e3 => ?_⟩
  obtain ⟨v, mv, rv⟩ := hget i x d e1 e3
  exact ⟨v, bindC_at _ (by rw [e2]; intro z; cases z) binds _ hnb mv, rv⟩
 ·obtain ⟨p, mp, rfl⟩ := List.mem_map.mp m
  exact Nat.ne_of_lt (above p.1 p.2 mp)
 ·cases q : B.get? a with
  | none => rfl
  | some ob => exact absurd (Heap.lt_size (S.base _ _ q)) (Nat.not_lt.mpr (hown a m))
 ·rcases List.mem_cons.mp m with rfl | m
  ·refine hid fun zP zk => ?_
   obtain ⟨ob, es, ep, e, dt, _⟩ := ns
   refine zk ?_
   clear zk zP
   exact ⟨ob, e, by rw [dt]; trivial⟩
  ·obtain ⟨p, mp, rfl⟩ := List.mem_map.mp m
   have hlk : env.cells.lookup p.1 = some p.2 := by
    rw [hcel] at mp ⊢
    exact cellsFrom_lookup _ _ [] nds (by intro p m; cases m) (by intro p m; cases m) p mp
   obtain ⟨ob, e, dt⟩ := cell p.1 p.2 hlk
   exact ⟨ob, e, by rw [dt]; trivial⟩
 ·cases q : B.get? env.locals with
  | none => rfl
  | some ob => exact absurd (Heap.lt_size (S.base _ _ q)) (Nat.not_lt.mpr (hown _ (own_locals env)))
end
end Mine
end

section
open PySem PySem.W PyProof.Rows
namespace Mine
noncomputable def ArgsR [Off] (G : Gs) (fid : Nat) (h : Heap) (ad : List Addr) (ds : List D) (args : Args) : Prop :=
 (args.kw = [] /\ ∃ ds1 dx, ds = ds1 ++ dx /\ VRels h ad ds1 args.pos /\ G.dx fid ds1.length = some dx) \/
 (∃ d e v u kn, ds = [d, e] /\ args = ⟨[v], [(kn, u)]⟩ /\ G.kw fid = some kn /\ VRel h ad d v /\ VRel h ad e u)

noncomputable def BindOk (prog : Program) (w : World) (B : Heap) (G : Gs) (fid : Nat) (fs : FnS) (fd : FuncData) (names : List Str) : Prop := ∀ [Off] {A : Around} {s : Shared} {ad : List Addr} {H : Hp} {ds ps : List D} {args : Args} {Q : List (Str × Value) -> Shared -> Prop} {E : Value -> Shared -> Prop}, St prog w B s.heap ad H -> ArgsR G fid s.heap ad ds args -> psOf fs ds = some ps ->
  (∀ h1 tk vs, (∀ b ob, s.heap.get? b = some ob -> h1.get? b = some ob) -> VRels h1 ad ps vs -> Q ((names.take ps.length).zip vs) { s with heap := h1, toks := tk }) -> wpAny (model prog w) A (bindArgs fd args) Q E s
structure FunOk (prog : Program) (w : World) (B : Heap) (G : Gs) (a : Addr) (fid : Nat) (fs : FnS) (ob : Obj) (fd : FuncData) (body : List PySem.Stmt) (names : List Str) : Prop where
 at_ : B.get? a = some ob
 data : ob.data = .func fd
 nco : fd.scope.isCoroutine = false
 ngen : fd.scope.isGenerator = false
 hbody : fd.body = .stmts body
 code : B.CodeRec fd.code fd.qualname
 kind : fd.scope.kind = .function
 glob : fd.globals = mainGlobals
 blt : fd.builtins = builtinsNs
 clo : fd.closure = []
 kinds : ∀ x ∈ names, fd.scope.names.lookup x = some .local \/ fd.scope.names.lookup x = some .cell
 nd : names.Nodup
 nds : (fd.scope.names.map (·.1)).Nodup
 len : names.length = fs.nl
 stm : IsSs G ⟨fd.scope.names, names, [], false⟩ body fs.body
 le : ∀ ds ps, psOf fs ds = some ps -> ps.length <= names.length
 bind : BindOk prog w B G fid fs fd names

noncomputable def FunsOk (prog : Program) (w : World) (B : Heap) (G : Gs) (T : Nat -> Option FnS) : Prop := ∀ a fid, G.fid a = some fid -> ∀ fs, T fid = some fs -> ∃ ob fd body names, FunOk prog w B G a fid fs ob fd body names

noncomputable def SndC (prog : Program) (w : World) (B : Heap) (G : Gs) (c : Nat -> List D -> Hp -> (D -> Hp -> Prop) -> Prop) (n : Nat) : Prop := ∀ [Off] {fid : Nat} {a : Addr} {ds : List D} {A : Around} {W : Wd} {args : Args} {R : D -> Hp -> Prop} {K : Result -> Shared -> Prop},
 G.fid a = some fid -> c fid ds W.H R -> Room A n -> St prog w B W.s.heap W.ad W.H -> ArgsR G fid W.s.heap W.ad ds args -> (∀ W' d v, Le prog w B W W' -> R d W'.H -> VRel W'.s.heap W'.ad d v -> K (.ok (.ret v)) W'.s) -> codeAny (model prog w) A (.call (.ref a) args) K W.s

section
variable [o : Off] {prog : Program} {w : World} {B : Heap} {G : Gs} {T : Nat -> Option FnS} {n : Nat}
theorem retQ_el {M : Flow -> Prop} {h : Heap} {ad : List Addr} {R : D -> Hp -> Prop} {fl : Fl} {g : Flow} {lo : Lo} {H : Hp} (q : retQ R fl lo H) (r : FlRel h ad fl g) (c1 : ∀ d v, R d H -> VRel h ad d v -> M (.ret v)) (c2 : R .none H -> M .next) : M g := by
 cases fl with
 | ret d =>
  obtain ⟨v, e, rv⟩ := r
  exact e ▸ c1 d v q rv
 | next => exact (show g = .next from r) ▸ c2 q
 | _ => exact False.elim q
omit o in
theorem call_sound {k : Nat} (TO : TopOk B G) (FO : FunsOk prog w B G T) (hS : SndS prog w B G (fnsN (callN T k) 30) n) : SndC prog w B G (callN T (k + 1)) (n + 1) := by
 intro o fid a ds A W args R K0 hf hc r S ar p
 refine wO_el hc fun fs hT hc => wO_el hc fun ps hps h => ?_
 refine hid fun zP zk => ?_
 obtain ⟨ob, fd, body, names, K⟩ := FO a fid hf fs hT
 refine zk ?_
 clear zk zP
 refine codeAny_call_function (by have := r.depth; omega) (S.base _ _ K.at_) K.data K.nco K.ngen K.hbody (K.code.keeps S.base) ?_
 refine with_size (K.bind S ar hps fun h1 tk1 vs k1 rs sz1 => ?_)
 rw [K.glob, K.blt, K.clo]
 have S1 := S.keeps k1 sz1
 refine wpAny_newFunctionEnv_cells (s := { W.s with heap := h1, toks := tk1 }) K.kind (fun x m => ?_) fun env he s2 x => ?_
 ·have mx : x.1 ∈ names := by
   obtain ⟨i, hi⟩ := List.getElem?_of_mem m
   rw [List.getElem?_zip_eq_some] at hi
   exact List.mem_of_mem_take (List.mem_of_getElem? hi.1)
  rcases K.kinds x.1 mx with q | q
  ·exact .inl q
  ·exact .inr ⟨q, cellsFrom_has _ _ _ (mem_of_lookup q)⟩
 ·refine hid fun zP zk => ?_
  obtain ⟨F2, S2, g2⟩ := entry_fm (s := { W.s with heap := h1, toks := tk1 }) he K.kind K.kinds K.nd K.nds rfl (K.le _ _ hps) S1 rs x
  obtain ⟨⟨h2, tk2, ez1⟩, _, keep2, fresh2⟩ := x.toInCall
  refine zk ?_
  clear zk zP
  subst ez1
  refine ⟨TO.nolimit.keeps (St.returned S2).base, codeAny_func ?_⟩
  rw [K.len] at F2
  have stm := K.stm
  rw [show fd.scope.names = env.scope.names by rw [he]; rfl] at stm
  have hown : ∀ a ∈ own env, h1.objs.size <= a := fun a m => by
   rcases List.mem_cons.mp m with rfl | m
   ·exact fresh2
   ·obtain ⟨q, mq, rfl⟩ := List.mem_map.mp m
    exact Nat.le_of_lt (Nat.lt_of_le_of_lt fresh2 (x.above q.1 q.2 mq))
  refine exs_sound (o := callOff o env.locals) (W := W.on h2 tk2) hS (r.deeper (by rw [he]; rfl) (by rw [he]; exact K.kind)) stm h (fun _ _ _ h => h) (@FW.mk (callOff o env.locals) prog w B env names (W.on h2 tk2) _ S2 F2) fun W3 fl lo3 g l3 F3 h3 r3 => ?_
  refine hid fun zP zk => ?_
  obtain ⟨S3, sh3, ad3, e3, g3⟩ := l3
  refine zk ?_
  clear zk zP
  have l : Le prog w B W W3 := ⟨St.returned S3, sh_trans ⟨_, _, rfl⟩ sh3, ad3, e3, fun b ob e nb => g3.like b ob (keep2 b ob (k1 b ob e)) nb (fun z => absurd (Heap.lt_size (k1 b ob e)) (Nat.not_lt.mpr (hown b z))),
   fun a m => Nat.le_trans (Nat.le_trans sz1 g2.size) (g3.new a m), Nat.le_trans (Nat.le_trans sz1 g2.size) g3.size⟩
  refine @retQ_el (callOff o env.locals) (fun g => K0 (.ok (.ret (match g with | .ret v => v | _ => .none))) W3.s) _ _ _ _ _ _ _ h3 r3 (fun d v h3 rv => ?_) fun h3 => ?_
  ·exact p W3 d v l h3 (VRel.returned rv)
  ·exact p W3 .none .none l h3 (iNone _ _)
end
end Mine
end

section
open PySem PySem.W PyProof.Rows
namespace Mine

noncomputable def FnAt (B : Heap) (G : Gs) : Prop := ∀ a fid, G.fid a = some fid -> ∃ ob fd, B.get? a = some ob /\ ob.data = .func fd

section
variable [o : Off] {prog : Program} {w : World} {B : Heap} {G : Gs} {f : Fns} {n : Nat} {X : Cx} {env : Env} {cv : List D} {lo : Lo} {A : Around} {E : Value -> Shared -> Prop} {W : Wd} {Q : Value -> Shared -> Prop} {R : D -> Hp -> Prop}
variable (T : TopOk B G) (FA : FnAt B G) (hE : SndE prog w B G f n) (hC : SndC prog w B G f.call n) (r : Room A n) (C : RW prog w B X env W lo cv) (p : PostE prog w B W R Q)
include T FA hE hC r C p
theorem fn_sound {pe : PySem.Expr} {fid : Nat} {as : List Ex} {dx : List D} (ie : IsE G X pe (.fn fid as dx)) (h : evStep f cv lo (.fn fid as dx) W.H R) : wpAny (model prog w) A (eval pe env) Q E W.s := by
 apply ie.inv
 intro x q args pos a h1 h2 h3 hf hdx ies
 refine hid fun zP zk => ?_
 obtain ⟨ob, fd, e1, e2⟩ := FA _ _ hf
 refine zk ?_
 clear zk zP
 exact wpAny_Call_ofName (C.loadG T h1 h2 h3 (Calls.callWith_function (o := ob) (fd := fd) (args_sound hE r ies h C fun W1 ds vs g1 hc rs l => ⟨⟨g1.st.base _ _ e1, e2⟩, wpAny_call
  (hC hf hc r g1.st (.inl ⟨rfl, ds, dx, rfl, rs, by rw [l]; exact hdx⟩) fun W2 d v g2 hr rv => p W2 d v (g1.trans g2) hr rv)⟩)))
theorem fnk_sound {pe : PySem.Expr} {fid : Nat} {as : List Ex} {kw : Ex} (ie : IsE G X pe (.fnk fid as kw)) (h : evStep f cv lo (.fnk fid as kw) W.H R) : wpAny (model prog w) A (eval pe env) Q E W.s := by
 apply ie.inv
 intro x q args kn kv kp pos a h1 h2 h3 hf hkw hl ies ik
 refine hid fun zP zk => ?_
 obtain ⟨ob, fd, e1, e2⟩ := FA _ _ hf
 refine zk ?_
 clear zk zP
 refine wpAny_Call_ofName (C.loadG T h1 h2 h3 (callWith_function_kw (o := ob) (fd := fd) ?_))
 have key := fun K (k : ∀ W1 ds vs, Le prog w B W W1 -> _ -> VRels W1.s.heap W1.ad ds vs -> ds.length = as.length -> K vs W1.s) => evs_sound (E := E) (pos := pos) (K := K) hE r ies h C k
 revert key
 obtain ⟨a0, rfl⟩ := List.length_eq_one_iff.mp hl
 apply ies.inv
 intro x0 xs ia _ key
 rw [ia.star, backTo_cons]
 refine evalArgs_kw rfl ?_
 rw [<- backTo_cons, <- ia.star]
 refine key _ fun W1 ds vs g1 hc rs l => ?_
 obtain ⟨d0, rfl⟩ := List.length_eq_one_iff.mp l
 apply vsOne_el rs
 intro v rv
 refine wpAny_evalAll_cons (wpAny_bind (hE ik hc r (C.up g1) fun W2 d u g2 hc ru => wpAny_bind (wpAny_standAt (wpAny_pure (wpAny_evalAll_nil ⟨⟨g2.st.base _ _ e1, e2⟩, wpAny_call ?_⟩)))))
 exact hC hf hc r g2.st (.inr ⟨d0, d, v, u, _, rfl, rfl, hkw, rv.up g2, ru⟩) fun W3 d3 v3 g3 hr rv3 => p W3 d3 v3 ((g1.trans g2).trans g3) hr rv3
end
end Mine
end

section
open PySem
namespace Mine
noncomputable def Dead (h h' : Heap) : Prop := ∀ a, a < h.objs.size -> h.get? a = none -> h'.get? a = none
theorem Dead.refl (h : Heap) : Dead h h := fun _ _ e => e
theorem Dead.push {h g : Heap} (o : Obj) (x : Dead (h.push o) g) : Dead h g := fun a lt e => x a (by rw [Heap.size_push]; omega) (by
 rw [Heap.get?_push_ne _ _ _ (Nat.ne_of_lt lt)]; exact e)
theorem Dead.update {h g : Heap} {b : Addr} {f : Obj -> Obj} {ob : Obj} (hb : h.get? b = some ob) (x : Dead (h.update b f) g) : Dead h g := fun a lt e => x a (by rw [Heap.size_after_update]; exact lt) (by
 have : a ≠ b := by rintro rfl; rw [e] at hb; cases hb
 rw [Heap.get?_update_ne _ _ _ _ this]; exact e)
theorem Dead.trans {h g k : Heap} (x : Dead h g) (sz : h.objs.size <= g.objs.size) (y : Dead g k) : Dead h k := fun a lt e => y a (Nat.lt_of_lt_of_le lt sz) (x a lt e)
theorem Runs.dead {M : Model} {Γ : Ctx} {p : Pos} {t : Sem PySem.Fin} {fs : List Frame} {s s' : Shared} {e : End} (h : Runs M Γ p t fs s e s') : Dead s.heap s'.heap /\ s.heap.objs.size <= s'.heap.objs.size := by
 induction h
 all_goals first
  | exact ⟨Dead.refl _, Nat.le_refl _⟩
  | assumption
  | (rename_i hb _ ih; obtain ⟨ob, hb⟩ := Option.isSome_iff_exists.mp hb; exact ⟨Dead.update hb ih.1, by have := ih.2; simpa using this⟩)
  | (rename_i ih; exact ⟨Dead.push _ ih.1, by have := ih.2; simp only [Heap.size_push] at this; omega⟩)
  | (rename_i ih1 ih2; exact ⟨Dead.trans ih1.1 ih1.2 ih2.1, Nat.le_trans ih1.2 ih2.2⟩)
  | (rename_i ih1 _ ih2; exact ⟨Dead.trans ih1.1 ih1.2 ih2.1, Nat.le_trans ih1.2 ih2.2⟩)
  | (rename_i ih1 _ _ ih2; exact ⟨Dead.trans ih1.1 ih1.2 ih2.1, Nat.le_trans ih1.2 ih2.2⟩)
  | (rename_i ih1 ih2 _; exact ⟨Dead.trans ih1.1 ih1.2 ih2.1, Nat.le_trans ih1.2 ih2.2⟩)
  | trace_state
theorem Wakes.dead {M : Model} {Γ : Ctx} {p : Pos} {g : Nat} {r : Resume} {s s' : Shared} {res : GenResult} (h : Wakes M Γ p g r s res s') : Dead s.heap s'.heap /\ s.heap.objs.size <= s'.heap.objs.size := by
 unfold Wakes at h
 split at h
 ·exact h.elim
 ·split at h
  ·obtain ⟨e₁, s₁, hr, _, _, rfl⟩ := h; exact (Runs.dead hr : Dead (s.setGen g .running).heap s₁.heap /\ _)
  ·rw [h.2]; exact ⟨Dead.refl _, Nat.le_refl _⟩
  ·rw [h.2]; exact ⟨Dead.refl _, Nat.le_refl _⟩
 ·obtain ⟨e₁, s₁, hr, _, _, rfl⟩ := h; exact (Runs.dead hr : Dead (s.setGen g .running).heap s₁.heap /\ _)
 ·rw [h.2]; exact ⟨Dead.refl _, Nat.le_refl _⟩
 ·rw [h.2]; exact ⟨Dead.refl _, Nat.le_refl _⟩
noncomputable def DeadS (h h' : Heap) : Prop := Dead h h' /\ h.objs.size <= h'.objs.size
theorem DeadS.trans {h g k : Heap} (x : DeadS h g) (y : DeadS g k) : DeadS h k := ⟨x.1.trans x.2 y.1, Nat.le_trans x.2 y.2⟩
theorem DeadS.pushed (h : Heap) (o : Obj) : DeadS h (h.push o) := ⟨Dead.push o (Dead.refl _), by rw [Heap.size_push]; omega⟩
theorem DeadS.updated {h : Heap} {b : Addr} {f : Obj -> Obj} (hb : (h.get? b).isSome = true) : DeadS h (h.update b f) := by
 obtain ⟨ob, hb⟩ := Option.isSome_iff_exists.mp hb
 exact ⟨Dead.update hb (Dead.refl _), by simp⟩
theorem wp_dead {α : Type} (M : Model) (Γ : Ctx) (n : Heap) (t : Sem α) : ∀ (Q : α -> Pos -> Shared -> Prop) (E : Value -> Pos -> Shared -> Prop) (p : Pos) (s : Shared), DeadS n s.heap -> Sem.wp M Γ t Q E p s ->
  Sem.wp M Γ t (fun a p' s' => DeadS n s'.heap /\ Q a p' s') (fun e p' s' => DeadS n s'.heap /\ E e p' s') p s := by
 induction t with
 | pure a => intro Q E p s hn h; exact ⟨hn, h⟩
 | raise e => intro Q E p s hn h; exact ⟨hn, h⟩
 | unsupported _ => intro Q E p s _ h; exact h
 | finish _ => intro Q E p s _ h; exact h
 | rule _ k ih => intro Q E p s hn h; exact ih () Q E p s hn h
 | «at» p' k ih => intro Q E p s hn h; exact ih () Q E p' s hn h
 | load a _ k ih => intro Q E p s hn h; obtain ⟨o, ho, h⟩ := h; exact ⟨o, ho, ih o Q E p s hn h⟩
 | update a _ f k ih => intro Q E p s hn h; exact ⟨h.1, ih () Q E p _ (hn.trans (DeadS.updated h.1)) h.2⟩
 | loadIfAlive a k ih => intro Q E p s hn h; exact ih _ Q E p s hn h
 | point _ k ih => intro Q E p s hn h; exact ih () Q E p s hn h
 | register _ _ => intro Q E p s _ h; exact h
 | alloc o k ih => intro Q E p s hn h; exact ih _ Q E p _ (hn.trans (DeadS.pushed _ _)) h
 | fresh k ih => intro Q E p s hn h; exact ih _ Q E p _ hn h
 | ask k ih => intro Q E p s hn h; exact ih _ Q E p s hn h
 | choose src m k ih => intro Q E p s hn h; exact ⟨h.1, ih _ Q E p _ hn h.2⟩
 | os q _ k ih => intro Q E p s hn h; exact ih _ Q E p _ hn h
 | call c hd _ _ k ih => intro Q E p s hn h; obtain ⟨r, s', hr, h⟩ := h; exact ⟨r, s', hr, ih r Q E p s' (hn.trans (Runs.dead hr)) h⟩
 | handled own k ih => intro Q E p s hn h; exact ih _ Q E p s hn h
 | genState g k ih => intro Q E p s hn h; obtain ⟨st, hs, h⟩ := h; exact ⟨st, hs, ih _ Q E p s hn h⟩
 | newGen c k ih => intro Q E p s hn h; exact ih _ Q E p _ hn h
 | resume g r _ k ih => intro Q E p s hn h; obtain ⟨res, s', hw, h⟩ := h; exact ⟨res, s', hw, ih res Q E p s' (hn.trans (Wakes.dead hw)) h⟩
 | yield _ _ _ _ => intro Q E p s _ h; exact h
 | stack k ih => intro Q E p s hn h; exact ih _ Q E p s hn h
 | fork _ _ => intro Q E p s _ h; exact h
 | thread k ih => intro Q E p s hn h; exact ih _ Q E p s hn h
 | await _ _ _ _ _ => intro Q E p s _ h; exact h
theorem with_dead {α : Type} {M : Model} {A : Around} {s : Shared} {t : Sem α} {Q : α -> Shared -> Prop} {E : Value -> Shared -> Prop} (h : wpAny M A t (fun a s' => DeadS s.heap s'.heap -> Q a s') E s) : wpAny M A t Q E s :=
 fun Γ p hΓ => Sem.wp_mono M Γ t (fun _ _ _ x => x.2 x.1) (fun _ _ _ x => x.2) _ _ (wp_dead M Γ _ t _ _ p s ⟨Dead.refl _, Nat.le_refl _⟩ (h Γ p hΓ))
theorem new_of_dead {h g : Heap} {ob : Obj} (kp : ∀ b o, h.get? b = some o -> g.get? b = some o) (hf : ob.isFreed = false) (d : DeadS h (g.push ob)) : h.objs.size <= g.objs.size := by
 refine Nat.le_of_not_lt fun lt => ?_
 cases e : h.get? g.objs.size with
 | some o => exact absurd (Heap.lt_size (kp _ _ e)) (Nat.lt_irrefl _)
 | none =>
  have := d.1 _ lt e
  rw [Heap.get?_push_size _ hf] at this
  cases this
end Mine
end

section
open PySem PySem.W PyProof.Rows
namespace Mine

theorem ifLim_el {α : Type} {P : Prop} {n : Nat} {x y : α} (e : ifLim n x = some y) (c : n <= lim -> x = y -> P) : P := by
 unfold ifLim at e
 cases q : decide (n <= lim) with
 | true => rw [q] at e; exact c (of_decide_eq_true q) (Option.some.inj e)
 | false => rw [q] at e; exact nomatch e
theorem lim_small {n : Nat} (h : n <= lim) : (n : Int) < 2 ^ 63 := by unfold lim at h; omega

section
variable [o : Off] {prog : Program} {w : World} {B : Heap} {n : Nat} {A : Around} {E : Value -> Shared -> Prop} {s : Shared} {ad : List Addr} {H : Hp} {Q : Value -> Shared -> Prop}

theorem ints_are {h : Heap} {ds : List D} {is : List Int} (e : intsOf ds = some is) {vs : List Value} (r : VRels h ad ds vs) : IntsAre vs is := by
 induction ds generalizing is vs with
 | nil => rw [<- Option.some.inj e, vsNil r]; exact .nil
 | cons d ds ih =>
  apply vsCons_el r
  intro v t rv rs
  cases d with
  | int i =>
   apply vInt_el rv
   exact fun tk => map_el e fun is' e' q => q ▸ .cons i tk (ih e' rs)
  | _ => exact nomatch e
theorem len_list_s {l : Addr} {vs : Array Value} {m : Nat} {ds : List D} (g : s.heap.get? l = some { cls := .type "list", data := .seq vs m }) (rs : VRels s.heap ad ds vs.toList) (hl : ds.length <= lim) (p : PostK s ad (.int ds.length) Q) : wpAny (model prog w) A (call (.builtin "len") [.ref l]) Q E s := by
 have e : vs.size = ds.length := by have := rs.length; simpa using this.symm
 refine Calls.call_len_list ⟨_, g, rfl, m, rfl⟩ (by rw [e]; exact lim_small hl) ?_
 rw [e]
 exact p.same (iInt _ _ _ _) _
theorem len_tup_s {l : Addr} {vs : Array Value} {m : Nat} {ds : List D} (g : s.heap.get? l = some { cls := .type "tuple", data := .seq vs m }) (rs : VRels s.heap ad ds vs.toList) (hl : ds.length <= lim) (p : PostK s ad (.int ds.length) Q) : wpAny (model prog w) A (call (.builtin "len") [.ref l]) Q E s := by
 have e : vs.size = ds.length := by have := rs.length; simpa using this.symm
 refine len_tuple ⟨_, g, rfl, m, rfl⟩ (by rw [e]; exact lim_small hl) ?_
 rw [e]
 exact p.same (iInt _ _ _ _) _
theorem tuple_s {l : Addr} {vs : Array Value} {m : Nat} {ds : List D} (S : St prog w B s.heap ad H) (g : s.heap.get? l = some { cls := .type "list", data := .seq vs m }) (rs : VRels s.heap ad ds vs.toList) (hl : ds.length <= lim) (p : PostK s ad (.tup ds) Q) : wpAny (model prog w) A (call (.type "tuple") [.ref l]) Q E s := by
 have e : vs.size = ds.length := by have := rs.length; simpa using this.symm
 have hlim := lim_line
 refine with_dead (call_tuple_list ⟨_, g, rfl, m, rfl⟩ (fun h' k dd => ?_) (by omega))
 have sz : s.heap.objs.size <= h'.objs.size := new_of_dead k rfl dd
 have S' := S.keeps k sz
 have rs' := rs.go (Go.of_keeps (ad := ad) k sz)
 rw [List.append_nil] at rs'
 exact PostK.tup (s := { s with heap := h' }) S' rs' (fun h2 v tk k2 sz2 r => p h2 v tk (fun b ob e => k2 b ob (k b ob e)) (Nat.le_trans sz sz2) r) s.toks
theorem bytes_s {l : Addr} {vs : Array Value} {m : Nat} {ds : List D} {d : D} (hr : Room A n) (g : s.heap.get? l = some { cls := .type "list", data := .seq vs m }) (rs : VRels s.heap ad ds vs.toList) (hb : bytesOf ds = some d) (p : PostK s ad d Q) : wpAny (model prog w) A (call (.type "bytes") [.ref l]) Q E s := by
 refine bind_el hb fun is e1 e2 => ?_
 cases q : is.all byteOk && decide (is.length <= lim) with
 | false => rw [q] at e2; exact nomatch e2
 | true =>
  rw [q] at e2
  rw [<- Option.some.inj e2] at p
  simp only [Bool.and_eq_true, decide_eq_true_eq, List.all_eq_true] at q
  have ia := ints_are e1 rs
  have hlim := lim_line
  refine with_size (call_bytes_ints (vs := vs.toList) (by rw [show vs.toList.toArray = vs by simp]; exact ⟨_, g, rfl, m, rfl⟩) ia (fun i mi => ?_) (by have := ia.length; omega) hr.handled fun h' t tk k sz => ?_)
  ·have := q.1 i mi
   unfold byteOk at this
   simpa using this
  ·exact p h' _ tk k sz (iBytes _ _ _ _)
end
end Mine
end

section
open PySem PySem.W PyProof.Rows
namespace Mine

theorem preSum_take (is : List Int) : ∀ n, n <= is.length -> preSum (fun i => is.getD i 0) n = (is.take n).sum
 | 0, _ => by simp [preSum]
 | n + 1, h => by
  unfold preSum
  rw [preSum_take is n (by omega), List.take_add_one, List.sum_append]
  congr 1
  rw [List.getD_eq_getElem?_getD, List.getElem?_eq_getElem (by omega)]
  simp
theorem ints_get {vs : List Value} {is : List Int} (h : IntsAre vs is) : ∀ {i : Nat} {v : Value}, vs[i]? = some v -> ∃ t, v = .int (is.getD i 0) t := by
 induction h with
 | nil => intro i v e; simp at e
 | cons n t h ih =>
  intro i v e
  cases i with
  | zero => simp only [List.getElem?_cons_zero, Option.some.injEq] at e; subst e; exact ⟨t, rfl⟩
  | succ i => simp only [List.getElem?_cons_succ] at e; simpa using ih e

section
variable [o : Off] {prog : Program} {w : World} {B : Heap} {n : Nat} {A : Around} {E : Value -> Shared -> Prop} {s : Shared} {ad : List Addr} {H : Hp} {Q : Value -> Shared -> Prop}

theorem sum_s {l : Addr} {vs : Array Value} {m : Nat} {ds : List D} {is : List Int} (hr : Room A n) (g : s.heap.get? l = some { cls := .type "list", data := .seq vs m }) (rs : VRels s.heap ad ds vs.toList) (e : intsOf ds = some is) (p : PostK s ad (.int is.sum) Q) : wpAny (model prog w) A (call (.builtin "sum") [.ref l]) Q E s := by
 have ia := ints_are e rs
 have hlen : vs.size = is.length := by have := ia.length; simpa using this
 have ne : l ≠ s.heap.objs.size := Nat.ne_of_lt (Heap.lt_size g)
 refine with_size (call_sum_walkG (wpAny_pyIter_list ⟨_, g, rfl, m, rfl⟩ ⟨s.heap.objs.size, _, _, _, _, _, fun i => is.getD i 0, rfl, Walks.list (by show A.handled = none; exact hr.handled) s.heap.objs.size l ne vs, ⟨⟨_, Heap.get?_push_size _ rfl, rfl, rfl⟩, ⟨_, Heap.get?_push_of_some _ g, rfl, m, rfl⟩⟩, fun b hb => ?_, fun i v pv => ?_, fun h' tk t' k sz => ?_⟩))
 ·simp only [List.mem_cons, List.not_mem_nil, or_false] at hb
  rcases hb with rfl | rfl
  ·exact lt_push _ _
  ·exact Nat.lt_trans (Heap.lt_size g) (lt_push _ _)
 ·exact ints_get ia (by simpa using pv)
 ·rw [preSum_take is _ (by omega), List.take_of_length_le (by omega)]
  exact p h' _ tk (fun b ob e => k b ob (by simpa using Nat.ne_of_lt (Heap.lt_size e)) (Heap.get?_push_of_some _ e)) sz (iInt _ _ _ _)

theorem type_s {x : D} {v : Value} {T : String} (hx : s.TypeIs v T) (hnb : (Value.type T == Value.type "builtin_function_or_method") = false) (p : PostK s ad (.val (.type T)) Q) : wpAny (model prog w) A (call (.type "type") [v]) Q E s :=
 call_type_of hx hnb (p.same (iVal _ _ _) s.toks)

theorem set_s {W : Wd} {R : D -> Hp -> Prop} (S : St prog w B W.s.heap W.ad W.H) (p : PostE prog w B W R Q) (h : R (.ref W.H.length) (W.H ++ [.set []])) : wpAny (model prog w) A (call (.type "set") []) Q E W.s := by
 refine call_set_0 fun led => ?_
 obtain ⟨S2, g2⟩ := S.alloc (o := .set []) (ob := { cls := .type "set", dict := none, data := .set #[] 0 (.fresh 0 0 led) }) rfl ⟨#[], 0, _, ⟨rfl, rfl, rfl⟩, rfl, (fun x m => nomatch m), (by intro k; simp), (by decide), (by cases led <;> rfl), rfl⟩
 exact p ⟨_, _, _⟩ _ _ (Le.mk' (tk := W.s.toks) S2 g2) h (iRef S _)
end
end Mine
end

section
open PySem PySem.W PyProof.Rows
namespace Mine

section
variable [o : Off] {prog : Program} {w : World} {B : Heap} {n : Nat} {A : Around} {E : Value -> Shared -> Prop} {s : Shared} {ad : List Addr} {H : Hp} {Q : Value -> Shared -> Prop}

theorem iter_s {W : Wd} {R : D -> Hp -> Prop} {k : Nat} {l : Addr} {ds : List D} (S : St prog w B W.s.heap W.ad W.H) (hk : W.ad[k]? = some l) (e : W.H[k]? = some (.list ds)) (p : PostE prog w B W R Q) (h : R (.ref W.H.length) (W.H ++ [.iter k 0])) : wpAny (model prog w) A (call (.builtin "iter") [.ref l]) Q E W.s := by
 refine hid fun zP zk => ?_
 obtain ⟨vs, m, g, rs⟩ := S.list hk e
 refine zk ?_
 clear zk zP
 refine Calls.call_function_entry (by decide +kernel) (by decide +kernel) kdk_entry_iter (kdk_args_iter _) ?_
 unfold Builtin.«iter»
 refine wpAny_bind (m := someArgs "iter" 1 2 _) (wpAny_of_eq (a := [Value.ref l]) (by first | rfl | kernel_rfl!) ?_)
 show wpAny _ _ (pyIter (.ref l) >>= _) _ _ _
 refine wpAny_bind (wpAny_pyIter_list ⟨_, g, rfl, m, rfl⟩ ?_)
 obtain ⟨S2, g2⟩ := S.alloc (o := .iter k 0) (ob := { cls := .type "list_iterator", data := .fields #[.ref l, .int 0 0] }) rfl ⟨rfl, rfl, l, hk, rfl⟩
 exact wpAny_pure ⟨_, rfl, p ⟨_, _, _⟩ _ _ (Le.mk' (tk := W.s.toks) S2 g2) h (iRef S _)⟩

theorem vrels_ints {h : Heap} (f : Nat -> Int) : ∀ (l : List Value) (ks : List Nat), l.length = ks.length -> (∀ (j : Nat) v k, l[j]? = some v -> ks[j]? = some k -> ∃ t, v = .int (f k) t) -> VRels h ad (ks.map fun k => D.int (f k)) l
 | [], [], _, _ => isNil _ _
 | v :: l, k :: ks, hl, hv => by
  obtain ⟨t, rfl⟩ := hv 0 v k rfl rfl
  exact isCons (iInt _ _ _ _) (vrels_ints f l ks (by simpa using hl) fun j v k e1 e2 => hv (j + 1) v k (by simpa using e1) (by simpa using e2))

theorem list_range_s (hr : Room A n) {i : Int} {t : Tok} (h0 : 0 <= i) (h1 : i <= 1000)
  (p : ∀ h' tk a acc c, (∀ b ob, s.heap.get? b = some ob -> h'.get? b = some ob) -> s.heap.objs.size <= h'.objs.size -> s.heap.objs.size <= a -> h'.get? a = some { cls := .type "list", data := .seq acc c } -> VRels h' ad (rangeL i) acc.toList -> Q (.ref a) { s with heap := h', toks := tk }) :
  wpAny (model prog w) A (call (.type "range") [.int i t]) (fun rv s1 => wpAny (model prog w) A (call (.type "list") [rv]) Q E s1) E s := by
 refine call_range_1 ?_
 refine with_size (call_list_range (n := i.toNat) hr.handled (IsRange.new ..) (small_r (by omega) (by omega) h0 h1 (by omega) (by omega)) (by rw [size_len _ _ _ (by omega)]; congr 2; rw [Int.fdiv_one]; omega) (by omega) fun h' tk acc c k e it sz => ?_)
 have ks : ∀ b ob, s.heap.get? b = some ob -> h'.get? b = some ob := fun b ob e => k b ob (Heap.get?_push_of_some _ e)
 have z1 : s.heap.objs.size < (s.heap.push { cls := .type "range", data := .fields #[.int 0 s.toks, .int i t, .int 1 (s.toks + 1)] }).objs.size := lt_push _ _
 refine p h' tk _ acc c ks (Nat.le_trans (Nat.le_of_lt z1) sz) (Nat.le_of_lt z1) e ?_
 unfold rangeL
 refine vrels_ints (fun k => (k : Int)) acc.toList (List.range i.toNat) (by simpa using it.1) fun j v k e1 e2 => ?_
 obtain ⟨t2, rfl⟩ := it.2 j v (by simpa using e1)
 have lt := (List.getElem?_eq_some_iff.mp e2).1
 rw [List.length_range] at lt
 rw [List.getElem?_range lt] at e2
 have := Option.some.inj e2
 subst this
 exact ⟨t2, by rw [Int.mul_one, Int.zero_add]⟩
end
end Mine
end

section
open PySem PySem.W PyProof.Rows
namespace Mine

section
variable [o : Off] {prog : Program} {w : World} {B : Heap} {n : Nat} {A : Around} {E : Value -> Shared -> Prop} {s : Shared} {ad : List Addr} {H : Hp} {Q : Value -> Shared -> Prop}

theorem isinst_str {b : Array UInt8} {t : Tok} (p : PostK s ad (.bool false) Q) : wpAny (model prog w) A (call (.builtin "isinstance") [.bytes b t, .type "str"]) Q E s :=
 kia_one (K := []) (b := false) kitx_bytes (fun _ _ e => nomatch e) trivial (by decide +kernel) (by intro e; cases e) fun tk => p.same (iBool _ _ _) tk
theorem isinst_tup {b : Array UInt8} {t : Tok} {tp : Addr} {dd : Option Addr} {m : Nat} {sl : Array (Option Value)} (h : s.heap.get? tp = some ⟨.type "tuple", dd, .seq [Value.type "bytes", Value.type "bytearray"].toArray m, sl⟩) (p : PostK s ad (.bool true) Q) :
  wpAny (model prog w) A (call (.builtin "isinstance") [.bytes b t, .ref tp]) Q E s :=
 kia_tup (K := []) (b := true) kitx_bytes (fun _ _ e => nomatch e) trivial h (by decide +kernel) (by intro e; cases e) fun tk => p.same (iBool _ _ _) tk
end
end Mine
end

section
open PySem PySem.W PyProof.Rows
namespace Mine

theorem meets_bool_list (l : Addr) (items : Array Value) (hfit : (items.size : Int) < 2 ^ 63) : Meets (Builtin.«bool.__new__» ⟨[.type "bool", .ref l], []⟩) (fun _ R s => s.heap.IsList l items /\ ∀ tk, R (.ok (.ret (.bool (items.size != 0)))) { s with toks := tk }) :=
 Meets.of_wp fun prog w A R s hs => by
  refine hid fun zP zk => ?_
  obtain ⟨hp, g, d, tk, os⟩ := s
  obtain ⟨hl, hs⟩ := hs
  refine zk ?_
  clear zk zP
  have f1 := F.conv_sub_bool
  repeat (any_goals (first | assumption | (with_reducible refine wpAny_truthy_list hl hfit ?_) | wp_step))
  all_goals first | exact ⟨_, rfl, hs _⟩ | skip
section
variable [o : Off] {prog : Program} {w : World} {B : Heap} {n : Nat} {A : Around} {E : Value -> Shared -> Prop} {s : Shared} {ad : List Addr} {H : Hp} {Q : Value -> Shared -> Prop}
theorem bool_s {l : Addr} {vs : Array Value} {m : Nat} {ds : List D} (g : s.heap.get? l = some { cls := .type "list", data := .seq vs m }) (rs : VRels s.heap ad ds vs.toList) (hl : ds.length <= lim) (p : PostK s ad (.bool (!ds.isEmpty)) Q) : wpAny (model prog w) A (call (.type "bool") [.ref l]) Q E s := by
 have e : vs.size = ds.length := by have := rs.length; simpa using this.symm
 have e2 : (vs.size != 0) = !ds.isEmpty := by
  rw [e]
  cases ds <;> rfl
 refine call_bool_1 (meets_bool_list l vs (by rw [e]; exact lim_small hl)) ⟨⟨_, g, rfl, m, rfl⟩, fun tk => ⟨rfl, ?_⟩⟩
 rw [e2]
 exact p.same (iBool _ _ _) tk
end
end Mine
end

section
open PySem PySem.W PyProof.Rows
namespace Mine

section
variable {prog : Program} {w : World} {A : Around} {E : Value -> Shared -> Prop} {s : Shared}

theorem hint_bytes {b : Array UInt8} {t : Tok} {Q : Bool -> Shared -> Prop} (h : Q false s) : wpAny (model prog w) A (Builtin.List.listLengthHint (.bytes b t)) Q E s := by
 unfold Builtin.List.listLengthHint
 refine wpAny_bind (wpAny_specialOf (typeIs_bytes s b t) FB.slot_bytes_len.lookup ?_)
 generalize hid : ("bytes.__len__" : String) = id0
 wp_delta
 rw [show splitId id0 = some ("bytes", "__len__") from by subst hid; decide +kernel]
 subst hid
 refine wpAny_bind (wpAny_isInstance (T := "bytes") (b := true) (typeIs_bytes s b t) (by rw [isSubtype_type]; kernel_rfl) ?_)
 refine wpAny_ite_split (fun hab => absurd hab (by decide)) (fun _ => ?_)
 refine wpAny_ite_split (fun _ => ?_) (fun hab => absurd (by decide +kernel) hab)
 refine wpAny_bind (wpAny_typeOf (typeIs_bytes s b t) ?_)
 exact wpAny_pure h

theorem extend_bytes {R : Result -> Shared -> Prop} {bs : Array UInt8} {t : Tok} (hh : A.handled = none) (hlen : bs.size <= lim) (S : Addr) (res : Value) (c₀ : Nat) (hS : s.heap.get? S = some { cls := .type "list", data := .seq #[] c₀ })
  (hR : ∀ h' tk acc' c', (∀ b o, b ≠ S -> s.heap.get? b = some o -> h'.get? b = some o) -> h'.get? S = some { cls := .type "list", dict := none, data := .seq acc' c', slots := #[] } ->
   ItemsOf (fun i v => ∃ c u, bs[i]? = some c /\ v = .int (c.toNat : Int) u) acc' bs.size -> R (.ok (.ret res)) { s with heap := h', toks := tk }) :
  wpAny (model prog w) A.in1 (Builtin.List.listExtendWith (.ref S) (.bytes bs t) res)
   (fun fin s' => match fin with | .done f => R (.ok f) s' | .again c' => c'.quiet = true /\ codeAny (model prog w) A c' R s') (fun e s' => R (.error e) s') s := by
 have hSlt : S < s.heap.objs.size := Heap.lt_size hS
 have hSI : S ≠ s.heap.objs.size := Nat.ne_of_lt hSlt
 have hSf : S ∉ [s.heap.objs.size] := fun hm => hSI (List.mem_singleton.mp hm)
 have W := (KBw.walks (prog := prog) (w := w) (A := A.in1) hh s.heap.objs.size bs t).toS
 have key : ∀ (h : Heap) (c₁ tk : Nat), KBw.IsBytesIter h s.heap.objs.size bs t 0 -> (∀ b o, b ≠ S -> s.heap.get? b = some o -> h.get? b = some o) ->
   h.get? S = some { cls := .type "list", data := .seq #[] c₁ } -> codeAny (model prog w) A (.builtin "list.extend.loop" ⟨[.ref S, .ref s.heap.objs.size, res], []⟩) R { s with heap := h, toks := tk } := by
  intro h c₁ tk hit hk hS₁
  refine codeAny_extend_loopS W (by have := lim_line; omega) S hSf res bs.size 0 _ #[] c₁ rfl (Nat.zero_le _) hit hS₁ (ItemsOf.nil _) fun s' acc' c' hm hS' hacc => ?_
  rw [Moved.eq_with hm]
  refine hR s'.heap s'.toks acc' c' (fun b o hb e => hm.heap b o (fun hmem => ?_) (hk b o hb e)) hS' hacc
  rcases List.mem_cons.mp hmem with e' | hmem
  ·exact hb e'
  ·exact absurd (Heap.lt_size e) (by rw [List.mem_singleton.mp hmem]; exact Nat.lt_irrefl _)
 unfold Builtin.List.listExtendWith
 refine wpAny_bind (wpAny_typeOf (T := "bytes") (typeIs_bytes s bs t) ?_)
 have h1 : Builtin.List.listSameRef (.ref S) (.bytes bs t) = false := rfl
 have h2 : (Value.type "bytes" == Value.type "list") = false := by decide
 have h3 : (Value.type "bytes" == Value.type "tuple") = false := by decide
 simp only [h1, h2, h3, Bool.or_false, Bool.false_eq_true, if_false]
 refine wpAny_bind (KBw.pyIter_bytes ?_)
 refine wpAny_bind (wpAny_holding (hint_bytes ?_))
 have hit₁ : KBw.IsBytesIter (s.heap.push { cls := .type "bytes_iterator", data := .fields #[.bytes bs t, .int 0 0] }) s.heap.objs.size bs t 0 := ⟨_, Heap.get?_push_size _ rfl, rfl, rfl⟩
 have hS₁ := Heap.get?_push_of_some { cls := .type "bytes_iterator", data := .fields #[.bytes bs t, .int 0 0] } hS
 refine wpAny_ite_split (fun _ => ?_) (fun _ => wpAny_pure ⟨plainId_quiet F.plain_extend_loop _, key _ c₀ _ hit₁ (fun b o _ e => Heap.get?_push_of_some _ e) hS₁⟩)
 refine wpAny_bind (wpAny_rule ?_)
 refine wpAny_bind ?_
 show wpAny _ _ (updateSeq S (·.push .none) >>= fun _ => updateSeq S (·.pop)) _ _ _
 refine wpAny_bind (wpAny_updateSeq hS₁ rfl ?_)
 have hS₂ := Heap.get?_update_self (Obj.mapSeq (·.push Value.none)) hS₁ rfl
 refine wpAny_updateSeq (hz := by seq_fits) hS₂ rfl ?_
 have hS₃ := Heap.get?_update_self (Obj.mapSeq (·.pop)) hS₂ rfl
 refine wpAny_pure ⟨plainId_quiet F.plain_extend_loop _, key _ _ _ ?_ (fun b o hb e => ?_) hS₃⟩
 ·obtain ⟨ob, e, c⟩ := hit₁
  exact ⟨ob, (Heap.get?_update_other _ _ hSI).trans ((Heap.get?_update_other _ _ hSI).trans e), c⟩
 ·exact (Heap.get?_update_other _ _ (Ne.symm hb)).trans ((Heap.get?_update_other _ _ (Ne.symm hb)).trans (Heap.get?_push_of_some _ e))

theorem list_bytes_call {bs : Array UInt8} {t : Tok} {Q : Value -> Shared -> Prop} (hh : A.handled = none) (hlen : bs.size <= lim)
  (hQ : ∀ h' tk acc' c', (∀ b o, s.heap.get? b = some o -> h'.get? b = some o) -> h'.get? s.heap.objs.size = some { cls := .type "list", data := .seq acc' c' } -> ItemsOf (fun i v => ∃ c u, bs[i]? = some c /\ v = .int (c.toNat : Int) u) acc' bs.size -> Q (.ref s.heap.objs.size) { s with heap := h', toks := tk }) :
  wpAny (model prog w) A (call (.type "list") [.bytes bs t]) Q E s := by
 refine callType_codes (Q₁ := fun obj s₁ => obj = .ref s.heap.objs.size /\ s₁ = { s with heap := s.heap.push { cls := .type "list", data := .seq #[] } }) F.called_list (F.typeCall_list_1 _) F.entry_list_init
  (code_list_new _ ⟨rfl, rfl⟩) fun obj s₁ h₁ => ?_
 obtain ⟨rfl, rfl⟩ := h₁
 have hS : (s.heap.push { cls := .type "list", data := .seq #[] }).get? s.heap.objs.size = some { cls := .type "list", data := .seq #[] } := Heap.get?_push_size _ rfl
 refine ⟨⟨_, hS, rfl⟩, F.args_list_init_2 _ _, ?_⟩
 show wpAny _ _ (do let old <- Builtin.List.listItems (.ref s.heap.objs.size); Builtin.List.listUpdate (.ref s.heap.objs.size) (fun _ => #[]); letGo old.toList.reverse; Builtin.List.listExtendWith (.ref s.heap.objs.size) (.bytes bs t) .none) _ _ _
 refine wpAny_bind ?_
 unfold Builtin.List.listItems
 refine wpAny_bind (wpAny_seqItems hS rfl (wpAny_pure ?_))
 show wpAny _ _ (updateSeq s.heap.objs.size (fun _ => #[]) >>= fun _ => letGo (#[] : Array Value).toList.reverse >>= fun _ => Builtin.List.listExtendWith (.ref s.heap.objs.size) (.bytes bs t) .none) _ _ _
 refine wpAny_bind (wpAny_updateSeq hS rfl ?_)
 have hS₂ := Heap.get?_update_self (Obj.mapSeq (fun _ => (#[] : Array Value))) hS rfl
 refine wpAny_bind (wpAny_letGo ?_)
 refine extend_bytes (A := A.in1) hh hlen _ .none _ hS₂ fun h' tk acc' c' hk hS' hacc => ?_
 exact ⟨rfl, hQ h' tk acc' c' (fun b o e => hk b o (Nat.ne_of_lt (Heap.lt_size e)) ((Heap.get?_update_other _ _ (Ne.symm (Nat.ne_of_lt (Heap.lt_size e)))).trans (Heap.get?_push_of_some _ e))) hS' hacc⟩
end
end Mine
end

section
open PySem PySem.W PyProof.Rows
namespace Mine

structure BfTop (B : Heap) : Prop where
 tup : ∃ dd m sl, B.get? 44 = some ⟨.type "tuple", dd, .seq [Value.type "bytes", Value.type "bytearray"].toArray m, sl⟩

section
variable [o : Off] {prog : Program} {w : World} {B : Heap} {n : Nat} {A : Around} {E : Value -> Shared -> Prop} {s : Shared} {ad : List Addr} {H H' : Hp} {Q : Value -> Shared -> Prop}

theorem bytes_list_s (S : St prog w B s.heap ad H) (hr : Room A n) {b : List UInt8} {t : Tok} (hl : b.length <= lim) (p : PostK s ad (.lst (b.map fun c => .int c.toNat)) Q) : wpAny (model prog w) A (call (.type "list") [.bytes b.toArray t]) Q E s := by
 refine with_size (list_bytes_call hr.handled (by simpa using hl) fun h' tk acc c k e it sz => ?_)
 have rs : VRels h' ad (b.map fun c => D.int c.toNat) acc.toList := by
  have hl2 : acc.toList.length = b.length := by simpa using it.1
  have key : ∀ (l : List Value) (b : List UInt8), l.length = b.length -> (∀ (j : Nat) v, l[j]? = some v -> ∃ c u, b[j]? = some c /\ v = .int (c.toNat : Int) u) -> VRels h' ad (b.map fun c => D.int c.toNat) l := by
   intro l
   induction l with
   | nil => intro b hb _; cases b with | nil => exact isNil _ _ | cons => cases hb
   | cons v l ih =>
    intro b hb hv
    cases b with
    | nil => cases hb
    | cons c b =>
     refine hid fun zP zk => ?_
     obtain ⟨c', u, e1, ez1⟩ := hv 0 v rfl
     refine zk ?_
     clear zk zP
     subst ez1
     simp only [List.getElem?_cons_zero, Option.some.injEq] at e1
     subst e1
     exact isCons (iInt _ _ _ _) (ih b (by simpa using hb) fun j v e => by simpa using hv (j + 1) v (by simpa using e))
  exact key _ _ hl2 fun j v e => by
   refine hid fun zP zk => ?_
   obtain ⟨c, u, e1, e2⟩ := it.2 j v (by simpa using e)
   refine zk ?_
   clear zk zP
   exact ⟨c, u, by simpa using e1, e2⟩
 exact p h' _ tk k sz (iLst (S.size_away (Nat.le_refl _)) e rs)

theorem prj {α β : Type} {R : α -> β -> Prop} {a b : α × β} (q : a = b) (h : R b.1 b.2) : R a.1 a.2 := q ▸ h
theorem PostE.k0r {W : Wd} {R : D -> Hp -> Prop} {r : D × Hp} {d : D} (p : PostE prog w B W R Q) (S : St prog w B W.s.heap W.ad W.H) (q : (d, W.H) = r) (h : R r.1 r.2) : PostK W.s W.ad d Q := p.k0 S (prj (R := R) q h)
variable {W : Wd} {R : D -> Hp -> Prop} {r : D × Hp} (S : St prog w B W.s.heap W.ad W.H) (p : PostE prog w B W R Q) (h : R r.1 r.2)
include S p h
omit p h in
theorem lstD_el {x : D} {k : List D -> Option (D × Hp)} {M : Value -> Prop} {v : Value} (e : lstD W.H x k = some r) (rv : VRel W.s.heap W.ad x v) (c : ∀ a us m ds, W.s.heap.get? a = some { cls := .type "list", data := .seq us m } -> VRels W.s.heap W.ad ds us.toList -> k ds = some r -> M (.ref a)) : M v := by
 cases x with
 | lst ds =>
  apply vLst_el rv
  exact fun a us m _ g q => c a us m ds g q e
 | ref k =>
  apply vRef_el rv
  intro a ha
  exact hL_el e fun ds q1 e => let ⟨us, m, g, q⟩ := S.list ha q1; c a us m ds g q e
 | _ => exact nomatch e
theorem bf_len {x : D} {v : Value} (e : lenD W.H x = some r) (rv : VRel W.s.heap W.ad x v) : wpAny (model prog w) A (call (.builtin "len") [v]) Q E W.s := by
 cases x with
 | lst ds =>
  apply vLst_el rv
  exact fun a us m _ g q => ifLim_el e fun hl q2 => len_list_s g q hl (p.k0r S q2 h)
 | tup ds =>
  apply vTup_el rv
  exact fun a us m _ g q => ifLim_el e fun hl q2 => len_tup_s g q hl (p.k0r S q2 h)
 | bytes b =>
  apply vBytes_el rv
  refine fun t => ifLim_el e fun hl q2 => len_bytes (Nat.le_trans hl (by decide)) ?_
  exact (p.k0r S q2 h).same (iInt W.s.heap W.ad _ (W.s.toks + 1)) (W.s.toks + 1 + 1)
 | ref k =>
  apply vRef_el rv
  exact fun a ha => hL_el e fun ds q1 e => let ⟨us, m, g, q⟩ := S.list ha q1; ifLim_el e fun hl q2 => len_list_s g q hl (p.k0r S q2 h)
 | _ => exact nomatch e
theorem bf_type {x : D} {v : Value} (e : typD W.H x = some r) (rv : VRel W.s.heap W.ad x v) : wpAny (model prog w) A (call (.type "type") [v]) Q E W.s := by
 cases x with
 | bytes b =>
  apply vBytes_el rv
  exact fun t => type_s (x := .none) (typeIs_bytes W.s _ t) (by decide) (p.k0r S (Option.some.inj e) h)
 | bool b =>
  apply vBool_el rv
  exact type_s (x := .none) (T := "bool") rfl (by decide) (p.k0r S (Option.some.inj e) h)
 | int i =>
  apply vInt_el rv
  exact fun t => type_s (x := .none) (T := "int") rfl (by decide) (p.k0r S (Option.some.inj e) h)
 | _ => exact nomatch e
theorem bf_isinst (BT : BfTop B) {y : D} {b : List UInt8} {t : Tok} {u : Value} (e : (dV y fun v => (insV v).map fun b => (D.bool b, W.H)) = some r) (ru : VRel W.s.heap W.ad y u) : wpAny (model prog w) A (call (.builtin "isinstance") [.bytes b.toArray t, u]) Q E W.s := by
 revert ru
 refine dV_el (M := fun y => VRel W.s.heap W.ad y u -> _) e fun v e ru => map_el e fun z e q2 => ?_
 apply vVal_el ru
 cases v with
 | type n => exact gd_el e fun hn e => (of_decide_eq_true hn).symm ▸ isinst_str (p.k0r S (Option.some.inj e ▸ q2) h)
 | ref a =>
  refine hid fun zP zk => ?_
  obtain ⟨dd, m, sl, hh⟩ := BT.tup
  refine zk ?_
  clear zk zP
  exact gd_el e fun hn e => (of_decide_eq_true hn).symm ▸ isinst_tup (S.base _ _ hh) (p.k0r S (Option.some.inj e ▸ q2) h)
 | _ => exact nomatch e
theorem bf_call (BT : BfTop B) (hr : Room A n) {b : BF} {fv : Value} (hv : bfVal b = some fv) {ds : List D} {vs : List Value} (e : bfD b ds W.H = some r) (rs : VRels W.s.heap W.ad ds vs) : wpAny (model prog w) A (call fv vs) Q E W.s := by
 have one : ∀ {k : D -> Option (D × Hp)} {fv : Value}, l1 ds k = some r -> (∀ x v, k x = some r -> VRel W.s.heap W.ad x v -> wpAny (model prog w) A (call fv [v]) Q E W.s) -> wpAny (model prog w) A (call fv vs) Q E W.s := fun e c =>
  l1_el (M := fun ds => VRels W.s.heap W.ad ds vs -> _) e (fun x e rs => by
   apply vsOne_el rs
   exact fun v rv => c x v e rv) rs
 cases b with
 | len => exact Option.some.inj hv ▸ one e fun x v e rv => bf_len S p h e rv
 | listRange => exact nomatch hv
 | nlist => exact nomatch hv
 | list =>
  refine Option.some.inj hv ▸ one e fun x v e rv => ?_
  refine dY_el (M := fun x => VRel W.s.heap W.ad x v -> _) e (fun b e rv => ?_) rv
  apply vBytes_el rv
  exact fun t => ifLim_el e fun hl q2 => bytes_list_s S hr hl (p.k0r S q2 h)
 | tuple =>
  refine Option.some.inj hv ▸ one e fun x v e rv => ?_
  apply lstD_el S e rv
  exact fun a us m ds g q e => ifLim_el e fun hl q2 => tuple_s S g q hl (p.k0r S q2 h)
 | bytes =>
  refine Option.some.inj hv ▸ one e fun x v e rv => ?_
  apply lstD_el S e rv
  exact fun a us m ds g q e => map_el e fun d e q2 => bytes_s hr g q e (p.k0r S q2 h)
 | sum =>
  refine Option.some.inj hv ▸ one e fun x v e rv => ?_
  refine dL_el (M := fun x => VRel W.s.heap W.ad x v -> _) e (fun ds e rv => ?_) rv
  apply vLst_el rv
  exact fun a us m _ g q => map_el e fun is e q2 => sum_s hr g q e (p.k0r S q2 h)
 | isinstance =>
  refine Option.some.inj hv ▸ l2_el (M := fun ds => VRels W.s.heap W.ad ds vs -> _) e (fun x y e rs => ?_) rs
  apply vsTwo_el rs
  intro v u rv ru
  refine dY_el (M := fun x => VRel W.s.heap W.ad x v -> _) e (fun b e rv => ?_) rv
  apply vBytes_el rv
  exact fun t => bf_isinst S p h BT e ru
 | type => exact Option.some.inj hv ▸ one e fun x v e rv => bf_type S p h e rv
 | bool =>
  refine Option.some.inj hv ▸ one e fun x v e rv => ?_
  refine dR_el (M := fun x => VRel W.s.heap W.ad x v -> _) e (fun k e rv => hL_el e fun ds q1 e => ?_) rv
  apply vRef_el rv
  exact fun a ha => let ⟨us, m, g, q⟩ := S.list ha q1; ifLim_el e fun hl q2 => bool_s g q hl (p.k0r S q2 h)
 | set =>
  refine Option.some.inj hv ▸ l0_el (M := fun ds => VRels W.s.heap W.ad ds vs -> _) e (fun e rs => ?_) rs
  apply vsNil_el rs
  exact set_s S p (prj (Option.some.inj e) h)
 | iter =>
  refine Option.some.inj hv ▸ one e fun x v e rv => ?_
  refine dR_el (M := fun x => VRel W.s.heap W.ad x v -> _) e (fun k e rv => hL_el e fun ds q1 e => ?_) rv
  apply vRef_el rv
  exact fun a ha => iter_s S ha q1 p (prj (Option.some.inj e) h)
end
end Mine
end

section
open PySem PySem.W PyProof.Rows
namespace Mine

section
variable [o : Off] {prog : Program} {w : World} {B : Heap} {G : Gs} {f : Fns} {n : Nat} {X : Cx} {env : Env} {cv : List D} {lo : Lo} {A : Around} {E : Value -> Shared -> Prop} {s : Shared} {ad : List Addr} {Q : Value -> Shared -> Prop}

theorem all2_one {α β : Type} {f : α -> β -> Bool} {x : α} {y : β} (h : f x y = true) : all2 f [x] [y] = true := Bool.and_eq_true_iff.mpr ⟨h, rfl⟩
theorem IsEs.one {pe : PySem.Expr} {e : Ex} (h : IsE G X pe e) : IsEs G X [pe] [e] := let ⟨n, q⟩ := h; ⟨n, all2_one q⟩
theorem VRels.ints_off {o1 o2 : Off} {h : Heap} {ad : List Addr} {f : Nat -> Int} : ∀ (ks : List Nat) (l : List Value), @VRels o1 h ad (ks.map fun k => D.int (f k)) l -> @VRels o2 h ad (ks.map fun k => D.int (f k)) l
 | [], _, r => by unfold VRels at *; exact r
 | k :: ks, _, r => by
  rw [List.map_cons] at *
  unfold VRels at *
  refine hid fun zP zk => ?_
  obtain ⟨v, rest, ez1, r1, r2⟩ := r
  refine zk ?_
  clear zk zP
  subst ez1
  exact ⟨v, rest, rfl, by unfold VRel at *; exact r1, VRels.ints_off ks rest r2⟩
theorem St.adoptNew {B h h2 : Heap} {H : Hp} {a : Addr} {ob : Obj} {x : Ob} (S : St prog w B h ad H) (k : ∀ b ob, h.get? b = some ob -> h2.get? b = some ob) (sz : h.objs.size <= h2.objs.size) (na : h.objs.size <= a) (e : h2.get? a = some ob)
  (r : @ORel (offBy o [a]) prog w h2 ad x ob) : St prog w B h2 (ad ++ [a]) (H ++ [x]) :=
 St.adopt (o1 := offBy o [a]) (o2 := o) (List.mem_append_left _ (List.mem_singleton.mpr rfl)) (fun b m => List.mem_append_right _ m) (fun m => absurd (S.off a m).1 (Nat.not_lt.mpr na))
  (S.enter k (fun y m => by rw [List.mem_singleton.mp m]; exact ⟨na, Heap.lt_size e⟩) sz) e r

variable {W : Wd} {R : D -> Hp -> Prop} (T : TopOk B G) (hE : SndE prog w B G f n) (r : Room A n) (C : RW prog w B X env W lo cv) (p : PostE prog w B W R Q)
include T hE r C p
theorem bfR_sound {b : BF} {a : Ex} {x y : Str} {q1 q2 pos pos2 : Pos} {e : PySem.Expr} (h1 : X.kd.lookup x = some .globalImplicit) (h2 : G.gl x = some (.type "list")) (h3 : okName x = true) (k1 : X.kd.lookup y = some .globalImplicit) (k2 : G.gl y = some (.type "range")) (k3 : okName y = true)
  (hb : b = .listRange \/ b = .nlist) (ie : IsE G X e a) (h : evStep f cv lo (.bf b [a]) W.H R) : wpAny (model prog w) A (eval (.Call (.Name x q1) [.Call (.Name y q2) [e] [] pos2] [] pos) env) Q E W.s := by
 have h : evs f cv lo [a] W.H (fun ds H1 => OP (bfD b ds H1) fun r => R r.1 r.2) := h
 have hst : ∀ env, starEach [PySem.Expr.Call (.Name y q2) [e] [] pos2] env = (false, eval (PySem.Expr.Call (.Name y q2) [e] [] pos2) env) :: starEach [] env := fun _ => rfl
 have items : ∀ {K : List Value -> Shared -> Prop}, wpAny (model prog w) A (eval (PySem.Expr.Call (.Name y q2) [e] [] pos2) env) (fun v s1 => K [v] s1) E W.s ->
   wpAny (model prog w) A (spliced (backTo pos (starEach [PySem.Expr.Call (.Name y q2) [e] [] pos2] env))) K E W.s := fun z =>
  wpAny_items_cons (wpAny_mono z (fun v s1 z => wpAny_items_nil z) fun _ _ z => z) (hst _)
 refine wpAny_Call_ofName (C.loadG T h1 h2 h3 ?_)
 rw [hst, backTo_cons] at *
 refine PySem.callWith_type rfl (Calls.evalArgs_plain (items ?_))
 refine wpAny_Call_ofName (C.loadG T k1 k2 k3 (callT_sound hE r (es := [a]) (IsEs.one ie) h C fun W1 ds vs g1 h1 rs l => ?_))
 refine op_el h1 fun z e hz => ?_
 rcases hb with rfl | rfl
 ·refine l1_el (M := fun ds => VRels W1.s.heap W1.ad ds vs -> _) e (fun x e rs => ?_) rs
  refine dI_el (M := fun x => VRels W1.s.heap W1.ad [x] vs -> _) e (fun i e rs => gd_el e fun hh e => ?_) rs
  apply vsOne_el rs
  intro v rv
  apply vInt_el rv
  refine fun t => list_range_s (ad := W1.ad) r (of_decide_eq_true (ban hh).1) (of_decide_eq_true (ban hh).2) fun h2 tk2 a acc c k sz na g2 rs2 => ?_
  exact p (W1.on h2 tk2) _ (.ref a) (g1.trans (Le.keep g1.st k sz tk2)) (prj (R := R) (Option.some.inj e) hz) (iLst (g1.st.size_away na) g2 rs2)
 ·refine l1_el (M := fun ds => VRels W1.s.heap W1.ad ds vs -> _) e (fun x e rs => ?_) rs
  refine dI_el (M := fun x => VRels W1.s.heap W1.ad [x] vs -> _) e (fun i e rs => gd_el e fun hh e => ?_) rs
  apply vsOne_el rs
  intro v rv
  apply vInt_el rv
  refine fun t => list_range_s (ad := W1.ad) r (of_decide_eq_true (ban hh).1) (of_decide_eq_true (ban hh).2) fun h2 tk2 a acc c k sz na g2 rs2 => ?_
  have S2 := St.adoptNew g1.st k sz na g2 (x := Ob.list (rangeL i)) ⟨acc, c, rfl, VRels.ints_off _ _ rs2⟩
  have gg : Go W1.ad W1.s.heap [a] h2 := ⟨(Go.of_keeps k sz).like, fun b m => (List.mem_singleton.mp m).symm ▸ na, sz⟩
  refine p ⟨{ W1.s with heap := h2, toks := tk2 }, _, _⟩ _ (.ref a) (g1.trans (Le.mk' S2 gg)) (prj (R := R) (Option.some.inj e) hz) ?_
  unfold VRel
  refine ⟨a, rfl, ?_⟩
  rw [<- g1.st.len]
  simp
omit T hE r C p in
theorem bfVal_el {P : Value -> Prop} {b : BF} {v : Value} (hv : bfVal b = some v) (c1 : ∀ id, P (.builtin id)) (c2 : ∀ id, P (.type id)) : P v := by
 cases b <;> first | exact Option.some.inj hv ▸ c1 _ | exact Option.some.inj hv ▸ c2 _ | exact nomatch hv
theorem bf_sound (BT : BfTop B) {pe : PySem.Expr} {b : BF} {as : List Ex} (ie : IsE G X pe (.bf b as)) (h : evStep f cv lo (.bf b as) W.H R) : wpAny (model prog w) A (eval pe env) Q E W.s := by
 refine ie.inv (fun pe as => evStep f cv lo (.bf b as) W.H R -> wpAny (model prog w) A (eval pe env) Q E W.s) (fun x q args pos v as h1 hv h2 h3 ies h => ?_) (fun x q y q2 e pos pos2 a h1 h2 h3 k1 k2 k3 hb ie h => bfR_sound T hE r C p h1 h2 h3 k1 k2 k3 hb ie h) h
 refine wpAny_Call_ofName (C.loadG T h1 h2 h3 ?_)
 have go : ∀ W1 ds vs, Le prog w B W W1 -> OP (bfD b ds W1.H) (fun r => R r.1 r.2) -> VRels W1.s.heap W1.ad ds vs -> wpAny (model prog w) A (call v vs) Q E W1.s := fun W1 ds vs g1 h1 rs => op_el h1 fun z e h1 => bf_call g1.st (p.more g1) h1 BT r hv e rs
 clear h1 h2 h3
 revert hv go
 exact fun hv go => bfVal_el (P := fun v => (∀ W1 ds vs, Le prog w B W W1 -> OP (bfD b ds W1.H) (fun r => R r.1 r.2) -> VRels W1.s.heap W1.ad ds vs -> wpAny (model prog w) A (call v vs) Q E W1.s) -> wpAny (model prog w) A (callWith pos v [] (backTo pos (starEach args env)) []) Q E W.s) hv
  (fun id go => callB_sound hE r ies h C fun W1 ds vs g1 h1 rs l => go W1 ds vs g1 h1 rs) (fun Ty go => callT_sound hE r ies h C fun W1 ds vs g1 h1 rs l => go W1 ds vs g1 h1 rs) go
end
end Mine
end

section
open PySem PySem.W PyProof.Rows
namespace Mine

theorem getO_el {P : Prop} {o : Option Ob} {x : Int} {H : Hp} {r : D × Hp} (e : getO o x H = some r) (c : ∀ es ep, o = some (.dict es ep) -> ((lookI es x).getD .none, H) = r -> P) : P := by
 cases o with
 | none => exact nomatch e
 | some o => cases o <;> first | exact c _ _ rfl (Option.some.inj e) | exact nomatch e
theorem addO_el {P : Prop} {o : Option Ob} {k : Nat} {x : Int} {H : Hp} {r : D × Hp} (e : addO o k x H = some r) (c : ∀ es, o = some (.set es) -> es.length < 100 -> (.none, if es.contains x then H else H.set k (.set (es ++ [x]))) = r -> P) : P := by
 cases o with
 | none => exact nomatch e
 | some o => cases o <;> first | exact gd_el e fun hl e => c _ rfl (of_decide_eq_true hl) (Option.some.inj e) | exact nomatch e
section
variable [o : Off] {prog : Program} {w : World} {B : Heap} {n : Nat} {A : Around} {E : Value -> Shared -> Prop} {s : Shared} {ad : List Addr} {H : Hp} {Q : Value -> Shared -> Prop} {W : Wd} {R : D -> Hp -> Prop}
theorem Le.set {h' : Heap} {H' : Hp} {tk : Nat} (z : St prog w B h' W.ad H' /\ Go W.ad W.s.heap [] h') : Le prog w B W ⟨{ W.s with heap := h', toks := tk }, W.ad, H'⟩ := ⟨z.1, ⟨_, _, rfl⟩, [], (List.append_nil _).symm, z.2⟩
theorem list_upd {k : Nat} {a : Addr} {items : Array Value} {m : Nat} {f : Array Value -> Array Value} {ds' : List D} {d : D} {v : Value} (S : St prog w B W.s.heap W.ad W.H) (hk : W.ad[k]? = some a) (g : W.s.heap.get? a = some { cls := .type "list", data := .seq items m })
  (rs : VRels W.s.heap W.ad ds' (f items).toList) (rv : VRel W.s.heap W.ad d v) (p : PostE prog w B W R Q) (h : R d (W.H.set k (.list ds'))) (tk : Nat) : Q v { W.s with heap := W.s.heap.update a (Obj.mapSeq f), toks := tk } := by
 have sb : Heap.SameBut a W.s.heap (W.s.heap.update a (Obj.mapSeq f)) := Heap.SameBut.update ..
 have l := Le.set (tk := tk) (S.set (o' := .list ds') hk sb (sameBut_size sb) (IsL.update (l := a) (n := m) g f) ⟨f items, _, rfl, rs⟩)
 exact p _ d v l h (rv.up l)
theorem VRels.push1 {h : Heap} {ds : List D} {vs : Array Value} {d : D} {v : Value} (rs : VRels h ad ds vs.toList) (r : VRel h ad d v) : VRels h ad (ds ++ [d]) (vs.push v).toList := by
 rw [Array.toList_push]
 exact rs.append (isCons r (isNil _ _))
theorem VRels.erase {h : Heap} : ∀ {ds : List D} {vs : List Value}, VRels h ad ds vs -> ∀ i, VRels h ad (ds.eraseIdx i) (vs.eraseIdx i)
 | [], vs, r, i => by
  rw [vsNil r]
  exact isNil _ _
 | d :: ds, vs, r, i => by
  refine hid fun zP zk => ?_
  obtain ⟨v, t, ez1, r1, r2⟩ := vsCons r
  refine zk ?_
  clear zk zP
  subst ez1
  cases i with
  | zero => exact r2
  | succ i => exact isCons r1 (r2.erase i)
theorem toList_erase (vs : Array Value) (i : Nat) : (vs.eraseIdxIfInBounds i).toList = vs.toList.eraseIdx i := by
 simp
theorem dropLast_erase {α : Type} (l : List α) : l.dropLast = l.eraseIdx (l.length - 1) := by
 rw [List.eraseIdx_eq_take_drop_succ, List.dropLast_eq_take]
 cases l with
 | nil => rfl
 | cons x l => simp

noncomputable def bmTI : BM -> Option (String × String)
 | .append => some ("list", "list.append")
 | .extend => some ("list", "list.extend")
 | .pop => some ("list", "list.pop")
 | .popAt => some ("list", "list.pop")
 | .clear => some ("list", "list.clear")
 | .get => some ("dict", "dict.get")
 | .sadd => some ("set", "set.add")
 | .hex => some ("bytes", "bytes.hex")
 | .upper => some ("bytes", "bytes.upper")
 | .translate => some ("bytes", "bytes.translate")
 | .encode => some ("str", "str.encode")
 | _ => none

structure Meth (s : Shared) (v : Value) (T : String) (name : Str) (id : String) : Prop where
 pa : PlainAttrs T
 slot : Slot T name id
 ty : typeOf (.builtin id) = pure (.type "method_descriptor")
 is : s.TypeIs v T
 nd : ∀ a, v = .ref a -> ∃ ob, s.heap.get? a = some ob /\ ob.dict = none

theorem small_line {n : Nat} (h : n <= lim) : n <= sizeLine := by rw [sizeLine_eq]; unfold lim at h; omega

variable {r : D × Hp} (S : St prog w B W.s.heap W.ad W.H) (p : PostE prog w B W R Q) (h : R r.1 r.2)
include S
theorem trL_el {x : D} {v : Value} {M : Value -> Prop} {c : Nat -> List D -> Option (D × Hp)} (e : (dR x fun k => hL W.H k (c k)) = some r) (rx : VRel W.s.heap W.ad x v)
  (k : ∀ i a ds items m, W.ad[i]? = some a -> W.s.heap.get? a = some { cls := .type "list", data := .seq items m } -> VRels W.s.heap W.ad ds items.toList -> ds.length = items.size -> c i ds = some r -> M (.ref a)) : M v := by
 revert rx
 refine dR_el (M := fun x => VRel W.s.heap W.ad x v -> _) e fun i e rx => hL_el e fun ds q e => ?_
 apply vRef_el rx
 intro a hk
 refine hid fun zP zk => ?_
 obtain ⟨us, m, g, rs⟩ := S.list hk q
 refine zk ?_
 clear zk zP
 exact k i a ds us m hk g rs (by have := rs.length; rwa [Array.length_toList] at this) e
theorem lsM_el {x : D} {v : Value} {M : Value -> Prop} {c : Nat -> List D -> Option (D × Hp)} (e : lsM x W.H c = some r) (rx : VRel W.s.heap W.ad x v)
  (k : ∀ i a ds items m, W.ad[i]? = some a -> W.s.heap.get? a = some { cls := .type "list", data := .seq items m } -> VRels W.s.heap W.ad ds items.toList -> ds.length = items.size -> items.size <= sizeLine -> c i ds = some r -> M (.ref a)) : M v :=
 trL_el S (c := fun k ds => gd (decide (ds.length <= lim)) (c k ds)) e rx fun i a ds items m hk g rs l e => gd_el e fun hl e => k i a ds items m hk g rs l (small_line (l ▸ of_decide_eq_true hl)) e
theorem one_el {ds : List D} {vs : List Value} {k : D -> Option (D × Hp)} {M : List Value -> Prop} (e : l1 ds k = some r) (rs : VRels W.s.heap W.ad ds vs) (c : ∀ d u, k d = some r -> VRel W.s.heap W.ad d u -> M [u]) : M vs :=
 l1_el (M := fun ds => VRels W.s.heap W.ad ds vs -> _) e (fun d e rs => by
  apply vsOne_el rs
  exact fun u ru => c d u e ru) rs
theorem none_el {ds : List D} {vs : List Value} {k : Option (D × Hp)} {M : List Value -> Prop} (e : l0 ds k = some r) (rs : VRels W.s.heap W.ad ds vs) (c : k = some r -> M []) : M vs :=
 l0_el (M := fun ds => VRels W.s.heap W.ad ds vs -> _) e (fun e rs => by
  apply vsNil_el rs
  exact c e) rs
include p h
variable {x : D} {v : Value} {ds : List D} {vs : List Value} (rx : VRel W.s.heap W.ad x v) (rs : VRels W.s.heap W.ad ds vs)
include rx rs
theorem append_call (e : bmD .append x ds W.H = some r) : wpAny (model prog w) A (call (.builtin "list.append") (v :: vs)) Q E W.s := by
 apply one_el S e rs; intro d u e ru
 apply lsM_el S e rx; intro i a ds items m hk g rs l hl e
 exact call_meetsIn F.slot_list_append ⟨_, g, rfl⟩ F.entry_list_append (F.args_list_append_2 _ _) ((list_append a items m u hl).inModel prog w) ⟨g, list_upd S hk g (rs.push1 ru) (iNone _ _) p (prj (Option.some.inj e) h) W.s.toks⟩
theorem extend_call (e : bmD .extend x ds W.H = some r) : wpAny (model prog w) A (call (.builtin "list.extend") (v :: vs)) Q E W.s := by
 apply one_el S e rs; intro d u e ru
 revert ru
 refine dL_el (M := fun d => VRel W.s.heap W.ad d u -> _) e fun es e ru => ?_
 apply trL_el S (c := fun k ds => gd (decide (ds.length + es.length <= lim)) (some (.none, W.H.set k (.list (ds ++ es))))) e rx; intro i a ds items m hk g rs l e
 refine gd_el e fun hl e => ?_
 have hl := of_decide_eq_true hl
 apply vLst_el ru; intro b us m2 _ g2 rs2
 have l2 := rs2.length
 simp only [Array.length_toList] at l2
 refine call_meetsIn F.slot_list_extend ⟨_, g, rfl⟩ F.entry_list_extend (F.args_list_extend_2 _ _) ((AutoSeq1.list_extend_list_list_0 a items m b us m2 ?_ (small_line (by omega)) ?_).inModel prog w) ⟨g, g2, list_upd S hk g (f := fun x => x ++ us) (by rw [Array.toList_append]; exact rs.append rs2) (iNone _ _) p (prj (Option.some.inj e) h) W.s.toks⟩
 ·unfold lim at hl
  simp [Builtin.List.listTooLong]
  intro _
  rw [sizeLine_eq]
  omega
 ·rw [sizeLine_eq]; unfold lim at hl; omega
theorem clear_call (e : bmD .clear x ds W.H = some r) : wpAny (model prog w) A (call (.builtin "list.clear") (v :: vs)) Q E W.s := by
 apply none_el S e rs; intro e
 apply trL_el S (c := fun k ds => ifLim ds.length (.none, W.H.set k (.list []))) e rx; intro i a ds items m hk g rs l e
 exact ifLim_el e fun hl e => call_meetsIn F.slot_list_clear ⟨_, g, rfl⟩ F.entry_list_clear (F.args_list_clear_1 _) ((AutoSeq1.list_clear_list_0 a items m (small_line (l ▸ hl))).inModel prog w) ⟨g, list_upd S hk g (f := fun _ => #[]) (isNil _ _) (iNone _ _) p (prj e h) W.s.toks⟩
theorem pop_call (e : bmD .pop x ds W.H = some r) : wpAny (model prog w) A (call (.builtin "list.pop") (v :: vs)) Q E W.s := by
 apply none_el S e rs; intro e
 apply lsM_el S e rx; intro i a ds items m hk g rs l hl e
 refine map_el e fun d e1 e => ?_
 rw [List.getLast?_eq_getElem?] at e1
 obtain ⟨y, hy, ry⟩ := rs.get e1
 rw [l] at hy
 refine call_meetsIn F.slot_list_pop ⟨_, g, rfl⟩ F.entry_list_pop (F.args_list_pop_1 _) ((MeetsSeq.list_pop_last a items m y (by simpa using hy) hl).inModel prog w) ⟨g, list_upd S hk g (f := fun xs => xs.eraseIdxIfInBounds (items.size - 1)) (ds' := ds.dropLast) ?_ ry p (prj (R := R) e h) W.s.toks⟩
 rw [toList_erase, dropLast_erase, l]
 exact rs.erase _
theorem popAt_call (e : bmD .popAt x ds W.H = some r) : wpAny (model prog w) A (call (.builtin "list.pop") (v :: vs)) Q E W.s := by
 apply one_el S e rs; intro d u e ru
 revert ru
 refine dI_el (M := fun d => VRel W.s.heap W.ad d u -> _) e fun z e ru => ?_
 apply vInt_el ru; intro t
 apply trL_el S (c := fun k ds => gd (decide (0 <= z) && decide (ds.length <= lim)) ((ds[z.toNat]?).map fun d => (d, W.H.set k (.list (ds.eraseIdx z.toNat))))) e rx; intro i a ds items m hk g rs l e
 refine gd_el e fun hl e => map_el e fun d e1 e => ?_
 have h0 := of_decide_eq_true (ban hl).1
 have hl := of_decide_eq_true (ban hl).2
 obtain ⟨y, hy, ry⟩ := rs.get e1
 have lt := (List.getElem?_eq_some_iff.mp e1).1
 have hs : items.size <= sizeLine := small_line (l ▸ hl)
 unfold lim at hl
 have hf : Builtin.List.listFitsIndex z = true := by
  simp [Builtin.List.listFitsIndex]
  omega
 have hi : seqIndex? z items.size = some z.toNat := by
  unfold seqIndex?
  have hz : ¬ (z < 0) := by omega
  have hlt : z < (items.size : Int) := by omega
  simp only [if_neg hz, decide_eq_true h0, decide_eq_true hlt, Bool.and_self, if_true]
 refine call_meetsIn F.slot_list_pop ⟨_, g, rfl⟩ F.entry_list_pop (F.args_list_pop_2 _ _) ((MeetsSeq.list_pop_at a items m z t z.toNat y hf hi (by simpa using hy) hs).inModel prog w) ⟨g, list_upd S hk g (f := fun xs => xs.eraseIdxIfInBounds z.toNat) (ds' := ds.eraseIdx z.toNat) ?_ ry p (prj (R := R) e h) W.s.toks⟩
 rw [toList_erase]
 exact rs.erase _
theorem get_call {ob : Obj} (hob : B.get? sysModules = some ob) (e : bmD .get x ds W.H = some r) : wpAny (model prog w) A (call (.builtin "dict.get") (v :: vs)) Q E W.s := by
 apply one_el S e rs; intro d u e ru
 revert ru
 refine dI_el (M := fun d => VRel W.s.heap W.ad d u -> _) e fun z e ru => ?_
 apply vInt_el ru; intro t
 refine dR_el (M := fun x => VRel W.s.heap W.ad x v -> _) e (fun k e rx => ?_) rx
 apply vRef_el rx; intro a hk
 refine getO_el e fun es ep q e => ?_
 obtain ⟨f, hm, hf⟩ := S.mapOf hk q
 have hh : R ((lookI es z).getD .none) W.H := prj (R := R) e h
 refine call_meetsIn F.slot_dict_get hm.typeIs F.entry_dict_get (F.args_dict_get_2 _ _) (meets_dict_get (intKind prog w) a (intKind_is z t) (sysMod_ne S hk hob)) ⟨f, hm, ?_⟩
 refine (p.k0 S hh).same ?_ (W.s.toks + 1)
 have := hf z
 cases hx : lookI es z with
 | none =>
  rw [hx] at this
  rw [show f z = none from this]
  exact iNone _ _
 | some d =>
  rw [hx] at this
  obtain ⟨v', e1, rv⟩ := this
  rw [e1]
  exact rv
omit S p h rx rs in
theorem set_same {α : Type} {l : List α} {k : Nat} {x : α} (e : l[k]? = some x) : l.set k x = l := by
 apply List.ext_getElem?
 intro i
 by_cases q : i = k
 ·subst q
  rw [List.getElem?_set_self (List.getElem?_eq_some_iff.mp e).1, e]
 ·rw [List.getElem?_set_ne (Ne.symm q)]

theorem sadd_call (e : bmD .sadd x ds W.H = some r) : wpAny (model prog w) A (call (.builtin "set.add") (v :: vs)) Q E W.s := by
 apply one_el S e rs; intro d u e ru
 revert ru
 refine dI_el (M := fun d => VRel W.s.heap W.ad d u -> _) e fun z e ru => ?_
 apply vInt_el ru; intro t
 refine dR_el (M := fun x => VRel W.s.heap W.ad x v -> _) e (fun k e rx => ?_) rx
 apply vRef_el rx; intro a hk
 refine addO_el e fun es q hl e => ?_
 refine call_set_add (intKind_is z t) rfl (S.setOf hk q) (by unfold scanBound; omega) fun h' sb so => ?_
 have hh : R .none (if es.contains z then W.H else W.H.set k (.set (es ++ [z]))) := prj (R := R) e h
 have fin : ∀ {es' : List Int}, (∀ y, (es.contains y || decide (y = z)) = es'.contains y) -> (if es.contains z then es.length else es.length + 1) = es'.length -> R .none (W.H.set k (.set es')) -> Q .none { W.s with heap := h', toks := W.s.toks + 1 } := by
  intro es' q1 q2 hh
  refine hid fun zP zk => ?_
  obtain ⟨ob, es2, ep, tb, ho, hex, hd, hel, hm, hb, hf, hn⟩ := so
  refine zk ?_
  clear zk zP
  exact p _ .none .none (Le.set (tk := W.s.toks + 1) (S.set (o' := .set es') hk sb (sameBut_size sb) ho ⟨es2, ep, tb, hex, hd, hel, fun y => (by have := hm y; dsimp only at this ⊢; rw [q1 y] at this; exact this), hb, hf, by rw [hn, q2]⟩)) hh (iNone _ _)
 by_cases hc : es.contains z = true
 ·rw [if_pos hc] at hh
  refine fin (es' := es) (fun y => ?_) (by rw [if_pos hc]) (by rw [set_same q]; exact hh)
  by_cases hy : y = z
  ·subst hy; rw [hc]; rfl
  ·simp [hy]
 ·rw [if_neg hc] at hh
  refine fin (es' := es ++ [z]) (fun y => ?_) (by rw [if_neg hc]; simp) hh
  rw [List.contains_append] <;> simp [eq_comm]
end
end Mine
end

section
open PySem PySem.W PyProof.Rows
namespace Mine

theorem slot_upper : Slot "bytes" "upper" "bytes.upper" :=
 .of (owner := "bytes") (n := "upper") (by rw [typeLookup_type, builtinLookup_eq_fast]; kernel_rfl) (by decide +kernel) (by decide +kernel) (by decide +kernel)
  (by first | exact .inl (by decide +kernel) | exact .inr (by decide +kernel)) (by rw [isSubtype_type]; kernel_rfl)
theorem type_upper : typeOf (.builtin "bytes.upper") = pure (.type "method_descriptor") := by show builtinType _ = _; rw [builtinType_eq_fast]; kernel_rfl
theorem entry_upper : entryFor table "bytes.upper" = some Builtin.«bytes.upper» := entryFor_of_tree (by kernel_rfl)
theorem args_upper (a : Value) : argsOk "bytes.upper" ⟨[a], []⟩ := by unfold argsOk; kernel_rfl
theorem slot_translate : Slot "bytes" "translate" "bytes.translate" :=
 .of (owner := "bytes") (n := "translate") (by rw [typeLookup_type, builtinLookup_eq_fast]; kernel_rfl) (by decide +kernel) (by decide +kernel) (by decide +kernel)
  (by first | exact .inl (by decide +kernel) | exact .inr (by decide +kernel)) (by rw [isSubtype_type]; kernel_rfl)
theorem type_translate : typeOf (.builtin "bytes.translate") = pure (.type "method_descriptor") := by show builtinType _ = _; rw [builtinType_eq_fast]; kernel_rfl
theorem entry_translate : entryFor table "bytes.translate" = some Builtin.«bytes.translate» := entryFor_of_tree (by kernel_rfl)
theorem args_translate (a b : Value) : argsOk "bytes.translate" ⟨[a, b], []⟩ := by unfold argsOk; kernel_rfl
theorem slot_search : Slot "re.Pattern" "search" "re.Pattern.search" :=
 .of (owner := "re.Pattern") (n := "search") (by rw [typeLookup_type, builtinLookup_eq_fast]; kernel_rfl) (by decide +kernel) (by decide +kernel) (by decide +kernel)
  (by first | exact .inl (by decide +kernel) | exact .inr (by decide +kernel)) (by rw [isSubtype_type]; kernel_rfl)
theorem type_search : typeOf (.builtin "re.Pattern.search") = pure (.type "method_descriptor") := by show builtinType _ = _; rw [builtinType_eq_fast]; kernel_rfl
theorem entry_search : entryFor table "re.Pattern.search" = some Builtin.«re.Pattern.search» := entryFor_of_tree (by kernel_rfl)
theorem args_search (a b : Value) : argsOk "re.Pattern.search" ⟨[a, b], []⟩ := by unfold argsOk; kernel_rfl
theorem plainAttrs_pattern : PlainAttrs "re.Pattern" :=
 ⟨⟨"object.__getattribute__", by rw [typeLookup_type, builtinLookup_eq_fast]; kernel_rfl, by decide +kernel⟩, by rw [typeLookup_type, builtinLookup_eq_fast]; kernel_rfl⟩
end Mine
end

section
open PySem PySem.W PyProof.Rows
namespace Mine

section
variable [o : Off] {prog : Program} {w : World} {B : Heap} {n : Nat} {A : Around} {E : Value -> Shared -> Prop} {s : Shared} {ad : List Addr} {H : Hp} {Q : Value -> Shared -> Prop}
variable {W : Wd} {R : D -> Hp -> Prop} {r : D × Hp} {x : D} {v : Value} {ds : List D} {vs : List Value}
theorem PostK.bytes {b : List UInt8} {b' : Array UInt8} (p : PostK s ad (.bytes b) Q) (e : b' = b.toArray) (t tk : Nat) : Q (.bytes b' t) { s with toks := tk } := by
 subst e
 exact p.same (iBytes _ _ _ _) tk
theorem PostK.str {x : Str} (p : PostK s ad (.str x) Q) (t tk : Nat) : Q (.str x t) { s with toks := tk } := p.same (iStr _ _ _ _) tk

theorem hexD_eq (n : Nat) : Builtin.Bytes.hexDigit n = hexD n := rfl
theorem fold_hex : ∀ (l : List UInt8) (k : Nat) (acc : Array Nat), (l.zipIdx k).foldl (fun (out : Array Nat) (x : UInt8 × Nat) => (out.push (Builtin.Bytes.hexDigit (x.1.toNat / 16))).push (Builtin.Bytes.hexDigit (x.1.toNat % 16))) acc
  = acc ++ (l.flatMap fun c => [hexD (c.toNat / 16), hexD (c.toNat % 16)]).toArray
 | [], k, acc => by simp
 | c :: l, k, acc => by
  rw [List.zipIdx_cons, List.foldl_cons, fold_hex l]
  simp [hexD_eq]

theorem hex_len : ∀ b : List UInt8, (b.flatMap fun c => [hexD (c.toNat / 16), hexD (c.toNat % 16)]).length = 2 * b.length
 | [] => rfl
 | c :: b => by rw [List.flatMap_cons, List.length_append, hex_len b]; simp; omega

theorem encodeRoad_eq {id : String} {self : Value} {x : Str} : Builtin._codecs.encodeRoad id self x (PySem.Str.ofString "ascii") none = (Builtin._codecs.encodeNarrow id Builtin._codecs.asciiCodec none self x >>= fun b => mkBytes b) := by kernel_rfl

theorem ascii_all {x : Str} {b : List UInt8} (hb : asciiOf x = some b) : (∀ c ∈ x.cps.toList, c < 128) /\ b = x.cps.toList.map fun c => c.toUInt8 := by
 unfold asciiOf at hb
 cases q : x.cps.toList.all (fun c => decide (c < 128)) with
 | false => rw [q] at hb; exact nomatch hb
 | true =>
  rw [q] at hb
  exact ⟨fun c m => of_decide_eq_true (List.all_eq_true.mp q c m), (Option.some.inj hb).symm⟩
theorem ascii_bad (c : Nat) : Builtin._codecs.asciiCodec.bad c = decide (c >= 128) := rfl
theorem ascii_none {x : Str} (h : ∀ c ∈ x.cps.toList, c < 128) : Array.findIdx? Builtin._codecs.asciiCodec.bad x.cps = none := by
 rw [Array.findIdx?_eq_none_iff]
 intro c m
 rw [ascii_bad]
 have := h c (by simpa using m)
 simp; omega
theorem ascii_fold : ∀ (l : List Nat) (acc : Array UInt8), l.foldl (fun (acc : Array UInt8) y => acc ++ (Builtin._codecs.asciiCodec.bytesOf y).toArray) acc = acc ++ (l.map fun c => c.toUInt8).toArray
 | [], acc => by simp
 | c :: l, acc => by
  rw [List.foldl_cons, ascii_fold l]
  have : Builtin._codecs.asciiCodec.bytesOf c = [c.toUInt8] := rfl
  rw [this]
  simp

theorem narrow {M : Model} {id : String} {self : Value} {x : Str} {b : List UInt8} {Q : Array UInt8 -> Shared -> Prop} (hb : asciiOf x = some b) (hl : x.length <= 10000) (h : Q b.toArray s) :
  wpAny M A (Builtin._codecs.encodeNarrow id Builtin._codecs.asciiCodec none self x) Q E s := by
 obtain ⟨ha, rfl⟩ := ascii_all hb
 unfold Builtin._codecs.encodeNarrow
 dsimp only
 rw [Std.Legacy.Range.forIn_eq_forIn_range']
 have hln : x.length = x.cps.size := rfl
 refine wpAny_bind (wpAny_forIn_list _ (fun rest st s' => s' = s /\ ((st.1 = 0 /\ st.2.1 = #[] /\ rest.length = x.length) \/ (st.1 = x.cps.size /\ st.2.1 = (x.cps.toList.map fun c => c.toUInt8).toArray))) _ (fun k rest st s' hI => ?_) (fun st s' hI => ?_) _ _ ⟨rfl, .inl ⟨rfl, rfl, by simp [Std.Legacy.Range.size]⟩⟩)
 ·obtain ⟨rfl, hI⟩ := hI
  obtain ⟨i, out, ft⟩ := st
  dsimp only at hI ⊢
  rcases hI with ⟨rfl, rfl, hr⟩ | ⟨rfl, rfl⟩
  ·rw [if_neg (by simp)]
   have hx : ∃ c, x.cps[0]? = some c := by
    rw [List.length_cons] at hr
    exact ⟨x.cps[0]'(by omega), Array.getElem?_eq_getElem _⟩
   obtain ⟨c, hx⟩ := hx
   rw [hx]
   dsimp only
   have hc : c < 128 := ha c (by have := Array.mem_of_getElem? hx; simpa using this)
   have e0 : x.cps.extract 0 = x.cps := by simp
   rw [if_pos (by rw [ascii_bad]; simp; omega)]
   refine wpAny_pure ⟨rfl, .inr ⟨?_, ?_⟩⟩
   ·dsimp only
    rw [e0, ascii_none ha]
    simp
   ·dsimp only
    rw [e0, ascii_none ha]
    have e1 : x.cps.extract 0 ((none : Option Nat).getD x.cps.size) = x.cps := by simp
    rw [e1, <- Array.foldl_toList, ascii_fold]
    simp
  ·have hn : x.cps[x.cps.size]? = none := by simp
   rw [if_neg (by rw [sizeLine_eq]; simp; omega), hn]
   exact wpAny_pure (wpAny_pure h)
 ·obtain ⟨rfl, hI⟩ := hI
  obtain ⟨i, out, ft⟩ := st
  dsimp only at hI ⊢
  rcases hI with ⟨rfl, rfl, hr⟩ | ⟨rfl, rfl⟩
  ·have : x.cps.toList = [] := by
    apply List.eq_nil_of_length_eq_zero
    rw [Array.length_toList, <- hln]
    simpa using hr.symm
   rw [this] at h
   exact wpAny_pure h
  ·exact wpAny_pure h

section
variable (S : St prog w B W.s.heap W.ad W.H) (p : PostE prog w B W R Q) (h : R r.1 r.2) (rx : VRel W.s.heap W.ad x v) (rs : VRels W.s.heap W.ad ds vs)
include S p h rx rs

theorem upper_call (e : bmD .upper x ds W.H = some r) : wpAny (model prog w) A (call (.builtin "bytes.upper") (v :: vs)) Q E W.s := by
 apply none_el S e rs; intro e
 refine dY_el (M := fun x => VRel W.s.heap W.ad x v -> _) e (fun b e rx => gd_el e fun hl e => ?_) rx
 apply vBytes_el rx; intro t
 have hl := of_decide_eq_true hl
 refine wpAny_call_entry slot_upper (typeIs_bytes _ _ _) entry_upper ?_ (args_upper _)
 unfold Builtin.«bytes.upper» Builtin.Bytes.mappedM
 refine wpAny_bind (wpAny_of_eq (a := .bytes b.toArray t) (by first | rfl | kernel_rfl) ?_)
 refine wpAny_bind (wpAny_of_eq (a := b.toArray) (by first | rfl | kernel_rfl) ?_)
 refine wpAny_bind (wpAny_mkBytes ?_ (by rw [sizeLine_eq]; simp; omega))
 refine wpAny_pure ⟨_, rfl, (p.k0r S (Option.some.inj e) h).bytes ?_ _ _⟩
 simp [up, Builtin.Bytes.toUpper, Builtin.Bytes.isLower]
theorem hex_call (e : bmD .hex x ds W.H = some r) : wpAny (model prog w) A (call (.builtin "bytes.hex") (v :: vs)) Q E W.s := by
 apply none_el S e rs; intro e
 refine dY_el (M := fun x => VRel W.s.heap W.ad x v -> _) e (fun b e rx => gd_el e fun hl e => ?_) rx
 apply vBytes_el rx; intro t
 have hl := of_decide_eq_true hl
 have p := p.k0r S (Option.some.inj e) h
 refine wpAny_call_entry FB.slot_bytes_hex (typeIs_bytes _ _ _) FB.entry_bytes_hex ?_ (FB.args_bytes_hex_1 _)
 unfold Builtin.«bytes.hex» Builtin.Bytes.hexM Builtin.Bytes.hexOf
 refine wpAny_bind (wpAny_of_eq (a := [none, none]) (by first | rfl | kernel_rfl) ?_)
 refine wpAny_bind (wpAny_of_eq (a := (1 : Int)) (by first | rfl | kernel_rfl) ?_)
 refine wpAny_bind (wpAny_of_eq (a := ()) (by first | rfl | kernel_rfl) ?_)
 refine wpAny_bind (wpAny_of_eq (a := none) (by first | rfl | kernel_rfl) ?_)
 refine wpAny_bind (wpAny_of_eq (a := b.toArray) (by first | rfl | kernel_rfl) ?_)
 have key : ((b.toArray.toList.zipIdx).foldl (fun (out : Array Nat) (x : UInt8 × Nat) => (out.push (Builtin.Bytes.hexDigit (x.1.toNat / 16))).push (Builtin.Bytes.hexDigit (x.1.toNat % 16))) #[]) = (b.flatMap fun c => [hexD (c.toNat / 16), hexD (c.toNat % 16)]).toArray := by
  rw [fold_hex]; simp
 have hlen := hex_len b
 show wpAny _ _ (retStr ⟨((b.toArray.toList.zipIdx).foldl (fun (out : Array Nat) (x : UInt8 × Nat) => (out.push (Builtin.Bytes.hexDigit (x.1.toNat / 16))).push (Builtin.Bytes.hexDigit (x.1.toNat % 16))) #[])⟩) _ _ _
 rw [key]
 unfold retStr
 refine wpAny_bind (wpAny_mkStr ?_ ?_)
 ·exact wpAny_pure ⟨_, rfl, p.str _ _⟩
 ·show (b.flatMap fun c => [hexD (c.toNat / 16), hexD (c.toNat % 16)]).toArray.size <= sizeLine
  rw [sizeLine_eq, List.size_toArray, hlen]
  omega
theorem translate_call (e : bmD .translate x ds W.H = some r) : wpAny (model prog w) A (call (.builtin "bytes.translate") (v :: vs)) Q E W.s := by
 apply one_el S e rs; intro d u e ru
 revert ru
 refine dY_el (M := fun d => VRel W.s.heap W.ad d u -> _) e fun tb e ru => ?_
 apply vBytes_el ru; intro t2
 refine dY_el (M := fun x => VRel W.s.heap W.ad x v -> _) e (fun b e rx => gd_el e fun hl e => ?_) rx
 apply vBytes_el rx; intro t
 simp only [Bool.and_eq_true, decide_eq_true_eq] at hl
 have p := p.k0r S (Option.some.inj e) h
 refine wpAny_call_entry slot_translate (typeIs_bytes _ _ _) entry_translate ?_ (args_translate _ _)
 unfold Builtin.«bytes.translate» Builtin.Bytes.translateM
 have hout : ((b.toArray.filter (!(#[] : Array UInt8).contains ·)).map fun c => tb.toArray.getD c.toNat c) = (b.map fun c => tb.getD c.toNat 0).toArray := by
  have e1 : (b.toArray.filter (!(#[] : Array UInt8).contains ·)) = b.toArray := by simp
  rw [e1, List.map_toArray]
  congr 1
  refine List.map_congr_left fun c _ => ?_
  have : c.toNat < tb.length := by rw [hl.1]; exact c.toNat_lt
  simp [Array.getD, this, List.getD_eq_getElem?_getD]
 show wpAny _ _ (Builtin.Bytes.bytesLike _ (.bytes tb.toArray t2) >>= fun x => _) _ _ _
 refine wpAny_bind (wpAny_of_eq KBd.like_eq ?_)
 dsimp only
 rw [if_neg (by simp [hl.1])]
 refine wpAny_bind (wpAny_pure ?_)
 refine wpAny_bind (wpAny_pure ?_)
 refine wpAny_bind (wpAny_of_eq (a := b.toArray) (by first | rfl | kernel_rfl) ?_)
 dsimp only
 rw [hout]
 split
 ·rename_i hq
  refine wpAny_bind (wpAny_rule ?_)
  refine wpAny_bind (wpAny_of_eq (a := .bytes b.toArray t) (by first | rfl | kernel_rfl) ?_)
  exact wpAny_pure ⟨_, rfl, p.bytes (eq_of_beq hq).symm _ _⟩
 ·refine wpAny_bind (wpAny_mkBytes ?_ (by rw [sizeLine_eq]; simp; omega))
  exact wpAny_pure ⟨_, rfl, p.bytes rfl _ _⟩
theorem encode_call (e : bmD .encode x ds W.H = some r) : wpAny (model prog w) A (call (.builtin "str.encode") (v :: vs)) Q E W.s := by
 apply one_el S e rs; intro d u e ru
 revert ru
 refine dS_el (M := fun d => VRel W.s.heap W.ad d u -> _) e fun y e ru => ?_
 apply vStr_el ru; intro t2
 refine dS_el (M := fun x => VRel W.s.heap W.ad x v -> _) e (fun x e rx => gd_el e fun hl e => map_el e fun b hb q => ?_) rx
 apply vStr_el rx; intro t
 simp only [Bool.and_eq_true, decide_eq_true_eq] at hl
 obtain ⟨rfl, hl⟩ := hl
 have p := p.k0r S q h
 have hlen : b.length = x.length := by
  rw [(ascii_all hb).2]
  simp [PySem.Str.length]
 refine wpAny_call_entry F.slot_str_encode (typeIs_str _ _ _) F.entry_str_encode ?_ (F.args_str_encode_2 _ _)
 unfold Builtin.«str.encode»
 refine wpAny_bind (wpAny_of_eq (a := (Value.str x t, x, [Value.str (Str.ofString "ascii") t2])) (by first | rfl | kernel_rfl) ?_)
 refine wpAny_bind (wpAny_of_eq (a := [some (Value.str (Str.ofString "ascii") t2), none]) (by first | rfl | kernel_rfl) ?_)
 refine wpAny_bind (wpAny_of_eq (a := some (Str.ofString "ascii")) (by first | rfl | kernel_rfl) ?_)
 refine wpAny_bind (wpAny_of_eq (a := none) (by first | rfl | kernel_rfl) ?_)
 show wpAny _ _ (Builtin._codecs.encodeRoad "str.encode" (.str x t) x (PySem.Str.ofString "ascii") none >>= fun v => ret v) _ _ _
 rw [encodeRoad_eq]
 refine wpAny_bind (wpAny_bind (narrow hb hl (wpAny_mkBytes ?_ (by rw [sizeLine_eq]; simp; omega))))
 exact wpAny_pure ⟨_, rfl, p.bytes rfl _ _⟩
end
end
end Mine
end

section
open PySem PySem.W PyProof.Rows
namespace Mine
open Builtin.Re

noncomputable def reCode : Array Nat := #[14, 12, 4, 1, 1, 21, 22, 48, 57, 22, 65, 70, 0, 13, 9, 21, 22, 48, 57, 22, 65, 70, 0, 1]
noncomputable def reVals : Array Value := #[.int 14 0, .int 12 0, .int 4 0, .int 1 0, .int 1 0, .int 21 0, .int 22 0, .int 48 0, .int 57 0, .int 22 0, .int 65 0, .int 70 0, .int 0 0, .int 13 0, .int 9 0, .int 21 0, .int 22 0, .int 48 0, .int 57 0, .int 22 0, .int 65 0, .int 70 0, .int 0 0, .int 1 0]
structure ReTop (B : Heap) : Prop where
 pat : ∃ x y dd sl, B.get? 43 = some ⟨.type "re.Pattern", dd, .fields #[x, y, .int 0 0, .none, .none, .ref 42, .int 1 0], sl⟩ /\ dd = none
 code : ∃ dd m sl, B.get? 42 = some ⟨.type "tuple", dd, .seq reVals m, sl⟩

noncomputable def hexN (c : Nat) : Bool := (48 <= c && c <= 57) || (65 <= c && c <= 70)
theorem inSet_hex {c : Nat} (h : hexN c = true) (seen : Sre.Seen) : ∃ seen', Sre.inSet reCode c 24 5 true seen = .ok (false, seen') := by
 have e : ∃ s1 s2 s3, Sre.inSet reCode c 24 5 true seen = if 48 <= c && c <= 57 then .ok (false, s1) else if 65 <= c && c <= 70 then .ok (false, s2) else .ok (true, s3) := ⟨_, _, _, rfl⟩
 refine hid fun zP zk => ?_
 obtain ⟨s1, s2, s3, e⟩ := e
 refine zk ?_
 clear zk zP
 rw [e]
 unfold hexN at h
 rcases Bool.or_eq_true_iff.mp h with h | h
 ·rw [if_pos h]; exact ⟨_, rfl⟩
 ·split
  ·exact ⟨_, rfl⟩
  ·exact ⟨_, rfl⟩

theorem admitted_none (m : Sre.M) (hc : m.code = reCode) (ht : ∀ s, s < m.lim -> hexN (m.text.getD s 0) = true) : ∀ (fuel s : Nat) (seen : Sre.Seen), ∃ seen', m.admitted fuel s seen = .ok (none, seen')
 | 0, s, seen => ⟨_, rfl⟩
 | fuel + 1, s, seen => by
  unfold Sre.M.admitted
  by_cases h : s >= m.lim
  ·rw [if_pos h]; exact ⟨_, rfl⟩
  ·rw [if_neg h]
   obtain ⟨s', e⟩ := inSet_hex (ht s (by omega)) seen
   rw [hc, show reCode.size = 24 from rfl, e]
   exact admitted_none m hc ht fuel (s + 1) s'

theorem attempt_none (m : Sre.M) (hc : m.code = reCode) (ht : ∀ s, s < m.lim -> hexN (m.text.getD s 0) = true) (hf : m.frames = []) (ho : m.outcome = none) (s : Nat) (first : Bool) :
  (m.attemptFrom s first).answer = some false /\ (m.attemptFrom s first).frames = [] /\ (m.attemptFrom s first).outcome = none := by
 have h1 : m.hasFirstSet = true := by
  unfold Sre.M.hasFirstSet
  rw [hc]
  decide +kernel
 unfold Sre.M.attemptFrom
 rw [h1]
 obtain ⟨s', e⟩ := admitted_none m hc ht (m.lim + 1 - s) s m.seen
 rw [e]
 exact ⟨rfl, hf, ho⟩

theorem search_none {text : Array Nat} (ht : ∀ s, s < text.size -> hexN (text.getD s 0) = true) :
  (Sre.forSearch reCode text 0 0 text.size false).answer = some false /\ (Sre.forSearch reCode text 0 0 text.size false).frames = [] /\ (Sre.forSearch reCode text 0 0 text.size false).outcome = none := by
 unfold Sre.forSearch
 dsimp only
 split
 ·exact ⟨rfl, rfl, rfl⟩
 ·exact attempt_none _ rfl ht rfl rfl 0 true

theorem run_none (m : Sre.M) (ha : m.answer = some false) (hf : m.frames = []) (ho : m.outcome = none) : (m.runFor 4).outcome = some .failed := by
 have e : m.step.outcome = some .failed := by
  unfold Sre.M.step
  rw [ho, ha, hf]
  rfl
 have f : ∀ n (m : Sre.M), m.outcome = some .failed -> m.runFor n = m := by
  intro n m h
  cases n with
  | zero => rfl
  | succ n => unfold Sre.M.runFor; rw [h]; rfl
 unfold Sre.M.runFor
 rw [ho]
 show (Sre.M.runFor 3 m.step).outcome = _
 rw [f 3 _ e, e]

section
variable [o : Off] {prog : Program} {w : World} {B : Heap} {n : Nat} {A : Around} {E : Value -> Shared -> Prop} {s : Shared} {ad : List Addr} {H H' : Hp} {Q : Value -> Shared -> Prop}

theorem rules_for {M : Model} {α : Type} (l : List α) (p : α -> Bool) (g : α -> String) {Q : PUnit -> Shared -> Prop} (h : Q ⟨⟩ s) :
  wpAny M A (forIn l PUnit.unit fun i r => if p i = true then (do rule (g i); pure (ForInStep.yield PUnit.unit)) else pure (ForInStep.yield PUnit.unit)) Q E s := by
 refine wpAny_forIn_list _ (fun _ _ s' => s' = s) _ (fun x rest b s' hs => ?_) (fun b s' hs => by subst hs; exact h) _ _ rfl
 subst hs
 split
 ·exact wpAny_bind (wpAny_rule (wpAny_pure rfl))
 ·exact wpAny_pure rfl

theorem toEnd {M : Model} (m : Sre.M) (ha : m.answer = some false) (hf : m.frames = []) (ho : m.outcome = none) {Q : Option Sre.M -> Shared -> Prop} (h : Q none s) : wpAny M A (reRunToEnd m) Q E s := by
 unfold reRunToEnd
 have hd : reDrive (2 ^ 64) m = pure (m.runFor 4) := by
  show reDrive (18446744073709551615 + 1) m = _
  unfold reDrive
  show (if (m.runFor 4).outcome.isSome = true then pure (m.runFor 4) else _) = _
  rw [run_none m ha hf ho]
  rfl
 rw [hd]
 refine wpAny_bind (wpAny_pure ?_)
 refine wpAny_bind (rules_for _ _ _ ?_)
 rw [run_none m ha hf ho]
 exact wpAny_pure h

theorem target {M : Model} {b : List UInt8} {t : Tok} {Q : ReTarget -> Shared -> Prop} (RT : ReTop s.heap)
  (h : ∀ x, x.code = reCode -> x.text = b.toArray.map (·.toNat) -> x.groups = 0 -> x.pos = 0 -> x.lim = b.length -> Q x s) (hl : b.length <= 1000) :
  wpAny M A (reTarget "re.Pattern.search" "search" ⟨[.ref 43, .bytes b.toArray t], []⟩) Q E s := by
 refine hid fun zP zk => ?_
 obtain ⟨x, y, dd, sl, e1, _⟩ := RT.pat
 obtain ⟨dd2, m2, sl2, e2⟩ := RT.code
 refine zk ?_
 clear zk zP
 unfold reTarget
 refine wpAny_bind (wpAny_of_eq (a := [some (Value.bytes b.toArray t), none, none]) (by first | rfl | kernel_rfl) ?_)
 refine wpAny_bind (wpAny_pure ?_)
 refine wpAny_bind (wpAny_pure ?_)
 refine wpAny_bind (m := fieldsOf _) (wpAny_bind (wpAny_load e1 (wpAny_pure ?_)))
 refine wpAny_bind (m := reTextOf _) ?_
 ·unfold reTextOf
  refine wpAny_bind (wpAny_of_eq (a := none) (by first | rfl | kernel_rfl) ?_)
  refine wpAny_bind (wpAny_of_eq KBy.quiet_eq ?_)
  refine wpAny_pure ?_
  dsimp only
  have h6 : reRawNat ((#[x, y, Value.int 0 0, Value.none, Value.none, Value.ref 42, Value.int 1 0] : Array Value).getD 6 Value.none) = 1 := rfl
  rw [h6, if_neg (by decide), if_neg (by decide)]
  refine wpAny_bind (wpAny_of_eq (a := ()) ?_ ?_)
  ·unfold reNoCollectionInside
   rw [KBy.isInstance_eq]
   rfl
  refine wpAny_bind (m := reRawItems _) ?_
  unfold reRawItems
  refine wpAny_bind (m := seqItems? _) (wpAny_bind (wpAny_load e2 (wpAny_pure ?_)))
  refine wpAny_pure (wpAny_pure ?_)
  have hcode : Array.map (fun x => x.toNat) (Array.map reRawOf ((some reVals).getD #[])) = reCode := by decide +kernel
  refine h _ hcode rfl rfl ?_ ?_
  ·show min _ _ = 0
   simp
  ·show min _ _ = _
   simp
   omega

theorem hexN_of {b : List UInt8} (h : b.all hexChar = true) : ∀ s, s < (b.toArray.map (·.toNat)).size -> hexN ((b.toArray.map (·.toNat)).getD s 0) = true := by
 intro s hs
 have hs' : s < b.length := by simpa using hs
 have := List.all_eq_true.mp h b[s] (List.getElem_mem hs')
 simp only [Array.getD, hs, dite_true]
 have e : (b.toArray.map (·.toNat))[s]'hs = b[s].toNat := by simp
 show hexN ((b.toArray.map (·.toNat))[s]'hs) = true
 rw [e]
 unfold hexChar at this
 unfold hexN
 simpa [UInt8.le_iff_toNat_le] using this

variable {W : Wd} {R : D -> Hp -> Prop} {r : D × Hp} {x : D} {v : Value} {ds : List D} {vs : List Value}

section
variable (S : St prog w B W.s.heap W.ad W.H) (p : PostE prog w B W R Q) (h : R r.1 r.2) (rx : VRel W.s.heap W.ad x v) (rs : VRels W.s.heap W.ad ds vs)
include S p h rx rs
omit rx in
theorem search_call (RT : ReTop B) (e : bmD .search (.val (.ref 43)) ds W.H = some r) : wpAny (model prog w) A (call (.builtin "re.Pattern.search") (.ref 43 :: vs)) Q E W.s := by
 apply one_el S e rs; intro d u e ru
 revert ru
 refine dY_el (M := fun d => VRel W.s.heap W.ad d u -> _) e fun b e ru => ?_
 apply vBytes_el ru; intro t
 have e : gd (decide (43 = 43) && (b.all hexChar && decide (b.length <= 1000))) (some (D.none, W.H)) = some r := e
 refine gd_el e fun hl e => ?_
 simp only [Bool.and_eq_true, decide_eq_true_eq] at hl
 have hl := hl.2
 have RT' : ReTop W.s.heap := by
  refine hid fun zP zk => ?_
  obtain ⟨⟨x, y, dd, sl, e1, ed⟩, ⟨dd2, m2, sl2, e2⟩⟩ := RT
  refine zk ?_
  clear zk zP
  exact ⟨⟨x, y, dd, sl, S.base _ _ e1, ed⟩, ⟨dd2, m2, sl2, S.base _ _ e2⟩⟩
 refine hid fun zP zk => ?_
 obtain ⟨x, y, dd, sl, e1, _⟩ := RT'.pat
 refine zk ?_
 clear zk zP
 refine wpAny_call_entry slot_search ⟨_, e1, rfl⟩ entry_search ?_ (args_search _ _)
 unfold Builtin.«re.Pattern.search»
 refine wpAny_bind (target RT' (fun tg h1 h2 h3 h4 h5 => ?_) hl.2)
 unfold reAnswer
 have hs := hexN_of hl.1
 have hz : (b.toArray.map (·.toNat)).size = b.length := by simp
 obtain ⟨q1, q2, q3⟩ := search_none hs
 rw [h1, h2, h3, h4, h5, <- hz]
 exact wpAny_bind (toEnd _ q1 q2 q3 (wpAny_pure ⟨_, rfl, (p.k0r S (Option.some.inj e) h).same (iNone _ _) _⟩))
end
end
end Mine
end

section
open PySem PySem.W PyProof.Rows
namespace Mine

theorem plain_mt : plainId "bytes.maketrans" = true := by decide +kernel
theorem entry_mt : entryFor table "bytes.maketrans" = some Builtin.«bytes.maketrans» := entryFor_of_tree (by kernel_rfl)
theorem check_mt (a b : Value) : checkBuiltinCall "bytes.maketrans" ⟨[a, b], []⟩ = pure () := by first | rfl | kernel_rfl
theorem cls_mt : findCls [] (.type "bytes") (.type "type") (PySem.Str.ofString "maketrans") = some (.val (.builtin "bytes.maketrans")) := by first | rfl | kernel_rfl

section
variable [o : Off] {prog : Program} {w : World} {B : Heap} {G : Gs} {n : Nat} {A : Around} {E : Value -> Shared -> Prop} {s : Shared} {ad : List Addr} {H H' : Hp} {Q : Value -> Shared -> Prop}

theorem get_mt {pl : Sem Bool} {Q : Value × List Value -> Shared -> Prop} (h : Q (.builtin "bytes.maketrans", []) { s with toks := s.toks + 1 }) :
  wpAny (model prog w) A (getMethod (.type "bytes") (PySem.Str.ofString "maketrans") pl) Q E s := by
 have X : Frag.In [] s.heap := fun a o e => by cases e
 have hstub : opaqueClassAbove (.type "bytes") = pure none := by unfold opaqueClassAbove; dsimp only; rw [show Manifest.isStub "bytes" = false by decide +kernel]; rfl
 have ht : typeOf (.type "bytes") = pure (.type "type") := by first | rfl | kernel_rfl
 have L0 : Looks (model prog w) s.heap (typeOf (.type "bytes")) (.type "type") := Looks.of_pure ht
 have hg : findIn [] (.type "type") "__getattribute__" = some (some (.builtin "type.__getattribute__")) := type_tga
 unfold getMethod specialOf
 refine wpAny_bind (wpAny_bind (L0.here ((looks_findIn X hg).here ?_)))
 dsimp only
 rw [if_pos canon_tga]
 refine wpAny_bind (wpAny_mono (Q := fun v => Q (v, [])) (E := E) ?_ (fun _ _ z => wpAny_pure z) fun _ _ z => z)
 have LO : Looks (model prog w) s.heap (opaqueClassAbove (.type "bytes")) none := Looks.of_pure hstub
 refine cls_open X LO L0 hg (looks_hook X (r := none) (by rfl)) (by show subIn [] _ _ = _; rfl) cls_mt ?_
 refine wpAny_pure ?_
 show wpAny _ _ (handedOut (.builtin "bytes.maketrans")) _ _ _
 rw [handedOut_of (by decide +kernel)]
 exact wpAny_pure h

theorem table_eq (a b : List UInt8) : ((a.toArray.toList.zip b.toArray.toList).foldl (fun (t : Array UInt8) (p : UInt8 × UInt8) => t.setIfInBounds p.1.toNat p.2) ((Array.range 256).map (·.toUInt8))) = (table256 a b).toArray := by
 unfold table256
 have e0 : ((Array.range 256).map (·.toUInt8) : Array UInt8) = ((List.range 256).map fun i => i.toUInt8).toArray := by
  apply Array.ext'
  simp
 rw [e0]
 generalize ((List.range 256).map fun i => i.toUInt8) = t
 show (a.zip b).foldl _ _ = _
 generalize a.zip b = l
 induction l generalizing t with
 | nil => rfl
 | cons p l ih =>
  rw [List.foldl_cons, List.foldl_cons, <- ih]
  congr 1
  simp
theorem table_len (a b : List UInt8) : (table256 a b).length = 256 := by
 unfold table256
 have : ∀ (l : List (UInt8 × UInt8)) (t : List UInt8), (l.foldl (fun t p => t.set p.1.toNat p.2) t).length = t.length := by
  intro l
  induction l with
  | nil => intro t; rfl
  | cons p l ih => intro t; rw [List.foldl_cons, ih, List.length_set]
 rw [this]
 simp

variable {W : Wd} {R : D -> Hp -> Prop} {r : D × Hp} {x : D} {v : Value} {ds : List D} {vs : List Value}

section
variable (S : St prog w B W.s.heap W.ad W.H) (p : PostE prog w B W R Q) (h : R r.1 r.2) (rx : VRel W.s.heap W.ad x v) (rs : VRels W.s.heap W.ad ds vs)
include S p h rx rs
omit rx in
theorem mt_call (e : bmD .maketrans (.val (.type "bytes")) ds W.H = some r) : wpAny (model prog w) A (call (.builtin "bytes.maketrans") vs) Q E W.s := by
 refine l2_el (M := fun ds => VRels W.s.heap W.ad ds vs -> _) e (fun y z e rs => ?_) rs
 apply vsTwo_el rs; intro v u rv ru
 revert rv ru
 refine dY_el (M := fun y => VRel W.s.heap W.ad y v -> VRel W.s.heap W.ad z u -> _) e fun a e rv => dY_el (M := fun z => VRel W.s.heap W.ad z u -> _) e fun b e ru => ?_
 apply vBytes_el rv; intro t
 apply vBytes_el ru; intro t2
 have e : gd (decide ("bytes" = "bytes") && decide (a.length = b.length)) (some (D.bytes (table256 a b), W.H)) = some r := e
 refine gd_el e fun hl e => ?_
 have hl := of_decide_eq_true (ban hl).2
 have p := p.k0r S (Option.some.inj e) h
 refine wpAny_call (codeAny_call_builtin plain_mt entry_mt (wpAny_of_eq (check_mt _ _) ?_))
 have hc : wpAny (model prog w) A.in1 (Builtin.«bytes.maketrans» ⟨[.bytes a.toArray t, .bytes b.toArray t2], []⟩) (fun fin s' => ∃ v, fin = .done (.ret v) /\ Q v s') E W.s := ?_
 ·exact wpAny_mono hc (fun fin s' h' => by obtain ⟨v, rfl, hv⟩ := h'; exact hv) fun _ _ h' => h'
 unfold Builtin.«bytes.maketrans» Builtin.Bytes.maketransM
 refine wpAny_bind (wpAny_of_eq (a := ()) (by first | rfl | kernel_rfl) ?_)
 refine wpAny_bind (wpAny_of_eq (a := ()) (by first | rfl | kernel_rfl) ?_)
 refine wpAny_bind (wpAny_of_eq KBd.like_eq ?_)
 refine wpAny_bind (wpAny_of_eq KBd.like_eq ?_)
 dsimp only
 rw [if_neg (by simp [hl])]
 have k := table_eq a b
 show wpAny _ _ (mkBytes ((a.toArray.toList.zip b.toArray.toList).foldl (fun (t : Array UInt8) (p : UInt8 × UInt8) => t.setIfInBounds p.1.toNat p.2) ((Array.range 256).map (·.toUInt8))) >>= fun v => ret v) _ _ _
 rw [k]
 refine wpAny_bind (wpAny_mkBytes ?_ (by rw [sizeLine_eq, List.size_toArray, table_len]; decide))
 exact wpAny_pure ⟨_, rfl, p.bytes rfl _ _⟩
end
end
end Mine
end

section
open PySem PySem.W PyProof.Rows
namespace Mine

theorem kindO_el {P : Nat -> Prop} {o : Option Ob} (k0 : ∀ ds, o = some (.list ds) -> P 0) (k1 : ∀ es ep, o = some (.dict es ep) -> P 1) (k2 : ∀ es, o = some (.set es) -> P 2) (k3 : P 3) (k9 : P 9) : P (kindO o) := by
 cases o with
 | none => exact k9
 | some o => cases o <;> first | exact k0 _ rfl | exact k1 _ _ rfl | exact k2 _ rfl | exact k3 | exact k9
theorem kindV_el {P : Nat -> Prop} {v : Value} (k6 : v = .type "bytes" -> P 6) (k7 : v = .ref 43 -> P 7) (k9 : P 9) : P (kindV v) := by
 cases v with
 | type n =>
  show P (cond (decide (n = "bytes")) 6 9)
  cases q : decide (n = "bytes") with
  | true => exact k6 (congrArg Value.type (of_decide_eq_true q))
  | false => exact k9
 | ref n =>
  show P (cond (decide (n = 43)) 7 9)
  cases q : decide (n = 43) with
  | true => exact k7 (congrArg Value.ref (of_decide_eq_true q))
  | false => exact k9
 | _ => exact k9
theorem kind_el {P : Nat -> Prop} {x : D} {H : Hp} (k0 : ∀ k ds, x = .ref k -> H[k]? = some (.list ds) -> P 0) (k1 : ∀ k es ep, x = .ref k -> H[k]? = some (.dict es ep) -> P 1) (k2 : ∀ k es, x = .ref k -> H[k]? = some (.set es) -> P 2) (k3 : P 3)
  (k4 : ∀ b, x = .bytes b -> P 4) (k5 : ∀ b, x = .str b -> P 5) (k6 : x = .val (.type "bytes") -> P 6) (k7 : x = .val (.ref 43) -> P 7) (k9 : P 9) : P (kindOf x H) := by
 cases x with
 | ref k => exact kindO_el (fun ds => k0 k ds rfl) (fun es ep => k1 k es ep rfl) (fun es => k2 k es rfl) k3 k9
 | bytes b => exact k4 b rfl
 | str b => exact k5 b rfl
 | val v => exact kindV_el (fun q => k6 (congrArg D.val q)) (fun q => k7 (congrArg D.val q)) k9
 | _ => exact k9
section
variable {x : D} {H : Hp}
theorem k_list (h : kindOf x H = 0) : ∃ (k : Nat) (ds : List D), x = .ref k /\ H[k]? = some (.list ds) := kind_el (P := fun n => n = 0 -> _) (fun k ds q e _ => ⟨k, ds, q, e⟩) (fun _ _ _ _ _ h => nomatch h) (fun _ _ _ _ h => nomatch h) (fun h => nomatch h) (fun _ _ h => nomatch h) (fun _ _ h => nomatch h) (fun _ h => nomatch h) (fun _ h => nomatch h) (fun h => nomatch h) h
theorem k_dict (h : kindOf x H = 1) : ∃ (k : Nat) (es : List (Int × D)) (ep : Nat), x = .ref k /\ H[k]? = some (.dict es ep) := kind_el (P := fun n => n = 1 -> _) (fun _ _ _ _ h => nomatch h) (fun k es ep q e _ => ⟨k, es, ep, q, e⟩) (fun _ _ _ _ h => nomatch h) (fun h => nomatch h) (fun _ _ h => nomatch h) (fun _ _ h => nomatch h) (fun _ h => nomatch h) (fun _ h => nomatch h) (fun h => nomatch h) h
theorem k_set (h : kindOf x H = 2) : ∃ (k : Nat) (es : List Int), x = .ref k /\ H[k]? = some (.set es) := kind_el (P := fun n => n = 2 -> _) (fun _ _ _ _ h => nomatch h) (fun _ _ _ _ _ h => nomatch h) (fun k es q e _ => ⟨k, es, q, e⟩) (fun h => nomatch h) (fun _ _ h => nomatch h) (fun _ _ h => nomatch h) (fun _ h => nomatch h) (fun _ h => nomatch h) (fun h => nomatch h) h
theorem k_bytes (h : kindOf x H = 4) : ∃ b, x = .bytes b := kind_el (P := fun n => n = 4 -> _) (fun _ _ _ _ h => nomatch h) (fun _ _ _ _ _ h => nomatch h) (fun _ _ _ _ h => nomatch h) (fun h => nomatch h) (fun b q _ => ⟨b, q⟩) (fun _ _ h => nomatch h) (fun _ h => nomatch h) (fun _ h => nomatch h) (fun h => nomatch h) h
theorem k_str (h : kindOf x H = 5) : ∃ b, x = .str b := kind_el (P := fun n => n = 5 -> _) (fun _ _ _ _ h => nomatch h) (fun _ _ _ _ _ h => nomatch h) (fun _ _ _ _ h => nomatch h) (fun h => nomatch h) (fun _ _ h => nomatch h) (fun b q _ => ⟨b, q⟩) (fun _ h => nomatch h) (fun _ h => nomatch h) (fun h => nomatch h) h
theorem mtK (h : bmK .maketrans x H = true) : x = .val (.type "bytes") := kind_el (P := fun n => n = 6 -> _) (fun _ _ _ _ h => nomatch h) (fun _ _ _ _ _ h => nomatch h) (fun _ _ _ _ h => nomatch h) (fun h => nomatch h) (fun _ _ h => nomatch h) (fun _ _ h => nomatch h) (fun q _ => q) (fun _ h => nomatch h) (fun h => nomatch h) (of_decide_eq_true h)
theorem seK (h : bmK .search x H = true) : x = .val (.ref 43) := kind_el (P := fun n => n = 7 -> _) (fun _ _ _ _ h => nomatch h) (fun _ _ _ _ _ h => nomatch h) (fun _ _ _ _ h => nomatch h) (fun h => nomatch h) (fun _ _ h => nomatch h) (fun _ _ h => nomatch h) (fun _ h => nomatch h) (fun q _ => q) (fun h => nomatch h) (of_decide_eq_true h)
end
section
variable [o : Off] {prog : Program} {w : World} {B : Heap} {G : Gs} {f : Fns} {n : Nat} {X : Cx} {env : Env} {cv : List D} {lo : Lo} {A : Around} {E : Value -> Shared -> Prop} {Q : Value -> Shared -> Prop} {W : Wd} {R : D -> Hp -> Prop}
theorem noRef {s : Shared} {v : Value} (h : ∀ a, v ≠ .ref a) : ∀ a, v = .ref a -> ∃ ob, s.heap.get? a = some ob /\ ob.dict = none := fun a e => absurd e (h a)
noncomputable def BmId (m : BM) (T id : String) : Prop := match m with | .search => id = "re.Pattern.search" | _ => bmTI m = some (T, id)
section
variable {m : BM} {name : Str} {x : D} {v : Value} (S : St prog w B W.s.heap W.ad W.H) (rx : VRel W.s.heap W.ad x v)
include S rx
theorem list_meth {id : String} (hk : kindOf x W.H = 0) (slot : Slot "list" name id) (ty : typeOf (.builtin id) = pure (.type "method_descriptor")) : Meth W.s v "list" name id := by
 refine hid fun zP zk => ?_
 obtain ⟨k, ds, hx, q⟩ := k_list hk
 refine zk ?_
 clear zk zP
 rw [hx] at rx
 apply vRef_el rx
 exact fun a ha => let ⟨us, m, g, _⟩ := S.list ha q; ⟨F.plainAttrs_list, slot, ty, ⟨_, g, rfl⟩, fun b eb => Value.ref.inj eb ▸ ⟨_, g, rfl⟩⟩
omit S in
theorem bytes_meth {id : String} (hk : kindOf x W.H = 4) (slot : Slot "bytes" name id) (ty : typeOf (.builtin id) = pure (.type "method_descriptor")) : Meth W.s v "bytes" name id := by
 obtain ⟨b, hx⟩ := k_bytes hk
 rw [hx] at rx
 apply vBytes_el rx
 exact fun t => ⟨FB.plainAttrs_bytes, slot, ty, typeIs_bytes _ _ _, noRef (fun _ e => nomatch e)⟩
theorem bm_meth (RT : ReTop B) (hn : bmName m = some name) (hm : m ≠ .maketrans) (hk : bmK m x W.H = true) : ∃ T id, Meth W.s v T name id /\ BmId m T id := by
 have hk := of_decide_eq_true hk
 cases m with
 | append => exact Option.some.inj hn ▸ ⟨_, _, list_meth S rx hk F.slot_list_append F.type_list_append, rfl⟩
 | extend => exact Option.some.inj hn ▸ ⟨_, _, list_meth S rx hk F.slot_list_extend F.type_list_extend, rfl⟩
 | pop => exact Option.some.inj hn ▸ ⟨_, _, list_meth S rx hk F.slot_list_pop F.type_list_pop, rfl⟩
 | popAt => exact Option.some.inj hn ▸ ⟨_, _, list_meth S rx hk F.slot_list_pop F.type_list_pop, rfl⟩
 | clear => exact Option.some.inj hn ▸ ⟨_, _, list_meth S rx hk F.slot_list_clear F.type_list_clear, rfl⟩
 | get =>
  refine hid fun zP zk => ?_
  obtain ⟨k, es, ep, hx, q⟩ := k_dict hk
  refine zk ?_
  clear zk zP
  rw [hx] at rx
  apply vRef_el rx
  exact fun a ha => let ⟨f, hm, hf⟩ := S.mapOf ha q; Option.some.inj hn ▸ ⟨_, _, ⟨F.plainAttrs_dict, F.slot_dict_get, F.type_dict_get, hm.typeIs, hm.noDict⟩, rfl⟩
 | sadd =>
  refine hid fun zP zk => ?_
  obtain ⟨k, es, hx, q⟩ := k_set hk
  refine zk ?_
  clear zk zP
  rw [hx] at rx
  apply vRef_el rx
  exact fun a ha => have so := S.setOf ha q; Option.some.inj hn ▸ ⟨_, _, ⟨F.plainAttrs_set, F.slot_set_add, F.type_set_add, so.typeIs, so.noDict⟩, rfl⟩
 | next => exact nomatch hn
 | hex => exact Option.some.inj hn ▸ ⟨_, _, bytes_meth rx hk FB.slot_bytes_hex FB.type_bytes_hex, rfl⟩
 | upper => exact Option.some.inj hn ▸ ⟨_, _, bytes_meth rx hk slot_upper type_upper, rfl⟩
 | translate => exact Option.some.inj hn ▸ ⟨_, _, bytes_meth rx hk slot_translate type_translate, rfl⟩
 | encode =>
  obtain ⟨b, hx⟩ := k_str hk
  rw [hx] at rx
  apply vStr_el rx
  exact fun t => Option.some.inj hn ▸ ⟨_, _, ⟨F.plainAttrs_str, F.slot_str_encode, F.type_str_encode, typeIs_str _ _ _, noRef (fun _ e => nomatch e)⟩, rfl⟩
 | maketrans => exact absurd rfl hm
 | search =>
  rw [seK (decide_eq_true hk)] at rx
  apply vVal_el rx
  refine hid fun zP zk => ?_
  obtain ⟨x, y, dd, sl, e1, e2⟩ := RT.pat
  refine zk ?_
  clear zk zP
  exact Option.some.inj hn ▸ ⟨_, _, ⟨plainAttrs_pattern, slot_search, type_search, ⟨_, S.base _ _ e1, rfl⟩, fun a e => Value.ref.inj e ▸ ⟨_, S.base _ _ e1, e2⟩⟩, rfl⟩
end
theorem ti {T id T' id' : String} {P : String -> Prop} (h : some (T, id) = some (T', id')) (c : P id) : P id' := by
 have q : id = id' := congrArg Prod.snd (Option.some.inj h)
 exact q ▸ c
theorem bm_call {m : BM} {x : D} {ds : List D} {r : D × Hp} {v : Value} {vs : List Value} {T id : String} {ob : Obj} (hob : B.get? sysModules = some ob) (RT : ReTop B) (hm : m ≠ .maketrans) (hnx : m ≠ .next) (hs : m = .search -> x = .val (.ref 43))
  (hid : BmId m T id) (e : bmD m x ds W.H = some r) (S : St prog w B W.s.heap W.ad W.H) (rx : VRel W.s.heap W.ad x v) (rs : VRels W.s.heap W.ad ds vs) (p : PostE prog w B W R Q) (h : R r.1 r.2) :
  wpAny (model prog w) A (call (.builtin id) (v :: vs)) Q E W.s := by
 cases m with
 | append => exact ti (P := fun id => wpAny _ A (call (.builtin id) (v :: vs)) Q E W.s) hid (append_call S p h rx rs e)
 | extend => exact ti (P := fun id => wpAny _ A (call (.builtin id) (v :: vs)) Q E W.s) hid (extend_call S p h rx rs e)
 | pop => exact ti (P := fun id => wpAny _ A (call (.builtin id) (v :: vs)) Q E W.s) hid (pop_call S p h rx rs e)
 | popAt => exact ti (P := fun id => wpAny _ A (call (.builtin id) (v :: vs)) Q E W.s) hid (popAt_call S p h rx rs e)
 | clear => exact ti (P := fun id => wpAny _ A (call (.builtin id) (v :: vs)) Q E W.s) hid (clear_call S p h rx rs e)
 | hex => exact ti (P := fun id => wpAny _ A (call (.builtin id) (v :: vs)) Q E W.s) hid (hex_call S p h rx rs e)
 | upper => exact ti (P := fun id => wpAny _ A (call (.builtin id) (v :: vs)) Q E W.s) hid (upper_call S p h rx rs e)
 | translate => exact ti (P := fun id => wpAny _ A (call (.builtin id) (v :: vs)) Q E W.s) hid (translate_call S p h rx rs e)
 | maketrans => exact absurd rfl hm
 | search =>
  rw [hs rfl] at rx e
  apply vVal_el rx
  exact (show id = "re.Pattern.search" from hid) ▸ search_call S p h rs RT e
 | get => exact ti (P := fun id => wpAny _ A (call (.builtin id) (v :: vs)) Q E W.s) hid (get_call S p h rx rs hob e)
 | encode => exact ti (P := fun id => wpAny _ A (call (.builtin id) (v :: vs)) Q E W.s) hid (encode_call S p h rx rs e)
 | sadd => exact ti (P := fun id => wpAny _ A (call (.builtin id) (v :: vs)) Q E W.s) hid (sadd_call S p h rx rs e)
 | next => exact absurd rfl hnx

theorem few {pos : Pos} {args : List PySem.Expr} {as : List Ex} (ies : IsEs G X args as) (hl : as.length <= 2) : ((backTo pos (starEach args env)).all (fun x => !x.1) && (backToKw pos (keywordEach [] env)).all (fun x => x.1.isSome)
   && decide (args.length + ([] : List Keyword).length + (if ([] : List Keyword).isEmpty then 0 else 1) < 30)) = true := by
 have h1 := ies.plain (pos := pos) (env := env)
 have h2 := ies.length
 rw [Bool.and_eq_true, Bool.and_eq_true]
 refine ⟨⟨?_, rfl⟩, ?_⟩
 ·rw [List.all_eq_true]
  intro x m
  rw [List.any_eq_false] at h1
  have := h1 x m
  simpa using this
 ·simp
  omega

theorem bm_sound (T : TopOk B G) (RT : ReTop B) (hE : SndE prog w B G f n) (r : Room A n) {ob : PySem.Expr} {name : Str} {apos pos : Pos} {args : List PySem.Expr} {m : BM} {a : Ex} {as : List Ex} (hn : bmName m = some name) (ns : notSuper ob = true) (hline : (apos.endLine == pos.line) = true) (hl : as.length <= 2)
  (ie : IsE G X ob a) (ies : IsEs G X args as) (h : evStep f cv lo (.bm m a as) W.H R) (C : RW prog w B X env W lo cv) (p : PostE prog w B W R Q) : wpAny (model prog w) A (eval (.Call (.Attribute ob name apos) args [] pos) env) Q E W.s := by
 obtain ⟨om, hob⟩ := T.sysm
 by_cases hm : m = .maketrans
 ·rw [hm] at h hn
  rw [arm_eval_Call, attributeBase_of ns]
  refine wpAny_bind (hE ie h r C fun W1 x ov g1 h1 rx => ?_)
  replace h1 := wT_of h1
  rw [mtK h1.1] at rx h1
  have h1 := h1.2
  apply vVal_el rx
  refine wpAny_bind (wpAny_standAt ?_)
  have hform : methodCallForm (args.length + ([] : List Keyword).length) (backTo pos (starEach args env)) (backToKw pos (keywordEach [] env)) = true := few ies hl
  have hpos : methodCallPos true ob env apos pos = pure pos := by unfold methodCallPos; simp [hline]
  unfold methodCall
  rw [hform]
  have gt : Le prog w B W1 (W1.on W1.s.heap (W1.s.toks + 1)) := Le.keep g1.st (fun _ _ e => e) (Nat.le_refl _) _
  refine wpAny_bind (wpAny_holding (Option.some.inj hn ▸ get_mt ?_))
  refine wpAny_bind (wpAny_of_eq hpos ?_)
  exact callB_sound (W := W1.on W1.s.heap (W1.s.toks + 1)) hE r ies h1 ((C.up g1).up gt) fun W2 ds vs g2 h2 rs l => op_el h2 fun z e h2 => mt_call g2.st (p.more ((g1.trans gt).trans g2)) h2 rs e
 ·by_cases hnx : m = .next
  ·rw [hnx] at hn
   exact nomatch hn
  ·refine wpAny_Call_method_lateS (attributeBase_of ns _) (few ies hl) hline (hE ie h r C fun W1 x ov g1 h1 rx => ?_)
   replace h1 := wT_of h1
   refine hid fun zP zk => ?_
   obtain ⟨Ty, id, M, hid⟩ := bm_meth g1.st rx RT hn hm h1.1
   refine zk ?_
   clear zk zP
   refine ⟨Ty, id, M.pa, M.slot, M.ty, M.is, M.nd, ?_⟩
   exact callB_sound (first := [ov]) hE r ies h1.2 (C.up g1) fun W2 ds vs g2 h2 rs l => op_el h2 fun z e h2 => bm_call hob RT hm hnx (fun q => seK (q ▸ h1.1)) hid e g2.st (rx.up g2) rs (p.more (g1.trans g2)) h2
end
end Mine
end

section
open PySem PySem.W PyProof.Rows Builtin.ObjectAttr
namespace Mine
noncomputable def memGet : Value := .builtin "member_descriptor.__get__"
structure KTop (K : Frag) (B : Heap) (sp : Nat -> Addr) : Prop where
 X : K.In B
 gaS : findIn K (.ref clsS) "__getattribute__" = some (some (.builtin "object.__getattribute__"))
 gkS : findIn K (.ref clsS) "__getattr__" = some none
 saS : findIn K (.ref clsS) "__setattr__" = some (some (.builtin "object.__setattr__"))
 gaN : findIn K (.ref clsN) "__getattribute__" = some (some (.builtin "object.__getattribute__"))
 gkN : findIn K (.ref clsN) "__getattr__" = some none
 saN : findIn K (.ref clsN) "__setattr__" = some (some (.builtin "object.__setattr__"))
 objS : ∀ f nm od v, f < 4 -> attNm f = some nm -> lookIn nm od = some (some v) -> findObj K clsS (some od) nm = some (.value v)
 objN : ∀ f nm od, 4 <= f -> attNm f = some nm -> findObj K clsN od nm = some (.bind memGet (.ref (sp f)))
 slN : ∀ f nm, 4 <= f -> attNm f = some nm -> slotIn K (sp f) clsN = some (f - 4)
 poS : plainOver K clsS = true
 poN : plainOver K clsN = true
 tkS : ∀ f nm, f < 4 -> attNm f = some nm -> takerIn K clsS nm = some none
 tkN : ∀ f nm, 4 <= f -> attNm f = some nm -> takerIn K clsN nm = some (some (.ref (sp f)))
 tyN : ∀ f nm, 4 <= f -> attNm f = some nm -> typeIn K (.ref (sp f)) = some (.type "member_descriptor")
 hdS : (clsIn K clsS).any (·.hasDict) = true

theorem attNm_name {f : Nat} {nm : Str} (h : f < 4) (e : attNm f = some nm) : nm = attName f := by
 rcases f with _ | _ | _ | _ | f
 ·cases e; rfl
 ·cases e; rfl
 ·cases e; rfl
 ·cases e; rfl
 ·omega
theorem attNm_le {f : Nat} {nm : Str} (e : attNm f = some nm) : f < 7 := by
 rcases f with _ | _ | _ | _ | _ | _ | _ | f
 all_goals first | omega | cases e

theorem lookIn_some {nm : Str} {o : Obj} {es : Array DictEntry} {ep : Nat} {v : Value} (hd : o.data = .dict es ep) (h : nsFind es nm = some v) : lookIn nm o = some (some v) := by
 unfold lookIn
 rw [hd]
 unfold nsFind findBy at h
 obtain ⟨e, he, rfl⟩ := Option.map_eq_some_iff.mp h
 rw [<- Array.find?_toList] at he
 dsimp only
 rw [he]
theorem lookIn_none {nm : Str} {o : Obj} {es : Array DictEntry} {ep : Nat} (hd : o.data = .dict es ep) (hk : StrKeys es) (h : nsFind es nm = none) : lookIn nm o = some none := by
 unfold lookIn
 rw [hd]
 unfold nsFind findBy at h
 have he := Option.map_eq_none_iff.mp h
 rw [<- Array.find?_toList] at he
 dsimp only
 rw [he]
 dsimp only
 rw [if_neg]
 intro q
 refine hid fun zP zk => ?_
 obtain ⟨e, m, r⟩ := List.any_eq_true.mp q
 obtain ⟨n, t, k⟩ := hk e (by simpa using m)
 refine zk ?_
 clear zk zP
 unfold DictEntry.refKey at r
 rw [k] at r
 cases r

theorem hand_el {M : Option D -> Prop} {x : Option D} {d : D} (e : x.bind hand = some d) (c : (∀ v, d ≠ .val v) -> M (some d)) : M x := by
 cases x with
 | none => exact nomatch e
 | some y =>
  cases y with
  | val v => exact nomatch e
  | _ =>
   have e' := Option.some.inj e
   subst e'
   exact c (fun _ q => D.noConfusion q)

section
variable [o : Off] {prog : Program} {w : World} {B : Heap} {G : Gs} {K : Frag} {sp : Nat -> Addr} {f : Fns} {n : Nat} {X : Cx} {env : Env} {cv : List D} {lo : Lo} {A : Around} {E : Value -> Shared -> Prop} {s : Shared} {ad : List Addr} {H H' : Hp} {Q : Value -> Shared -> Prop} {W : Wd} {R : D -> Hp -> Prop}

theorem handed {h : Heap} {d : D} {v : Value} (r : VRel h ad d v) (hd : ∀ v, d ≠ .val v) : handedIn v = true := by
 cases d with
 | val x => exact absurd rfl (hd x)
 | none => rw [vNone r]; rfl
 | bool b => rw [vBool r]; rfl
 | int i => obtain ⟨t, rfl⟩ := vInt r; rfl
 | bytes b => obtain ⟨t, rfl⟩ := vBytes r; rfl
 | str b => obtain ⟨t, rfl⟩ := vStr r; rfl
 | tup ds => obtain ⟨a, vs, m, rfl, _⟩ := vTup r; rfl
 | lst ds => obtain ⟨a, vs, m, rfl, _⟩ := vLst r; rfl
 | ref k => obtain ⟨a, rfl, _⟩ := vRef r; rfl
 | nxt k =>
  unfold VRel at r
  refine hid fun zP zk => ?_
  obtain ⟨a, _, _, ez1, _⟩ := r
  refine zk ?_
  clear zk zP
  subst ez1
  rfl

theorem St.instOf {k kd : Nat} {a : Addr} (S : St prog w B s.heap ad H) (hk : ad[k]? = some a) (ho : H[k]? = some (.inst kd)) : ∃ dx, ad[kd]? = some dx /\ s.heap.get? a = some { cls := .ref clsS, dict := some dx, data := .plain } := by
 refine hid fun zP zk => ?_
 obtain ⟨ob, e, dx, e1, ez2⟩ := S.obj k a _ hk ho
 refine zk ?_
 clear zk zP
 subst ez2
 exact ⟨dx, e1, e⟩
theorem St.attrsOf {k : Nat} {a : Addr} {es : List (Nat × D)} (S : St prog w B s.heap ad H) (hk : ad[k]? = some a) (ho : H[k]? = some (.attrs es)) : ∃ ob ents ep, s.heap.get? a = some ob /\ ob.cls = .type "dict" /\ ob.dict = none /\ ob.slots = #[] /\ ob.data = .dict ents ep /\ StrKeys ents /\ ents.size = es.length /\
  (∀ f d, (es.find? fun p => p.1 == f).map (·.2) = some d -> f < 4 -> ∃ v, nsFind ents (attName f) = some v /\ VRel s.heap ad d v) /\ ∀ x, nsFind ents x ≠ none -> ∃ f, f < 4 /\ x = attName f /\ (es.any fun p => p.1 == f) = true := by
 refine hid fun zP zk => ?_
 obtain ⟨ob, e, c1, c2, c3, ents, ep, q, ⟨k1, k2⟩, k3, k4⟩ := S.obj k a _ hk ho
 refine zk ?_
 clear zk zP
 exact ⟨ob, ents, ep, e, c1, c2, c3, q, k1, k2, k3, k4⟩
theorem St.some_obj {k : Nat} {a : Addr} (S : St prog w B s.heap ad H) (hk : ad[k]? = some a) : ∃ ob, s.heap.get? a = some ob := by
 have lt := (List.getElem?_eq_some_iff.mp hk).1
 rw [S.len] at lt
 obtain ⟨ob, e, _⟩ := S.obj k a _ hk (List.getElem?_eq_getElem lt)
 exact ⟨ob, e⟩

theorem KTop.here (KT : KTop K B sp) (S : St prog w B s.heap ad H) : K.In s.heap := KT.X.keeps S.base

theorem attD_sound (KT : KTop K B sp) (S : St prog w B s.heap ad H) {x : D} {fi : Nat} {nm : Str} {d : D} {v : Value} {expr : Bool} (hn : attNm fi = some nm) (e : attD H x fi = some d) (r : VRel s.heap ad x v) (p : ∀ u, VRel s.heap ad d u -> Q u { s with toks := s.toks + 1 }) :
  wpAny (model prog w) A (getAttr v nm expr) Q E s := by
 refine dR_el (M := fun x => VRel s.heap ad x v -> _) e (fun k e r => instO_el e (fun kd q e => attrsO_el e fun es q2 e => gd_el e fun hf e => ?_) fun kd sl q e => gd_el e fun hf e => ?_) r
 ·apply vRef_el r
  intro a hk
  refine hid fun zP zk => ?_
  obtain ⟨dx, e1, e2⟩ := S.instOf hk q
  have hf := of_decide_eq_true hf
  obtain ⟨ob, ents, ep, g, c1, c2, c3, dt, sk, sz, q3, q4⟩ := S.attrsOf e1 q2
  refine zk ?_
  clear zk zP
  have q3 := q3 fi
  revert q3
  refine hand_el (M := fun x => (∀ d, x = some d -> fi < 4 -> ∃ v, nsFind ents (attName fi) = some v /\ VRel s.heap ad d v) -> _) e fun hv q3 => ?_
  obtain ⟨u, e3, ru⟩ := q3 d rfl hf
  rw [<- attNm_name hf hn] at e3
  have I : InstAt s.heap a { cls := .ref clsS, dict := some dx, data := .plain } clsS (some ob) := ⟨e2, rfl, rfl, g⟩
  exact get_value (KT.here S) I KT.gaS (KT.objS fi nm ob u hf hn (lookIn_some dt e3)) (handed ru hv) (p u ru)
 ·apply vRef_el r
  intro a hk
  have hf := of_decide_eq_true hf
  refine hid fun zP zk => ?_
  obtain ⟨ob, g, c, ⟨dx, e1, e2⟩, dt, q2⟩ := S.obj k a _ hk q
  refine zk ?_
  clear zk zP
  have key : ∀ {x : Option D}, sl[fi - 4]? = some x -> x = some d -> ∃ u, (ob.slots[fi - 4]?).join = some u /\ VRel s.heap ad d u := fun e1 e2 => by
   have := q2 (fi - 4) _ e1
   rw [e2] at this
   exact this
  cases q3 : sl[fi - 4]? with
  | none => rw [q3] at e; exact nomatch e
  | some x =>
   rw [q3] at e
   have key := key q3
   revert key
   refine hand_el (x := x) (M := fun x => (x = some d -> _) -> _) e fun hv key => ?_
   refine hid fun zP zk => ?_
   obtain ⟨u, e3, ru⟩ := key rfl
   obtain ⟨od, g2⟩ := S.some_obj e1
   refine zk ?_
   clear zk zP
   have I : InstAt s.heap a ob clsN (some od) := ⟨g, c, by unfold notCls; rw [dt], by rw [e2]; exact g2⟩
   exact get_bind (KT.here S) I KT.gaN (KT.objN fi nm _ hf hn) KT.gkN (wpAny_call (slot_get (s := { s with toks := s.toks + 1 }) (KT.here S) I (KT.slN fi nm hf hn) e3 (handed_on (handed ru hv) (p u ru))))

theorem att_sound (KT : KTop K B sp) (hE : SndE prog w B G f n) (r : Room A n) (C : RW prog w B X env W lo cv) (p : PostE prog w B W R Q) {pe : PySem.Expr} {a : Ex} {fi : Nat} (ie : IsE G X pe (.att a fi)) (h : evStep f cv lo (.att a fi) W.H R) : wpAny (model prog w) A (eval pe env) Q E W.s := by
 apply ie.inv
 intro ob nm pos hn ns ie
 rw [arm_eval_Attribute, attributeBase_of ns]
 refine wpAny_bind (hE ie h r C fun W1 x v g1 h1 rx => wpAny_bind (wpAny_standAt (wpAny_bind (wpAny_holding (op_el h1 fun d e h1 => attD_sound KT g1.st hn e rx fun u ru => ?_)))))
 exact wpAny_bind (wpAny_letTemporaryGo (wpAny_pure ((p.k g1 h1).same ru _)))
end
end Mine
end

section
open PySem PySem.W PyProof.Rows Builtin.ObjectAttr
namespace Mine
theorem putA_find (f : Nat) (d : D) (g : Nat) : ∀ es : List (Nat × D), ((putA es f d).find? fun p => p.1 == g).map (·.2) = if g = f then some d else (es.find? fun p => p.1 == g).map (·.2)
 | [] => by
  unfold putA
  by_cases h : g = f
  ·subst h; simp
  ·simp [h, Ne.symm h]
 | p :: r => by
  unfold putA
  split
  ·rename_i q
   have q := eq_of_beq q
   subst q
   by_cases h : g = p.1
   ·subst h; simp
   ·have : (p.1 == g) = false := by simpa using Ne.symm h
    simp [h, this]
  ·rename_i q
   rw [List.find?_cons, List.find?_cons]
   by_cases h : (p.1 == g) = true
   ·rw [h]
    have hg := eq_of_beq h
    have : g ≠ f := by rintro rfl; rw [h] at q; cases q
    simp [this]
   ·simp only [Bool.not_eq_true] at h
    rw [h]
    exact putA_find f d g r
theorem putA_any (f : Nat) (d : D) (g : Nat) : ∀ es : List (Nat × D), ((putA es f d).any fun p => p.1 == g) = (g == f || es.any fun p => p.1 == g)
 | [] => by
  unfold putA
  simp [Bool.beq_comm]
 | p :: r => by
  unfold putA
  split
  ·rename_i q
   have q := eq_of_beq q
   subst q
   by_cases h : g = p.1
   ·subst h; simp
   ·have : (p.1 == g) = false := by simpa using Ne.symm h
    simp [h, this]
  ·rw [List.any_cons, List.any_cons, putA_any f d g r, <- Bool.or_assoc, Bool.or_comm (p.1 == g), Bool.or_assoc]
theorem putA_len (f : Nat) (d : D) : ∀ es : List (Nat × D), (putA es f d).length = if (es.any fun p => p.1 == f) = true then es.length else es.length + 1
 | [] => rfl
 | p :: r => by
  unfold putA
  split
  ·rename_i q
   simp [q]
  ·rename_i q
   rw [List.length_cons, putA_len f d r, List.any_cons, q, Bool.false_or]
   split <;> rfl
theorem attName_inj {f g : Nat} (hf : f < 4) (hg : g < 4) (e : attName f = attName g) : f = g := by
 have : ∀ f, f < 4 -> ∀ g, g < 4 -> attName f = attName g -> f = g := by decide +kernel
 exact this f hf g hg e

section
variable [o : Off] {prog : Program} {w : World} {B : Heap} {G : Gs} {K : Frag} {sp : Nat -> Addr} {f : Fns} {n : Nat} {X : Cx} {env : Env} {cv : List D} {lo : Lo} {A : Around} {E : Value -> Shared -> Prop} {s : Shared} {ad : List Addr} {H H' : Hp}

theorem attrs_put {h : Heap} {ob : Obj} {es : List (Nat × D)} {ents : Array DictEntry} {ep : Nat} {fi : Nat} {d : D} {v : Value} {hash : Int} {tk : Tok} (c1 : ob.cls = .type "dict") (c2 : ob.dict = none) (c3 : ob.slots = #[]) (dt : ob.data = .dict ents ep) (sk : StrKeys ents) (sz : ents.size = es.length)
  (q3 : ∀ f d, (es.find? fun p => p.1 == f).map (·.2) = some d -> f < 4 -> ∃ v, nsFind ents (attName f) = some v /\ VRel h ad d v) (q4 : ∀ x, nsFind ents x ≠ none -> ∃ f, f < 4 /\ x = attName f /\ (es.any fun p => p.1 == f) = true) (hf : fi < 4) (r : VRel h ad d v) :
  ORel prog w h ad (.attrs (putA es fi d)) (Obj.putName (attName fi) hash (.str (attName fi) tk) v ob) /\ (Obj.putName (attName fi) hash (.str (attName fi) tk) v ob).isFreed = false /\
   (Obj.putName (attName fi) hash (.str (attName fi) tk) v ob).data.pastItsLine = none \/ ¬ es.length <= 100 := by
 by_cases hl : es.length <= 100
 ·refine .inl ?_
  refine hid fun zP zk => ?_
  obtain ⟨c, dd, data, sl⟩ := ob
  refine zk ?_
  clear zk zP
  dsimp only at c1 c2 c3 dt
  subst c1 c2 c3 dt
  rw [Obj.putName_eq]
  unfold Obj.putNameByArray
  dsimp only
  have key : ∀ {ents' : Array DictEntry} {ep' : Nat}, StrKeys ents' -> ents'.size = (putA es fi d).length -> (∀ x, nsFind ents' x = if x = attName fi then some v else nsFind ents x) ->
    ORel prog w h ad (.attrs (putA es fi d)) ⟨.type "dict", none, .dict ents' ep', #[]⟩ /\ (⟨.type "dict", none, .dict ents' ep', #[]⟩ : Obj).isFreed = false /\ (Data.dict ents' ep').pastItsLine = none := by
   intro ents' ep' k1 k2 k3
   refine ⟨⟨rfl, rfl, rfl, ents', ep', rfl, ⟨k1, k2⟩, fun g d' e hg => ?_, fun x hx => ?_⟩, rfl, pastItsLine_dict ?_⟩
   ·rw [putA_find] at e
    by_cases hgf : g = fi
    ·subst hgf
     rw [if_pos rfl] at e
     cases e
     exact ⟨v, by rw [k3, if_pos rfl], r⟩
    ·rw [if_neg hgf] at e
     obtain ⟨u, e1, e2⟩ := q3 g d' e hg
     exact ⟨u, by rw [k3, if_neg (fun q => hgf (attName_inj hg hf q))]; exact e1, e2⟩
   ·rw [k3] at hx
    split at hx
    ·rename_i q
     exact ⟨fi, hf, q, by rw [putA_any]; simp⟩
    ·refine hid fun zP zk => ?_
     obtain ⟨g, g1, g2, g3⟩ := q4 x hx
     refine zk ?_
     clear zk zP
     exact ⟨g, g1, g2, by rw [putA_any, g3, Bool.or_true]⟩
   ·rw [k2, putA_len, sizeLine_eq]
    split <;> omega
  split
  ·rename_i i hi
   have hne : nsFind ents (attName fi) ≠ none := by
    have := findBy_modify (fun n v => v.isStr n) Value.isStr_inj ents (attName fi) (attName fi) v i hi
    intro q
    obtain ⟨l⟩ := ents
    unfold nsFind findBy at q
    have q := Option.map_eq_none_iff.mp q
    rw [List.find?_toArray] at q
    rw [List.findIdx?_toArray] at hi
    obtain ⟨hlt, h1, _⟩ := List.findIdx?_eq_some_iff_getElem.mp hi
    have := List.find?_eq_none.mp q _ (List.getElem_mem hlt)
    exact this h1
   refine hid fun zP zk => ?_
   obtain ⟨g, g1, g2, g3⟩ := q4 _ hne
   refine zk ?_
   clear zk zP
   have := attName_inj hf g1 g2
   subst this
   exact key (sk.modify _ _) (by rw [Array.size_modify, putA_len, if_pos g3]; exact sz) fun x => findBy_modify (fun n v => v.isStr n) Value.isStr_inj ents (attName fi) x v i hi
  ·rename_i hi
   have hno : (es.any fun p => p.1 == fi) = false := by
    cases hq : es.any fun p => p.1 == fi with
    | false => rfl
    | true =>
     exfalso
     obtain ⟨p, m, hp⟩ := List.any_eq_true.mp hq
     have : ∃ d0, (es.find? fun p => p.1 == fi).map (·.2) = some d0 := by
      cases hz : es.find? fun p => p.1 == fi with
      | none => exact absurd hp (List.find?_eq_none.mp hz p m)
      | some y => exact ⟨y.2, rfl⟩
     refine hid fun zP zk => ?_
     obtain ⟨d0, e0⟩ := this
     obtain ⟨u, e1, _⟩ := q3 fi d0 e0 hf
     obtain ⟨l⟩ := ents
     refine zk ?_
     clear zk zP
     unfold nsFind findBy at e1
     obtain ⟨y, hy, _⟩ := Option.map_eq_some_iff.mp e1
     rw [List.find?_toArray] at hy
     rw [List.findIdx?_toArray] at hi
     have := List.findIdx?_eq_none_iff.mp hi y (List.mem_of_find?_eq_some hy)
     have h2 := List.find?_some hy
     dsimp only at h2
     rw [h2] at this
     cases this
   exact key (sk.push _ _ _ _) (by rw [Array.size_push, putA_len, hno]; simp [sz]) fun x => findBy_push (fun n v => v.isStr n) ents (attName fi) x _ _ v (fun y => by
    show Value.isStr (.str (attName fi) tk) y = decide (y = attName fi)
    by_cases h : y = attName fi
    ·subst h; simp [Value.isStr]
    ·have h2 : attName fi ≠ y := fun q => h q.symm
     simp [Value.isStr, h, h2]) hi
 ·exact .inr hl

theorem slot_new (sl : Array (Option Value)) (i : Nat) (u : Value) : (((sl ++ Array.replicate (i + 1 - sl.size) none).setIfInBounds i (some u))[i]?).join = some u := by
 rw [Array.getElem?_setIfInBounds_self_of_lt (by rw [Array.size_append, Array.size_replicate]; omega)]
 rfl
theorem slot_old (sl : Array (Option Value)) (i j : Nat) (u : Value) {v : Value} (ne : j ≠ i) (e : (sl[j]?).join = some v) : (((sl ++ Array.replicate (i + 1 - sl.size) none).setIfInBounds i (some u))[j]?).join = some v := by
 rw [Array.getElem?_setIfInBounds_ne (Ne.symm ne)]
 have : j < sl.size := by
  cases q : sl[j]? with
  | none => rw [q] at e; cases e
  | some x => exact (Array.getElem?_eq_some_iff.mp q).1
 rw [Array.getElem?_append_left this]
 exact e

theorem setAtt_sound (KT : KTop K B sp) (S : St prog w B s.heap ad H) {x d : D} {fi : Nat} {nm : Str} {v u : Value} {Q : Unit -> Shared -> Prop} (hn : attNm fi = some nm) (e : setAtt H x fi d = some H') (rx : VRel s.heap ad x v) (rd : VRel s.heap ad d u)
  (p : ∀ h' tk, St prog w B h' ad H' -> Go ad s.heap [] h' -> Q () { s with heap := h', toks := tk }) : wpAny (model prog w) A (setAttr v nm u) Q E s := by
 refine dR_el (M := fun x => VRel s.heap ad x v -> _) e (fun k e rx => instO_el e (fun kd q e => attrsO_el e fun es q2 e => gd_el e fun hf e => ?_) fun kd sl q e => gd_el e fun hf e => ?_) rx
 ·apply vRef_el rx
  intro a hk
  rw [<- Option.some.inj e] at p
  obtain ⟨dx, e1, e2⟩ := S.instOf hk q
  simp only [Bool.and_eq_true, decide_eq_true_eq] at hf
  refine hid fun zP zk => ?_
  obtain ⟨ob, ents, ep, g, c1, c2, c3, dt, sk, sz, q3, q4⟩ := S.attrsOf e1 q2
  have I : InstAt s.heap a { cls := .ref clsS, dict := some dx, data := .plain } clsS (some ob) := ⟨e2, rfl, rfl, g⟩
  obtain ⟨cd, hc, hd'⟩ := any_some KT.hdS
  refine zk ?_
  clear zk zP
  have X := KT.here S
  have hnm := attNm_name hf.1 hn
  subst hnm
  refine set_plain X I KT.saS (osa_open (s := { s with toks := s.toks + 1 }) X I KT.poS (KT.tkS fi _ hf.1 hn) fun b => ?_)
  refine hid fun zP zk => ?_
  obtain ⟨hh, gs, dr, tk0, os⟩ := s
  refine zk ?_
  clear zk zP
  dsimp only at *
  refine wpAny_bind (wpAny_pure (wpAny_bind (wpAny_bind (wpAny_loadPart e2 (wpAny_bind ((looks_clsIn X hc).here ?_))))))
  rw [hd']
  refine wpAny_pure (a := some dx) (wpAny_bind (wpAny_pure (wpAny_bind ?_)))
  unfold nsSet
  refine wpAny_bind (wpAny_bind (wpAny_askSetting (wpAny_pure (wpAny_bind (wpAny_mkText (wpAny_bind (wpAny_loadPart g ?_)))))))
  rw [dt]
  dsimp only
  have c : (!ents.any (·.key.isStr (attName fi)) && ents.any (·.refKey)) = false := by
   have : ents.any (·.refKey) = false := by
    rw [<- Array.any_toList]
    rw [List.any_eq_false]
    intro e m r
    obtain ⟨n, t, k⟩ := sk e (by simpa using m)
    unfold DictEntry.refKey at r
    rw [k] at r
    cases r
   rw [this, Bool.and_false]
  rw [aRefKeyMayBeTheName_at, c]
  refine wpAny_updatePart g ?_
  rcases attrs_put (prog := prog) (w := w) (hash := PyData.keyHash w.params (attName fi)) (tk := tk0 + 1) c1 c2 c3 dt sk sz q3 q4 hf.1 rd with ⟨r1, r2, r3⟩ | bad
  ·have D' := Heap.get?_update_self (h := hh) (Obj.putName (attName fi) (PyData.keyHash w.params (attName fi)) (.str (attName fi) (tk0 + 1)) u) g r2
   refine wpAny_bind (wpAny_lookBehind D' r3 ?_)
   have sb : Heap.SameBut dx hh (hh.update dx (Obj.putName (attName fi) (PyData.keyHash w.params (attName fi)) (.str (attName fi) (tk0 + 1)) u)) := Heap.SameBut.update ..
   obtain ⟨S2, g2⟩ := S.set (o' := .attrs (putA es fi d)) e1 sb (sameBut_size sb) D' r1
   exact wpAny_pure (p _ _ S2 g2)
  ·exact absurd hf.2 bad
 ·apply vRef_el rx
  intro a hk
  rw [<- Option.some.inj e] at p
  simp only [Bool.and_eq_true, decide_eq_true_eq] at hf
  refine hid fun zP zk => ?_
  obtain ⟨ob, g, c, ⟨dx, e1, e2⟩, dt, q2⟩ := S.obj k a _ hk q
  obtain ⟨od, g2⟩ := S.some_obj e1
  refine zk ?_
  clear zk zP
  have I : InstAt s.heap a ob clsN (some od) := ⟨g, c, by unfold notCls; rw [dt], by rw [e2]; exact g2⟩
  have X := KT.here S
  refine set_plain X I KT.saN (osa_descr (s := { s with toks := s.toks + 1 }) KF.slot_mset X I KT.poN (KT.tkN fi nm hf.1 hn) (KT.tyN fi nm hf.1 hn) ?_)
  refine hid fun zP zk => ?_
  obtain ⟨nn, tn, owner, behind, tb, dd, sl2, cd, ho, hc, hm, hb, hi⟩ := slot_of X (KT.slN fi nm hf.1 hn)
  obtain ⟨hh, gs, dr, tk0, os⟩ := s
  refine zk ?_
  clear zk zP
  have L0 := I.type (M := model prog w)
  have L1 := looks_mroIn (M := model prog w) X hm
  have L2 : Looks (model prog w) hh (Builtin.Slots.slotNamesOf (.ref clsN)) cd.slotNames := (looks_clsIn X hc).andThen .now
  have hx := I.at_
  dsimp only at ho hx L0 L1 g
  have f0 := looks_field (M := model prog w) ho 0 (v := .str nn tn) rfl
  have f1 := looks_field (M := model prog w) ho 1 (v := owner) rfl
  have f3 := looks_field (M := model prog w) ho 3 (v := .builtin "proto.slot#set") rfl
  have f4 := looks_field (M := model prog w) ho 4 (v := .int behind tb) rfl
  refine codeAny_call_builtin KF.slot_mset.plain KF.entry_mset (KF.slot_mset.check _ _ _ _ _ _ _ _ ⟨_, ho, rfl⟩ (KF.args_mset _ _ _) ?_)
  unfold Builtin.«member_descriptor.__set__» Builtin.Getset_descriptor.descrSet Builtin.Getset_descriptor.descrStoreThrough Builtin.Getset_descriptor.descrCheckInstance Builtin.Getset_descriptor.descrNameAndClass isInstance
  have f5 : Looks (model prog w) hh (Builtin.Getset_descriptor.descrItself (.ref (sp fi))) [.ref (sp fi)] := ((Looks.ld (part := none) ho).andThen .now).andThen (Looks.of_pure (by kernel_rfl))
  repeat lk
  refine ⟨Code.quiet_builtin _ (by decide +kernel), codeAny_builtin KF.entry_slotset ?_⟩
  unfold Builtin.«proto.slot#set» Builtin.Slots.target
  repeat lk
  rw [if_neg hb]
  refine wpAny_pure (wpAny_bind ?_)
  unfold setSlotAt
  dsimp only
  rw [<- hi]
  rw [if_neg (by rw [sizeLine_eq]; have := attNm_le hn; omega)]
  refine wpAny_updatePart hx (wpAny_pure ?_)
  have sb : Heap.SameBut a hh (hh.update a fun o => { o with slots := (o.slots ++ Array.replicate (fi - 4 + 1 - o.slots.size) none).setIfInBounds (fi - 4) (some u) }) := Heap.SameBut.update ..
  have D' := Heap.get?_update_self (h := hh) (fun o => { o with slots := (o.slots ++ Array.replicate (fi - 4 + 1 - o.slots.size) none).setIfInBounds (fi - 4) (some u) }) g (by unfold Obj.isFreed; rw [dt])
  have r1 : ORel prog w hh ad (.node kd (sl.set (fi - 4) (some d))) { ob with slots := (ob.slots ++ Array.replicate (fi - 4 + 1 - ob.slots.size) none).setIfInBounds (fi - 4) (some u) } := by
   refine ⟨c, ⟨dx, e1, e2⟩, dt, fun i x hx => ?_⟩
   rcases getElem?_set_some hx with ⟨rfl, rfl⟩ | ⟨ne, hx⟩
   ·exact ⟨u, slot_new _ _ _, rd⟩
   ·have := q2 i x hx
    cases x with
    | none => exact trivial
    | some d' =>
     obtain ⟨v', e3, r3⟩ := this
     exact ⟨v', slot_old _ _ _ _ ne e3, r3⟩
  obtain ⟨S2, g2⟩ := S.set (o' := .node kd (sl.set (fi - 4) (some d))) hk sb (sameBut_size sb) D' r1
  exact p _ _ S2 g2

end
end Mine
end

section
open PySem PySem.W PyProof.Rows Builtin.ObjectAttr
namespace Mine
noncomputable def fnGet : Value := .builtin "function.__get__"
structure MTop (K : Frag) (G : Gs) : Prop where
 meth : ∀ nm m, G.mid nm = some m -> ∃ fa, findIn K (.ref clsS) nm = some (some (.ref fa)) /\ typeIn K (.ref fa) = some (.type "function") /\ fnIn K fa = true /\ G.fid fa = some m /\ (∀ n, G.dx m n = some []) /\ (∀ f, f < 4 -> nm ≠ attName f) /\
  (∀ od, lookIn nm od = some none -> findObj K clsS (some od) nm = some (.bind fnGet (.ref fa)))
 mkS : makesIn K clsS = true
 mkN : makesIn K clsN = true
 kpS : keepIn K (.ref clsS) = true
 kpN : keepIn K (.ref clsN) = true
 inS : ∃ fa, findIn K (.ref clsS) "__init__" = some (some (.ref fa)) /\ typeIn K (.ref fa) = some (.type "function") /\ G.fid fa = some 100 /\ G.dx 100 1 = some [.none]
 inN : ∃ fa, findIn K (.ref clsN) "__init__" = some (some (.ref fa)) /\ typeIn K (.ref fa) = some (.type "function") /\ G.fid fa = some 101 /\ G.dx 101 2 = some []

section
variable [o : Off] {prog : Program} {w : World} {B : Heap} {G : Gs} {K : Frag} {sp : Nat -> Addr} {f : Fns} {n : Nat} {X : Cx} {env : Env} {cv : List D} {lo : Lo} {A : Around} {E : Value -> Shared -> Prop} {s : Shared} {ad : List Addr} {H H' : Hp} {Q : Value -> Shared -> Prop}

theorem isInst_of {k : Nat} (h : isInst H k = true) : ∃ kd es, H[k]? = some (.inst kd) /\ H[kd]? = some (.attrs es) := by
 unfold isInst at h
 cases q : H[k]? with
 | none => rw [q] at h; exact nft h
 | some x =>
  rw [q] at h
  cases x with
  | inst kd =>
   replace h : (match H[kd]? with | some (.attrs _) => true | _ => false) = true := h
   cases q2 : H[kd]? with
   | none => rw [q2] at h; exact nft h
   | some y =>
    rw [q2] at h
    cases y <;> first | exact ⟨kd, _, rfl, q2⟩ | exact nft h
  | _ => exact nft h

theorem St.instAt {k kd : Nat} {a : Addr} (S : St prog w B s.heap ad H) (hk : ad[k]? = some a) (ho : H[k]? = some (.inst kd)) (ha : ∃ es, H[kd]? = some (.attrs es)) :
  ∃ dx od, InstAt s.heap a { cls := .ref clsS, dict := some dx, data := .plain } clsS (some od) /\ ∀ nm, (∀ f, f < 4 -> nm ≠ attName f) -> lookIn nm od = some none := by
 refine hid fun zP zk => ?_
 obtain ⟨es, q⟩ := ha
 obtain ⟨dx, e1, e2⟩ := S.instOf hk ho
 obtain ⟨ob, ents, ep, g, c1, c2, c3, dt, sk, sz, q3, q4⟩ := S.attrsOf e1 q
 refine zk ?_
 clear zk zP
 refine ⟨dx, ob, ⟨e2, rfl, rfl, g⟩, fun nm hn => lookIn_none dt sk ?_⟩
 cases hz : nsFind ents nm with
 | none => rfl
 | some v =>
  refine hid fun zP zk => ?_
  obtain ⟨f, h1, h2, _⟩ := q4 nm (by rw [hz]; exact fun q => nomatch q)
  refine zk ?_
  clear zk zP
  exact absurd h2 (hn f h1)

variable {W : Wd} {R : D -> Hp -> Prop}
section
variable (FA : FnAt B G) (KT : KTop K B sp) (MT : MTop K G) (hE : SndE prog w B G f n) (hC : SndC prog w B G f.call n) (r : Room A n) (C : RW prog w B X env W lo cv) (p : PostE prog w B W R Q)
include FA KT MT hE hC r C p
omit FA KT MT hE hC r C p in
theorem iRf {h : Heap} {ad : List Addr} {k : Nat} {a : Addr} (hx : ad[k]? = some a) : VRel h ad (.ref k) (.ref a) := by unfold VRel; exact ⟨a, rfl, hx⟩
theorem om_sound {pe : PySem.Expr} {m : Nat} {a : Ex} {as : List Ex} (ie : IsE G X pe (.om m a as)) (h : evStep f cv lo (.om m a as) W.H R) : wpAny (model prog w) A (eval pe env) Q E W.s := by
 apply ie.inv
 intro ox name apos args pos hm ns hline hl ie ies
 refine hid fun zP zk => ?_
 obtain ⟨fa, m1, m2, m3, m4, m5, m6, m7⟩ := MT.meth _ _ hm
 obtain ⟨ob, fd, e1, e2⟩ := FA _ _ m4
 refine zk ?_
 clear zk zP
 rw [arm_eval_Call, attributeBase_of ns]
 refine wpAny_bind (hE ie h r C fun W1 d v g1 h1 rx => ?_)
 refine wR_el (M := fun d => VRel W1.s.heap W1.ad d v -> _) h1 (fun k h1 rx => ?_) rx
 replace h1 := wT_of h1
 apply vRef_el rx
 intro x hx
 refine wpAny_bind (wpAny_standAt ?_)
 have hform : methodCallForm (args.length + ([] : List Keyword).length) (backTo pos (starEach args env)) (backToKw pos (keywordEach [] env)) = true := few ies hl
 have hpos : methodCallPos true ox env apos pos = pure pos := by unfold methodCallPos; simp [hline]
 unfold methodCall
 rw [hform]
 refine hid fun zP zk => ?_
 obtain ⟨kd, es, hi, ha⟩ := isInst_of h1.1
 obtain ⟨dx, od, I, hlook⟩ := St.instAt g1.st hx hi ⟨es, ha⟩
 refine zk ?_
 clear zk zP
 refine wpAny_bind (wpAny_holding (method_fn (KT.here g1.st) I KT.gaS KT.gkS m1 m2 (by show (lookIn name od).map _ = _; rw [hlook _ m6]; rfl) ?_))
 refine wpAny_bind (wpAny_of_eq hpos ?_)
 refine Calls.callWith_function (o := ob) (fd := fd) (args_sound hE r ies h1.2 ((C.up g1)) fun W2 ds vs g2 h2 rs l => ⟨⟨g2.st.base _ _ e1, e2⟩, wpAny_call ?_⟩)
 exact hC m4 h2 r g2.st (.inl ⟨rfl, .ref k :: ds, [], (List.append_nil _).symm, isCons ((iRf (h := W1.s.heap) hx).up (g2)) rs, m5 _⟩) fun W3 d v g3 h3 rv => p W3 d v ((g1.trans (g2)).trans g3) h3 rv
end

theorem star_of {a : Addr} {T : String} {vs : Array Value} {m : Nat} {Q : List Value -> Shared -> Prop} (g : s.heap.get? a = some { cls := .type T, data := .seq vs m }) (hT : T = "list" \/ T = "tuple") (hz : vs.size <= sizeLine)
  (h : ∀ h', (∀ b o, s.heap.get? b = some o -> h'.get? b = some o) -> s.heap.objs.size <= h'.objs.size -> Q vs.toList { s with heap := h' }) : StarOf (model prog w) A E (.ref a) Q s := by
 have hT' : s.TypeIs (.ref a) T := ⟨_, g, rfl⟩
 have z : wpAny (model prog w) A (collect (.ref a)) Q E s := by
  refine with_size (wpAny_collect_seq a hT g rfl rfl (fun h' hk sz => h h' hk sz) hz)
 unfold StarOf notIterableAtAll
 rcases hT with rfl | rfl
 ·exact wpAny_bind (wpAny_specialOf hT' PySem.F.slot_list_iter.lookup (wpAny_pure ⟨rfl, z⟩))
 ·exact wpAny_bind (wpAny_specialOf hT' PySem.F.slot_tuple_iter.lookup (wpAny_pure ⟨rfl, z⟩))

theorem Room.under1 {A : Around} {c : Code} (r : Room A (n + 1)) (hw : c.weight <= 1) (hu : c.cUnits <= 16) (he : c.envs = []) : Room (A.under c) n :=
 ⟨r.handled, by have := r.depth; show A.depth + c.weight + n < _; omega, by have := r.units; show A.units + c.cUnits + 16 * n + 16 < _; omega, by
  obtain ⟨L, e, q⟩ := r.frames
  exact ⟨L, by show pushEnvs c.envs A.frames = _; rw [he]; exact e, q⟩⟩

theorem seq_el {y : D} {u : Value} {k : List D -> Prop} {P : Prop} (h : wSeq y k) (ru : VRel W.s.heap W.ad y u) (c : ∀ z vs m T ds, u = .ref z -> W.s.heap.get? z = some { cls := .type T, data := .seq vs m } -> (T = "list" \/ T = "tuple") -> VRels W.s.heap W.ad ds vs.toList -> k ds -> P) : P := by
 refine wSeq_el (M := fun y => VRel W.s.heap W.ad y u -> P) h (fun ds h ru => ?_) (fun ds h ru => ?_) ru
 ·refine hid fun zP zk => ?_
  obtain ⟨z, vs, m, hu, _, g, rs⟩ := vLst ru
  refine zk ?_
  clear zk zP
  exact c z vs m _ ds hu g (.inl rfl) rs h
 ·refine hid fun zP zk => ?_
  obtain ⟨z, vs, m, hu, _, g, rs⟩ := vTup ru
  refine zk ?_
  clear zk zP
  exact c z vs m _ ds hu g (.inr rfl) rs h
theorem omS_sound (KT : KTop K B sp) (MT : MTop K G) (hE : SndE prog w B G f n) (hC : SndC prog w B G f.call n) (r : Room A n) (C : RW prog w B X env W lo cv) (p : PostE prog w B W R Q) {pe : PySem.Expr} {m : Nat} {a b : Ex} (ie : IsE G X pe (.omS m a b)) (h : evStep f cv lo (.omS m a b) W.H R) : wpAny (model prog w) A (eval pe env) Q E W.s := by
 apply ie.inv
 intro ox name apos e sp' pos hm ns ie ie2
 refine hid fun zP zk => ?_
 obtain ⟨fa, m1, m2, m3, m4, m5, m6, m7⟩ := MT.meth _ _ hm
 refine zk ?_
 clear zk zP
 rw [arm_eval_Call, attributeBase_of ns]
 refine wpAny_bind (hE ie h r C fun W1 d v g1 h1 rx => ?_)
 refine wR_el (M := fun d => VRel W1.s.heap W1.ad d v -> _) h1 (fun k h1 rx => ?_) rx
 replace h1 := wT_of h1
 apply vRef_el rx
 intro x hx
 refine wpAny_bind (wpAny_standAt ?_)
 have hform : methodCallForm (([PySem.Expr.Starred e sp'] : List PySem.Expr).length + ([] : List Keyword).length) (backTo pos (starEach [.Starred e sp'] env)) (backToKw pos (keywordEach [] env)) = false := rfl
 unfold methodCall
 rw [hform]
 refine hid fun zP zk => ?_
 obtain ⟨kd, es, hi, ha⟩ := isInst_of h1.1
 obtain ⟨dx, od, I, hlook⟩ := St.instAt g1.st hx hi ⟨es, ha⟩
 refine zk ?_
 clear zk zP
 have X1 := KT.here g1.st
 refine wpAny_bind (wpAny_holding ?_)
 show wpAny _ _ (getAttr (.ref x) name true >>= fun v => pure (v, [])) _ _ _
 refine wpAny_bind (get_bind X1 I KT.gaS (m7 od (hlook _ m6)) KT.gkS (wpAny_call (fn_get (s := { W1.s with toks := W1.s.toks + 1 }) X1 m2 (handed_on rfl (wpAny_pure ?_)))))
 refine wpAny_bind (wpAny_of_eq (a := pos) rfl ?_)
 have g2 := Le.push g1.st (methodObj (.ref fa) (.ref x)) (W1.s.toks + 1)
 have nM : W1.s.heap.objs.size ∉ W1.ad := (g1.st.size_away (Nat.le_refl _)).1
 refine ks_call (P := MethP K W1.s.heap.objs.size fa (.ref x)) rfl (keeps_M (K := K) m3) (ks_lone ?_)
 refine hE (W := W1.on _ _) ie2 h1.2 r ((C.up g1).up g2) fun W3 y u g3 h3 ru => ?_
 refine seq_el h3 ru fun z vs m' T ds hu ez hT rs h3 => ?_
 replace h3 := wT_of h3
 rw [hu]
 have l := rs.length
 simp only [Array.length_toList] at l
 refine star_of ez hT (small_line (l ▸ of_decide_eq_true h3.1)) fun h4 k4 sz4 => ?_
 have g4 := Le.keep g3.st k4 sz4 W3.s.toks
 have hM : h4.get? W1.s.heap.objs.size = some (methodObj (.ref fa) (.ref x)) := k4 _ _ (g3.hard (Heap.get?_push_size _ rfl) nM (.inr ⟨_, rfl⟩))
 refine ⟨⟨hM, KT.here g4.st⟩, wpAny_call (method_call hM ?_)⟩
 exact hC (W := W3.on h4 W3.s.toks) m4 h3.2 r g4.st (.inl ⟨rfl, .ref k :: ds, [], (List.append_nil _).symm, isCons (((iRf (h := W1.s.heap) hx).up (g2.trans g3)).up g4) (rs.up g4), m5 _⟩) fun W5 d v g5 h5 rv => p W5 d v (((g1.trans (g2.trans g3)).trans g4).trans g5) h5 rv

theorem make_sound (KT : KTop K B sp) (hC : SndC prog w B G f.call n) (r : Room A (n + 1)) {C fa : Addr} {ini : Nat} {ob2 : Ob} {ds dx : List D} {vs : List Value} (hm : makesIn K C = true) (hi : findIn K (.ref C) "__init__" = some (some (.ref fa))) (hf : typeIn K (.ref fa) = some (.type "function"))
  (hg : G.fid fa = some ini) (hdx : G.dx ini (ds.length + 1) = some dx) (S : St prog w B W.s.heap W.ad W.H) (rs : VRels W.s.heap W.ad ds vs) (ho : ∀ {h : Heap} {ad' : List Addr} {a : Addr}, ad'[W.H.length]? = some a -> ORel prog w h ad' ob2 (instObj C a))
  (hc : f.call ini (.ref (W.H.length + 1) :: (ds ++ dx)) (W.H ++ [.attrs [], ob2]) fun d H2 => wN d (R (.ref (W.H.length + 1)) H2)) (p : PostE prog w B W R Q) : wpAny (model prog w) A (call (.ref C) vs) Q E W.s := by
 refine wpAny_call ?_
 have X := KT.here S
 refine hid fun zP zk => ?_
 obtain ⟨S1, g1⟩ := S.alloc (o := .attrs []) (ob := emptyDict) rfl ⟨rfl, rfl, rfl, #[], 0, rfl, ⟨fun e m => by simp at m, rfl⟩, fun f d e => by simp at e, fun x hx => absurd rfl hx⟩
 have hlen := S.len
 obtain ⟨S2, g2⟩ := St.alloc (h := W.s.heap.push emptyDict) S1 (o := ob2) (ob := instObj C W.s.heap.objs.size) rfl (ho (by rw [<- hlen]; simp))
 refine zk ?_
 clear zk zP
 have g := g1.trans g2
 have hsz : (W.s.heap.push emptyDict).objs.size = W.s.heap.objs.size + 1 := Heap.size_push ..
 rw [hsz] at S2 g2 g
 rw [List.append_assoc, List.append_assoc] at S2
 have l2 := Le.mk' (tk := W.s.toks) S2 g
 have hx : (W.ad ++ ([W.s.heap.objs.size] ++ [W.s.heap.objs.size + 1]))[W.H.length + 1]? = some (W.s.heap.objs.size + 1) := by
  rw [<- hlen]
  simp
 have key := fun (A' : Around) (r' : Room A' n) (R0 : Result -> Shared -> Prop) (k : ∀ (W3 : Wd) (d : D) (v : Value), Le prog w B ⟨{ W.s with heap := (W.s.heap.push emptyDict).push (instObj C W.s.heap.objs.size) }, W.ad ++ ([W.s.heap.objs.size] ++ [W.s.heap.objs.size + 1]), W.H ++ [.attrs [], ob2]⟩ W3 -> wN d (R (.ref (W.H.length + 1)) W3.H) -> VRel W3.s.heap W3.ad d v -> R0 (.ok (.ret v)) W3.s) => hC (A := A') (W := ⟨{ W.s with heap := (W.s.heap.push emptyDict).push (instObj C W.s.heap.objs.size) }, W.ad ++ ([W.s.heap.objs.size] ++ [W.s.heap.objs.size + 1]), W.H ++ [.attrs [], ob2]⟩) (K := R0) (args := ⟨.ref (W.s.heap.objs.size + 1) :: vs, []⟩) hg hc r' S2 (.inl ⟨rfl, .ref (W.H.length + 1) :: ds, dx, rfl, isCons (iRf hx) (rs.up l2), hdx⟩) k
 have fin : ∀ W3 d v, Le prog w B ⟨{ W.s with heap := (W.s.heap.push emptyDict).push (instObj C W.s.heap.objs.size) }, W.ad ++ ([W.s.heap.objs.size] ++ [W.s.heap.objs.size + 1]), W.H ++ [.attrs [], ob2]⟩ W3 -> wN d (R (.ref (W.H.length + 1)) W3.H) -> VRel W3.s.heap W3.ad d v -> v = .none /\ Q (.ref (W.s.heap.objs.size + 1)) W3.s := fun W3 d v g3 h3 rv =>
  wN_el (M := fun d => VRel W3.s.heap W3.ad d v -> _) h3 (fun h3 rv => ⟨vNone rv, p W3 _ _ (l2.trans g3) h3 (by
   obtain ⟨a, e, _⟩ := g3.go
   exact iRf (by rw [e]; exact app_get _ _ hx))⟩) rv
 generalize hWs : W.s = s0 at *
 refine hid fun zP zk => ?_
 obtain ⟨hh, gs, dr, tk, os⟩ := s0
 refine zk ?_
 clear zk zP
 exact make_core (g := gs) (makes_of X hm) (looks_findIn X hi) (fun self => bind_fn X self hf) (.inl rfl) (key _ (Room.under1 r (Nat.le_of_ble_eq_true (by first | rfl | kernel_rfl)) (Nat.le_of_ble_eq_true (by first | rfl | kernel_rfl)) rfl) _ fin)
end
end Mine
end

section
open PySem PySem.W PyProof.Rows Builtin.ObjectAttr
namespace Mine
theorem slot_li_ga : Slot "list_iterator" "__getattribute__" "object.__getattribute__" :=
 .of (owner := "object") (n := "__getattribute__") (by rw [typeLookup_type, builtinLookup_eq_fast]; kernel_rfl) (by decide +kernel) (by decide +kernel) (by decide +kernel)
  (by first | exact .inl (by decide +kernel) | exact .inr (by decide +kernel)) (by rw [isSubtype_type]; kernel_rfl)
theorem entry_o_ga : entryFor table "object.__getattribute__" = some Builtin.«object.__getattribute__» := entryFor_of_tree (by kernel_rfl)
theorem args_o_ga (a b : Value) : argsOk "object.__getattribute__" ⟨[a, b], []⟩ := by unfold argsOk; kernel_rfl
theorem slot_wd : Slot "wrapper_descriptor" "__get__" "wrapper_descriptor.__get__" :=
 .of (owner := "wrapper_descriptor") (n := "__get__") (by rw [typeLookup_type, builtinLookup_eq_fast]; kernel_rfl) (by decide +kernel) (by decide +kernel) (by decide +kernel)
  (by first | exact .inl (by decide +kernel) | exact .inr (by decide +kernel)) (by rw [isSubtype_type]; kernel_rfl)
theorem entry_wd : entryFor table "wrapper_descriptor.__get__" = some Builtin.«wrapper_descriptor.__get__» := entryFor_of_tree (by kernel_rfl)
theorem args_wd (a b c : Value) : argsOk "wrapper_descriptor.__get__" ⟨[a, b, c], []⟩ := by unfold argsOk; kernel_rfl
theorem type_ln : typeOf (.builtin "list_iterator.__next__") = pure (.type "wrapper_descriptor") := by show builtinType _ = _; rw [builtinType_eq_fast]; kernel_rfl
noncomputable def wrapObj (a : Addr) : Obj := { cls := .type "method-wrapper", data := .fields #[.builtin "list_iterator.__next__", .ref a] }
section
variable {prog : Program} {w : World} {A : Around} {E : Value -> Shared -> Prop} {s : Shared} {Q : Value -> Shared -> Prop}

theorem lk_wd_set : typeLookup (.type "wrapper_descriptor") "__set__" = pure none := by rw [typeLookup_type, builtinLookup_eq_fast]; kernel_rfl
theorem lk_wd_del : typeLookup (.type "wrapper_descriptor") "__delete__" = pure none := by rw [typeLookup_type, builtinLookup_eq_fast]; kernel_rfl
theorem sub_li : isSubtype (.type "list_iterator") (.type "list_iterator") = pure true := by rw [isSubtype_type]; kernel_rfl

theorem wd_get {a : Addr} {ob : Obj} {R : Result -> Shared -> Prop} (hx : s.heap.get? a = some ob) (hc : ob.cls = .type "list_iterator") (h : R (.ok (.ret (.ref s.heap.objs.size))) { s with heap := s.heap.push (wrapObj a) }) :
  codeAny (model prog w) A (.call (.builtin "wrapper_descriptor.__get__") ⟨[.builtin "list_iterator.__next__", .ref a, .type "list_iterator"], []⟩) R s := by
 refine codeAny_call_builtin slot_wd.plain entry_wd (slot_wd.check _ _ _ _ _ _ _ _ type_ln (args_wd _ _ _) ?_)
 unfold Builtin.«wrapper_descriptor.__get__»
 refine wpAny_bind (wpAny_of_eq (a := (.builtin "list_iterator.__next__", some (.ref a), some (.type "list_iterator"))) (by first | rfl | kernel_rfl) ?_)
 show wpAny _ _ (_ >>= fun _ => _) _ _ _
 refine wpAny_bind ?_
 show wpAny _ _ (_ >>= fun _ => _) _ _ _
 refine wpAny_bind (wpAny_of_eq (a := (PySem.Str.ofString "__next__", Value.type "list_iterator")) (by first | rfl | kernel_rfl) ?_)
 refine wpAny_bind (wpAny_isInstance (T := "list_iterator") (b := true) ⟨_, hx, hc⟩ sub_li ?_)
 refine wpAny_pure ?_
 refine wpAny_bind (wpAny_newObj_type ?_ (by size_fits))
 exact wpAny_pure h

theorem next_load {a : Addr} {ob : Obj} {vs : Array Value} (hx : s.heap.get? a = some ob) (hc : ob.cls = .type "list_iterator") (hd : ob.dict = none) (hdt : ob.data = .fields vs)
  (h : Q (.ref s.heap.objs.size) { s with heap := s.heap.push (wrapObj a), toks := s.toks + 1 }) : wpAny (model prog w) A (getAttr (.ref a) "__next__" true) Q E s := by
 refine hid fun zP zk => ?_
 obtain ⟨hh, gs, dr, tk, os⟩ := s
 obtain ⟨cl, dct, dat, sl⟩ := ob
 refine zk ?_
 clear zk zP
 dsimp only at hc hd hdt
 subst hc hd hdt
 have hT : ∀ tk', (⟨hh, gs, dr, tk', os⟩ : Shared).TypeIs (.ref a) "list_iterator" := fun _ => ⟨_, hx, rfl⟩
 have f3 := slot_li_ga.lookup
 have f4 := slot_li_ga.bind (.ref a)
 unfold getAttr getAttrBy
 repeat (any_goals (first | assumption | exact hT _ | wp_step))
 refine codeAny_call_builtin slot_li_ga.plain entry_o_ga (slot_li_ga.check _ _ _ _ _ _ _ _ (hT _) (args_o_ga _ _) ?_)
 have L0 : Looks (model prog w) hh (typeOf (.ref a)) (.type "list_iterator") := (Looks.ld hx).andThen .now
 have L1 : Looks (model prog w) hh (typeLookup (.type "list_iterator") (PySem.Str.ofString "__next__")) (some (.builtin "list_iterator.__next__")) := Looks.of_pure slot_listiter_next.lookup
 have L2 : Looks (model prog w) hh (specialOf (.builtin "list_iterator.__next__") (PySem.Str.ofString "__get__")) (some (.builtin "wrapper_descriptor.__get__")) := (Looks.of_pure type_ln).andThen (Looks.of_pure slot_wd.lookup)
 have L3 : Looks (model prog w) hh (specialOf (.builtin "list_iterator.__next__") (PySem.Str.ofString "__set__")) none := (Looks.of_pure type_ln).andThen (Looks.of_pure lk_wd_set)
 have L4 : Looks (model prog w) hh (specialOf (.builtin "list_iterator.__next__") (PySem.Str.ofString "__delete__")) none := (Looks.of_pure type_ln).andThen (Looks.of_pure lk_wd_del)
 unfold Builtin.«object.__getattribute__»
 refine wpAny_bind (wpAny_of_eq (a := (.ref a, [.str (PySem.Str.ofString "__next__") tk])) (by first | rfl | kernel_rfl) ?_)
 refine wpAny_bind (wpAny_of_eq (a := PySem.Str.ofString "__next__") (by first | rfl | kernel_rfl) ?_)
 refine wpAny_bind (L0.at ?_)
 refine wpAny_bind (m := find _ _ _) ?_
 refine wpAny_bind (L1.at ?_)
 refine wpAny_bind (m := getOf _) (L2.at ?_)
 refine wpAny_bind (m := dataDescriptor? _ _) ?_
 refine wpAny_bind (m := takesStores _) ?_
 unfold takesStores
 repeat (first | with_reducible refine wpAny_call ?_ | lk)
 refine wd_get hx rfl ?_
 refine wpAny_pure ?_
 show wpAny _ _ (handedOut (.ref _)) _ _ _
 rw [handedOut_of rfl]
 exact wpAny_pure h
end

section
variable [o : Off] {prog : Program} {w : World} {B : Heap} {G : Gs} {K : Frag} {sp : Nat -> Addr} {f : Fns} {n : Nat} {X : Cx} {env : Env} {cv : List D} {lo : Lo} {A : Around} {E : Value -> Shared -> Prop} {Q : Value -> Shared -> Prop} {W : Wd} {R : D -> Hp -> Prop}
theorem slots3 {h : Heap} {ad : List Addr} {ob : Obj} (i : Nat) (x : Option D) (hx : [none, none, none][i]? = some x) : SlRel h ad ob i x := by
 have : x = none := by
  rcases i with _ | _ | _ | i
  ·exact (Option.some.inj hx).symm
  ·exact (Option.some.inj hx).symm
  ·exact (Option.some.inj hx).symm
  ·exact nomatch hx
 rw [this]
 trivial
theorem new_sound (T : TopOk B G) (KT : KTop K B sp) (MT : MTop K G) (hE : SndE prog w B G f n) (hC : SndC prog w B G f.call n) (r : Room A (n + 1)) (C : RW prog w B X env W lo cv) (p : PostE prog w B W R Q) {pe : PySem.Expr} {c : Nat} {as : List Ex} {dx : List D} (ie : IsE G X pe (.new c as dx)) (h : evStep f cv lo (.new c as dx) W.H R) :
  wpAny (model prog w) A (eval pe env) Q E W.s := by
 refine ie.inv (fun pe c as dx => evStep f cv lo (.new c as dx) W.H R -> wpAny (model prog w) A (eval pe env) Q E W.s) (fun x q pos h1 h2 h3 h => ?_) (fun x q e pos a h1 h2 h3 ie h => ?_) h
 ·refine hid fun zP zk => ?_
  obtain ⟨fa, i1, i2, i3, i4⟩ := MT.inS
  refine zk ?_
  clear zk zP
  exact wpAny_Call_ofName (C.loadG T h1 h2 h3 (callWith_K0 (KT.here C.st) MT.kpS (make_sound KT hC r (ob2 := .inst W.H.length) (ds := []) MT.mkS i1 i2 i3 i4 C.st (isNil _ _) (fun e => ⟨_, e, rfl⟩) h p)))
 ·refine hid fun zP zk => ?_
  obtain ⟨fa, i1, i2, i3, i4⟩ := MT.inN
  refine zk ?_
  clear zk zP
  refine wpAny_Call_ofName (C.loadG T h1 h2 h3 (callWith_K KT.X MT.kpN ?_ (ie.star _ _) rfl))
  refine evs_sound (es := [a]) hE r.less (IsEs.one ie) (show evs f cv lo [a] W.H (fun ds H1 => newStep f 1 (ds ++ []) H1 R) from h) C fun W1 ds vs g1 h1 rs l => ⟨KT.here g1.st, ?_⟩
  exact make_sound KT hC r (ob2 := .node W1.H.length [none, none, none]) (ds := ds) MT.mkN i1 i2 i3 (by rw [l]; exact i4) g1.st rs (fun e => ⟨rfl, ⟨_, e, rfl⟩, rfl, slots3⟩) h1 (p.more g1)

theorem iterO_el {P : Prop} {o : Option Ob} {k : Nat -> Nat -> Prop} (h : iterO o k) (c : ∀ l j, o = some (.iter l j) -> k l j -> P) : P := by
 cases o with
 | none => exact h.elim
 | some x => cases x <;> first | exact c _ _ rfl h | exact h.elim
theorem nxtO_el {P : Prop} {o : Option Ob} {k : Nat} {H : Hp} {r : D × Hp} (e : nxtO o k H = some r) (c : ∀ l j, o = some (.iter l j) -> (.nxt k, H) = r -> P) : P := by
 cases o with
 | none => exact nomatch e
 | some x => cases x <;> first | exact c _ _ rfl (Option.some.inj e) | exact nomatch e
theorem next_sound (hE : SndE prog w B G f n) (r : Room A n) (C : RW prog w B X env W lo cv) (p : PostE prog w B W R Q) {a : Ex} {ox : PySem.Expr} {pos : Pos} (ns : notSuper ox = true) (ie : IsE G X ox a) (h : evStep f cv lo (.bm .next a []) W.H R) : wpAny (model prog w) A (eval (.Attribute ox "__next__" pos) env) Q E W.s := by
 rw [arm_eval_Attribute, attributeBase_of ns]
 refine wpAny_bind (hE ie h r C fun W1 x v g1 h1 rx => op_el (wT_of h1).2 fun z e h1 => ?_)
 have e : (dR x fun k => nxtO W1.H[k]? k W1.H) = some z := e
 refine dR_el (M := fun x => VRel W1.s.heap W1.ad x v -> _) e (fun k e rx => nxtO_el e fun l j q q2 => ?_) rx
 apply vRef_el rx
 intro y hy
 refine hid fun zP zk => ?_
 obtain ⟨ob, e, c, dn, l', e2, dt⟩ := g1.st.obj k y _ hy q
 refine zk ?_
 clear zk zP
 refine wpAny_bind (wpAny_standAt (wpAny_bind (wpAny_holding (next_load e c dn dt ?_))))
 refine wpAny_bind (wpAny_letTemporaryGo (wpAny_pure ?_))
 refine p (W1.on (W1.s.heap.push (wrapObj y)) (W1.s.toks + 1)) _ _ (g1.trans (Le.push g1.st _ _)) (prj (R := R) q2 h1) ?_
 unfold VRel
 exact ⟨_, wrapObj y, y, rfl, g1.st.size_away (Nat.le_refl _), Heap.get?_push_size _ rfl, rfl, rfl, hy⟩
end
end Mine
end

section
open PySem PySem.W PyProof.Rows Builtin.ObjectAttr
namespace Mine
theorem putI_keys (x : Int) (d : D) : ∀ es : List (Int × D), (putI es x d).map (·.1) = if (es.any fun p => p.1 == x) = true then es.map (·.1) else es.map (·.1) ++ [x]
 | [] => rfl
 | p :: r => by
  unfold putI
  split
  ·rename_i q
   have := eq_of_beq q
   subst this
   simp
  ·rename_i q
   rw [List.map_cons, putI_keys x d r, List.any_cons, q, Bool.false_or]
   split <;> rfl
theorem putI_nodup {x : Int} {d : D} {es : List (Int × D)} (h : (es.map (·.1)).Nodup) : ((putI es x d).map (·.1)).Nodup := by
 rw [putI_keys]
 split
 ·exact h
 ·rename_i q
  refine List.nodup_append.mpr ⟨h, by simp, fun a ma b mb => ?_⟩
  rw [List.mem_singleton.mp mb]
  rintro rfl
  obtain ⟨p, mp, rfl⟩ := List.mem_map.mp ma
  exact q (List.any_eq_true.mpr ⟨p, mp, by simp⟩)

section
variable [o : Off] {prog : Program} {w : World} {B : Heap} {ad : List Addr} {h : Heap}
theorem DRel.idx (x : Int) : ∀ {es : List (Int × D)} {l : List DictEntry}, DRel prog w h ad es l -> (l.findIdx? fun e => (intKind prog w).is x e.key) = es.findIdx? fun p => p.1 == x
 | [], _, r => by cases (show _ = [] from r); rfl
 | p :: es, _, ⟨e, t, rfl, k1, k2, r, rest⟩ => by
  have hd : (intKind prog w).is x e.key = (p.1 == x) := by
   rw [KeyKind.is_eq_decide k1 x]
   by_cases q : x = p.1
   ·subst q; simp
   ·have : (p.1 == x) = false := beq_false_of_ne (Ne.symm q)
    rw [this]; simp [q]
  rw [List.findIdx?_cons, List.findIdx?_cons, hd, rest.idx x]
theorem DRel.put {x : Int} {d : D} {key v : Value} (hkey : (intKind prog w).is x key = true) (rv : VRel h ad d v) : ∀ {es : List (Int × D)} {l : List DictEntry}, DRel prog w h ad es l ->
  (∀ i, (l.findIdx? fun e => (intKind prog w).is x e.key) = some i -> DRel prog w h ad (putI es x d) (l.modify i fun e => { e with val := v })) /\
  ((l.findIdx? fun e => (intKind prog w).is x e.key) = none -> DRel prog w h ad (putI es x d) (l ++ [⟨(intKind prog w).hash x, key, v⟩]))
 | [], _, r => by
  cases (show _ = [] from r)
  exact ⟨fun i e => (by cases e), fun _ => ⟨_, [], rfl, hkey, rfl, rv, rfl⟩⟩
 | p :: es, _, ⟨e, t, rfl, k1, k2, r, rest⟩ => by
  have hd : (intKind prog w).is x e.key = (p.1 == x) := by
   rw [KeyKind.is_eq_decide k1 x]
   by_cases q : x = p.1
   ·subst q; simp
   ·have : (p.1 == x) = false := beq_false_of_ne (Ne.symm q)
    rw [this]; simp [q]
  obtain ⟨i1, i2⟩ := rest.put hkey rv
  rw [List.findIdx?_cons, hd]
  unfold putI
  cases q : p.1 == x with
  | true =>
   have hq := eq_of_beq q
   subst hq
   refine ⟨fun i hi => ?_, fun hi => by simp at hi⟩
   simp at hi
   subst hi
   exact ⟨_, t, rfl, k1, k2, rv, rest⟩
  | false =>
   refine ⟨fun i hi => ?_, fun hi => ?_⟩
   ·simp at hi
    obtain ⟨j, hj, rfl⟩ := hi
    exact ⟨e, _, rfl, k1, k2, r, i1 j hj⟩
   ·simp at hi
    exact ⟨e, _, rfl, k1, k2, r, i2 (by simpa using hi)⟩
theorem DRel.del : ∀ {es : List (Int × D)} {l : List DictEntry}, DRel prog w h ad es l -> ∀ i, DRel prog w h ad (es.eraseIdx i) (l.eraseIdx i)
 | [], _, r, i => by cases (show _ = [] from r); rfl
 | p :: es, _, ⟨e, t, rfl, k1, k2, r, rest⟩, i => by
  cases i with
  | zero => exact rest
  | succ i => exact ⟨e, _, rfl, k1, k2, r, rest.del i⟩
theorem DRel.len : ∀ {es : List (Int × D)} {l : List DictEntry}, DRel prog w h ad es l -> l.length = es.length
 | [], _, r => by cases (show _ = [] from r); rfl
 | p :: es, _, ⟨e, t, rfl, k1, k2, r, rest⟩ => by rw [List.length_cons, List.length_cons, rest.len]
end

section
variable [o : Off] {prog : Program} {w : World} {B : Heap} {A : Around} {E : Value -> Shared -> Prop} {s : Shared} {ad : List Addr} {H H' : Hp}

theorem setSub_sound (S : St prog w B s.heap ad H) {x y d : D} {v u z : Value} {Q : Unit -> Shared -> Prop} (e : setSub H x y d = some H') (rx : VRel s.heap ad x v) (ry : VRel s.heap ad y u) (rd : VRel s.heap ad d z)
  (p : ∀ h' tk, St prog w B h' ad H' -> Go ad s.heap [] h' -> Q () { s with heap := h', toks := tk }) : wpAny (model prog w) A (setItem v u z) Q E s := by
 refine dR_el (M := fun x => VRel s.heap ad x v -> _) e (fun k e rx => ?_) rx
 apply vRef_el rx
 intro a hk
 refine dI_el (M := fun x => VRel s.heap ad x u -> _) e (fun i e ry => dictO_el e fun es ep q e => gd_el e fun hl e => ?_) ry
 apply vInt_el ry
 intro t
 have hl := of_decide_eq_true hl
 rw [<- Option.some.inj e] at p
 refine hid fun zP zk => ?_
 obtain ⟨ob, g, hc, nd, ents, dt, r⟩ := S.obj k a _ hk q
 have hT : s.TypeIs (.ref a) "dict" := ⟨ob, g, hc.1⟩
 have hkey := intKind_is (prog := prog) (w := w) i t
 have hK : KeysOf (intKind prog w) ents := fun e' m => r.keys e' (Array.mem_toList_iff.mpr m)
 obtain ⟨i1, i2⟩ := r.put hkey rd
 refine zk ?_
 clear zk zP
 have hidx := r.idx i
 have hlen := r.len
 simp only [Array.length_toList] at hlen
 unfold setItem
 try with_reducible refine wpAny_holding ?_
 refine wpAny_bind (wpAny_sequenceKey hT (by decide) ?_)
 refine wpAny_bind (wpAny_callSpecial?_slot (name := Str.ofString "__setitem__") hT slot_dict_setitem (wpAny_call_entry slot_dict_setitem hT entry_dict_setitem ?_ (args_dict_setitem _ _ _)))
 show wpAny _ _ (Builtin.Dict.notOrdered "__setitem__" ⟨[.ref a, .int i t, z], []⟩ >>= _) _ _ s
 refine wpAny_bind (wpAny_notOrdered_dict hT ?_)
 show wpAny _ _ (dictSet a (.int i t) z >>= _) _ _ s
 refine wpAny_bind ?_
 unfold dictSet
 try with_reducible refine wpAny_holding ?_
 refine wpAny_bind ((intKind prog w).pyHash hkey ?_)
 unfold dictSetHashed
 try with_reducible refine wpAny_holding ?_
 refine wpAny_bind (wpAny_dictFind_of (s := { s with toks := s.toks + 1 }) hkey g dt hK ?_)
 have hany : (es.any fun p => p.1 == i) = (es.findIdx? fun p => p.1 == i).isSome := by
  rw [List.findIdx?_isSome]
 have fin : ∀ {ob' : Obj} {h' : Heap} {tk : Nat}, Heap.SameBut a s.heap h' -> h'.get? a = some ob' -> ORel prog w s.heap ad (.dict (putI es i d) (if es.any fun p => p.1 == i then ep else ep + 1)) ob' -> Q () { s with heap := h', toks := tk } := fun sb e' ro => by
  obtain ⟨S2, g2⟩ := S.set hk sb (sameBut_size sb) e' ro
  exact p _ _ S2 g2
 have hfi : (ents.toList.findIdx? fun e => (intKind prog w).is i e.key) = ents.findIdx? fun e => (intKind prog w).is i e.key := by
  rw [<- List.findIdx?_toArray]
 cases hi : ents.findIdx? fun e => (intKind prog w).is i e.key with
 | some j =>
  rw [hi] at hfi
  refine wpAny_bind (wpAny_rule (wpAny_bind (wpAny_updateDict (s := { s with toks := s.toks + 1 }) g dt (wpAny_point (wpAny_pure ⟨.none, rfl, wpAny_pure ?_⟩)))))
  refine fin (Heap.SameBut.update ..) (Heap.get?_update_self _ g (Obj.isFreed_of_dict (Obj.data_mapDict dt _))) ⟨hc.mapDict _, putI_nodup nd, ents.modify j fun e => { e with val := z }, by rw [hany, <- hidx, hfi]; exact Obj.data_mapDict dt _, by rw [Array.toList_modify]; exact i1 j hfi⟩
 | none =>
  rw [hi] at hfi
  refine wpAny_bind (wpAny_rule (wpAny_updateDictKeys (hz := by rw [sizeLine_eq]; omega) (s := { s with toks := s.toks + 1 }) g dt (wpAny_pure ⟨.none, rfl, wpAny_pure ?_⟩)))
  refine fin (Heap.SameBut.update ..) (Heap.get?_update_self _ g (Obj.isFreed_of_dict (Obj.data_mapDictKeys dt _))) ⟨hc.mapDictKeys _, putI_nodup nd, ents.push ⟨(intKind prog w).hash i, .int i t, z⟩, by rw [hany, <- hidx, hfi]; exact Obj.data_mapDictKeys dt _, by rw [Array.toList_push]; exact i2 hfi⟩

theorem delSub_sound (S : St prog w B s.heap ad H) {x y : D} {v u : Value} {Q : Unit -> Shared -> Prop} (e : delSubD H x y = some H') (rx : VRel s.heap ad x v) (ry : VRel s.heap ad y u)
  (p : ∀ h' tk, St prog w B h' ad H' -> Go ad s.heap [] h' -> Q () { s with heap := h', toks := tk }) : wpAny (model prog w) A (delItem v u) Q E s := by
 refine dR_el (M := fun x => VRel s.heap ad x v -> _) e (fun k e rx => ?_) rx
 apply vRef_el rx
 intro a hk
 refine dI_el (M := fun x => VRel s.heap ad x u -> _) e (fun i e ry => dictO_el e fun es ep q e => gd_el e fun hl e => map_el e fun j hj e => ?_) ry
 apply vInt_el ry
 intro t
 have hl := of_decide_eq_true hl
 rw [<- e] at p
 refine hid fun zP zk => ?_
 obtain ⟨ob, g, hc, nd, ents, dt, r⟩ := S.obj k a _ hk q
 refine zk ?_
 clear zk zP
 have hT : s.TypeIs (.ref a) "dict" := ⟨ob, g, hc.1⟩
 have hkey := intKind_is (prog := prog) (w := w) i t
 have hK : KeysOf (intKind prog w) ents := fun e' m => r.keys e' (Array.mem_toList_iff.mpr m)
 have hidx := r.idx i
 have hlen := r.len
 simp only [Array.length_toList] at hlen
 have hfi : ents.findIdx? (fun e => (intKind prog w).is i e.key) = some j := by
  rw [<- hj, <- hidx, <- List.findIdx?_toArray]
 have hjl : j < ents.size := by
  obtain ⟨l, _⟩ := Array.findIdx?_eq_some_iff_getElem.mp hfi
  exact l
 unfold delItem
 try with_reducible refine wpAny_holding ?_
 refine wpAny_bind (wpAny_sequenceKey hT (by decide) ?_)
 refine wpAny_bind (wpAny_callSpecial?_slot (name := Str.ofString "__delitem__") hT PySem.F.slot_dict_delitem (wpAny_call_entry PySem.F.slot_dict_delitem hT PySem.F.entry_dict_delitem ?_ (PySem.F.args_dict_delitem_2 _ _)))
 unfold Builtin.«dict.__delitem__»
 refine wpAny_bind ?_
 unfold Builtin.Dict.dictSlotArgs
 refine wpAny_bind (wpAny_notOrdered_dict hT ?_)
 show wpAny _ _ (pure (Value.ref a, Value.int i t)) _ _ s
 refine wpAny_pure ?_
 show wpAny _ _ (Builtin.Dict.takeOut a (.int i t) >>= _) _ _ s
 refine wpAny_bind ?_
 unfold Builtin.Dict.takeOut
 try with_reducible refine wpAny_holding ?_
 refine wpAny_bind ((intKind prog w).pyHash hkey ?_)
 refine wpAny_bind (wpAny_dictFind_of (s := { s with toks := s.toks + 1 }) hkey g dt hK ?_)
 rw [hfi]
 refine wpAny_bind (wpAny_dictEntries (s := { s with toks := s.toks + 1 }) g dt ?_)
 rw [Array.getElem?_eq_getElem hjl]
 refine wpAny_bind (wpAny_updateDictKeys (hz := by rw [sizeLine_eq]; omega) (s := { s with toks := s.toks + 1 }) g dt (wpAny_pure ?_))
 refine wpAny_bind (wpAny_letGo (wpAny_pure ⟨.none, rfl, wpAny_pure ?_⟩))
 have sb : Heap.SameBut a s.heap (s.heap.update a (Obj.mapDictKeys fun x => x.eraseIdxIfInBounds j)) := Heap.SameBut.update ..
 obtain ⟨S2, g2⟩ := S.set (o' := .dict (es.eraseIdx j) (ep + 1)) hk sb (sameBut_size sb) (Heap.get?_update_self _ g (Obj.isFreed_of_dict (Obj.data_mapDictKeys dt _))) ⟨hc.mapDictKeys _, nd.sublist (by
  have := List.eraseIdx_sublist es j
  exact this.map _), ents.eraseIdxIfInBounds j, Obj.data_mapDictKeys dt _, by
  have := r.del j
  simpa using this⟩
 exact p _ _ S2 g2

end
end Mine
end

section
open PySem PySem.W PyProof.Rows Builtin.ObjectAttr
namespace Mine

theorem asg_plain2 {value ob ix : PySem.Expr} {tp px : Pos} {x : Str} {env : Env} (h : txt0 value = true) : swappedStores [.Subscript ob ix tp, .Name x px] value env = pure none := by
 cases value <;> first | rfl | exact nft h
theorem swaps_att {value t : PySem.Expr} {env : Env} (h : txt0 value = true) {line : Nat} (ht : ∀ x p, t ≠ .Name x p) : swapsWith value (some t) line env = pure false := by
 cases hc : notComp value with
 | true => exact swaps_of h hc
 | false =>
  cases value with
  | ListComp elt gs sc pos => cases t <;> first | rfl | exact absurd rfl (ht _ _)
  | _ => exact nomatch hc
section
variable [o : Off] {prog : Program} {w : World} {B : Heap} {G : Gs} {K : Frag} {sp : Nat -> Addr} {f : Fns} {n : Nat} {env : Env} {names : List Str} {lo : Lo} {A : Around} {s : Shared} {E : Value -> Shared -> Prop} {Q : Flow -> Shared -> Prop} {W : Wd} {R : Fl -> Lo -> Hp -> Prop}
variable (hE : SndE prog w B G f n) (r : Room A n) (F : FW prog w B env names W lo) (p : PostS prog w B env names W R Q) {st : PySem.Stmt}
include hE r F p
theorem asgAtt_sound (KT : KTop K B sp) {a : Ex} {fi : Nat} {e : Ex} (is : IsS G ⟨env.scope.names, names, [], false⟩ st (.asgAtt a fi e)) (h : exStep f (.asgAtt a fi e) lo W.H R) : wpAny (model prog w) A (exec st env) Q E W.s := by
 apply is.inv
 intro ob nm tp value pos hn io ie
 exact plainObj_wpAny_Assign_Attribute (hE ie h r F.rc fun W1 d v g1 h1 rv => hE io h1 r (F.rc.up g1) fun W2 x u g2 h2 ru => op_el h2 fun H3 e3 h3 => setAtt_sound KT g2.st hn e3 ru (rv.up g2) fun h' tk S' g' =>
  have l := (g1.trans g2).trans (Le.set ⟨S', g'⟩)
  p _ _ lo .next (l.toS env) (F.up l) h3 rfl) (swaps_att ie.shape.1 (fun _ _ q => nomatch q))
theorem asgSub_sound {a b e : Ex} (is : IsS G ⟨env.scope.names, names, [], false⟩ st (.asgSub a b e)) (h : exStep f (.asgSub a b e) lo W.H R) : wpAny (model prog w) A (exec st env) Q E W.s := by
 apply is.inv
 intro ob ix tp value pos io ix ie
 exact wpAny_Assign_Subscript (hE ie h r F.rc fun W1 d v g1 h1 rv => hE io h1 r (F.rc.up g1) fun W2 x u g2 h2 ru => hE ix h2 r ((F.rc.up g1).up g2) fun W3 y t g3 h3 rt => op_el h3 fun H4 e4 h4 => setSub_sound g3.st e4 (ru.up g3) rt (rv.up (g2.trans g3)) fun h' tk S' g' =>
  have l := ((g1.trans g2).trans g3).trans (Le.set ⟨S', g'⟩)
  p _ _ lo .next (l.toS env) (F.up l) h4 rfl) (swaps_att ie.shape.1 (fun _ _ q => nomatch q))
theorem asgSubV_sound {a b e : Ex} {i : Nat} (is : IsS G ⟨env.scope.names, names, [], false⟩ st (.asgSubV a b i e)) (h : exStep f (.asgSubV a b i e) lo W.H R) : wpAny (model prog w) A (exec st env) Q E W.s := by
 apply is.inv
 intro ob ix tp x px value pos hi io ix ie
 refine wpAny_Assign_two (hE ie h r F.rc fun W1 d v g1 h1 rv => ?_) rfl (asg_plain2 ie.shape.1)
 rw [assign_Subscript]
 refine wpAny_bind (wpAny_holding (hE io h1 r (F.rc.up g1) fun W2 x u g2 h2 ru => wpAny_bind (wpAny_holding (hE ix h2 r ((F.rc.up g1).up g2) fun W3 y t g3 h3 rt => ?_))))
 refine wpAny_bind (wpAny_standAt (wpAny_bind (wpAny_holding (op_el h3 fun H4 e4 h4 => setSub_sound g3.st e4 (ru.up g3) rt (rv.up (g2.trans g3)) fun h' tk S' g' => ?_))))
 have l4 := Le.set (tk := tk) ⟨S', g'⟩
 have l := ((g1.trans g2).trans g3).trans l4
 exact wpAny_release (wpAny_assign_Name ((F.up l).store hi (((rv.up g2).up g3).up l4) fun h5 tk5 l5 F5 => p _ _ _ .next ((l.toS env).trans l5) F5 h4 rfl))
omit hE r F p in
theorem iop_sound {op : Operator} {ob : Bin} (ho : opOf op = some ob) (h2 : op = .Add \/ op = .Sub) {a b c : Int} {t u : Tok} {Q : Value -> Shared -> Prop} (e : binI ob a b = some c) (h : ∀ t' tk, Q (.int c t') { s with toks := tk }) :
  wpAny (model prog w) A (inplaceOp op (.int a t) (.int b u)) Q E s := by
 rcases h2 with rfl | rfl
 ·cases ho; cases e; exact iadd_int (h _ _)
 ·cases ho; cases e; exact isub_int (h _ _)
theorem augAtt_sound (KT : KTop K B sp) {a : Ex} {fi : Nat} {ob : Bin} {e : Ex} (is : IsS G ⟨env.scope.names, names, [], false⟩ st (.augAtt a fi ob e)) (h : exStep f (.augAtt a fi ob e) lo W.H R) : wpAny (model prog w) A (exec st env) Q E W.s := by
 apply is.inv
 intro obx nm tp op value pos hn ho h2 io ie
 refine wpAny_AugAssign_AttributeAny (hE io h r F.rc fun W1 x u g1 h1 ru => op_el h1 fun d at1 h1 => attD_sound KT g1.st hn at1 ru fun y ry => ?_)
 have gt : Le prog w B W1 (W1.on W1.s.heap (W1.s.toks + 1)) := Le.keep g1.st (fun _ _ e => e) (Nat.le_refl _) _
 refine wI_el (M := fun d => VRel W1.s.heap W1.ad d y -> _) h1 (fun i1 h1 ry => ?_) ry
 apply vInt_el ry
 intro t1
 refine hE (W := W1.on W1.s.heap (W1.s.toks + 1)) ie h1 r ((F.rc.up g1).up gt) fun W2 b v g2 h2' rv => ?_
 refine wI_el (M := fun d => VRel W2.s.heap W2.ad d v -> _) h2' (fun i2 h2' rv => op_el h2' fun c hc h3 => op_el h3 fun H3 e3 h3 => ?_) rv
 apply vInt_el rv
 refine fun t2 => iop_sound ho h2 hc fun t3 tk3 => ?_
 have gk : Le prog w B W2 (W2.on W2.s.heap tk3) := Le.keep g2.st (fun _ _ e => e) (Nat.le_refl _) _
 have g12 := (g1.trans (gt.trans g2)).trans gk
 exact setAtt_sound KT gk.st hn e3 (((ru.up (gt.trans g2))).up gk) (iInt _ _ _ _) fun h' tk S' g' =>
  have l := g12.trans (Le.set ⟨S', g'⟩)
  p _ _ lo .next (l.toS env) (F.up l) h3 rfl
theorem delSub_stm_sound {a b : Ex} (is : IsS G ⟨env.scope.names, names, [], false⟩ st (.delSub a b)) (h : exStep f (.delSub a b) lo W.H R) : wpAny (model prog w) A (exec st env) Q E W.s := by
 apply is.inv
 intro ob ix tp pos io ix
 exact wpAny_Delete (wpAny_deleteEach_cons (delete_Subscript (hE io h r F.rc fun W1 x v g1 h1 rv => hE ix h1 r (F.rc.up g1) fun W2 y u g2 h2 ru => op_el h2 fun H3 e3 h3 => delSub_sound g2.st e3 (rv.up g2) ru fun h' tk S' g' => wpAny_deleteEach_nil
  (have l := (g1.trans g2).trans (Le.set ⟨S', g'⟩)
  p _ _ lo .next (l.toS env) (F.up l) h3 rfl))))
end
end Mine
end

section
open PySem PySem.W PyProof.Rows Builtin.ObjectAttr
namespace Mine

structure Rdy (fr : List Addr) (h h' : Heap) : Prop where
 like : ∀ b o, h.get? b = some o -> ∃ o', h'.get? b = some o' /\ o'.data = o.data /\ (b ∉ fr -> o' = o)
 size : h'.objs.size = h.objs.size
theorem Rdy.refl (fr : List Addr) (h : Heap) : Rdy fr h h := ⟨fun b o e => ⟨o, e, rfl, fun _ => rfl⟩, rfl⟩
theorem Rdy.trans {fr : List Addr} {h h1 h2 : Heap} (a : Rdy fr h h1) (b : Rdy fr h1 h2) : Rdy fr h h2 :=
 ⟨fun x o e => by
  refine hid fun zP zk => ?_
  obtain ⟨o1, e1, d1, n1⟩ := a.like x o e
  obtain ⟨o2, e2, d2, n2⟩ := b.like x o1 e1
  refine zk ?_
  clear zk zP
  exact ⟨o2, e2, d2.trans d1, fun n => (n2 n).trans (n1 n)⟩, b.size.trans a.size⟩

section
variable {M : Model} {A : Around} {E : Value -> Shared -> Prop} {s : Shared}

theorem readyFrames_any {fr : List Addr} : ∀ (l : List Env) {s : Shared} {Q : Unit -> Shared -> Prop}, (∀ e ∈ l, e.scope.kind = .function /\ ∃ f, e.frame = some f /\ f ∈ fr /\ ∃ o es ep, s.heap.get? f = some o /\ o.data = .dict es ep) ->
  (∀ h', Rdy fr s.heap h' -> Q () { s with heap := h' }) -> wpAny M A (readyFrames l) Q E s
 | [], s, Q, _, h => wpAny_pure (h s.heap (.refl _ _))
 | e :: outer, s, Q, hl, h => by
  refine hid fun zP zk => ?_
  obtain ⟨hk, f, hf, hfr, o, es, ep, ho, hd⟩ := hl e List.mem_cons_self
  refine zk ?_
  clear zk zP
  simp only [readyFrames, hf]
  refine wpAny_bind (wpAny_load ho ?_)
  by_cases hr : ((o.slots.getD 3 none).isSome) = true
  ·rw [if_pos hr]; exact wpAny_pure (h s.heap (.refl _ _))
  ·rw [if_neg hr]
   refine wpAny_bind (wpAny_of_eq (a := false) (by simp [behindIsImport, hk]) ?_)
   have hkb : ∀ {Q : Value -> Shared -> Prop}, (∀ v, Q v s) -> wpAny M A (keptBack e false outer) Q E s := by
    intro Q hq
    cases outer with
    | nil => exact wpAny_keptBack_nil hq
    | cons c t => simp only [keptBack]; exact wpAny_pure (hq _)
   refine wpAny_bind (hkb fun v => ?_)
   refine wpAny_bind (wpAny_update ho ?_)
   generalize hg : (fun (o : Obj) => ({ o with slots := #[some e.code, some (.ref e.globals), o.slots.getD 2 none, some v, o.slots.getD 4 none, e.func.map Value.ref, some (.ref e.builtins)] ++ (e.cells.map fun c => some (.ref c.2)).toArray } : Obj)) = g
   have hgd : ∀ o, (g o).data = o.data := fun o => by rw [<- hg]
   have hnf : (g o).isFreed = false := Obj.isFreed_of_dict ((hgd o).trans hd)
   have r1 : Rdy fr s.heap (s.heap.update f g) := ⟨fun b ob eb => by
    by_cases hb : b = f
    ·subst hb
     rw [ho] at eb
     cases eb
     exact ⟨_, Heap.get?_update_self _ ho hnf, hgd _, fun n => absurd hfr n⟩
    ·exact ⟨ob, by rw [Heap.get?_update_other _ _ (Ne.symm hb)]; exact eb, rfl, fun _ => rfl⟩, by simp⟩
   refine readyFrames_any outer (s := { s with heap := s.heap.update f g }) (fun e' m => ?_) fun h' r2 => h h' (r1.trans r2)
   refine hid fun zP zk => ?_
   obtain ⟨hk', f', hf', hfr', o', es', ep', ho', hd'⟩ := hl e' (List.mem_cons_of_mem _ m)
   obtain ⟨o2, e2, d2, _⟩ := r1.like f' o' ho'
   refine zk ?_
   clear zk zP
   exact ⟨hk', f', hf', hfr', o2, es', ep', e2, d2.trans hd'⟩

theorem noteFrame_any {fr : List Addr} {env : Env} {L e : Addr} {oe : Obj} {vs : Array Value} {Q : Unit -> Shared -> Prop} (hfr : ∃ Ls, A.frames = some Ls /\ Ls.map (·.frame) = fr.map some /\ ∀ e ∈ Ls, e.scope.kind = .function)
  (hf : env.frame = some L) (hL : L ∈ fr) (hfs : ∀ f ∈ fr, ∃ o es ep, s.heap.get? f = some o /\ o.data = .dict es ep) (he : s.heap.get? e = some oe) (hd : oe.data = .fields vs) (h1 : vs[1]? = some .none)
  (h : ∀ h1 h' tb otb tvs oe', Rdy fr s.heap h1 -> (∀ b o, b ≠ e -> h1.get? b = some o -> h'.get? b = some o) -> h1.objs.size <= h'.objs.size -> h'.get? e = some oe' -> oe'.cls = oe.cls -> (∃ vs', oe'.data = .fields vs' /\ vs'[1]? = some (.ref tb)) -> h1.objs.size <= tb ->
   h'.get? tb = some otb -> otb.data = .fields tvs -> 3 < tvs.size -> Q () { s with heap := h' }) : wpAny M A (noteFrame (.ref e) env) Q E s := by
 refine hid fun zP zk => ?_
 obtain ⟨Ls, hA, hmap, hkinds⟩ := hfr
 refine zk ?_
 clear zk zP
 have hsz : 1 < vs.size := (Array.getElem?_eq_some_iff.mp h1).1
 unfold noteFrame
 simp only [hf]
 refine wpAny_bind (wpAny_field he hd h1 ?_)
 rw [if_neg (by decide)]
 unfold PySem.frameOf
 refine wpAny_bind (wpAny_bind (wpAny_frameEnvs hA ?_))
 have hall : ∀ e' ∈ Ls, e'.scope.kind = .function /\ ∃ f, e'.frame = some f /\ f ∈ fr /\ ∃ o es ep, s.heap.get? f = some o /\ o.data = .dict es ep := fun e' m => by
  have : e'.frame ∈ fr.map some := by rw [<- hmap]; exact List.mem_map.mpr ⟨e', m, rfl⟩
  obtain ⟨f, mf, q⟩ := List.mem_map.mp this
  exact ⟨hkinds e' m, f, q.symm, mf, hfs f mf⟩
 have hex : ∃ e0 rest, (Ls.dropWhile fun x => x.frame != env.frame) = e0 :: rest /\ e0.frame = some L /\ ∀ x ∈ e0 :: rest, x ∈ Ls := by
  have hin : ∃ e' ∈ Ls, e'.frame = some L := by
   have : some L ∈ Ls.map (·.frame) := by rw [hmap]; exact List.mem_map.mpr ⟨L, hL, rfl⟩
   obtain ⟨e', m, q⟩ := List.mem_map.mp this
   exact ⟨e', m, q⟩
  clear hmap hkinds hall hA
  induction Ls with
  | nil => obtain ⟨_, m, _⟩ := hin; cases m
  | cons y ys ih =>
   by_cases hy : y.frame = some L
   ·refine ⟨y, ys, ?_, hy, fun x m => m⟩
    rw [List.dropWhile_cons, hf, hy]
    simp
   ·have hy' : (y.frame != env.frame) = true := by rw [hf]; simp [hy]
    obtain ⟨e', m, q⟩ := hin
    rcases List.mem_cons.mp m with rfl | m
    ·exact absurd q hy
    ·refine hid fun zP zk => ?_
     obtain ⟨e0, rest, a1, a2, a3⟩ := ih ⟨e', m, q⟩
     refine zk ?_
     clear zk zP
     refine ⟨e0, rest, ?_, a2, fun x mx => List.mem_cons_of_mem _ (a3 x mx)⟩
     rw [List.dropWhile_cons, hy']
     exact a1
 refine hid fun zP zk => ?_
 obtain ⟨e0, rest, hdw, he0, hsub⟩ := hex
 refine zk ?_
 clear zk zP
 rw [hdw]
 unfold frameObject
 refine wpAny_bind (wpAny_bind (readyFrames_any (fr := fr) (e0 :: rest) (fun x m => hall x (hsub x m)) fun hh1 r1 => wpAny_pure ?_))
 rw [he0]
 refine wpAny_pure ?_
 refine wpAny_bind (wpAny_entryPlaceOf fun pl hpl => ?_)
 unfold EntryCells.newEntry newFields
 refine wpAny_bind (wpAny_newObj_type ?_ (hpl.sizeOk5 _ _ _ _ _))
 refine hid fun zP zk => ?_
 obtain ⟨oe1, he1, hd1, hcl⟩ := r1.like e oe he
 refine zk ?_
 clear zk zP
 have hne : e ∉ fr := fun m => by
  refine hid fun zP zk => ?_
  obtain ⟨o, es, ep, e1, d1⟩ := hfs e m
  refine zk ?_
  clear zk zP
  rw [he] at e1
  cases e1
  rw [hd] at d1
  cases d1
 have := hcl hne
 subst this
 have he2 := Heap.get?_push_of_some (h := hh1) { cls := .type "traceback", dict := none, data := .fields ([Value.none, .ref L, .none, rawInt L, .none] ++ (if pl.isEmpty then List.replicate 6 Value.none else pl)).toArray } he1
 refine wpAny_setField he2 hd hsz ?_
 have hTe : hh1.objs.size ≠ e := Nat.ne_of_gt (Heap.lt_size he1)
 have hd3 := Obj.data_mapFields hd (·.setIfInBounds 1 (Value.ref hh1.objs.size))
 refine h hh1 _ hh1.objs.size { cls := .type "traceback", dict := none, data := .fields ([Value.none, .ref L, .none, rawInt L, .none] ++ (if pl.isEmpty then List.replicate 6 Value.none else pl)).toArray } ([Value.none, .ref L, .none, rawInt L, .none] ++ (if pl.isEmpty then List.replicate 6 Value.none else pl)).toArray _ r1 (fun b o hb ho => ?_) ?_ (Heap.get?_update_self _ he2 (Obj.isFreed_of_fields hd3)) (Obj.cls_mapFields ..) ⟨_, hd3, ?_⟩ (Nat.le_refl _) ?_ rfl ?_
 ·rw [Heap.get?_update_other _ _ (Ne.symm hb)]
  exact Heap.get?_push_of_some _ ho
 ·simp only [Heap.size_after_update, Heap.size_push]; omega
 ·simp [hsz]
 ·rw [Heap.get?_update_other _ _ (Ne.symm hTe)]
  exact Heap.get?_push_size hh1 rfl
 ·simp
end
end Mine
end

section
open PySem PySem.W PyProof.Rows Builtin.ObjectAttr
namespace Mine

section
variable {M : Model} {A : Around} {E : Value -> Shared -> Prop} {s : Shared} {Q : Value -> Shared -> Prop}
theorem callWith_wrap {pos : Pos} {u : Addr} {ob : Obj} {vs : Array Value} (ho : s.heap.get? u = some ob) (hc : ob.cls = .type "method-wrapper") (hd : ob.data = .fields vs) (h : wpAny M A (call (.ref u) []) Q E s) :
  wpAny M A (callWith pos (.ref u) [] [] []) Q E s := by
 unfold callWith
 refine wpAny_bind (wpAny_holding (PySem.evalArgs_none (wpAny_bind (wpAny_standAt ?_))))
 refine wpAny_bind (m := keeperOf (.ref u)) ?_
 unfold keeperOf
 refine wpAny_bind (wpAny_load ho ?_)
 rw [hd, hc]
 dsimp only
 rw [if_pos (by decide)]
 refine wpAny_pure ?_
 rw [if_pos (by decide)]
 exact wpAny_bind (wpAny_mono h (fun r s₂ hr => wpAny_bind (wpAny_holding (wpAny_point (wpAny_pure hr)))) fun _ _ x => x)
end
theorem check_ln (a : Addr) : checkBoundCall "list_iterator.__next__" ⟨[.ref a], []⟩ = pure () := by first | rfl | kernel_rfl

section
variable {prog : Program} {w : World} {A : Around} {E : Value -> Shared -> Prop} {s : Shared} {Q : Value -> Shared -> Prop}
theorem call_wrap {u ai : Addr} {ob : Obj} (ho : s.heap.get? u = some ob) (hc : ob.cls = .type "method-wrapper") (hd : ob.data = .fields #[.builtin "list_iterator.__next__", .ref ai])
  (h : wpAny (model prog w) A.in1 (Builtin.«list_iterator.__next__» ⟨[.ref ai], []⟩) (fun fin s' => ∃ v, fin = .done (.ret v) /\ Q v s') E s) : wpAny (model prog w) A (call (.ref u) []) Q E s := by
 refine wpAny_call (codeAny_of_tree ?_)
 show wpAny _ A.in1 (callAny (.ref u) ⟨[], []⟩) _ _ s
 simp only [callAny]
 refine wpAny_bind (wpAny_load ho ?_)
 rw [hd, hc]
 dsimp only
 rw [if_pos (by decide)]
 refine wpAny_bind (wpAny_of_eq (a := ()) (check_ln _) ?_)
 refine wpAny_bind (wpAny_pure (wpAny_pure ?_))
 refine ⟨Code.quiet_builtin _ (by decide +kernel), codeAny_builtin entry_listiter_next ?_⟩
 rw [Around.under_plainId (by decide +kernel) _]
 exact wpAny_mono h (fun fin s' h' => by obtain ⟨v, rfl, hv⟩ := h'; exact hv) fun _ _ h' => h'

theorem next_item {ai l : Addr} {i : Nat} {sl : Array (Option Value)} {ol : Obj} {xs : Array Value} {m : Nat} {x : Value} {P : Fin -> Shared -> Prop}
  (ho : s.heap.get? ai = some { cls := .type "list_iterator", dict := none, data := .fields #[.ref l, .int i 0], slots := sl }) (hol : s.heap.get? l = some ol) (hdl : ol.data = .seq xs m) (hx : xs[i]? = some x)
  (hQ : ∀ h', Heap.SameBut ai s.heap h' -> h'.get? ai = some { cls := .type "list_iterator", dict := none, data := .fields #[.ref l, .int (i + 1 : Nat) 0], slots := sl } -> P (.done (.ret x)) { s with heap := h' }) :
  wpAny (model prog w) A (Builtin.«list_iterator.__next__» ⟨[.ref ai], []⟩) P E s := by
 show wpAny _ _ (field (.ref ai) 0 >>= _) _ _ s
 refine wpAny_bind (wpAny_field ho rfl (x := .ref l) rfl ?_)
 show wpAny _ _ (if (Value.ref l == Value.none) = true then _ else _) _ _ s
 rw [if_neg (show ¬ ((Value.ref l == Value.none) = true) from Bool.false_ne_true)]
 show wpAny _ _ (field (.ref ai) 1 >>= _) _ _ s
 refine wpAny_bind (wpAny_field ho rfl (x := .int i 0) rfl ?_)
 show wpAny _ _ (seqItems? (.ref l) >>= _) _ _ s
 refine wpAny_bind (wpAny_seqItems hol hdl ?_)
 simp only [Int.toNat_natCast, hx]
 refine wpAny_bind (wpAny_setField ho rfl (by simp) (wpAny_pure (hQ _ (Heap.SameBut.update ..) ?_)))
 exact Heap.get?_update_self _ ho rfl

theorem next_end {ai l : Addr} {i : Nat} {sl : Array (Option Value)} {ol : Obj} {xs : Array Value} {m : Nat} {P : Fin -> Shared -> Prop} (hh : A.handled = none)
  (ho : s.heap.get? ai = some { cls := .type "list_iterator", dict := none, data := .fields #[.ref l, .int i 0], slots := sl }) (hol : s.heap.get? l = some ol) (hdl : ol.data = .seq xs m) (hx : xs[i]? = none)
  (hE : ∀ h' e oe vs, Heap.ExtBut ai s.heap h' -> s.heap.objs.size <= h'.objs.size -> (∃ o, h'.get? ai = some o) -> h'.get? e = some oe -> oe.cls = .type "StopIteration" -> oe.data = .fields vs -> vs[1]? = some .none -> s.heap.objs.size <= e -> E (.ref e) { s with heap := h' }) :
  wpAny (model prog w) A (Builtin.«list_iterator.__next__» ⟨[.ref ai], []⟩) P E s := by
 show wpAny _ _ (field (.ref ai) 0 >>= _) _ _ s
 refine wpAny_bind (wpAny_field ho rfl (x := .ref l) rfl ?_)
 show wpAny _ _ (if (Value.ref l == Value.none) = true then _ else _) _ _ s
 rw [if_neg (show ¬ ((Value.ref l == Value.none) = true) from Bool.false_ne_true)]
 show wpAny _ _ (field (.ref ai) 1 >>= _) _ _ s
 refine wpAny_bind (wpAny_field ho rfl (x := .int i 0) rfl ?_)
 show wpAny _ _ (seqItems? (.ref l) >>= _) _ _ s
 refine wpAny_bind (wpAny_seqItems hol hdl ?_)
 simp only [Int.toNat_natCast, hx]
 refine wpAny_bind (wpAny_rule (wpAny_bind (wpAny_setField ho rfl (by simp) ?_)))
 have hu := Heap.get?_update_self (h := s.heap) (Obj.mapFields (·.setIfInBounds 0 .none)) ho rfl
 show wpAny _ _ (newExc (.type "StopIteration") [] >>= _) _ _ _
 refine wpAny_bind ?_
 simp only [newExc, newTuple]
 refine wpAny_bind (wpAny_newObj_type ?_ (by size_fits))
 refine wpAny_bind (m := firstArgMember _ _) (wpAny_of_eq (a := Value.none) (by first | rfl | (simp only [firstArgMember]; rfl)) ?_)
 refine wpAny_newObj_type ?_ (by size_fits)
 simp only [raiseNew]
 refine wpAny_bind (wpAny_handled ?_)
 rw [hh]
 refine wpAny_bind (wpAny_pure (wpAny_throw ?_))
 refine hE _ _ _ _ (((Heap.SameBut.update ..).extBut.push _).push _) ?_ ⟨_, Heap.get?_push_of_some _ (Heap.get?_push_of_some _ hu)⟩ (Heap.get?_push_size _ rfl) rfl rfl rfl ?_
 ·simp only [Heap.size_push, Heap.size_after_update]; omega
 ·simp only [Heap.size_push, Heap.size_after_update]; omega
end
end Mine
end

section
open PySem PySem.W PyProof.Rows Builtin.ObjectAttr
namespace Mine

section
variable [o : Off] {prog : Program} {w : World} {B h h' : Heap} {ad : List Addr} {H : Hp}
theorem St.excepted {k : Nat} {ai : Addr} (S : St prog w B h ad H) (hk : ad[k]? = some ai) (kp : ∀ b ob, b ≠ ai -> h.get? b = some ob -> ∃ ob', h'.get? b = some ob' /\ ob'.data = ob.data /\ (b ∉ Off.fr -> ob' = ob))
  (ex : ∃ ob, h'.get? ai = some ob) (sz : h.objs.size <= h'.objs.size) : St prog w B h' ad (H.set k .gone) /\ Go ad h [] h' := by
 have ma : ai ∈ ad := List.mem_of_getElem? hk
 have gl : ∀ b ob, h.get? b = some ob -> b ∉ ad -> ∃ ob', h'.get? b = some ob' /\ Like ob ob' := by
  intro b ob eb n
  refine hid fun zP zk => ?_
  obtain ⟨ob', e', d', x'⟩ := kp b ob (fun q => n (q ▸ ma)) eb
  refine zk ?_
  clear zk zP
  refine ⟨ob', e', fun hd => ?_, d'⟩
  refine x' fun m => ?_
  refine hid fun zP zk => ?_
  obtain ⟨_, _, o2, es, ep, e2, d2⟩ := S.frs b m
  refine zk ?_
  clear zk zP
  rw [eb] at e2
  cases e2
  rcases hd with ⟨_, _, hd⟩ | ⟨_, hd⟩
  ·rw [d2] at hd; cases hd
  ·rw [d2] at hd; cases hd
 have g : Go ad h [] h' := ⟨gl, fun _ m => (nomatch m), sz⟩
 refine ⟨⟨fun b ob eb => ?_, S.new, S.nd, by rw [List.length_set]; exact S.len, fun a m => ⟨Nat.lt_of_lt_of_le (S.off a m).1 sz, (S.off a m).2⟩, fun a m => ?_, fun j b ob e1 e2 => ?_⟩, g⟩
 ·refine hid fun zP zk => ?_
  obtain ⟨ob', e', _, x'⟩ := kp b ob (S.notB ma eb) (S.base b ob eb)
  refine zk ?_
  clear zk zP
  rw [e', x' fun m => by have := (S.frs b m).2.1; rw [eb] at this; cases this]
 ·refine hid fun zP zk => ?_
  obtain ⟨f1, f2, o2, es, ep, e2, d2⟩ := S.frs a m
  obtain ⟨ob', e', d', _⟩ := kp a o2 (fun q => f1.1 (q ▸ ma)) e2
  refine zk ?_
  clear zk zP
  exact ⟨f1, f2, ob', es, ep, e', d'.trans d2⟩
 ·by_cases hj : j = k
  ·subst hj
   have hb : b = ai := Option.some.inj (e1.symm.trans hk)
   subst hb
   have : (H.set j .gone)[j]? = some .gone := by
    rw [List.getElem?_set_self]
    have := (List.getElem?_eq_some_iff.mp hk).1
    rw [S.len] at this; exact this
   have ho : ob = .gone := Option.some.inj (e2.symm.trans this)
   subst ho
   obtain ⟨ob', e'⟩ := ex
   exact ⟨ob', e', trivial⟩
  ·rw [List.getElem?_set_ne (Ne.symm hj)] at e2
   obtain ⟨ob1, e3, r3⟩ := S.obj j b ob e1 e2
   have nb : b ≠ ai := by
    rintro rfl
    have := (List.getElem?_inj (List.getElem?_eq_some_iff.mp e1).1 S.nd).mp (e1.trans hk.symm)
    exact hj this
   have mb : b ∈ ad := List.mem_of_getElem? e1
   refine hid fun zP zk => ?_
   obtain ⟨ob', e', _, x'⟩ := kp b ob1 nb e3
   refine zk ?_
   clear zk zP
   have := x' fun m => (S.frs b m).1.1 mb
   subst this
   have := r3.go g
   rw [List.append_nil] at this
   exact ⟨ob', e', this⟩
end

section
variable {c : Nat -> List D -> Hp -> (D -> Hp -> Prop) -> Prop} {cv : List D} {lo : Lo} {H : Hp}
theorem fns_v {m i : Nat} {Q : D -> Hp -> Prop} (h : (fnsN c m).ev cv lo (.v i) H Q) : ∃ d, lo[i]? = some (some d) /\ Q d H := by
 cases m with
 | zero => exact h.elim
 | succ m => exact wOO_el h fun d e h => ⟨d, e, h⟩
theorem fns_pop {m j : Nat} {Q : D -> Hp -> Prop} (h : (fnsN c m).ev cv lo (.bm .pop (.v j) []) H Q) : ∃ (k : Nat) (ds : List D) (r : D × Hp), lo[j]? = some (some (.ref k)) /\ H[k]? = some (.list ds) /\ bmD .pop (.ref k) [] H = some r /\ Q r.1 r.2 := by
 cases m with
 | zero => exact h.elim
 | succ m =>
  refine hid fun zP zk => ?_
  obtain ⟨d, e, h⟩ := fns_v (m := m) (Q := fun x H1 => wT (bmK .pop x H1) <| evs (fnsN c m) cv lo [] H1 fun ds H2 => OP (bmD .pop x ds H2) fun r => Q r.1 r.2) h
  obtain ⟨hk, h⟩ := wT_of h
  obtain ⟨k, ds, hd, q⟩ := k_list (of_decide_eq_true hk)
  refine zk ?_
  clear zk zP
  rw [hd] at e h
  exact op_el (x := bmD .pop (.ref k) [] H) h fun r e2 h => ⟨k, ds, r, e, q, e2, h⟩
theorem fns_handler {m j1 j2 j3 : Nat} {Q : Fl -> Lo -> Hp -> Prop} (h : exs (fnsN c m) [.delSub (.v j1) (.bm .pop (.v j2) []), .expr (.bm .pop (.v j3) [])] lo H Q) :
  ∃ (x : D) (k2 k3 : Nat) (r2 r3 : D × Hp) (H2 : Hp) (ds2 ds3 : List D), lo[j1]? = some (some x) /\ lo[j2]? = some (some (.ref k2)) /\ lo[j3]? = some (some (.ref k3)) /\ H[k2]? = some (.list ds2) /\ bmD .pop (.ref k2) [] H = some r2 /\ delSubD r2.2 x r2.1 = some H2 /\
   H2[k3]? = some (.list ds3) /\ bmD .pop (.ref k3) [] H2 = some r3 /\ Q .next lo r3.2 := by
 cases m with
 | zero => exact h.elim
 | succ m =>
  refine hid fun zP zk => ?_
  obtain ⟨x, v1, h⟩ := fns_v (m := m) h
  obtain ⟨k2, ds2, r2, v2, q2, b2, h⟩ := fns_pop h
  refine zk ?_
  clear zk zP
  refine op_el h fun H2 dl h => ?_
  refine hid fun zP zk => ?_
  obtain ⟨k3, ds3, r3, v3, q3, b3, h⟩ := fns_pop (m := m) h
  refine zk ?_
  clear zk zP
  exact ⟨x, k2, k3, r2, r3, H2, ds2, ds3, v1, v2, v3, q2, b2, dl, q3, b3, h⟩
end
end Mine
end

section
open PySem PySem.W PyProof.Rows Builtin.ObjectAttr
namespace Mine
theorem exc_stop : isSubtype (.type "StopIteration") (.type "BaseException") = pure true := by rw [isSubtype_type]; kernel_rfl
theorem nt_stop : isSubtype (.type ((Manifest.find? "StopIteration").elim "type" fun x => x.metatype)) (.type "tuple") = pure false := by rw [isSubtype_type]; kernel_rfl

section
variable [o : Off] {prog : Program} {w : World} {B : Heap} {G : Gs} {env : Env} {names : List Str} {lo : Lo} {A : Around} {E : Value -> Shared -> Prop} {W : Wd}
theorem pop_name {x : Str} {sp ap cp : Pos} {j k : Nat} {ds : List D} {r : D × Hp} {R : D -> Hp -> Prop} {Q : Value -> Shared -> Prop} (hx : names[j]? = some x) (ok : okName x = true) (hline : (ap.endLine == cp.line) = true) (hl : lo[j]? = some (some (.ref k))) (hk : W.H[k]? = some (.list ds)) (e : bmD .pop (.ref k) [] W.H = some r)
  (F : FW prog w B env names W lo) (p : PostE prog w B W R Q) (h : R r.1 r.2) : wpAny (model prog w) A (eval (.Call (.Attribute (.Name x sp) "pop" ap) [] [] cp) env) Q E W.s := by
 obtain ⟨ok1, ok2⟩ := okName_split ok
 refine wpAny_Call_method_lateS (attributeBase_of rfl _) rfl hline (wpAny_Name (F.fm.load hx hl fun v rv => ?_) ok1)
 have M := list_meth F.st rv (by show kindO W.H[k]? = 0; rw [hk]; rfl) PySem.F.slot_list_pop PySem.F.type_list_pop
 exact ⟨_, _, M.pa, M.slot, M.ty, M.is, M.nd, Calls.callWith_builtin rfl (PySem.evalArgs_none (pop_call F.st p h rv (isNil _ _) e))⟩

theorem tryNext_sound {c : Nat -> List D -> Hp -> (D -> Hp -> Prop) -> Prop} {m n : Nat} (TO : TopOk B G) (hE : SndE prog w B G (fnsN c m) n) (r : Room A n) {st : PySem.Stmt} {i : Nat} {e : Ex} {hb : List Stm} {R : Fl -> Lo -> Hp -> Prop} {Q : Flow -> Shared -> Prop}
  (is : IsS G ⟨env.scope.names, names, [], false⟩ st (.tryNext i e hb)) (h : exStep (fnsN c m) (.tryNext i e hb) lo W.H R) (F : FW prog w B env names W lo) (p : PostS prog w B env names W R Q) : wpAny (model prog w) A (exec st env) Q E W.s := by
 revert h
 apply is.inv
 intro x px fe cp ap bp hx hp hpos pos dn dp sn sp ap1 cp1 tp dpos itn ip ap2 cp2 epos j1 j2 j3 hi ie hfe hk hok hgl n1 n2 n3 l1 l2 o1 o2 o3 h
 have arm : eval (.Call fe [] [] cp) env = (eval fe env >>= fun fv => callWith cp fv [] [] []) := by
  cases fe <;> first | rfl | exact nft hfe
 refine wpAny_Try_except (wpAny_execs_cons (wpAny_Assign_Name ?_ rfl))
 rw [arm]
 refine wpAny_bind (hE ie h r F.rc fun W1 d v g1 h1 rv => ?_)
 refine wX_el (M := fun d => VRel W1.s.heap W1.ad d v -> _) h1 (fun k h1 rv => iterO_el h1 fun kl j q h1 => op_el h1 fun ds ql h1 => ?_) rv
 unfold VRel at rv
 refine hid fun zP zk => ?_
 obtain ⟨u, ou, ai, ez1, nu, eu, cu, du, hai⟩ := rv
 refine zk ?_
 clear zk zP
 subst ez1
 refine hid fun zP zk => ?_
 obtain ⟨oi, eo, ci, dni, l, hl, di⟩ := g1.st.obj k ai _ hai q
 have ql : W1.H[kl]? = some (.list ds) := hL_el ql fun ds' e e2 => Option.some.inj e2 ▸ e
 obtain ⟨vs, mm, gl, rl⟩ := St.list g1.st hl ql
 obtain ⟨cls, dct, dat, slt⟩ := oi
 refine zk ?_
 clear zk zP
 dsimp only at ci dni di
 subst ci dni di
 refine callWith_wrap eu cu du (call_wrap eu cu du ?_)
 have F1 := F.up g1
 refine wD_el (M := fun x => ds[j]? = x -> _) h1 (fun h1 qd => ?_) (fun d h1 qd => ?_) rfl
 ·refine next_end (s := W1.s) (A := A.in1) r.handled eo gl rfl (by have := rl.getNone qd; simpa using this) fun h2 ex oe evs eb sz2 hai2 ee ce de de1 le => ?_
  have hfs : ∀ f ∈ Off.fr, ∃ o es ep, h2.get? f = some o /\ o.data = .dict es ep := fun f mf => by
   refine hid fun zP zk => ?_
   obtain ⟨f1, f2, o', es, ep, e', d'⟩ := g1.st.frs f mf
   refine zk ?_
   clear zk zP
   exact ⟨o', es, ep, eb f o' (fun q => f1.1 (q ▸ List.mem_of_getElem? hai)) e', d'⟩
  refine noteFrame_any (s := { W1.s with heap := h2 }) (fr := Off.fr) r.frames F.fm.frame F.fm.inFr hfs ee de de1 fun h3 h4 tb otb tvs oe' r3 k4 sz4 e4 c4 dv4 le4 etb dtb htv => ?_
  obtain ⟨vs4, dv4, dv4'⟩ := dv4
  refine wpAny_setFlight_none (s := { W1.s with heap := h4 }) e4 dv4 dv4' etb dtb htv ?_
  generalize h5e : h4.update tb (Obj.mapFields (·.setIfInBounds 3 .none)) = h5
  have sb5 : Heap.SameBut tb h4 h5 := by rw [<- h5e]; exact Heap.SameBut.update ..
  have etb5 : h5.get? tb = some (Obj.mapFields (·.setIfInBounds 3 .none) otb) := by rw [<- h5e]; exact Heap.get?_update_self _ etb (Obj.isFreed_of_fields (Obj.data_mapFields dtb _))
  have hex1 : W1.s.heap.objs.size <= ex := le
  have r3s : h3.objs.size = h2.objs.size := r3.size
  have sz2' : W1.s.heap.objs.size <= h2.objs.size := sz2
  have le4' : h3.objs.size <= tb := le4
  have sz4' : h3.objs.size <= h4.objs.size := sz4
  have eel : h2.objs.size > ex := Heap.lt_size ee
  have htb1 : W1.s.heap.objs.size <= tb := by omega
  have htb2 : h2.objs.size <= tb := by omega
  have ntbx : ex ≠ tb := Nat.ne_of_lt (Nat.lt_of_lt_of_le eel htb2)
  have kpX : ∀ {h' : Heap}, (∀ b o, b ≠ tb -> h4.get? b = some o -> h'.get? b = some o) -> ∀ b ob, h2.get? b = some ob -> b ≠ ex -> b ≠ tb -> ∃ ob', h'.get? b = some ob' /\ ob'.data = ob.data /\ (b ∉ Off.fr -> ob' = ob) := by
   intro h' kk b ob e2 nx nt
   refine hid fun zP zk => ?_
   obtain ⟨o3, e3, d3, x3⟩ := r3.like b ob e2
   refine zk ?_
   clear zk zP
   exact ⟨o3, kk b o3 nt (k4 b o3 nx e3), d3, x3⟩
  have stX : ∀ {h' : Heap}, (∀ b o, b ≠ tb -> h4.get? b = some o -> h'.get? b = some o) -> h4.objs.size <= h'.objs.size -> St prog w B h' W1.ad (W1.H.set k .gone) /\ Go W1.ad W1.s.heap [] h' := by
   intro h' kk sz
   refine g1.st.excepted hai (fun b ob nb e1 => ?_) ?_ (by omega)
   ·have lt : W1.s.heap.objs.size > b := Heap.lt_size e1
    exact kpX kk b ob (eb b ob nb e1) (Nat.ne_of_lt (Nat.lt_of_lt_of_le lt hex1)) (Nat.ne_of_lt (Nat.lt_of_lt_of_le lt htb1))
   ·refine hid fun zP zk => ?_
    obtain ⟨o', e'⟩ := hai2
    have lt : W1.s.heap.objs.size > ai := Heap.lt_size eo
    obtain ⟨o'', e'', _⟩ := kpX kk ai o' e' (Nat.ne_of_lt (Nat.lt_of_lt_of_le lt hex1)) (Nat.ne_of_lt (Nat.lt_of_lt_of_le lt htb1))
    refine zk ?_
    clear zk zP
    exact ⟨o'', e''⟩
  obtain ⟨S5, g5⟩ := stX (fun b o nt e => (sb5.2 b nt).trans e) (Nat.le_of_eq sb5.1.symm)
  have l5 := Le.set (tk := W1.s.toks) ⟨S5, g5⟩
  have ex5 : h5.get? ex = some oe' := (sb5.2 ex ntbx).trans e4
  refine wpAny_handleBy_builtin (T := "StopIteration") (X := "StopIteration") (b := true) exc_stop nt_stop isSubtype_stop ?_
  refine RW.loadG (W := ⟨{ W1.s with heap := h5 }, W1.ad, W1.H.set k .gone⟩) TO (F1.up l5).rc hk hgl hok ?_
  refine ⟨rfl, ⟨oe', ex5, c4.trans ce⟩, ?_⟩
  rw [if_pos rfl]
  have dtb5 := Obj.data_mapFields dtb (·.setIfInBounds 3 .none)
  refine wpAny_setFlight_none (s := { W1.s with heap := h5 }) ex5 dv4 dv4' etb5 dtb5 (by simpa using htv) ?_
  generalize h6e : h5.update tb (Obj.mapFields (·.setIfInBounds 3 .none)) = h6
  have sb6 : Heap.SameBut tb h5 h6 := by rw [<- h6e]; exact Heap.SameBut.update ..
  refine hid fun zP zk => ?_
  obtain ⟨S6, g6⟩ := stX (fun b o nt e => (sb6.2 b nt).trans ((sb5.2 b nt).trans e)) (Nat.le_of_eq (sb5.1.symm.trans sb6.1.symm))
  have l6 := Le.set (tk := W1.s.toks) ⟨S6, g6⟩
  have F6 := F1.up l6
  obtain ⟨x0, k2, k3, r2, r3', H2, ds2, ds3, v1, v2, v3, q2, b2, dl, q3, b3, hR⟩ := fns_handler h1
  refine zk ?_
  clear zk zP
  refine wpAny_execs_cons (wpAny_Delete (wpAny_deleteEach_cons (delete_Subscript ?_)))
  obtain ⟨o11, o12⟩ := okName_split o1
  refine wpAny_Name (F6.fm.load n1 v1 fun v rv => ?_) o11
  refine pop_name (W := ⟨{ W1.s with heap := h6 }, W1.ad, W1.H.set k .gone⟩) (R := fun d H => d = r2.1 /\ H = r2.2) n2 o2 l1 v2 q2 b2 F6 (fun W7 d7 u7 g7 hd ry => ?_) ⟨rfl, rfl⟩
  rw [hd.1] at ry
  rw [<- hd.2] at dl
  refine delSub_sound g7.st dl (rv.up (W := ⟨{ W1.s with heap := h6 }, W1.ad, W1.H.set k .gone⟩) g7) ry fun h8 tk8 S8 g8 => wpAny_deleteEach_nil ?_
  have l8 := g7.trans (Le.set (tk := tk8) ⟨S8, g8⟩)
  have F8 := F6.up l8
  refine wpAny_execs_cons (wpAny_Expr_any (pop_name (W := ⟨{ W7.s with heap := h8, toks := tk8 }, W7.ad, H2⟩) (R := fun d H => d = r3'.1 /\ H = r3'.2) n3 o3 l2 v3 q3 b3 F8 (fun W9 d9 u9 g9 hd9 _ => wpAny_execs_nil ?_) ⟨rfl, rfl⟩) (by unfold interactive; rw [F.fm.kind]; rfl) rfl)
  have l9 := ((g1.trans l6).trans l8).trans g9
  exact p W9 .next lo .next (l9.toS env) (F8.up g9) (hd9.2.symm ▸ hR) rfl
 ·obtain ⟨x', hx', rx⟩ := rl.get qd
  refine next_item eo gl rfl (by simpa using hx') fun h2 sb e2 => ⟨_, rfl, ?_⟩
  have l2 := Le.set (tk := W1.s.toks) (g1.st.set (o' := .iter kl (j + 1)) hai sb (sameBut_size sb) e2 ⟨rfl, rfl, l, hl, rfl⟩)
  refine (F1.up l2).store hi (rx.up l2) fun h3 tk3 l3 F3 => wpAny_execs_cons (wpAny_Break ?_)
  exact p _ _ _ .brk (((g1.trans l2).toS env).trans l3) F3 h1 rfl
end
end Mine
end

section
open PySem PySem.W PyProof.Rows
namespace Mine
structure AllTop (prog : Program) (w : World) (B : Heap) (G : Gs) (T : Nat -> Option FnS) (K : Frag) (sp : Nat -> Addr) : Prop where
 TO : TopOk B G
 FO : FunsOk prog w B G T
 FA : FnAt B G
 BT : BfTop B
 RT : ReTop B
 KT : KTop K B sp
 MT : MTop K G

section
variable {prog : Program} {w : World} {B : Heap} {G : Gs} {T : Nat -> Option FnS} {K : Frag} {sp : Nat -> Addr}
theorem RoomF.le {fr : List Addr} {A : Around} {m n : Nat} (r : RoomF fr A n) (h : m <= n) : RoomF fr A m := ⟨r.handled, by have := r.depth; omega, by have := r.units; omega, r.frames⟩
theorem SndC.le {c : Nat -> List D -> Hp -> (D -> Hp -> Prop) -> Prop} {m n : Nat} (h : SndC prog w B G c m) (l : m <= n) : SndC prog w B G c n := fun hf hc r => h hf hc (r.le l)
structure Snd (prog : Program) (w : World) (B : Heap) (G : Gs) (f : Fns) (n : Nat) : Prop where
 hE : SndE prog w B G f n
 hT : SndT prog w B G f n
 hS : SndS prog w B G f n
 hC : SndC prog w B G f.call n
variable {f : Fns} {n : Nat}
section
variable (TT : AllTop prog w B G T K sp) (I : Snd prog w B G f n)
include TT I
theorem sndE_step [Off] {X : Cx} {env : Env} {pe : PySem.Expr} {e : Ex} {cv : List D} {lo : Lo} {A : Around} {W : Wd} {R : D -> Hp -> Prop} {Q : Value -> Shared -> Prop} {E : Value -> Shared -> Prop}
 (ie : IsE G X pe e) (h : evStep f cv lo e W.H R) (r' : Room A (n + 1)) (C : RW prog w B X env W lo cv) (p : PostE prog w B W R Q) : wpAny (model prog w) A (eval pe env) Q E W.s := by
 have r := r'.less
 induction e using Ex.casesOn with
 | k d => exact snd_k C p TT.TO ie h
 | v i => exact snd_v C p ie h
 | c j => exact snd_c C p ie h
 | g v => exact snd_g C p TT.TO ie h
 | bin o a b => exact snd_bin C p I.hE r ie h
 | neg a => exact snd_neg C p I.hE r ie h
 | nt a => exact snd_nt C p I.hE r ie h
 | cmp o a b => exact snd_cmp C p I.hE r TT.TO ie h
 | btw => exact h.elim
 | and_ as => exact snd_and C p I.hE r ie h
 | or_ as => exact snd_or C p I.hE r ie h
 | ite t a b => exact snd_ite C p I.hE r I.hT ie h
 | lst as => exact snd_lst C p I.hE r ie h
 | nlst as => exact snd_nlst C p I.hE r ie h
 | ndict => exact snd_ndict C p ie h
 | tup as => exact snd_tup C p I.hE r ie h
 | sub a b => exact snd_sub C p I.hE r ie h
 | slcTo a b => exact snd_slcTo C p I.hE r ie h
 | slcStep a b c => exact snd_slcStep C p I.hE r ie h
 | fn f as dx => exact fn_sound TT.TO TT.FA I.hE I.hC r C p ie h
 | fnk f as kw => exact fnk_sound TT.TO TT.FA I.hE I.hC r C p ie h
 | bf b as => exact bf_sound TT.TO I.hE r C p TT.BT ie h
 | bm m a as =>
  exact ie.inv (fun pe m as => evStep f cv lo (.bm m a as) W.H R -> wpAny (model prog w) A (eval pe env) Q E W.s) (fun o name apos args pos as m hn ns hl hle io ia h => bm_sound TT.TO TT.RT I.hE r hn ns hl hle io ia h C p) (fun o pos ns io h => next_sound I.hE r C p ns io h) h
 | om m a as => exact om_sound TT.FA TT.KT TT.MT I.hE I.hC r C p ie h
 | omS m a b => exact omS_sound TT.KT TT.MT I.hE I.hC r C p ie h
 | new c as dx => exact new_sound TT.TO TT.KT TT.MT I.hE I.hC r' C p ie h
 | att a f => exact att_sound TT.KT I.hE r C p ie h
 | comp => exact comp_sound TT.TO I.hE I.hT r ie h C p
end
theorem fnsN_stop {c : Nat -> List D -> Hp -> (D -> Hp -> Prop) -> Prop} : ∀ (m : Nat) (lo : Lo) (H : Hp) (R : Fl -> Lo -> Hp -> Prop), ¬ (fnsN c m).ex .stop lo H R
 | 0, _, _, _, h => h
 | _ + 1, _, _, _, h => h
theorem fnsN_call {c : Nat -> List D -> Hp -> (D -> Hp -> Prop) -> Prop} : ∀ m, (fnsN c m).call = c
 | 0 => rfl
 | _ + 1 => rfl
theorem swaps_true {X : Cx} {value : PySem.Expr} {env : Env} (hk : env.scope.kind = .function) (hn : env.scope.names = X.kd) {x : Str} {px : Pos} (hs : swapB X value x px = true) {line : Nat} : isCompT value = true /\ swapsWith value (some (.Name x px)) line env = pure true := by
 cases value with
 | ListComp elt gs sc pos =>
  have hb : (env.blockKind == ScopeKind.function) = true := by unfold Env.blockKind; rw [hk]; rfl
  have hkk : env.kindOf x = X.kd.lookup x := congrArg (·.lookup x) hn
  refine ⟨rfl, ?_⟩
  show pure (env.blockKind == .function && env.kindOf x == some .local && px.line == pos.line && !(sc.names.any fun (n, k) => n == x && (k == .local || k == .cell))) = _
  rw [hb, hkk, Bool.true_and]
  exact congrArg pure hs
 | _ => exact nft hs
section
variable {c : Nat -> List D -> Hp -> (D -> Hp -> Prop) -> Prop} {m : Nat} (TT : AllTop prog w B G T K sp) (I : Snd prog w B G (fnsN c m) n)
include TT I
theorem sndS_step (I2 : ∀ m', m = m' + 1 -> ∃ n', n' <= n /\ Snd prog w B G (fnsN c m') n') [Off] {env : Env} {names : List Str} {st : PySem.Stmt} {stm : Stm} {lo : Lo} {A : Around} {W : Wd} {R : Fl -> Lo -> Hp -> Prop} {Q : Flow -> Shared -> Prop} {E : Value -> Shared -> Prop}
  (is : IsS G ⟨env.scope.names, names, [], false⟩ st stm) (h : exStep (fnsN c m) stm lo W.H R) (r' : Room A (n + 1)) (F : FW prog w B env names W lo) (p : PostS prog w B env names W R Q) : wpAny (model prog w) A (exec st env) Q E W.s := by
 have r := r'.less
 have hst := fnsN_stop (c := c) m
 induction stm using Stm.casesOn with
 | asg i e =>
  apply is.inv
  intro x px value pos h1 ie
  cases hs : swapB ⟨env.scope.names, names, [], false⟩ value x px with
  | false => exact snd_asg F p I.hE r h1 hs ie h
  | true =>
   obtain ⟨ct, hsw⟩ := swaps_true (env := env) (line := pos.line) F.fm.kind rfl hs
   have hc := ie.comp ct
   cases m with
   | zero => exact False.elim h
   | succ m' =>
    obtain ⟨n', ln, J⟩ := I2 m' rfl
    cases e with
    | comp => exact asgU_sound TT.TO J.hE J.hT (r.le ln) h F p h1 hsw ie
    | _ => exact nft hc
 | asg2 i j e => exact snd_asg2 F p I.hE r is h
 | asgAtt a f e => exact asgAtt_sound I.hE r F p TT.KT is h
 | asgSub a b e => exact asgSub_sound I.hE r F p is h
 | asgSubV a b i e => exact asgSubV_sound I.hE r F p is h
 | augAtt a f op e => exact augAtt_sound I.hE r F p TT.KT is h
 | expr e => exact snd_expr F p I.hE r is h
 | if_ => exact snd_if F p r I.hS hst I.hT is h
 | ifN => exact snd_ifN F p I.hE r I.hS hst is h
 | for_ => exact for_sound TT.TO I.hE I.hS hst r is h F p
 | while_ => exact while_sound I.hT I.hS hst r is h F p
 | ret e => exact snd_ret F p I.hE r is h
 | brk => exact snd_brk F p is h
 | cont => exact snd_cont F p is h
 | assert_ e => exact snd_assert F p r I.hT is h
 | tryNext i e hb => exact tryNext_sound TT.TO I.hE r is h F p
 | delSub a b => exact delSub_stm_sound I.hE r F p is h
 | stop => exact False.elim h
theorem Snd.step (I2 : ∀ m', m = m' + 1 -> ∃ n', n' <= n /\ Snd prog w B G (fnsN c m') n') : Snd prog w B G (fnsN c (m + 1)) (n + 1) :=
 ⟨fun ie h r C p => sndE_step TT I ie h r C p, fun ie h r C p => sndT_step C p I.hE r.less TT.TO I.hT ie h, fun is h r F p => sndS_step TT I I2 is h r F p, by
  have hc := @Snd.hC _ _ _ _ _ _ I
  rw [fnsN_call] at hc
  exact @SndC.le prog w B G c n (n + 1) @hc (Nat.le_succ n)⟩
end
theorem snd_all {c : Nat -> List D -> Hp -> (D -> Hp -> Prop) -> Prop} (TT : AllTop prog w B G T K sp) (hC : SndC prog w B G c n) : ∀ m, Snd prog w B G (fnsN c m) (n + m) /\ ∀ m', m = m' + 1 -> ∃ n', n' <= n + m /\ Snd prog w B G (fnsN c m') n'
 | 0 => ⟨⟨fun _ h => False.elim h, fun _ h => False.elim h, fun _ h => False.elim h, hC⟩, fun _ h => nomatch h⟩
 | m + 1 => by
  obtain ⟨I, I2⟩ := snd_all TT hC m
  exact ⟨I.step TT I2, fun m' e => ⟨n + m, Nat.le_succ _, Nat.succ.inj e ▸ I⟩⟩
theorem sndC_all (TT : AllTop prog w B G T K sp) (k : Nat) : SndC prog w B G (callN T k) (32 * k) := by
 induction k with
 | zero => exact fun _ h => False.elim h
 | succ k ih =>
  have J := snd_all TT @ih 30
  have hc := @call_sound prog w B G T (32 * k + 30) k TT.TO TT.FO J.1.hS
  exact @SndC.le prog w B G _ (32 * k + 30 + 1) (32 * (k + 1)) @hc (by omega)
end
end Mine
end

section
open PySem PySem.W PyProof.Rows
namespace Mine
noncomputable def fidT : List (Addr × Nat) := [(51, 0), (71, 1), (78, 2), (85, 3), (92, 4), (100, 5), (108, 6), (117, 7), (124, 8), (131, 9), (139, 10), (147, 11), (154, 12), (162, 13), (287, 14), (294, 15), (299, 16), (306, 17), (311, 18), (316, 19), (321, 20), (326, 21), (214, 100), (177, 101), (221, 102), (228, 103), (233, 104), (240, 105), (247, 106), (261, 107), (268, 108)]
noncomputable def dxT : List (Nat × (Option Nat × List D)) := [(0, (some 1, [])), (1, (some 1, [])), (2, (some 1, [])), (3, (some 1, [])), (4, (some 1, [])), (8, (some 1, [])), (9, (some 1, [])), (10, (some 2, [])), (11, (some 3, [])), (12, (some 1, [])), (14, (some 1, [])), (15, (some 2, [])), (16, (some 2, [])), (17, (some 1, [])), (18, (some 3, [])), (19, (some 3, [])), (20, (some 3, [])), (21, (some 1, [])), (7, (some 1, [.val (.ref 109), .int 1])), (13, (some 1, [.bool false])), (100, (some 1, [.none])), (101, (some 2, [])), (102, (none, [])), (103, (none, [])), (104, (none, [])), (105, (none, [])), (106, (none, [])), (107, (none, [])), (108, (none, []))]
noncomputable def dxF (f m : Nat) : Option (List D) := match dxT.lookup f with
 | some (some n, dx) => gd (decide (m = n)) (some dx)
 | some (none, dx) => some dx
 | none => none
theorem dx_some {f n m : Nat} {dx dy : List D} (h : dxT.lookup f = some (some n, dx)) (e : dxF f m = some dy) : m = n /\ dy = dx := by
 unfold dxF at e
 rw [h] at e
 exact gd_el e fun q e => ⟨of_decide_eq_true q, (Option.some.inj e).symm⟩
theorem dx_all {f m : Nat} {dx dy : List D} (h : dxT.lookup f = some (none, dx)) (e : dxF f m = some dy) : dy = dx := by
 unfold dxF at e
 rw [h] at e
 cases e; rfl
theorem dx_none {f m : Nat} (h : dxT.lookup f = none) : dxF f m = none := by
 unfold dxF
 rw [h]
noncomputable def kwF : Nat -> Option Str
 | 5 => some "strict_mode"
 | 6 => some "newline"
 | _ => none
noncomputable def midT : List (Str × Nat) := [("_get_nodeinfo", 102), ("add", 103), ("prepare", 104), ("get_ready", 105), ("is_active", 106), ("done", 107), ("_find_cycle", 108)]
noncomputable def G : Gs := ⟨fun x => (glT ++ blT).lookup x, fun a => fidT.lookup a, dxF, kwF, fun x => midT.lookup x⟩
noncomputable def chkFun (G : Gs) (fd : FuncData) (fs : FnS) (names : List Str) : Bool := match fd.body with
 | .stmts body => !fd.scope.isCoroutine && !fd.scope.isGenerator && decide (fd.scope.kind = .function) && decide (fd.globals = mainGlobals) && decide (fd.builtins = builtinsNs) && fd.closure.isEmpty
   && names.all (fun x => decide (fd.scope.names.lookup x = some .local) || decide (fd.scope.names.lookup x = some .cell)) && decide names.Nodup && decide (fd.scope.names.map (·.1)).Nodup && decide (names.length = fs.nl)
   && chkSs (chkS G 60) ⟨fd.scope.names, names, [], false⟩ body fs.body && decide (fs.np + (if fs.va then 1 else 0) <= names.length)
 | _ => false
theorem chk0 : chkFun G fd0 fn0 names0 = true := by decide +kernel
theorem chk1 : chkFun G fd1 fn1 names1 = true := by decide +kernel
theorem chk2 : chkFun G fd2 fn2 names2 = true := by decide +kernel
theorem chk3 : chkFun G fd3 fn3 names3 = true := by decide +kernel
theorem chk4 : chkFun G fd4 fn4 names4 = true := by decide +kernel
theorem chk5 : chkFun G fd5 fn5 names5 = true := by decide +kernel
theorem chk6 : chkFun G fd6 fn6 names6 = true := by decide +kernel
theorem chk7 : chkFun G fd7 fn7 names7 = true := by decide +kernel
theorem chk8 : chkFun G fd8 fn8 names8 = true := by decide +kernel
theorem chk9 : chkFun G fd9 fn9 names9 = true := by decide +kernel
theorem chk10 : chkFun G fd10 fn10 names10 = true := by decide +kernel
theorem chk11 : chkFun G fd11 fn11 names11 = true := by decide +kernel
theorem chk12 : chkFun G fd12 fn12 names12 = true := by decide +kernel
theorem chk13 : chkFun G fd13 fn13 names13 = true := by decide +kernel
theorem chk14 : chkFun G fd14 fn14 names14 = true := by decide +kernel
theorem chk15 : chkFun G fd15 fn15 names15 = true := by decide +kernel
theorem chk16 : chkFun G fd16 fn16 names16 = true := by decide +kernel
theorem chk17 : chkFun G fd17 fn17 names17 = true := by decide +kernel
theorem chk18 : chkFun G fd18 fn18 names18 = true := by decide +kernel
theorem chk19 : chkFun G fd19 fn19 names19 = true := by decide +kernel
theorem chk20 : chkFun G fd20 fn20 names20 = true := by decide +kernel
theorem chk21 : chkFun G fd21 fn21 names21 = true := by decide +kernel
theorem chk100 : chkFun G fd100 fn100 names100 = true := by decide +kernel
theorem chk101 : chkFun G fd101 fn101 names101 = true := by decide +kernel
theorem chk102 : chkFun G fd102 fn102 names102 = true := by decide +kernel
theorem chk103 : chkFun G fd103 fn103 names103 = true := by decide +kernel
theorem chk104 : chkFun G fd104 fn104 names104 = true := by decide +kernel
theorem chk105 : chkFun G fd105 fn105 names105 = true := by decide +kernel
theorem chk106 : chkFun G fd106 fn106 names106 = true := by decide +kernel
theorem chk107 : chkFun G fd107 fn107 names107 = true := by decide +kernel
theorem chk108 : chkFun G fd108 fn108 names108 = true := by decide +kernel
end Mine
end

section
open PySem PySem.W PyProof.Rows
namespace Mine

theorem vals_of (vs : List Value) : vs = (List.range vs.length).map (fun i => vs.getD i .none) := by
 apply List.ext_getElem?
 intro i
 by_cases h : i < vs.length
 ·simp [h]
 ·simp [h]
noncomputable def cstI (v : Value) (i : Int) : Bool := match v with | .int b _ => decide (i = b) | _ => false
noncomputable def cst (d : D) (v : Value) : Bool := match d with
 | .none => decide (v = .none)
 | .bool a => decide (v = .bool a)
 | .int a => cstI v a
 | .val a => decide (v = a)
 | _ => false
theorem cst_of [Off] {h : Heap} {ad : List Addr} {d : D} {v : Value} (e : cst d v = true) : VRel h ad d v := by
 cases d with
 | none => exact dcd_el e (iNone _ _)
 | bool a => exact dcd_el e (iBool _ _ _)
 | int a => cases v <;> first | exact dcd_er (P := fun i => VRel h ad (.int a) (.int i _)) e (iInt _ _ _ _) | exact nft e
 | val a => exact dcd_el e (iVal _ _ _)
 | _ => exact nft e
noncomputable def csts (ds : List D) (vs : List Value) : Bool := match ds with
 | [] => on0 vs
 | d :: r => onC vs fun v t => cst d v && csts r t
theorem csts_of [Off] {h : Heap} {ad : List Addr} : ∀ {ds : List D} {vs : List Value}, csts ds vs = true -> VRels h ad ds vs
 | [], vs, e => on0_el (P := fun vs => VRels h ad [] vs) e (isNil _ _)
 | d :: r, vs, e => onC_el (P := fun vs => VRels h ad (d :: r) vs) e fun v t e => isCons (cst_of (ban e).1) (csts_of (ban e).2)
theorem pair_rel [Off] {h : Heap} {ad : List Addr} {d e : D} {v u : Value} (r1 : VRel h ad d v) (r2 : VRel h ad e u) : VRels h ad [d, e] [v, u] := isCons r1 (isCons r2 (isNil _ _))
section
variable {prog : Program} {w : World} {B : Heap} {Kf : Frag}

theorem looks_bind [Off] (X : Kf.In B) {A : Around} {s : Shared} {ad : List Addr} {H : Hp} {fd : FuncData} {args : Args} {bs : List (Str × Value)} {Q : List (Str × Value) -> Shared -> Prop} {E : Value -> Shared -> Prop} (S : St prog w B s.heap ad H)
  (e : peek Kf ⟨prog, w.params⟩ (bindArgs fd args) = some bs) (h : Q bs s) : wpAny (model prog w) A (bindArgs fd args) Q E s :=
 (Looks.of_peek (M := model prog w) X e) A Q E s S.base h

theorem bind_A {G : Gs} {fid : Nat} {fs : FnS} {fd : FuncData} {names : List Str} {n np : Nat} {dx : List D} {dv : List Value} (X : Kf.In B) (hva : fs.va = false) (hnp : fs.np = np) (hkw : G.kw fid = none)
  (hdx : ∀ m dy, G.dx fid m = some dy -> m + dy.length = np -> m = n /\ dy = dx) (hc : csts dx dv = true) (hl : n + dx.length = np)
  (hb : ∀ v : Nat -> Value, peek Kf ⟨prog, w.params⟩ (bindArgs fd ⟨(List.range n).map v, []⟩) = some ((names.take np).zip ((List.range n).map v ++ dv))) :
  BindOk prog w B G fid fs fd names := by
 intro _ A s ad H ds ps args Q E S ar hp h
 unfold psOf at hp
 rw [hva] at hp
 refine gd_el hp fun q hp => ?_
 have hp := Option.some.inj hp
 subst hp
 have q := of_decide_eq_true q
 rw [hnp] at q
 rcases ar with ⟨k1, ds1, dy, rfl, r, hd⟩ | ⟨d, e, v, u, kn, _, _, hk, _⟩
 ·obtain ⟨q1, rfl⟩ := hdx _ _ hd (by rw [<- q, List.length_append])
  obtain ⟨pos, kw⟩ := args
  dsimp only at k1 r
  subst k1
  have e := hb (fun i => pos.getD i .none)
  have q2 : pos.length = n := r.length.symm.trans q1
  rw [<- q2] at e
  rw [<- vals_of pos] at e
  refine looks_bind X S e ?_
  have := h s.heap s.toks (pos ++ dv) (fun _ _ e => e) (r.append (csts_of hc))
  rw [q] at this
  exact this
 ·rw [hkw] at hk; cases hk
theorem bind_K {G : Gs} {fid : Nat} {fs : FnS} {fd : FuncData} {names : List Str} {kn : Str} (X : Kf.In B) (hva : fs.va = false) (hnp : fs.np = 2) (hkw : G.kw fid = some kn)
  (hdx : ∀ m, G.dx fid m = none) (hb : ∀ v u : Value, peek Kf ⟨prog, w.params⟩ (bindArgs fd ⟨[v], [(kn, u)]⟩) = some ((names.take 2).zip [v, u])) :
  BindOk prog w B G fid fs fd names := by
 intro _ A s ad H ds ps args Q E S ar hp h
 unfold psOf at hp
 rw [hva] at hp
 refine gd_el hp fun q hp => ?_
 have hp := Option.some.inj hp
 subst hp
 rcases ar with ⟨k1, ds1, dy, rfl, r, hd⟩ | ⟨d, e, v, u, kn', rfl, rfl, hk, r1, r2⟩
 ·rw [hdx] at hd; cases hd
 ·rw [hkw] at hk
  cases hk
  refine looks_bind X S (hb v u) ?_
  exact h s.heap s.toks [v, u] (fun _ _ e => e) (pair_rel r1 r2)
theorem bind_V {G : Gs} {fid : Nat} {fs : FnS} {fd : FuncData} {names : List Str} {nv : Str} {np : Nat} (X : Kf.In B) (hva : fs.va = true) (hnp : fs.np = np) (hkw : G.kw fid = none) (hnm : names.take (np + 1) = names.take np ++ [nv]) (hln : np <= names.length)
  (hdx : ∀ m dy, G.dx fid m = some dy -> dy = [])
  (hb : ∀ pos : List Value, np <= pos.length -> bindArgs fd ⟨pos, []⟩ = (newTuple (pos.drop np) >>= fun t => pure ((names.take np).zip (pos.take np) ++ [(nv, t)]))) :
  BindOk prog w B G fid fs fd names := by
 intro _ A s ad H ds ps args Q E S ar hp h
 unfold psOf at hp
 rw [hva] at hp
 refine gd_el hp fun q hp => ?_
 have hp := Option.some.inj hp
 subst hp
 simp only [Bool.and_eq_true, decide_eq_true_eq] at q
 obtain ⟨q, ql⟩ := q
 rw [hnp] at q h
 rcases ar with ⟨k1, ds1, dy, rfl, r, hd⟩ | ⟨d, e, v, u, kn, _, _, hk, _⟩
 ·obtain rfl := hdx _ _ hd
  rw [List.append_nil] at *
  obtain ⟨pos, kw⟩ := args
  dsimp only at k1 r
  subst k1
  have hlen := r.length.symm
  rw [hb pos (hlen ▸ q)]
  have hsz : (pos.drop np).length <= lim := by rw [List.length_drop, hlen]; omega
  refine wpAny_bind (wpAny_newTuple ?_ (small_line hsz))
  refine PostK.tup (Q := fun t s' => wpAny (model prog w) A (pure ((names.take np).zip (pos.take np) ++ [(nv, t)])) Q E s') (m := 0) S (r.drop np) ?_ s.toks
  intro h' v tk kp sz rt
  refine wpAny_pure ?_
  have g : Go ad s.heap [] h' := Go.of_keeps kp sz
  have rg := (r.take np).go g
  rw [List.append_nil] at rg
  have := h h' tk (pos.take np ++ [v]) kp (rg.append (by unfold VRels; exact ⟨v, [], rfl, rt, by unfold VRels; rfl⟩))
  have hl2 : (ds1.take np ++ [D.tup (ds1.drop np)]).length = np + 1 := by rw [List.length_append, List.length_take]; simp; omega
  rw [hl2, hnm, List.zip_append (by rw [List.length_take, List.length_take]; omega)] at this
  exact this
 ·rw [hkw] at hk; cases hk
end
theorem bv103 (pos : List Value) (h : 2 <= pos.length) : bindArgs fd103 ⟨pos, []⟩ = (newTuple (pos.drop 2) >>= fun t => pure ((names103.take 2).zip (pos.take 2) ++ [(("predecessors" : Str), t)])) := by
 match pos, h with
 | [a, b], _ => kernel_rfl
 | a :: b :: c :: r, _ => kernel_rfl
theorem bv107 (pos : List Value) (h : 1 <= pos.length) : bindArgs fd107 ⟨pos, []⟩ = (newTuple (pos.drop 1) >>= fun t => pure ((names107.take 1).zip (pos.take 1) ++ [(("nodes" : Str), t)])) := by
 match pos, h with
 | [a], _ => kernel_rfl
 | a :: b :: r, _ => kernel_rfl
end Mine
end

section
open PySem PySem.W PyProof.Rows
namespace Mine
theorem mkFun {prog : Program} {w : World} {B : Heap} {Kf : Frag} {G : Gs} {a : Addr} {fid : Nat} {fs : FnS} {fd : FuncData} {names : List Str} (X : Kf.In B) (hl : Kf.lookup a = some (fnObj fd)) (hc : chkFun G fd fs names = true) (hcode : codeIn Kf fd.code fd.qualname = true)
  (hb : BindOk prog w B G fid fs fd names) :
  ∃ ob fd body names, FunOk prog w B G a fid fs ob fd body names := by
 unfold chkFun at hc
 split at hc
 ·rename_i body hbody
  simp only [Bool.and_eq_true, Bool.not_eq_true', decide_eq_true_eq, List.isEmpty_iff, List.all_eq_true, Bool.or_eq_true] at hc
  refine hid fun zP zk => ?_
  obtain ⟨⟨⟨⟨⟨⟨⟨⟨⟨⟨⟨h1, h2⟩, h3⟩, h4⟩, h5⟩, h6⟩, h7⟩, h8⟩, h9⟩, h10⟩, h11⟩, h12⟩ := hc
  refine zk ?_
  clear zk zP
  refine ⟨_, fd, body, names, X _ _ hl, rfl, h1, h2, hbody, codeRec_of X hcode, h3, h4, h5, h6, h7, h8, h9, h10, ⟨60, h11⟩, fun ds ps hp => ?_, hb⟩
  unfold psOf at hp
  cases hv : fs.va with
  | false =>
   rw [hv] at hp h12
   exact gd_el hp fun q hp => by
    have := of_decide_eq_true q
    rw [<- Option.some.inj hp, this]
    simpa using h12
  | true =>
   rw [hv] at hp h12
   exact gd_el hp fun q hp => by
    rw [<- Option.some.inj hp]
    simp at h12 ⊢
    omega
 ·cases hc
section
variable {prog : Program} {w : World} {B : Heap}
theorem ok0 (X : (K w.params).In B) : ∃ ob fd body names, FunOk prog w B G 51 0 fn0 ob fd body names := mkFun X (by kernel_rfl) chk0 (by kernel_rfl) (bind_A (n := 1) (np := 1) (dx := []) (dv := []) X rfl rfl rfl (fun m dy h _ => dx_some (f := 0) (n := 1) (dx := []) (by kernel_rfl) h) (by decide +kernel) rfl (fun v => by kernel_rfl))
theorem ok1 (X : (K w.params).In B) : ∃ ob fd body names, FunOk prog w B G 71 1 fn1 ob fd body names := mkFun X (by kernel_rfl) chk1 (by kernel_rfl) (bind_A (n := 1) (np := 1) (dx := []) (dv := []) X rfl rfl rfl (fun m dy h _ => dx_some (f := 1) (n := 1) (dx := []) (by kernel_rfl) h) (by decide +kernel) rfl (fun v => by kernel_rfl))
theorem ok2 (X : (K w.params).In B) : ∃ ob fd body names, FunOk prog w B G 78 2 fn2 ob fd body names := mkFun X (by kernel_rfl) chk2 (by kernel_rfl) (bind_A (n := 1) (np := 1) (dx := []) (dv := []) X rfl rfl rfl (fun m dy h _ => dx_some (f := 2) (n := 1) (dx := []) (by kernel_rfl) h) (by decide +kernel) rfl (fun v => by kernel_rfl))
theorem ok3 (X : (K w.params).In B) : ∃ ob fd body names, FunOk prog w B G 85 3 fn3 ob fd body names := mkFun X (by kernel_rfl) chk3 (by kernel_rfl) (bind_A (n := 1) (np := 1) (dx := []) (dv := []) X rfl rfl rfl (fun m dy h _ => dx_some (f := 3) (n := 1) (dx := []) (by kernel_rfl) h) (by decide +kernel) rfl (fun v => by kernel_rfl))
theorem ok4 (X : (K w.params).In B) : ∃ ob fd body names, FunOk prog w B G 92 4 fn4 ob fd body names := mkFun X (by kernel_rfl) chk4 (by kernel_rfl) (bind_A (n := 1) (np := 1) (dx := []) (dv := []) X rfl rfl rfl (fun m dy h _ => dx_some (f := 4) (n := 1) (dx := []) (by kernel_rfl) h) (by decide +kernel) rfl (fun v => by kernel_rfl))
theorem ok5 (X : (K w.params).In B) : ∃ ob fd body names, FunOk prog w B G 100 5 fn5 ob fd body names := mkFun X (by kernel_rfl) chk5 (by kernel_rfl) (bind_K X rfl rfl rfl (fun m => dx_none (f := 5) (m := m) (by kernel_rfl)) (fun v u => by kernel_rfl))
theorem ok6 (X : (K w.params).In B) : ∃ ob fd body names, FunOk prog w B G 108 6 fn6 ob fd body names := mkFun X (by kernel_rfl) chk6 (by kernel_rfl) (bind_K X rfl rfl rfl (fun m => dx_none (f := 6) (m := m) (by kernel_rfl)) (fun v u => by kernel_rfl))
theorem ok7 (X : (K w.params).In B) : ∃ ob fd body names, FunOk prog w B G 117 7 fn7 ob fd body names := mkFun X (by kernel_rfl) chk7 (by kernel_rfl) (bind_A (n := 1) (np := 3) (dx := [.val (.ref 109), .int 1]) (dv := [.ref 109, .int 1 413]) X rfl rfl rfl (fun m dy h _ => dx_some (f := 7) (n := 1) (dx := [.val (.ref 109), .int 1]) (by kernel_rfl) h) (by decide +kernel) rfl (fun v => by kernel_rfl))
theorem ok8 (X : (K w.params).In B) : ∃ ob fd body names, FunOk prog w B G 124 8 fn8 ob fd body names := mkFun X (by kernel_rfl) chk8 (by kernel_rfl) (bind_A (n := 1) (np := 1) (dx := []) (dv := []) X rfl rfl rfl (fun m dy h _ => dx_some (f := 8) (n := 1) (dx := []) (by kernel_rfl) h) (by decide +kernel) rfl (fun v => by kernel_rfl))
theorem ok9 (X : (K w.params).In B) : ∃ ob fd body names, FunOk prog w B G 131 9 fn9 ob fd body names := mkFun X (by kernel_rfl) chk9 (by kernel_rfl) (bind_A (n := 1) (np := 1) (dx := []) (dv := []) X rfl rfl rfl (fun m dy h _ => dx_some (f := 9) (n := 1) (dx := []) (by kernel_rfl) h) (by decide +kernel) rfl (fun v => by kernel_rfl))
theorem ok10 (X : (K w.params).In B) : ∃ ob fd body names, FunOk prog w B G 139 10 fn10 ob fd body names := mkFun X (by kernel_rfl) chk10 (by kernel_rfl) (bind_A (n := 2) (np := 2) (dx := []) (dv := []) X rfl rfl rfl (fun m dy h _ => dx_some (f := 10) (n := 2) (dx := []) (by kernel_rfl) h) (by decide +kernel) rfl (fun v => by kernel_rfl))
theorem ok11 (X : (K w.params).In B) : ∃ ob fd body names, FunOk prog w B G 147 11 fn11 ob fd body names := mkFun X (by kernel_rfl) chk11 (by kernel_rfl) (bind_A (n := 3) (np := 3) (dx := []) (dv := []) X rfl rfl rfl (fun m dy h _ => dx_some (f := 11) (n := 3) (dx := []) (by kernel_rfl) h) (by decide +kernel) rfl (fun v => by kernel_rfl))
theorem ok12 (X : (K w.params).In B) : ∃ ob fd body names, FunOk prog w B G 154 12 fn12 ob fd body names := mkFun X (by kernel_rfl) chk12 (by kernel_rfl) (bind_A (n := 1) (np := 1) (dx := []) (dv := []) X rfl rfl rfl (fun m dy h _ => dx_some (f := 12) (n := 1) (dx := []) (by kernel_rfl) h) (by decide +kernel) rfl (fun v => by kernel_rfl))
theorem ok13 (X : (K w.params).In B) : ∃ ob fd body names, FunOk prog w B G 162 13 fn13 ob fd body names := mkFun X (by kernel_rfl) chk13 (by kernel_rfl) (bind_A (n := 1) (np := 2) (dx := [.bool false]) (dv := [.bool false]) X rfl rfl rfl (fun m dy h _ => dx_some (f := 13) (n := 1) (dx := [.bool false]) (by kernel_rfl) h) (by decide +kernel) rfl (fun v => by kernel_rfl))
theorem ok14 (X : (K w.params).In B) : ∃ ob fd body names, FunOk prog w B G 287 14 fn14 ob fd body names := mkFun X (by kernel_rfl) chk14 (by kernel_rfl) (bind_A (n := 1) (np := 1) (dx := []) (dv := []) X rfl rfl rfl (fun m dy h _ => dx_some (f := 14) (n := 1) (dx := []) (by kernel_rfl) h) (by decide +kernel) rfl (fun v => by kernel_rfl))
theorem ok15 (X : (K w.params).In B) : ∃ ob fd body names, FunOk prog w B G 294 15 fn15 ob fd body names := mkFun X (by kernel_rfl) chk15 (by kernel_rfl) (bind_A (n := 2) (np := 2) (dx := []) (dv := []) X rfl rfl rfl (fun m dy h _ => dx_some (f := 15) (n := 2) (dx := []) (by kernel_rfl) h) (by decide +kernel) rfl (fun v => by kernel_rfl))
theorem ok16 (X : (K w.params).In B) : ∃ ob fd body names, FunOk prog w B G 299 16 fn16 ob fd body names := mkFun X (by kernel_rfl) chk16 (by kernel_rfl) (bind_A (n := 2) (np := 2) (dx := []) (dv := []) X rfl rfl rfl (fun m dy h _ => dx_some (f := 16) (n := 2) (dx := []) (by kernel_rfl) h) (by decide +kernel) rfl (fun v => by kernel_rfl))
theorem ok17 (X : (K w.params).In B) : ∃ ob fd body names, FunOk prog w B G 306 17 fn17 ob fd body names := mkFun X (by kernel_rfl) chk17 (by kernel_rfl) (bind_A (n := 1) (np := 1) (dx := []) (dv := []) X rfl rfl rfl (fun m dy h _ => dx_some (f := 17) (n := 1) (dx := []) (by kernel_rfl) h) (by decide +kernel) rfl (fun v => by kernel_rfl))
theorem ok18 (X : (K w.params).In B) : ∃ ob fd body names, FunOk prog w B G 311 18 fn18 ob fd body names := mkFun X (by kernel_rfl) chk18 (by kernel_rfl) (bind_A (n := 3) (np := 3) (dx := []) (dv := []) X rfl rfl rfl (fun m dy h _ => dx_some (f := 18) (n := 3) (dx := []) (by kernel_rfl) h) (by decide +kernel) rfl (fun v => by kernel_rfl))
theorem ok19 (X : (K w.params).In B) : ∃ ob fd body names, FunOk prog w B G 316 19 fn19 ob fd body names := mkFun X (by kernel_rfl) chk19 (by kernel_rfl) (bind_A (n := 3) (np := 3) (dx := []) (dv := []) X rfl rfl rfl (fun m dy h _ => dx_some (f := 19) (n := 3) (dx := []) (by kernel_rfl) h) (by decide +kernel) rfl (fun v => by kernel_rfl))
theorem ok20 (X : (K w.params).In B) : ∃ ob fd body names, FunOk prog w B G 321 20 fn20 ob fd body names := mkFun X (by kernel_rfl) chk20 (by kernel_rfl) (bind_A (n := 3) (np := 3) (dx := []) (dv := []) X rfl rfl rfl (fun m dy h _ => dx_some (f := 20) (n := 3) (dx := []) (by kernel_rfl) h) (by decide +kernel) rfl (fun v => by kernel_rfl))
theorem ok21 (X : (K w.params).In B) : ∃ ob fd body names, FunOk prog w B G 326 21 fn21 ob fd body names := mkFun X (by kernel_rfl) chk21 (by kernel_rfl) (bind_A (n := 1) (np := 1) (dx := []) (dv := []) X rfl rfl rfl (fun m dy h _ => dx_some (f := 21) (n := 1) (dx := []) (by kernel_rfl) h) (by decide +kernel) rfl (fun v => by kernel_rfl))
theorem ok100 (X : (K w.params).In B) : ∃ ob fd body names, FunOk prog w B G 214 100 fn100 ob fd body names := mkFun X (by kernel_rfl) chk100 (by kernel_rfl) (bind_A (n := 1) (np := 2) (dx := [.none]) (dv := [.none]) X rfl rfl rfl (fun m dy h _ => dx_some (f := 100) (n := 1) (dx := [.none]) (by kernel_rfl) h) (by decide +kernel) rfl (fun v => by kernel_rfl))
theorem ok101 (X : (K w.params).In B) : ∃ ob fd body names, FunOk prog w B G 177 101 fn101 ob fd body names := mkFun X (by kernel_rfl) chk101 (by kernel_rfl) (bind_A (n := 2) (np := 2) (dx := []) (dv := []) X rfl rfl rfl (fun m dy h _ => dx_some (f := 101) (n := 2) (dx := []) (by kernel_rfl) h) (by decide +kernel) rfl (fun v => by kernel_rfl))
theorem ok102 (X : (K w.params).In B) : ∃ ob fd body names, FunOk prog w B G 221 102 fn102 ob fd body names := mkFun X (by kernel_rfl) chk102 (by kernel_rfl) (bind_A (n := 2) (np := 2) (dx := []) (dv := []) X rfl rfl rfl (fun m dy h q => by obtain rfl := dx_all (f := 102) (m := m) (dx := []) (by kernel_rfl) h; exact ⟨q, rfl⟩) (by decide +kernel) rfl (fun v => by kernel_rfl))
theorem ok103 (X : (K w.params).In B) : ∃ ob fd body names, FunOk prog w B G 228 103 fn103 ob fd body names := mkFun X (by kernel_rfl) chk103 (by kernel_rfl) (bind_V (nv := "predecessors") (np := 2) X rfl rfl rfl (by decide +kernel) (by decide +kernel) (fun m dy h => dx_all (f := 103) (m := m) (dx := []) (by kernel_rfl) h) bv103)
theorem ok104 (X : (K w.params).In B) : ∃ ob fd body names, FunOk prog w B G 233 104 fn104 ob fd body names := mkFun X (by kernel_rfl) chk104 (by kernel_rfl) (bind_A (n := 1) (np := 1) (dx := []) (dv := []) X rfl rfl rfl (fun m dy h q => by obtain rfl := dx_all (f := 104) (m := m) (dx := []) (by kernel_rfl) h; exact ⟨q, rfl⟩) (by decide +kernel) rfl (fun v => by kernel_rfl))
theorem ok105 (X : (K w.params).In B) : ∃ ob fd body names, FunOk prog w B G 240 105 fn105 ob fd body names := mkFun X (by kernel_rfl) chk105 (by kernel_rfl) (bind_A (n := 1) (np := 1) (dx := []) (dv := []) X rfl rfl rfl (fun m dy h q => by obtain rfl := dx_all (f := 105) (m := m) (dx := []) (by kernel_rfl) h; exact ⟨q, rfl⟩) (by decide +kernel) rfl (fun v => by kernel_rfl))
theorem ok106 (X : (K w.params).In B) : ∃ ob fd body names, FunOk prog w B G 247 106 fn106 ob fd body names := mkFun X (by kernel_rfl) chk106 (by kernel_rfl) (bind_A (n := 1) (np := 1) (dx := []) (dv := []) X rfl rfl rfl (fun m dy h q => by obtain rfl := dx_all (f := 106) (m := m) (dx := []) (by kernel_rfl) h; exact ⟨q, rfl⟩) (by decide +kernel) rfl (fun v => by kernel_rfl))
theorem ok107 (X : (K w.params).In B) : ∃ ob fd body names, FunOk prog w B G 261 107 fn107 ob fd body names := mkFun X (by kernel_rfl) chk107 (by kernel_rfl) (bind_V (nv := "nodes") (np := 1) X rfl rfl rfl (by decide +kernel) (by decide +kernel) (fun m dy h => dx_all (f := 107) (m := m) (dx := []) (by kernel_rfl) h) bv107)
theorem ok108 (X : (K w.params).In B) : ∃ ob fd body names, FunOk prog w B G 268 108 fn108 ob fd body names := mkFun X (by kernel_rfl) chk108 (by kernel_rfl) (bind_A (n := 1) (np := 1) (dx := []) (dv := []) X rfl rfl rfl (fun m dy h q => by obtain rfl := dx_all (f := 108) (m := m) (dx := []) (by kernel_rfl) h; exact ⟨q, rfl⟩) (by decide +kernel) rfl (fun v => by kernel_rfl))
noncomputable def AllP {α : Type} (P : α -> Prop) : List α -> Prop
 | [] => True
 | x :: r => P x /\ AllP P r
theorem AllP.of {α : Type} {P : α -> Prop} : ∀ {l : List α}, AllP P l -> ∀ x ∈ l, P x
 | _ :: _, h, _, .head _ => h.1
 | _ :: _, h, x, .tail _ m => AllP.of h.2 x m
noncomputable def FunAt (prog : Program) (w : World) (B : Heap) (x : Nat × Nat) : Prop := ∀ fs, tabF x.2 = some fs -> ∃ ob fd body names, FunOk prog w B G x.1 x.2 fs ob fd body names
theorem fin {a fid : Nat} {fs : FnS} (h : ∃ ob fd body names, FunOk prog w B G a fid fs ob fd body names) (e : tabF fid = some fs) : FunAt prog w B (a, fid) := fun fs' e' => Option.some.inj (e.symm.trans e') ▸ h
theorem funs_ok (X : (K w.params).In B) : FunsOk prog w B G tabF := fun a fid h =>
 AllP.of (P := FunAt prog w B) (l := fidT) (show AllP (FunAt prog w B) fidT from ⟨fin (ok0 X) rfl, fin (ok1 X) rfl, fin (ok2 X) rfl, fin (ok3 X) rfl, fin (ok4 X) rfl, fin (ok5 X) rfl, fin (ok6 X) rfl, fin (ok7 X) rfl, fin (ok8 X) rfl, fin (ok9 X) rfl, fin (ok10 X) rfl, fin (ok11 X) rfl, fin (ok12 X) rfl, fin (ok13 X) rfl, fin (ok14 X) rfl, fin (ok15 X) rfl, fin (ok16 X) rfl, fin (ok17 X) rfl, fin (ok18 X) rfl, fin (ok19 X) rfl, fin (ok20 X) rfl, fin (ok21 X) rfl, fin (ok100 X) rfl, fin (ok101 X) rfl, fin (ok102 X) rfl, fin (ok103 X) rfl, fin (ok104 X) rfl, fin (ok105 X) rfl, fin (ok106 X) rfl, fin (ok107 X) rfl, fin (ok108 X) rfl, trivial⟩) (a, fid) (lk_mem (show fidT.lookup a = some fid from h))
end
end Mine
end

section
open PySem PySem.W PyProof.Rows
namespace Mine
noncomputable def cdS : ClassData := { name := Str.ofString "TopologicalSorter", bases := [Value.type "object"], mro := [Value.ref 278, Value.type "object"], ns := 277, qualname := Str.ofString "TopologicalSorter" }
noncomputable def spA (f : Nat) : Addr := 178 + f
theorem findObj_own {K : Frag} {C : Addr} {od : Obj} {nm : Str} {cd : ClassData} {v : Value} (hc : clsIn K C = some cd) (hf : findIn K (.ref C) nm = some none) (ho : ownOf cd (some od) nm = some (some v)) : findObj K C (some od) nm = some (.value v) := by
 unfold findObj
 simp [hc, hf, ho]
theorem findObj_fn {K : Frag} {C fa : Addr} {od : Obj} {nm : Str} {cd : ClassData} {g : Value} (hc : clsIn K C = some cd) (hf : findIn K (.ref C) nm = some (some (.ref fa))) (hg : specialIn K (.ref fa) "__get__" = some (some g)) (ht : takesIn K (.ref fa) = some false)
  (hm : (cd.mro.isEmpty || cd.mro.contains (.type "staticmethod") || cd.mro.contains (.type "classmethod")) = false) (ho : ownOf cd (some od) nm = some none) : findObj K C (some od) nm = some (.bind g (.ref fa)) := by
 unfold findObj
 simp only [hc, hf, hg, ht, ho, hm, Option.bind_some, Bool.and_false, Bool.false_eq_true, if_false]
section
variable {w : World} {B : Heap}
theorem lt4 {f : Nat} (h : f < 4) : f = 0 \/ f = 1 \/ f = 2 \/ f = 3 := by omega
theorem ge4 {f : Nat} {nm : Str} (h : 4 <= f) (e : attNm f = some nm) : f = 4 \/ f = 5 \/ f = 6 := by
 rcases Nat.lt_or_ge f 7 with q | q
 ·omega
 ·exfalso
  match f, q with
  | n + 7, _ => cases e
theorem ktop (X : (K w.params).In B) : KTop (K w.params) B spA where
 X := X
 gaS := by kernel_rfl
 gkS := by kernel_rfl
 saS := by kernel_rfl
 gaN := by kernel_rfl
 gkN := by kernel_rfl
 saN := by kernel_rfl
 objS := by
  intro f nm od v hf hn ho
  rcases lt4 hf with rfl | rfl | rfl | rfl <;> cases hn <;> exact findObj_own (cd := cdS) (by kernel_rfl) (by kernel_rfl) ho
 objN := by
  intro f nm od hf hn
  rcases ge4 hf hn with rfl | rfl | rfl <;> cases hn <;> kernel_rfl
 slN := by
  intro f nm hf hn
  rcases ge4 hf hn with rfl | rfl | rfl <;> cases hn <;> kernel_rfl
 poS := by kernel_rfl
 poN := by kernel_rfl
 tkS := by
  intro f nm hf hn
  rcases lt4 hf with rfl | rfl | rfl | rfl <;> cases hn <;> kernel_rfl
 tkN := by
  intro f nm hf hn
  rcases ge4 hf hn with rfl | rfl | rfl <;> cases hn <;> kernel_rfl
 tyN := by
  intro f nm hf hn
  rcases ge4 hf hn with rfl | rfl | rfl <;> cases hn <;> kernel_rfl
 hdS := by kernel_rfl
theorem meth_of {Kf : Frag} {nm : Str} {m : Nat} {fa : Addr} (hf : findIn Kf (.ref clsS) nm = some (some (.ref fa))) (ht : typeIn Kf (.ref fa) = some (.type "function")) (hfn : fnIn Kf fa = true) (hg : G.fid fa = some m) (hd : ∀ n, G.dx m n = some [])
  (hn : (nm ≠ attName 0 /\ nm ≠ attName 1 /\ nm ≠ attName 2 /\ nm ≠ attName 3)) (hs : specialIn Kf (.ref fa) "__get__" = some (some fnGet)) (hcl : clsIn Kf clsS = some cdS) (hk : takesIn Kf (.ref fa) = some false := by kernel_rfl) :
  ∃ fa, findIn Kf (.ref clsS) nm = some (some (.ref fa)) /\ typeIn Kf (.ref fa) = some (.type "function") /\ fnIn Kf fa = true /\ G.fid fa = some m /\ (∀ n, G.dx m n = some []) /\ (∀ f, f < 4 -> nm ≠ attName f) /\
   (∀ od, lookIn nm od = some none -> findObj Kf clsS (some od) nm = some (.bind fnGet (.ref fa))) := by
 refine ⟨fa, hf, ht, hfn, hg, hd, fun f h => ?_, fun od ho => findObj_fn (cd := cdS) hcl hf hs hk (by decide +kernel) ho⟩
 refine hid fun zP zk => ?_
 obtain ⟨h0, h1, h2, h3⟩ := hn
 refine zk ?_
 clear zk zP
 rcases lt4 h with rfl | rfl | rfl | rfl <;> assumption
theorem mtop : MTop (K w.params) G where
 meth := by
  intro nm m h
  have q := lk_mem (show midT.lookup nm = some m from h)
  unfold midT at q
  simp only [List.mem_cons, Prod.mk.injEq, List.not_mem_nil, or_false] at q
  rcases q with ⟨rfl, rfl⟩ | ⟨rfl, rfl⟩ | ⟨rfl, rfl⟩ | ⟨rfl, rfl⟩ | ⟨rfl, rfl⟩ | ⟨rfl, rfl⟩ | ⟨rfl, rfl⟩
  ·exact meth_of (fa := 221) (by kernel_rfl) (by kernel_rfl) (by kernel_rfl) (by kernel_rfl) (fun n => by kernel_rfl) (by decide +kernel) (by kernel_rfl) (by kernel_rfl)
  ·exact meth_of (fa := 228) (by kernel_rfl) (by kernel_rfl) (by kernel_rfl) (by kernel_rfl) (fun n => by kernel_rfl) (by decide +kernel) (by kernel_rfl) (by kernel_rfl)
  ·exact meth_of (fa := 233) (by kernel_rfl) (by kernel_rfl) (by kernel_rfl) (by kernel_rfl) (fun n => by kernel_rfl) (by decide +kernel) (by kernel_rfl) (by kernel_rfl)
  ·exact meth_of (fa := 240) (by kernel_rfl) (by kernel_rfl) (by kernel_rfl) (by kernel_rfl) (fun n => by kernel_rfl) (by decide +kernel) (by kernel_rfl) (by kernel_rfl)
  ·exact meth_of (fa := 247) (by kernel_rfl) (by kernel_rfl) (by kernel_rfl) (by kernel_rfl) (fun n => by kernel_rfl) (by decide +kernel) (by kernel_rfl) (by kernel_rfl)
  ·exact meth_of (fa := 261) (by kernel_rfl) (by kernel_rfl) (by kernel_rfl) (by kernel_rfl) (fun n => by kernel_rfl) (by decide +kernel) (by kernel_rfl) (by kernel_rfl)
  ·exact meth_of (fa := 268) (by kernel_rfl) (by kernel_rfl) (by kernel_rfl) (by kernel_rfl) (fun n => by kernel_rfl) (by decide +kernel) (by kernel_rfl) (by kernel_rfl)
 mkS := by kernel_rfl
 mkN := by kernel_rfl
 kpS := by kernel_rfl
 kpN := by kernel_rfl
 inS := ⟨214, by kernel_rfl, by kernel_rfl, by kernel_rfl, by kernel_rfl⟩
 inN := ⟨177, by kernel_rfl, by kernel_rfl, by kernel_rfl, by kernel_rfl⟩
theorem tab_some {a : Addr} {fid : Nat} (h : G.fid a = some fid) : ∃ fs, tabF fid = some fs := by
 have m := lk_mem (show fidT.lookup a = some fid from h)
 have : fidT.all (fun p => (tabF p.2).isSome) = true := by decide +kernel
 exact Option.isSome_iff_exists.mp (List.all_eq_true.mp this _ m)
theorem fnAt {prog : Program} (X : (K w.params).In B) : FnAt B G := by
 intro a fid h
 refine hid fun zP zk => ?_
 obtain ⟨fs, hf⟩ := tab_some h
 obtain ⟨ob, fd, body, names, q⟩ := funs_ok (prog := prog) X a fid h fs hf
 refine zk ?_
 clear zk zP
 exact ⟨ob, fd, q.at_, q.data⟩
theorem bftop (X : (K w.params).In B) : BfTop B := ⟨⟨none, 0, #[], X 44 _ (by kernel_rfl)⟩⟩
theorem retop (X : (K w.params).In B) : ReTop B := ⟨⟨.bytes #[91, 94, 48, 45, 57, 65, 45, 70, 93] 292, .int 0 319, none, #[], X 43 _ (by kernel_rfl), rfl⟩, ⟨none, 0, #[], X 42 _ (by kernel_rfl)⟩⟩
theorem allTop {prog : Program} (X : (K w.params).In B) (TO : TopOk B G) : AllTop prog w B G tabF (K w.params) spA := ⟨TO, funs_ok X, fnAt (prog := prog) X, bftop X, retop X, ktop X, mtop⟩
end
end Mine
end

section
open PySem PySem.W PyProof.Rows
namespace Mine
noncomputable def Law : Prop := ∀ is : List Int, is.length <= 63 -> ∃ k, k <= 18 /\ callN tabF k 21 [.lst (is.map .int)] [] fun d _ => d = .bool true

theorem ints_of {o : Off} {R : WRecords} {P : Params} {h : Heap} {ad : List Addr} : ∀ {vs : List Value} {xs : List WData}, WellAll P h vs xs -> WShape.hasItems R xs .int = true -> ∃ is : List Int, @VRels o h ad (is.map .int) vs /\ xs.length = is.length
 | [], xs, w, _ => by
  cases w
  exact ⟨[], by unfold VRels; rfl, rfl⟩
 | v :: vs, xs, w, hi => by
  cases w with
  | @cons _ _ d ds x r =>
   simp only [WShape.hasItems, Bool.and_eq_true] at hi
   obtain ⟨i, rfl⟩ := hasW_int hi.1
   obtain ⟨is, r1, r2⟩ := ints_of (o := o) (ad := ad) r hi.2
   cases x with
   | int _ t =>
    refine ⟨i :: is, ?_, by simp [r2]⟩
    show @VRels o h ad (.int i :: is.map .int) (.int i t :: vs)
    unfold VRels
    exact ⟨_, _, rfl, by unfold VRel; exact ⟨t, rfl⟩, r1⟩
theorem len_le {xs : List WData} (h : (PySem.Challenge.rw_qh0103_01.pre).holds [] { args := [.list xs] } = true) : xs.length <= 63 := by
 have h := (holds_andW h).1
 have q := condW_of h (by wtm_val)
 simp at q
 omega
noncomputable abbrev off0 : Off := ⟨[], []⟩
theorem st0 {w : World} {B : Heap} : @St off0 pw w B B [] [] :=
 @St.mk off0 pw w B B [] [] (fun _ _ e => e) (fun _ m => by cases m) .nil rfl (fun a m => by cases (show a ∈ ([] : List Addr) from m)) (fun a m => by cases (show a ∈ ([] : List Addr) from m)) (fun _ _ _ e => by cases e)
theorem room0 {N : Nat} (h : N <= 576) : @Room off0 callerA N := ⟨rfl, by show 1 + 300 + N < 1000; omega, by show 4 + 16 * N + 16 < 9900; omega, ⟨[], rfl, rfl, fun _ m => by cases m⟩⟩
theorem walk (law : Law) : WalkO qv looseN (XL qv []) Says rowO.toRowW ((defOf qv "law").get qv_def).1 ((defOf qv "law").get qv_def).2 fun f vs => PySem.call f vs := by
 intro w s₀ s₁ mg mb Gd Y a ob pm cd doc dV kV ho hd hcd hD hmg hg args vals as hpre hlay hrd hwl hlo
 have TO : TopOk s₁.heap G := ⟨Y.2, Gd.T.nolimit, Y.1.2⟩
 have hname : (((defOf qv "law").get qv_def).1).name = ("law" : Str) := by kernel_rfl
 rw [hname] at hmg
 obtain ⟨mg', hn, hq⟩ := Y.2 "law" (.ref 326) (by kernel_rfl)
 have e := Gd.T.g.agree hn "law"
 rcases hq with q | ⟨q, _⟩
 ·rw [hmg, q] at e
  cases e
  refine hid fun zP zk => ?_
  obtain ⟨hsh, hcond⟩ := pre_splitW hpre
  obtain ⟨d, r, ez1, h1, h2⟩ := hasAllW_cons hsh
  refine zk ?_
  clear zk zP
  subst ez1
  obtain rfl := hasAllW_nil h2
  obtain ⟨xs, rfl, hi⟩ := hasW_list h1
  refine hid fun zP zk => ?_
  obtain ⟨v, vs', ez2, w1, w2⟩ := wellAll_cons_inv hwl
  refine zk ?_
  clear zk zP
  subst ez2
  cases w2
  cases w1 with
  | @list l vs _ hl hw =>
   refine hid fun zP zk => ?_
   obtain ⟨is, ri, hlen⟩ := ints_of (o := off0) (ad := []) hw hi
   obtain ⟨k, hk, hc⟩ := law is (hlen ▸ len_le hcond)
   refine zk ?_
   clear zk zP
   refine wpAny_call ?_
   refine @sndC_all pw w s₁.heap G tabF _ _ (allTop (prog := pw) Y.1.1 TO) k off0 21 326 _ callerA ⟨s₁, [], []⟩ ⟨[.ref l], []⟩ _ _ (by kernel_rfl) hc (room0 (Nat.mul_le_mul_left 32 hk)) st0 (.inl ⟨rfl, [_], [], rfl, ?_, by kernel_rfl⟩) ?_
   ·exact @isCons off0 _ _ _ _ _ _ (@iLst off0 _ _ _ _ vs.toArray 0 ⟨(fun m => nomatch m), (fun m => nomatch (show l ∈ ([] : List Addr) from m))⟩ hl ri) (@isNil off0 _ _)
   ·rintro W' d v ⟨S', ⟨h', tk, hs⟩, _⟩ rfl rv
    rw [@vBool off0 _ _ _ _ rv, hs]
    obtain ⟨base, _⟩ := S'
    rw [hs] at base
    refine ⟨.inl ⟨_, .bool true, [], rfl, fun _ => rfl, .bool true, ?_, fun _ => ⟨.nil, fun _ m => by cases m⟩⟩, .of_keep base, rfl, .of_eq hg⟩
    exact postW_of (by kernel_rfl) (by wtm_val) (by rfl)
 ·rw [hmg, q] at e
  cases e
end Mine
end

section
open PySem PySem.W
namespace Mine
noncomputable abbrev CallF := Nat -> List D -> Hp -> (D -> Hp -> Prop) -> Prop
theorem op_some {α : Type} {z : α} {Q : α -> Prop} : OP (some z) Q = Q z := propext ⟨fun h => op_el h fun y e q => Option.some.inj e ▸ q, fun h => op_go rfl h⟩
theorem call_in {f : Nat} {fn : FnS} {k m : Nat} {as : List D} {H : Hp} {Q : D -> Hp -> Prop} (hk : k + 1 <= m) (hT : tabF f = some fn) (hva : fn.va = false) (hl : as.length = fn.np)
  (h : ∀ n, k <= n -> exs (fnsN (callN tabF n) 30) fn.body (as.map some ++ List.replicate (fn.nl - as.length) none) H (retQ Q)) : callN tabF m f as H Q := by
 cases m with
 | zero => exact absurd hk (Nat.not_succ_le_zero _)
 | succ n =>
  have e : psOf fn as = some as := by unfold psOf; rw [hva, hl]; simp [gd]
  show wO (tabF f) _
  rw [hT]
  show wO (psOf fn as) _
  rw [e]
  exact h n (Nat.le_of_succ_le_succ hk)
section
variable {f : Fns} {lo : Lo} {H : Hp}
noncomputable def pureN (xs : List D) : Nat -> Hp -> Option (Option D) := fun j _ => some xs[j]?
section
variable {i : Nat} {b : List Stm} {Q : Fl -> Lo -> Hp -> Prop}
noncomputable def WF0 (f : Fns) (i : Nat) (b : List Stm) : List D -> Lo -> Hp -> (Fl -> Lo -> Hp -> Prop) -> Prop
 | [], lo, H, Q => Q .next lo H
 | d :: r, lo, H, Q => exs f b (lo.set i (some d)) H fun fl lo1 H1 => lp fl lo1 H1 (fun lo2 H2 => WF0 f i b r lo2 H2 Q) Q
@[irreducible] noncomputable def WF (f : Fns) (i : Nat) (b : List Stm) (xs : List D) (lo : Lo) (H : Hp) (Q : Fl -> Lo -> Hp -> Prop) : Prop := WF0 f i b xs lo H Q
theorem drop_nil {α : Type} {xs : List α} {j : Nat} (e : xs.drop j = []) : xs[j]? = none := List.getElem?_eq_none (List.drop_eq_nil_iff.mp e)
theorem drop_cons {α : Type} {xs r : List α} {d : α} {j : Nat} (e : xs.drop j = d :: r) : xs[j]? = some d /\ xs.drop (j + 1) = r := by
 refine ⟨?_, ?_⟩
 ·have := congrArg (·[0]?) e
  simpa using this
 ·rw [<- List.drop_drop, e]; rfl
theorem forN_WF (xs : List D) : ∀ (r : List D) (j : Nat), xs.drop j = r -> ∀ (lo : Lo) (H : Hp) (Q : Fl -> Lo -> Hp -> Prop), forN f (pureN xs) i b (r.length + 1) j lo H Q = WF0 f i b r lo H Q
 | [], j, e, lo, H, Q => by
  show OP (some xs[j]?) _ = _
  rw [op_some, drop_nil e]
  rfl
 | d :: r, j, e, lo, H, Q => by
  obtain ⟨e1, e2⟩ := drop_cons e
  show OP (some xs[j]?) _ = _
  rw [op_some, e1]
  have ih : forN f (pureN xs) i b (r.length + 1) (j + 1) = fun lo H Q => WF0 f i b r lo H Q := funext fun lo => funext fun H => funext fun Q => forN_WF xs r (j + 1) e2 lo H Q
  show exs f b (lo.set i (some d)) H (fun fl lo1 H1 => lp fl lo1 H1 (fun lo2 H2 => forN f (pureN xs) i b (r.length + 1) (j + 1) lo2 H2 Q) Q) = _
  rw [ih]
  rfl
theorem for_run {sk : SK} {ds : List D} {nx : Nat -> Hp -> Option (Option D)} (e : nxOf sk ds H = some nx) (h : forN f nx i b (turns sk ds) 0 lo H Q) : forX f i b sk ds lo H Q := by
 unfold forX
 exact op_go e h
theorem for_pure {sk : SK} {ds xs : List D} (e : nxOf sk ds H = some (pureN xs)) (t : itemsOf sk ds = some xs) (h : WF f i b xs lo H Q) : forX f i b sk ds lo H Q := by
 refine for_run e ?_
 have : turns sk ds = xs.length + 1 := by unfold turns; rw [t]
 rw [this, forN_WF xs xs 0 rfl]
 unfold WF at h
 exact h
theorem for_bytes {c : List UInt8} {xs : List D} (e : c.map (fun c => D.int (c.toNat : Int)) = xs) (h : WF f i b xs lo H Q) : forX f i b .it [.bytes c] lo H Q := for_pure (xs := xs) (e ▸ rfl) (e ▸ rfl) h
theorem for_range3 {x y z : Int} {xs : List D} (e : itemsOf .range3 [.int x, .int y, .int z] = some xs) (h : WF f i b xs lo H Q) : forX f i b .range3 [.int x, .int y, .int z] lo H Q := for_pure (show (itemsOf .range3 [.int x, .int y, .int z]).map pureN = _ by rw [e]; rfl) e h
theorem wf_nil (h : Q .next lo H) : WF f i b [] lo H Q := by
 unfold WF
 exact h
theorem wf_cons {d : D} {r : List D} (h : exs f b (lo.set i (some d)) H fun fl lo1 H1 => lp fl lo1 H1 (fun lo2 H2 => WF f i b r lo2 H2 Q) Q) : WF f i b (d :: r) lo H Q := by
 unfold WF at h ⊢
 exact h
@[irreducible] noncomputable def WR (f : Fns) (a i : Nat) (b : List Stm) (t j : Nat) (lo : Lo) (H : Hp) (Q : Fl -> Lo -> Hp -> Prop) : Prop := forN f (nxL a) i b t j lo H Q
theorem nxL_at {a j : Nat} {ds : List D} {y : Option D} (hk : H[a]? = some (.list ds)) (hj : ds[j]? = y) : nxL a j H = some y := by
 unfold nxL hL
 rw [hk]
 exact congrArg some hj
theorem for_ref {a : Nat} {ds : List D} (e : H[a]? = some (.list ds)) (h : WR f a i b 5000 0 lo H Q) : forX f i b .it [.ref a] lo H Q :=
 for_run (nx := nxL a) (by show nxO a H[a]? = _; rw [e]; rfl) (by unfold WR at h; exact h)
theorem wr_end {a t j : Nat} {ds : List D} (hk : H[a]? = some (.list ds)) (hj : ds[j]? = none) (q : Q .next lo H) : WR f a i b (t + 1) j lo H Q := by
 unfold WR
 exact op_go (nxL_at hk hj) q
theorem wr_next {a t j : Nat} {ds : List D} {d : D} (hk : H[a]? = some (.list ds)) (hj : ds[j]? = some d) (h : exs f b (lo.set i (some d)) H fun fl lo1 H1 => lp fl lo1 H1 (fun lo2 H2 => WR f a i b t (j + 1) lo2 H2 Q) Q) : WR f a i b (t + 1) j lo H Q := by
 unfold WR at h ⊢
 exact op_go (nxL_at hk hj) h
end
section
variable {t : Ex} {b els : List Stm} {Q : Fl -> Lo -> Hp -> Prop}
@[irreducible] noncomputable def WH (f : Fns) (t : Ex) (b els : List Stm) (n : Nat) (lo : Lo) (H : Hp) (Q : Fl -> Lo -> Hp -> Prop) : Prop := whileL f t b els n lo H Q
theorem wh_go (h : WH f t b els 5000 lo H Q) : whX f t b els lo H Q := by
 unfold whX
 unfold WH at h
 exact h
theorem wh_step {m : Nat} (h : f.tst [] lo t H fun c H1 => wIf c (exs f b lo H1 fun fl lo2 H2 => lp fl lo2 H2 (fun lo3 H3 => WH f t b els m lo3 H3 Q) Q) (exs f els lo H1 Q)) : WH f t b els (m + 1) lo H Q := by
 unfold WH at h ⊢
 exact h
end
section
variable {elt : Ex} {cond : List Ex} {nt : Nat}
theorem compN_pure (g : D -> Option D) (xs : List D) : ∀ (r : List D) (j : Nat) (Q : List D -> Hp -> Prop), xs.drop j = r ->
  (∀ d ∈ r, ∀ (Kf : Hp -> Prop) (Kt : D -> Hp -> Prop), wD (g d) (Kf H) (fun y => Kt y H) -> OP (cvOf nt d) fun cv => tsts f cv lo false cond H fun b H1 => wIf b (f.ev cv lo elt H1 Kt) (Kf H1)) ->
  Q (r.filterMap g) H -> compN f (pureN xs) lo elt cond nt (r.length + 1) j H Q
 | [], j, Q, e, _, q => op_go (z := none) (by show some xs[j]? = _; rw [drop_nil e]) q
 | d :: r, j, Q, e, h, q => by
  obtain ⟨e1, e2⟩ := drop_cons e
  refine op_go (z := some d) (by show some xs[j]? = _; rw [e1]) (h d (.head _) (fun H1 => compN f (pureN xs) lo elt cond nt (r.length + 1) (j + 1) H1 Q) (fun y H2 => compN f (pureN xs) lo elt cond nt (r.length + 1) (j + 1) H2 fun ys H3 => Q (y :: ys) H3) ?_)
  have hr := fun x m => h x (.tail _ m)
  cases hg : g d with
  | none => exact compN_pure g xs r (j + 1) Q e2 hr (by rw [List.filterMap_cons, hg] at q; exact q)
  | some y => exact compN_pure g xs r (j + 1) (fun ys H3 => Q (y :: ys) H3) e2 hr (by rw [List.filterMap_cons, hg] at q; exact q)
theorem comp_pure (g : D -> Option D) {sk : SK} {ds xs : List D} {Q : List D -> Hp -> Prop} (e : nxOf sk ds H = some (pureN xs)) (t : itemsOf sk ds = some xs) (hl : xs.length <= lim)
  (h : ∀ d ∈ xs, ∀ (Kf : Hp -> Prop) (Kt : D -> Hp -> Prop), wD (g d) (Kf H) (fun y => Kt y H) -> OP (cvOf nt d) fun cv => tsts f cv lo false cond H fun b H1 => wIf b (f.ev cv lo elt H1 Kt) (Kf H1)) (q : Q (xs.filterMap g) H) : compX f lo elt sk cond nt ds H Q := by
 unfold compX
 refine op_go e ?_
 have : turns sk ds = xs.length + 1 := by unfold turns; rw [t]
 rw [this]
 exact wT_go (decide_eq_true (Nat.succ_le_succ hl)) (compN_pure g xs xs 0 Q rfl h q)
theorem comp_map (g : D -> D) {sk : SK} {ds xs : List D} {Q : List D -> Hp -> Prop} (e : nxOf sk ds H = some (pureN xs)) (t : itemsOf sk ds = some xs) (hl : xs.length <= lim)
  (h : ∀ d ∈ xs, ∀ K : D -> Hp -> Prop, K (g d) H -> OP (cvOf nt d) fun cv => f.ev cv lo elt H K) (q : Q (xs.map g) H) : compX f lo elt sk [] nt ds H Q :=
 comp_pure (fun d => some (g d)) e t hl (fun d m Kf Kt k => h d m Kt k) (by show Q (xs.filterMap (some ∘ g)) H; rw [List.filterMap_eq_map]; exact q)
end
end
theorem range1_items {n : Nat} (h : n <= 1000) : itemsOf .range1 [.int (n : Int)] = some (rangeL (n : Int)) := by
 show gd (decide (0 <= (n : Int)) && decide ((n : Int) <= 1000)) _ = _
 rw [decide_eq_true (Int.natCast_nonneg n), decide_eq_true (show (n : Int) <= 1000 from Int.ofNat_le.mpr h)]
 rfl
theorem range_nx {n : Nat} {H : Hp} (h : n <= 1000) : nxOf .range1 [.int (n : Int)] H = some (pureN (rangeL (n : Int))) := by
 show (itemsOf .range1 [.int (n : Int)]).map pureN = _
 rw [range1_items h]
 rfl
theorem bmK_list {H : Hp} {k : Nat} {ds : List D} (hk : H[k]? = some (.list ds)) : kindOf (.ref k) H = 0 := by
 show kindO H[k]? = 0
 rw [hk]
 rfl
end Mine
end

section
open PySem PySem.W
namespace Mine
section
variable {α : Type} {n : Nat} {lo : Lo} {H : Hp}
theorem small_nat {a : Nat} (h : a < 1000000000) : small (a : Int) = true := by
 exact Nat.ble_eq_true_of_le (by rw [Int.natAbs_natCast]; omega)
theorem binI_shl {a k : Int} (h1 : small a = true) (h2 : 0 <= k) (h3 : k <= 1000) : binI .shl a k = some (a * 2 ^ k.toNat) := by
 unfold binI
 simp only [h1, decide_eq_true h2, decide_eq_true h3, Bool.and_self]
theorem binI_shr {a k : Int} (h2 : 0 <= k) : binI .shr a k = some (a.fdiv (2 ^ k.toNat)) := by
 unfold binI
 simp only [decide_eq_true h2]
theorem op_int {o : Bin} {a b c : Int} {Q : D -> Prop} (e : binI o a b = some c) (h : Q (.int c)) : OP (binD o (.int a) (.int b)) Q := by
 refine op_go ?_ h
 have q : binD o (.int a) (.int b) = (binI o a b).map D.int := by cases o <;> rfl
 rw [q, e]
 rfl
theorem op_shl {a k : Nat} {Q : D -> Prop} (ha : a < 1000000000) (hk : k <= 1000) (h : Q (.int ((a * 2 ^ k : Nat) : Int))) : OPB .shl (.int (a : Int)) (.int (k : Int)) Q := by
 refine op_int (binI_shl (small_nat ha) (Int.natCast_nonneg k) (by omega)) ?_
 have e : ((a * 2 ^ k : Nat) : Int) = (a : Int) * 2 ^ k := by rw [Int.natCast_mul, Int.natCast_pow]; rfl
 rw [Int.toNat_natCast, <- e]
 exact h
theorem op_shr {a k : Nat} {Q : D -> Prop} (h : Q (.int ((a / 2 ^ k : Nat) : Int))) : OPB .shr (.int (a : Int)) (.int (k : Int)) Q := by
 refine op_int (binI_shr (Int.natCast_nonneg k)) ?_
 have e2 : ((2 ^ k : Nat) : Int) = (2 : Int) ^ k := by rw [Int.natCast_pow]; rfl
 have e : ((a / 2 ^ k : Nat) : Int) = (a : Int).fdiv (2 ^ k) := by
  rw [Int.natCast_ediv, e2, Int.fdiv_eq_ediv_of_nonneg]
  rw [<- e2]
  exact Int.natCast_nonneg _
 rw [Int.toNat_natCast, <- e]
 exact h
theorem band_nat (a b : Nat) : Builtin.bitAnd (a : Int) (b : Int) = ((a &&& b : Nat) : Int) := by
 simp [Builtin.bitAnd]
theorem bor_nat (a b : Nat) : Builtin.bitOr (a : Int) (b : Int) = ((a ||| b : Nat) : Int) := by
 have q : ∀ x : Nat, Builtin.bitNot (x : Int) = -(x : Int) - 1 := fun _ => rfl
 have q2 : ∀ x : Nat, Builtin.bitNot (-(x : Int) - 1) = (x : Int) := fun x => by unfold Builtin.bitNot; omega
 have q3 : ∀ x : Nat, ¬ (0 : Int) <= -(x : Int) - 1 := fun x => by omega
 unfold Builtin.bitOr Builtin.bitAnd
 rw [q, q, decide_eq_false (q3 a), decide_eq_false (q3 b)]
 dsimp only
 rw [q2, q2]
 simp only [Int.toNat_natCast]
 rw [q, q2]
theorem or_byte {a b : Nat} (h : b < 2 ^ 8) : a * 2 ^ 8 ||| b = a * 256 + b := by
 have := Nat.two_pow_add_eq_or_of_lt h a
 rw [Nat.mul_comm] at this
 omega
end
end Mine
end

section
open PySem PySem.W
namespace Mine
noncomputable def B64L : List UInt8 := [65, 66, 67, 68, 69, 70, 71, 72, 73, 74, 75, 76, 77, 78, 79, 80, 81, 82, 83, 84, 85, 86, 87, 88, 89, 90, 97, 98, 99, 100, 101, 102, 103, 104, 105, 106, 107, 108, 109, 110, 111, 112, 113, 114, 115, 116, 117, 118, 119, 120, 121, 122, 48, 49, 50, 51, 52, 53, 54, 55, 56, 57, 43, 47]
noncomputable def b64 (v : Nat) : Nat := (B64L.getD v 0).toNat
theorem sub_b64 {i : Int} {v : Nat} (e : i = (v : Int)) (h : v < 64) {H : Hp} {Q : D -> Prop} (q : Q (.int (b64 v : Int))) : OP (subD H (.bytes B64L) (.int i)) Q := by
 subst e
 refine op_go ?_ q
 have h1 : (decide ((0 : Int) <= (v : Int)) && decide (B64L.length <= lim)) = true := by rw [decide_eq_true (Int.natCast_nonneg v)]; decide +kernel
 show gd (decide ((0 : Int) <= (v : Int)) && decide (B64L.length <= lim)) ((B64L[(v : Int).toNat]?).map _) = _
 rw [h1, Int.toNat_natCast]
 have hl : v < B64L.length := h
 rw [List.getElem?_eq_getElem hl]
 unfold b64
 rw [List.getD_eq_getElem?_getD, List.getElem?_eq_getElem hl]
 rfl
theorem get_set {H : Hp} {k : Nat} {a b : Ob} (h : H[k]? = some a) : (H.set k b)[k]? = some b := by
 have := (List.getElem?_eq_some_iff.mp h).1
 rw [List.getElem?_set_self this]
theorem op_append {H : Hp} {k : Nat} {ds ds' : List D} {d : D} {Q : D × Hp -> Prop} (hk : H[k]? = some (.list ds)) (hl : ds.length <= lim) (e : ds ++ [d] = ds') (h : Q (.none, H.set k (.list ds'))) : OP (bmD .append (.ref k) [d] H) Q := by
 subst e
 refine op_go ?_ h
 show hL H k (fun ds => gd (decide (ds.length <= lim)) (some (D.none, H.set k (.list (ds ++ [d]))))) = _
 unfold hL
 rw [hk]
 show gd (decide (ds.length <= lim)) _ = _
 rw [decide_eq_true hl]
 rfl
theorem bmK_app {H : Hp} {k : Nat} {ds : List D} (hk : H[k]? = some (.list ds)) : bmK .append (.ref k) H = true := decide_eq_true (bmK_list hk)
theorem op_shlI {a k : Nat} {x y : Int} {Q : D -> Prop} (e1 : x = (a : Int)) (e2 : y = (k : Int)) (ha : a < 1000000000) (hk : k <= 1000) (h : Q (.int ((a * 2 ^ k : Nat) : Int))) : OPB .shl (.int x) (.int y) Q := by
 subst e1 e2
 exact op_shl ha hk h
theorem op_shrI {a k : Nat} {x y : Int} {Q : D -> Prop} (e1 : x = (a : Int)) (e2 : y = (k : Int)) (h : Q (.int ((a / 2 ^ k : Nat) : Int))) : OPB .shr (.int x) (.int y) Q := by
 subst e1 e2
 exact op_shr h
theorem op_ge {a b : Int} {H : Hp} {c : Bool} {Q : Bool -> Prop} (e : decide (a >= b) = c) (h : Q c) : OP (cmpD H .ge (.int a) (.int b)) Q := op_go (congrArg some e) h
theorem op_eqI {a b : Int} {H : Hp} {c : Bool} {Q : Bool -> Prop} (e : (a == b) = c) (h : Q c) : OP (cmpD H .eq (.int a) (.int b)) Q := op_go (congrArg some e) h
theorem op_lt {a b : Int} {H : Hp} {c : Bool} {Q : Bool -> Prop} (e : decide (a < b) = c) (h : Q c) : OP (cmpD H .lt (.int a) (.int b)) Q := op_go (congrArg some e) h
noncomputable def nats (l : List Nat) : List D := l.map fun (v : Nat) => D.int (v : Int)
noncomputable def BY (l : List Nat) : D := .bytes (l.map fun v => v.toUInt8)
theorem nats_app (a b : List Nat) : nats (a ++ b) = nats a ++ nats b := by unfold nats; rw [List.map_append]
theorem nats_len (l : List Nat) : (nats l).length = l.length := by unfold nats; rw [List.length_map]
theorem op_appN {H : Hp} {k v : Nat} {l : List Nat} {i : Int} {Q : D × Hp -> Prop} (hk : H[k]? = some (.list (nats l))) (hl : l.length <= 1000) (e : i = (v : Int)) (h : Q (.none, H.set k (.list (nats (l ++ [v]))))) : OP (bmD .append (.ref k) [.int i] H) Q :=
 op_append hk (by rw [nats_len]; unfold lim; omega) (by rw [nats_app, e]; rfl) h
theorem mask {a k m : Nat} (h : m = 2 ^ k - 1) : Builtin.bitAnd (a : Int) (m : Int) = ((a % 2 ^ k : Nat) : Int) := by
 rw [band_nat, h, Nat.and_two_pow_sub_one_eq_mod]

noncomputable def b2aBody : List Stm := match fn6.body with
 | _ :: _ :: _ :: _ :: _ :: .for_ _ _ _ b :: _ => b
 | _ => []
noncomputable def b2aB : List Stm := [.expr (.bm .append (.v 3) [(.sub (.k (.bytes B64L)) (.bin .band (.bin .shr (.v 5) (.bin .sub (.v 4) (.k (.int 6)))) (.k (.int 63))))]), .asg 4 (.bin .sub (.v 4) (.k (.int 6)))]
theorem b2a_turn {c : CallF} {d0 d1 d2 : Option D} {k lb L lb' : Nat} {x : Option D} {H : Hp} {out : List Nat} (hk : H[k]? = some (.list (nats out))) (hl : out.length <= 1000) (hlb : lb = lb' + 6) {Q : Fl -> Lo -> Hp -> Prop}
  (q : Q .next [d0, d1, d2, some (.ref k), some (.int (lb' : Int)), some (.int (L : Int)), x] (H.set k (.list (nats (out ++ [b64 (L / 2 ^ lb' % 64)]))))) :
  exs (fnsN c 28) b2aB [d0, d1, d2, some (.ref k), some (.int (lb : Int)), some (.int (L : Int)), x] H Q := by
 have e : (lb : Int) - 6 = (lb' : Int) := by omega
 refine wT_go (bmK_app hk) ?_
 refine op_shrI rfl e ?_
 refine sub_b64 (mask (k := 6) rfl) (Nat.mod_lt _ (by decide)) ?_
 refine op_appN hk hl rfl ?_
 rw [<- e] at q
 exact q
noncomputable def b2aS (lb L b : Nat) : List Nat := match lb with
 | 0 => [(L * 256 + b) % 65536 / 4 % 64]
 | 2 => [(L * 256 + b) % 65536 / 16 % 64]
 | _ => [(L * 256 + b) % 65536 / 64 % 64, (L * 256 + b) % 65536 % 64]
noncomputable def b2aN : Nat -> Nat
 | 0 => 2
 | 2 => 4
 | _ => 0
theorem b2a_body {c : CallF} {d0 d1 d2 : Option D} {k lb L b : Nat} {H : Hp} {out : List Nat} (hk : H[k]? = some (.list (nats out))) (hl : out.length <= 900) (hL : L < 65536) (hb : b < 256) (hlb : lb = 0 \/ lb = 2 \/ lb = 4) {Q : Fl -> Lo -> Hp -> Prop}
  (q : Q .next [d0, d1, d2, some (.ref k), some (.int (b2aN lb : Int)), some (.int ((L * 256 + b) % 65536 : Nat)), some (.int (b : Int))] (H.set k (.list (nats (out ++ (b2aS lb L b).map b64))))) :
  exs (fnsN c 29) b2aBody [d0, d1, d2, some (.ref k), some (.int (lb : Int)), some (.int (L : Int)), some (.int (b : Int))] H Q := by
 have eL : Builtin.bitAnd (Builtin.bitOr ((L * 2 ^ 8 : Nat) : Int) (b : Int)) 65535 = ((L * 256 + b) % 65536 : Nat) := by
  rw [bor_nat, or_byte hb]
  exact mask (k := 16) rfl
 have e8 : (lb : Int) + 8 = ((lb + 8 : Nat) : Int) := rfl
 refine op_shlI rfl rfl (by omega) (by decide) ?_
 refine wh_go ?_
 rw [eL, e8]
 refine wh_step (m := 4999) (op_ge (c := true) (decide_eq_true (by omega)) ?_)
 rcases hlb with rfl | rfl | rfl
 ·refine b2a_turn (lb' := 2) hk (by omega) rfl ?_
  refine wh_step (m := 4998) (op_ge (c := false) rfl ?_)
  exact q
 ·refine b2a_turn (lb' := 4) hk (by omega) rfl ?_
  refine wh_step (m := 4998) (op_ge (c := false) rfl ?_)
  exact q
 ·refine b2a_turn (lb' := 6) hk (by omega) rfl ?_
  refine wh_step (m := 4998) (op_ge (c := true) rfl ?_)
  refine b2a_turn (lb' := 0) (get_set hk) (by simp; omega) rfl ?_
  refine wh_step (m := 4997) (op_ge (c := false) rfl ?_)
  rw [List.set_set, List.append_assoc]
  have e : (L * 256 + b) % 65536 / 2 ^ 0 % 64 = (L * 256 + b) % 65536 % 64 := by simp
  rw [e]
  exact q
end Mine
end

section
open PySem PySem.W
namespace Mine
theorem u8_nat {v : Nat} (h : v < 256) : v.toUInt8.toNat = v := by
 rw [UInt8.toNat_ofNat']
 exact Nat.mod_eq_of_lt h
theorem by_items {l : List Nat} (h : ∀ v ∈ l, v < 256) : (l.map fun v => v.toUInt8).map (fun c => D.int (c.toNat : Int)) = nats l := by
 unfold nats
 rw [List.map_map]
 apply List.map_congr_left
 intro v m
 simp only [Function.comp, u8_nat (h v m)]
theorem intsOf_ints : ∀ l : List Nat, intsOf (nats l) = some (l.map fun (v : Nat) => (v : Int))
 | [] => rfl
 | v :: r => by
  show (intsOf (nats r)).map _ = _
  rw [intsOf_ints r]
  rfl
theorem bytesOf_ints {l : List Nat} (h : ∀ v ∈ l, v < 256) (hl : l.length <= 1000) : bytesOf (nats l) = some (BY l) := by
 unfold bytesOf
 rw [intsOf_ints, Option.bind_some]
 have h1 : ((l.map fun (v : Nat) => (v : Int)).all byteOk && decide ((l.map fun (v : Nat) => (v : Int)).length <= lim)) = true := by
  rw [Bool.and_eq_true]
  refine ⟨?_, decide_eq_true (by rw [List.length_map]; unfold lim; omega)⟩
  rw [List.all_eq_true]
  intro x m
  obtain ⟨v, hv, rfl⟩ := List.mem_map.mp m
  have := h v hv
  unfold byteOk
  rw [decide_eq_true (by omega), decide_eq_true (by omega)]
  rfl
 rw [h1]
 unfold BY
 dsimp only
 rw [List.map_map]
 rfl
noncomputable def b2aF : List Nat -> Nat -> Nat -> List Nat × Nat × Nat
 | [], lb, L => ([], lb, L)
 | b :: r, lb, L => (b2aS lb L b ++ (b2aF r (b2aN lb) ((L * 256 + b) % 65536)).1, (b2aF r (b2aN lb) ((L * 256 + b) % 65536)).2)
theorem b2aN_in (lb : Nat) : b2aN lb = 0 \/ b2aN lb = 2 \/ b2aN lb = 4 := by unfold b2aN; split <;> simp
theorem b2aS_len (lb L b : Nat) : (b2aS lb L b).length <= 2 := by unfold b2aS; split <;> simp
theorem set_id {H : Hp} {k : Nat} {a : Ob} (hk : H[k]? = some a) : H.set k a = H := by
 obtain ⟨h1, h2⟩ := List.getElem?_eq_some_iff.mp hk
 rw [<- h2]
 exact List.set_getElem_self h1
theorem b2a_loop {c : CallF} {k : Nat} {d0 d1 d2 : Option D} {Q : Fl -> Lo -> Hp -> Prop} : ∀ (l : List Nat) (lb L : Nat) (x : Option D) (H : Hp) (out : List Nat), H[k]? = some (.list (nats out)) -> out.length + 2 * l.length <= 900 -> L < 65536 -> (∀ v ∈ l, v < 256) -> (lb = 0 \/ lb = 2 \/ lb = 4) ->
  (∀ x' H', H' = H.set k (.list (nats (out ++ (b2aF l lb L).1.map b64))) -> Q .next [d0, d1, d2, some (.ref k), some (.int ((b2aF l lb L).2.1 : Int)), some (.int ((b2aF l lb L).2.2 : Int)), x'] H') ->
  WF (fnsN c 29) 6 b2aBody (nats l) [d0, d1, d2, some (.ref k), some (.int (lb : Int)), some (.int (L : Int)), x] H Q
 | [], lb, L, x, H, out, hk, hl, hL, hv, hlb, q => wf_nil (q x H (by
   show H = H.set k (.list (nats (out ++ [])))
   rw [List.append_nil, set_id hk]))
 | b :: r, lb, L, x, H, out, hk, hl, hL, hv, hlb, q => by
  have hl : out.length + 2 * (r.length + 1) <= 900 := hl
  refine wf_cons (d := .int (b : Int)) (b2a_body (c := c) hk (by omega) hL (hv b (.head _)) hlb ?_)
  have hs := b2aS_len lb L b
  refine b2a_loop r (b2aN lb) ((L * 256 + b) % 65536) _ _ (out ++ (b2aS lb L b).map b64) (get_set hk) (by simp; omega) (Nat.mod_lt _ (by decide)) (fun v m => hv v (.tail _ m)) (b2aN_in lb) fun x' H' e => q x' H' ?_
  rw [e, List.set_set, List.append_assoc, <- List.map_append]
  rfl
noncomputable def b2aT (lb L : Nat) : List Nat := match lb with
 | 2 => [b64 (L % 4 * 16), 61, 61]
 | 4 => [b64 (L % 16 * 4), 61]
 | _ => []
noncomputable def b2a (l : List Nat) : List Nat := (b2aF l 0 0).1.map b64 ++ b2aT (b2aF l 0 0).2.1 (b2aF l 0 0).2.2
theorem c2 {m : Nat} (hm : 1 <= m) {b : List UInt8} {H : Hp} {Q : D -> Hp -> Prop} (q : Q (.bytes b) H) : callN tabF m 2 [.bytes b] H Q :=
 call_in (k := 0) hm rfl rfl rfl fun n _ => op_go rfl (op_go (z := true) rfl q)
theorem c3 {m : Nat} (hm : 1 <= m) {b : Bool} {H : Hp} {Q : D -> Hp -> Prop} (q : Q (.bool b) H) : callN tabF m 3 [.bool b] H Q :=
 call_in (k := 0) hm rfl rfl rfl fun n _ => op_go rfl (op_go (z := false) rfl (op_go (z := true) rfl (by cases b <;> exact q)))
theorem b64_lt (v : Nat) : b64 v < 256 := by unfold b64; exact UInt8.toNat_lt _
theorem b2aF_len : ∀ (l : List Nat) (lb L : Nat), (b2aF l lb L).1.length <= 2 * l.length
 | [], _, _ => Nat.le_refl _
 | b :: r, lb, L => by
  have := b2aF_len r (b2aN lb) ((L * 256 + b) % 65536)
  have := b2aS_len lb L b
  show (b2aS lb L b ++ (b2aF r (b2aN lb) ((L * 256 + b) % 65536)).1).length <= 2 * (r.length + 1)
  rw [List.length_append]
  omega
theorem b2aF_end : ∀ (l : List Nat) (lb L : Nat), (lb = 0 \/ lb = 2 \/ lb = 4) -> ((b2aF l lb L).2.1 = 0 \/ (b2aF l lb L).2.1 = 2 \/ (b2aF l lb L).2.1 = 4)
 | [], _, _, h => h
 | b :: r, lb, L, _ => b2aF_end r (b2aN lb) _ (b2aN_in lb)
theorem op_bytes {k : Nat} {l : List Nat} {H : Hp} {Q : D × Hp -> Prop} (hk : H[k]? = some (.list (nats l))) (h : ∀ v ∈ l, v < 256) (hl : l.length <= 1000) (q : Q (BY l, H)) : OP (bfD .bytes [.ref k] H) Q := by
 refine op_go ?_ q
 show hL H k (fun ds => (bytesOf ds).map (·, H)) = _
 unfold hL
 rw [hk]
 show (bytesOf (nats l)).map (·, H) = _
 rw [bytesOf_ints h hl]
 rfl
theorem set_last {H : Hp} {a b : Ob} : (H ++ [a]).set H.length b = H ++ [b] := by
 rw [List.set_append_right _ _ (Nat.le_refl _)]
 simp
theorem get_last {H : Hp} {a : Ob} : (H ++ [a])[H.length]? = some a := by simp
theorem op_appL {H : Hp} {v : Nat} {l : List Nat} {i : Int} {Q : D × Hp -> Prop} (hl : l.length <= 1000) (e : i = (v : Int)) (h : Q (.none, H ++ [.list (nats (l ++ [v]))])) : OP (bmD .append (.ref H.length) [.int i] (H ++ [.list (nats l)])) Q :=
 op_appN get_last hl e (by rw [set_last]; exact h)
theorem wc6 {m : Nat} (hm : 2 <= m) {l : List Nat} {H : Hp} {Q : D -> Hp -> Prop} (hv : ∀ v ∈ l, v < 256) (hl : l.length <= 100) (q : Q (BY (b2a l)) (H ++ [.list (nats (b2a l))])) : callN tabF m 6 [BY l, .bool false] H Q := by
 have hl2 := b2aF_len l 0 0
 have hend := b2aF_end l 0 0 (.inl rfl)
 have hlo : ((b2aF l 0 0).1.map b64).length <= 200 := by rw [List.length_map]; omega
 have hvo : ∀ v ∈ (b2aF l 0 0).1.map b64, v < 256 := fun v m => by
  obtain ⟨x, _, rfl⟩ := List.mem_map.mp m
  exact b64_lt x
 have hb : b2a l = (b2aF l 0 0).1.map b64 ++ b2aT (b2aF l 0 0).2.1 (b2aF l 0 0).2.2 := rfl
 rw [hb] at q
 refine call_in (k := 1) hm rfl rfl rfl fun n hn => ?_
 refine c2 hn ?_
 refine c3 hn ?_
 refine for_bytes (by_items hv) ?_
 refine b2a_loop (k := H.length) l 0 0 none (H ++ [.list []]) [] get_last (by simp; omega) (by decide) hv (.inl rfl) fun x' H' e => ?_
 rw [set_last, List.nil_append] at e
 subst e
 generalize (b2aF l 0 0).2.1 = lb at *
 generalize (b2aF l 0 0).2.2 = L at *
 generalize (b2aF l 0 0).1.map b64 = out at *
 have hk : ∀ l, bmK .append (.ref H.length) (H ++ [.list (nats l)]) = true := fun l => bmK_app get_last
 rcases hend with rfl | rfl | rfl
 ·refine op_eqI (c := false) rfl ?_
  refine op_eqI (c := false) rfl ?_
  rw [show out ++ b2aT 0 L = out from List.append_nil _] at q
  exact op_bytes get_last hvo (by omega) q
 ·refine op_eqI (c := true) rfl ?_
  refine wT_go (hk _) ?_
  refine op_shlI (mask (k := 2) rfl) rfl (by omega) (by decide) ?_
  refine sub_b64 rfl (show L % 4 * 16 < 64 by omega) ?_
  refine op_appL (by omega) rfl ?_
  refine wT_go (hk _) (op_appL (v := 61) (by simp; omega) rfl ?_)
  refine wT_go (hk _) (op_appL (v := 61) (by simp; omega) rfl ?_)
  have e : out ++ b2aT 2 L = ((out ++ [b64 (L % 4 * 16)]) ++ [61]) ++ [61] := by simp [b2aT]
  rw [e] at q
  refine op_bytes get_last (fun v m => ?_) (by simp; omega) q
  simp at m
  rcases m with m | rfl | rfl
  ·exact hvo v m
  ·exact b64_lt _
  ·decide
 ·refine op_eqI (c := false) rfl ?_
  refine op_eqI (c := true) rfl ?_
  refine wT_go (hk _) ?_
  refine op_shlI (mask (k := 4) rfl) rfl (by omega) (by decide) ?_
  refine sub_b64 rfl (show L % 16 * 4 < 64 by omega) ?_
  refine op_appL (by omega) rfl ?_
  refine wT_go (hk _) (op_appL (v := 61) (by simp; omega) rfl ?_)
  have e : out ++ b2aT 4 L = (out ++ [b64 (L % 16 * 4)]) ++ [61] := by simp [b2aT]
  rw [e] at q
  refine op_bytes get_last (fun v m => ?_) (by simp; omega) q
  simp at m
  rcases m with m | rfl | rfl
  ·exact hvo v m
  ·exact b64_lt _
  ·decide
end Mine
end

section
open PySem PySem.W
namespace Mine
section
variable {m : Nat} {H : Hp} {Q : D -> Hp -> Prop}
theorem c0 (hm : 1 <= m) {b : List UInt8} (q : Q (.bytes b) H) : callN tabF m 0 [.bytes b] H Q := by
 refine call_in (k := 0) hm rfl rfl rfl fun n _ => ?_
 refine op_go (z := (.bool false, H)) rfl ?_
 refine op_go (z := (.bool true, H)) rfl ?_
 exact q
theorem c1 (hm : 1 <= m) {b : List UInt8} (q : Q (.bytes b) H) : callN tabF m 1 [.bytes b] H Q := by
 refine call_in (k := 0) hm rfl rfl rfl fun n _ => ?_
 refine op_go rfl ?_
 refine op_go (z := false) rfl ?_
 refine op_go (z := true) rfl ?_
 exact q
noncomputable def hexU (n : Nat) : Nat := if n < 10 then 48 + n else 55 + n
noncomputable def hex2 (l : List Nat) : List Nat := l.flatMap fun v => [hexU (v / 16), hexU (v % 16)]
theorem lt16 {P : Nat -> Prop} (h : ∀ v ∈ List.range 16, P v) {v : Nat} (hv : v < 16) : P v := h v (List.mem_range.mpr hv)
theorem hexU_lt {v : Nat} (h : v < 16) : hexU v < 256 := by unfold hexU; split <;> omega
theorem c8 (hm : 1 <= m) {v : Nat} (h : v < 16) (q : Q (.int (v : Int)) H) : callN tabF m 8 [.int (hexU v : Int)] H Q := by
 refine call_in (k := 0) hm rfl rfl rfl fun n _ => ?_
 unfold hexU
 split
 ·rename_i h1
  show wIf (decide ((48 : Int) <= ((48 + v : Nat) : Int))) _ _
  rw [decide_eq_true (by omega)]
  show wIf (decide (((48 + v : Nat) : Int) <= 57)) _ _
  rw [decide_eq_true (by omega)]
  show Q (.int (((48 + v : Nat) : Int) - 48)) H
  rw [show ((48 + v : Nat) : Int) - 48 = (v : Int) by omega]
  exact q
 ·rename_i h1
  show wIf (decide ((48 : Int) <= ((55 + v : Nat) : Int))) _ _
  rw [decide_eq_true (by omega)]
  show wIf (decide (((55 + v : Nat) : Int) <= 57)) _ _
  rw [decide_eq_false (by omega)]
  show wIf (decide ((65 : Int) <= ((55 + v : Nat) : Int))) _ _
  rw [decide_eq_true (by omega)]
  show wIf (decide (((55 + v : Nat) : Int) <= 70)) _ _
  rw [decide_eq_true (by omega)]
  show Q (.int (((55 + v : Nat) : Int) - 55)) H
  rw [show ((55 + v : Nat) : Int) - 55 = (v : Int) by omega]
  exact q
end
theorem hex2_app (p r : List Nat) : hex2 (p ++ r) = hex2 p ++ hex2 r := by unfold hex2; rw [List.flatMap_append]
theorem hex2_len : ∀ p : List Nat, (hex2 p).length = 2 * p.length
 | [] => rfl
 | v :: r => by
  show (hex2 r).length + 1 + 1 = 2 * (r.length + 1)
  rw [hex2_len r]
  omega
theorem hex2_at (p r : List Nat) (v : Nat) : (hex2 (p ++ v :: r))[2 * p.length]? = some (hexU (v / 16)) /\ (hex2 (p ++ v :: r))[2 * p.length + 1]? = some (hexU (v % 16)) := by
 rw [hex2_app, <- hex2_len p, List.getElem?_append_right (Nat.le_refl _), List.getElem?_append_right (Nat.le_add_right _ 1), Nat.sub_self, Nat.add_sub_cancel_left]
 exact ⟨rfl, rfl⟩
theorem sub_by' {l : List Nat} {i v : Nat} {H : Hp} (h : l[i]? = some v) (hv : v < 256) (hl : l.length <= 1000) : subD H (BY l) (.int (i : Int)) = some (.int (v : Int)) := by
 have h1 : (decide ((0 : Int) <= (i : Int)) && decide ((l.map fun v => v.toUInt8).length <= lim)) = true := by
  rw [decide_eq_true (Int.natCast_nonneg i), decide_eq_true (by rw [List.length_map]; exact Nat.le_trans hl (by decide))]
  rfl
 show gd _ (((l.map fun v => v.toUInt8)[(i : Int).toNat]?).map _) = _
 rw [h1, Int.toNat_natCast, List.getElem?_map, h]
 show some (D.int (v.toUInt8.toNat : Int)) = _
 rw [u8_nat hv]
theorem sub_by {l : List Nat} {i : Int} {j v : Nat} {H : Hp} {Q : D -> Prop} (e : i = (j : Int)) (h : l[j]? = some v) (hv : v < 256) (hl : l.length <= 1000) (q : Q (.int (v : Int))) : OP (subD H (BY l) (.int i)) Q := by
 subst e
 exact op_go (sub_by' h hv hl) q
noncomputable def a2bW : List Stm := match fn9.body with
 | _ :: _ :: _ :: _ :: _ :: .while_ _ b _ :: _ => b
 | _ => []
theorem a2b_loop {c : Nat} (hc : 1 <= c) {k : Nat} {d0 : Option D} {l : List Nat} (hv : ∀ v ∈ l, v < 256) (hl : l.length <= 100) {Q : Fl -> Lo -> Hp -> Prop} : ∀ (r p : List Nat) (t : Nat) (y5 y6 : Option D) (H : Hp), l = p ++ r -> r.length < t -> H[k]? = some (.list (nats p)) ->
  (∀ y5 y6, Q .next [d0, some (BY (hex2 l)), some (.int ((2 * l.length : Nat) : Int)), some (.ref k), some (.int ((2 * l.length : Nat) : Int)), y5, y6] (H.set k (.list (nats l)))) ->
  WH (fnsN (callN tabF c) 29) (.cmp .lt (.v 4) (.v 2)) a2bW [] t [d0, some (BY (hex2 l)), some (.int ((2 * l.length : Nat) : Int)), some (.ref k), some (.int ((2 * p.length : Nat) : Int)), y5, y6] H Q
 | _, _, 0, _, _, _, _, ht, _, _ => absurd ht (Nat.not_lt_zero _)
 | [], p, t + 1, y5, y6, H, e, ht, hk, q => by
  rw [List.append_nil] at e
  subst e
  refine wh_step (op_lt (c := false) (decide_eq_false (by omega)) ?_)
  have := q y5 y6
  rw [set_id hk] at this
  exact this
 | v :: r, p, t + 1, y5, y6, H, e, ht, hk, q => by
  have hlen : l.length = p.length + (r.length + 1) := by rw [e, List.length_append]; rfl
  have hv0 := hv v (by rw [e]; exact List.mem_append_right _ (.head _))
  obtain ⟨a1, a2⟩ := hex2_at p r v
  rw [<- e] at a1 a2
  have hx : (hex2 l).length <= 1000 := by rw [hex2_len]; omega
  have h1 : v / 16 < 16 := by omega
  have h2 : v % 16 < 16 := Nat.mod_lt _ (by decide)
  refine wh_step (op_lt (c := true) (decide_eq_true (by omega)) ?_)
  refine sub_by rfl a1 (hexU_lt h1) hx ?_
  refine c8 hc h1 ?_
  refine sub_by (j := 2 * p.length + 1) rfl a2 (hexU_lt h2) hx ?_
  refine c8 hc h2 ?_
  refine op_ge (c := false) (decide_eq_false (by omega)) ?_
  refine op_ge (c := false) (decide_eq_false (by omega)) ?_
  refine wT_go (bmK_app hk) ?_
  refine op_shlI (k := 4) rfl rfl (by omega) (by decide) ?_
  refine op_appN (v := v) hk (by omega) (by omega) ?_
  have e2 : ((2 * p.length : Nat) : Int) + 2 = ((2 * (p ++ [v]).length : Nat) : Int) := by rw [List.length_append]; rfl
  show WH _ _ _ _ t [d0, some (BY (hex2 l)), some (.int ((2 * l.length : Nat) : Int)), some (.ref k), some (.int (((2 * p.length : Nat) : Int) + 2)), _, _] _ Q
  rw [e2]
  refine a2b_loop hc hv hl r (p ++ [v]) t _ _ _ (by rw [e, List.append_assoc]; rfl) (Nat.lt_of_succ_lt_succ ht) (get_set hk) fun y5 y6 => ?_
  rw [List.set_set]
  exact q y5 y6
section
variable {m : Nat} {H : Hp} {Q : D -> Hp -> Prop}
theorem by_len {l : List Nat} (hl : l.length <= 1000) (H : Hp) : bfD .len [BY l] H = some (.int (l.length : Int), H) := by
 show ifLim (l.map fun v => v.toUInt8).length (D.int ((l.map fun v => v.toUInt8).length : Int), H) = _
 rw [List.length_map]
 unfold ifLim
 rw [decide_eq_true (show l.length <= lim from Nat.le_trans hl (by decide))]
theorem op_evn {a : Nat} {Q : D -> Prop} (q : Q (.int 0)) : OPB .mod (.int ((2 * a : Nat) : Int)) (.int 2) Q := by
 refine op_int (c := 0) ?_ q
 show (match inB 2 with | true => some (((2 * a : Nat) : Int).fmod 2) | false => none) = _
 rw [show inB 2 = true from inB_nat (b := 2) (by decide) (by decide), Int.fmod_eq_emod_of_nonneg _ (by decide)]
 show some _ = some _
 congr 1
 omega
theorem wc9 (hm : 2 <= m) {l : List Nat} (hv : ∀ v ∈ l, v < 256) (hl : l.length <= 100) (q : Q (BY l) (H ++ [.list (nats l)])) : callN tabF m 9 [BY (hex2 l)] H Q := by
 refine call_in (k := 1) hm rfl rfl rfl fun n hn => ?_
 refine c1 hn ?_
 refine op_go (by_len (by rw [hex2_len]; omega) _) ?_
 rw [hex2_len]
 refine op_evn ?_
 refine op_go (z := false) rfl ?_
 refine wh_go ?_
 refine a2b_loop hn (k := H.length) (d0 := some (BY (hex2 l))) hv hl l [] 5000 none none (H ++ [.list []]) rfl (by omega) get_last fun y5 y6 => ?_
 rw [set_last]
 exact op_bytes get_last hv (by omega) q
theorem hexU_ok {v : Nat} (h : v < 16) : hexChar (hexU v).toUInt8 = true :=
 lt16 (P := fun v => hexChar (hexU v).toUInt8 = true) (by decide +kernel) h
theorem hex2_ok : ∀ {l : List Nat}, (∀ v ∈ l, v < 256) -> ((hex2 l).map fun v => v.toUInt8).all hexChar = true
 | [], _ => rfl
 | v :: r, h => by
  have h0 := h v (.head _)
  show (hexChar _ && (hexChar _ && _)) = true
  rw [hexU_ok (show v / 16 < 16 by omega), hexU_ok (Nat.mod_lt _ (by decide))]
  exact hex2_ok fun x m => h x (.tail _ m)
theorem wc13 (hm : 3 <= m) {l : List Nat} (hv : ∀ v ∈ l, v < 256) (hl : l.length <= 100) (q : Q (BY l) (H ++ [.list (nats l)])) : callN tabF m 13 [BY (hex2 l), .bool false] H Q := by
 refine call_in (k := 2) hm rfl rfl rfl fun n hn => ?_
 refine c0 (Nat.le_of_succ_le hn) ?_
 refine wT_go rfl ?_
 have hs : bmD .search (.val (.ref 43)) [BY (hex2 l)] H = some (.none, H) := by
  show gd (decide ((43 : Nat) = 43) && (((hex2 l).map fun v => v.toUInt8).all hexChar && decide (((hex2 l).map fun v => v.toUInt8).length <= 1000))) _ = _
  rw [hex2_ok hv, List.length_map, hex2_len, decide_eq_true (show 2 * l.length <= 1000 by omega)]
  rfl
 refine op_go hs ?_
 exact wc9 hn hv hl q
end
end Mine
end

section
open PySem
namespace Mine
noncomputable def hxv (s : Bool) : Int := match s with | true => -2 | false => -1
noncomputable def stv (n : Nat) : Int := match n with | 0 => -2 | k + 1 => ((k + 1 : Nat) : Int)
noncomputable def b1 (s : Bool) (k : Nat) : Nat := match s with | true => 0 | false => k
noncomputable def spN : Nat -> Nat -> List Bool -> List (Nat × List Nat × Int)
 | i, j, s0 :: s1 :: s2 :: r =>
  (100 + j, [200 + i, 200 + i, 200 + i, 200 + i, 201 + i, 201 + i], stv (b1 s0 4 + b1 s1 2)) :: (i, [100 + j, 100 + j, 100 + j, 100 + j], hxv s0) :: (200 + i, [], stv (b1 (s0 && s1) 4)) ::
  (i + 1, [100 + j, 100 + j, 101 + j, 101 + j], hxv s1) :: (201 + i, [], stv (b1 (s0 && s1) 2 + b1 (s1 && s2) 2)) :: (101 + j, [201 + i, 201 + i, 202 + i, 202 + i, 202 + i, 202 + i], stv (b1 s1 2 + b1 s2 4)) ::
  (i + 2, [101 + j, 101 + j, 101 + j, 101 + j], hxv s2) :: (202 + i, [], stv (b1 (s1 && s2) 4)) :: spN (i + 3) (j + 2) r
 | i, j, [s0, s1] =>
  [(100 + j, [200 + i, 200 + i, 200 + i, 200 + i, 201 + i, 201 + i], stv (b1 s0 4 + b1 s1 2)), (i, [100 + j, 100 + j, 100 + j, 100 + j], hxv s0), (200 + i, [], stv (b1 (s0 && s1) 4)),
  (i + 1, [100 + j, 100 + j, 101 + j, 101 + j], hxv s1), (201 + i, [], stv (b1 (s0 && s1) 2 + b1 s1 2)), (101 + j, [201 + i, 201 + i], stv (b1 s1 2)), (102 + j, [], -2), (103 + j, [], -2)]
 | i, j, [s0] => [(100 + j, [200 + i, 200 + i, 200 + i, 200 + i], stv (b1 s0 4)), (i, [100 + j, 100 + j, 100 + j, 100 + j], hxv s0), (200 + i, [], stv (b1 s0 4)), (101 + j, [], -2)]
 | _, _, [] => []
noncomputable def nodeOs : Nat -> List (Nat × List Nat × Int) -> List Ob
 | _, [] => []
 | a, (id, su, p) :: r => .attrs [] :: .node a [some (.int (id : Int)), some (.int p), some (.ref (a + 2))] :: .list (su.map fun (x : Nat) => .int (x : Int)) :: nodeOs (a + 3) r
noncomputable def dictOs : Nat -> List (Nat × List Nat × Int) -> List (Int × D)
 | _, [] => []
 | a, (id, su, p) :: r => ((id : Int), .ref a) :: dictOs (a + 3) r
noncomputable def KG (l : List (Nat × List Nat × Int)) (rd : List D) (pa nf : Int) : Hp :=
 .attrs [(0, .ref 6), (1, .ref (7 + 3 * l.length)), (2, .int pa), (3, .int nf)] :: .inst 4 :: .dict (dictOs 8 l) l.length :: (nodeOs 7 l ++ [.list rd])
noncomputable def KS (S : List Bool) (pa nf : Int) : Hp := KG (spN 0 0 S) [] pa nf
noncomputable def PRE (o0 o1 o2 o3 : Ob) (S : List Bool) (pa nf : Int) : Hp := o0 :: o1 :: o2 :: o3 :: KS S pa nf
noncomputable def sureS : List Bool -> List Bool
 | s0 :: s1 :: s2 :: r => (s0 && s1) :: (s1 && s2) :: sureS r
 | [s0, s1] => [s0 && s1, s1]
 | [s0] => [s0]
 | [] => []
noncomputable def readS : List Bool -> List Bool
 | s0 :: s1 :: s2 :: r => (s0 && s1) :: ((s0 && s1) && (s1 && s2)) :: (s1 && s2) :: readS r
 | [s0, s1] => [s0 && s1, (s0 && s1) && s1]
 | [s0] => [s0]
 | [] => []
noncomputable def sd (b : Nat) (x y : Bool) : List D := match y && !x with | true => [.int (b : Int)] | false => []
noncomputable def newI (b : Nat) : Nat -> List Bool -> List Bool -> List D
 | j, x :: o, y :: n => sd (b + j) x y ++ newI b (j + 1) o n
 | _, _, _ => []
noncomputable def gS (j : Nat) : List Bool -> Nat -> List D
 | s0 :: s1 :: s2 :: r, i => match i with
  | 0 => sd (100 + j) (s0 && s1) (true && s1)
  | 1 => sd (100 + j) (s0 && s1) (s0 && true) ++ sd (100 + (j + 1)) (s1 && s2) (true && s2)
  | 2 => sd (100 + (j + 1)) (s1 && s2) (s1 && true)
  | i + 3 => gS (j + 2) r i
 | [s0, s1], i => match i with
  | 0 => sd (100 + j) (s0 && s1) (true && s1)
  | 1 => sd (100 + j) (s0 && s1) (s0 && true) ++ sd (100 + (j + 1)) s1 true
  | _ => []
 | [s0], i => match i with
  | 0 => sd (100 + j) s0 true
  | _ => []
 | [], _ => []
termination_by structural S => S
noncomputable def gR (j : Nat) : List Bool -> Nat -> List D
 | s0 :: s1 :: s2 :: r, i => match i with
  | 0 => sd (200 + j) (s0 && s1) (true && s1) ++ sd (200 + (j + 1)) ((s0 && s1) && (s1 && s2)) ((true && s1) && (s1 && s2))
  | 1 => sd (200 + j) (s0 && s1) (s0 && true) ++ sd (200 + (j + 1)) ((s0 && s1) && (s1 && s2)) ((s0 && true) && (true && s2)) ++ sd (200 + (j + 2)) (s1 && s2) (true && s2)
  | 2 => sd (200 + (j + 1)) ((s0 && s1) && (s1 && s2)) ((s0 && s1) && (s1 && true)) ++ sd (200 + (j + 2)) (s1 && s2) (s1 && true)
  | i + 3 => gR (j + 3) r i
 | [s0, s1], i => match i with
  | 0 => sd (200 + j) (s0 && s1) (true && s1) ++ sd (200 + (j + 1)) ((s0 && s1) && s1) ((true && s1) && s1)
  | 1 => sd (200 + j) (s0 && s1) (s0 && true) ++ sd (200 + (j + 1)) ((s0 && s1) && s1) ((s0 && true) && true)
  | _ => []
 | [s0], i => match i with
  | 0 => sd (200 + j) s0 true
  | _ => []
 | [], _ => []
termination_by structural S => S
theorem sd_same (b : Nat) (x : Bool) : sd b x x = [] := by cases x <;> rfl
theorem newI_self (b : Nat) : ∀ (l : List Bool) (j : Nat), newI b j l l = []
 | [], _ => rfl
 | x :: l, j => by
  show sd (b + j) x x ++ newI b (j + 1) l l = []
  rw [sd_same, newI_self b l]
  rfl
theorem newS_eq : ∀ (S : List Bool) (j i : Nat), newI 100 j (sureS S) (sureS (S.set i true)) = gS j S i
 | s0 :: s1 :: s2 :: r, j, 0 => by
  show sd _ (s0 && s1) (true && s1) ++ (sd _ (s1 && s2) (s1 && s2) ++ newI 100 (j + 1 + 1) (sureS r) (sureS r)) = sd _ (s0 && s1) (true && s1)
  rw [sd_same, newI_self, List.append_nil, List.append_nil]
 | s0 :: s1 :: s2 :: r, j, 1 => by
  show sd _ (s0 && s1) (s0 && true) ++ (sd _ (s1 && s2) (true && s2) ++ newI 100 (j + 1 + 1) (sureS r) (sureS r)) = sd _ (s0 && s1) (s0 && true) ++ sd _ (s1 && s2) (true && s2)
  rw [newI_self, List.append_nil]
 | s0 :: s1 :: s2 :: r, j, 2 => by
  show sd _ (s0 && s1) (s0 && s1) ++ (sd _ (s1 && s2) (s1 && true) ++ newI 100 (j + 1 + 1) (sureS r) (sureS r)) = sd _ (s1 && s2) (s1 && true)
  rw [sd_same, newI_self, List.append_nil]
  rfl
 | s0 :: s1 :: s2 :: r, j, i + 3 => by
  show sd _ (s0 && s1) (s0 && s1) ++ (sd _ (s1 && s2) (s1 && s2) ++ newI 100 (j + 2) (sureS r) (sureS (r.set i true))) = gS (j + 2) r i
  rw [sd_same, sd_same, newS_eq r]
  rfl
 | [s0, s1], j, 0 => by
  show sd _ (s0 && s1) (true && s1) ++ (sd _ s1 s1 ++ []) = sd _ (s0 && s1) (true && s1)
  rw [sd_same, List.append_nil, List.append_nil]
 | [s0, s1], j, 1 => by
  show sd _ (s0 && s1) (s0 && true) ++ (sd _ s1 true ++ []) = sd _ (s0 && s1) (s0 && true) ++ sd _ s1 true
  rw [List.append_nil]
 | [s0, s1], j, i + 2 => newI_self 100 _ _
 | [s0], j, 0 => List.append_nil _
 | [s0], j, i + 1 => newI_self 100 _ _
 | [], _, _ => newI_self 100 [] _
theorem newR_eq : ∀ (S : List Bool) (j i : Nat), newI 200 j (readS S) (readS (S.set i true)) = gR j S i
 | s0 :: s1 :: s2 :: r, j, 0 => by
  show sd _ (s0 && s1) (true && s1) ++ (sd _ ((s0 && s1) && (s1 && s2)) ((true && s1) && (s1 && s2)) ++ (sd _ (s1 && s2) (s1 && s2) ++ newI 200 (j + 1 + 1 + 1) (readS r) (readS r))) = sd _ (s0 && s1) (true && s1) ++ sd _ ((s0 && s1) && (s1 && s2)) ((true && s1) && (s1 && s2))
  rw [sd_same (_ + (j + 1 + 1)), newI_self, List.append_nil, List.append_nil]
 | s0 :: s1 :: s2 :: r, j, 1 => by
  show sd _ (s0 && s1) (s0 && true) ++ (sd _ ((s0 && s1) && (s1 && s2)) ((s0 && true) && (true && s2)) ++ (sd _ (s1 && s2) (true && s2) ++ newI 200 (j + 1 + 1 + 1) (readS r) (readS r))) = sd _ (s0 && s1) (s0 && true) ++ sd _ ((s0 && s1) && (s1 && s2)) ((s0 && true) && (true && s2)) ++ sd _ (s1 && s2) (true && s2)
  rw [newI_self, List.append_nil, List.append_assoc]
 | s0 :: s1 :: s2 :: r, j, 2 => by
  show sd _ (s0 && s1) (s0 && s1) ++ (sd _ ((s0 && s1) && (s1 && s2)) ((s0 && s1) && (s1 && true)) ++ (sd _ (s1 && s2) (s1 && true) ++ newI 200 (j + 1 + 1 + 1) (readS r) (readS r))) = sd _ ((s0 && s1) && (s1 && s2)) ((s0 && s1) && (s1 && true)) ++ sd _ (s1 && s2) (s1 && true)
  rw [sd_same (_ + j), newI_self, List.append_nil]
  rfl
 | s0 :: s1 :: s2 :: r, j, i + 3 => by
  show sd _ (s0 && s1) (s0 && s1) ++ (sd _ ((s0 && s1) && (s1 && s2)) ((s0 && s1) && (s1 && s2)) ++ (sd _ (s1 && s2) (s1 && s2) ++ newI 200 (j + 3) (readS r) (readS (r.set i true)))) = gR (j + 3) r i
  rw [sd_same, sd_same, sd_same, newR_eq r]
  rfl
 | [s0, s1], j, 0 => by
  show sd _ (s0 && s1) (true && s1) ++ (sd _ ((s0 && s1) && s1) ((true && s1) && s1) ++ []) = sd _ (s0 && s1) (true && s1) ++ sd _ ((s0 && s1) && s1) ((true && s1) && s1)
  rw [List.append_nil]
 | [s0, s1], j, 1 => by
  show sd _ (s0 && s1) (s0 && true) ++ (sd _ ((s0 && s1) && s1) ((s0 && true) && true) ++ []) = sd _ (s0 && s1) (s0 && true) ++ sd _ ((s0 && s1) && s1) ((s0 && true) && true)
  rw [List.append_nil]
 | [s0, s1], j, i + 2 => newI_self 200 _ _
 | [s0], j, 0 => List.append_nil _
 | [s0], j, i + 1 => newI_self 200 _ _
 | [], _, _ => newI_self 200 [] _
noncomputable def addN (a : Int) : Nat -> Int
 | 0 => a
 | k + 1 => addN a k + 1
noncomputable def roundS : List Stm := [.expr (.om 107 (.v 7) [(.v 12)]), .asg 13 (.om 105 (.v 7) []), .expr (.omS 107 (.v 7) (.v 13)), .asg 14 (.om 105 (.v 7) []), .expr (.omS 107 (.v 7) (.v 14))]
noncomputable def rndL (S : List Bool) (i m : Nat) (d0 d1 d2 d3 d4 d5 d6 d8 d9 d10 d11 d13 d14 d15 d16 : Option D) (o0 o1 o2 o3 : Ob) (pa nf : Int) (J : Hp) (Q : Fl -> Lo -> Hp -> Prop) : Prop :=
 exs (fnsN (callN tabF (Nat.succ (Nat.succ (Nat.succ m)))) 29) roundS [d0, d1, d2, d3, d4, d5, d6, some (.ref 5), d8, d9, d10, d11, some (.int (i : Int)), d13, d14, d15, d16] (o0 :: o1 :: o2 :: o3 :: (KS S pa nf ++ J)) Q
noncomputable def rndR (S : List Bool) (i m : Nat) (d0 d1 d2 d3 d4 d5 d6 d8 d9 d10 d11 d13 d14 d15 d16 : Option D) (o0 o1 o2 o3 : Ob) (pa nf : Int) (J : Hp) (Q : Fl -> Lo -> Hp -> Prop) : Prop :=
 Q .next [d0, d1, d2, d3, d4, d5, d6, some (.ref 5), d8, d9, d10, d11, some (.int (i : Int)), some (.tup (gS 0 S i)), some (.tup (gR 0 S i)), d15, d16]
  (o0 :: o1 :: o2 :: o3 :: (KS (S.set i true) (pa + ((gS 0 S i).length : Int) + ((gR 0 S i).length : Int)) (addN (addN (nf + 1) (gS 0 S i).length) (gR 0 S i).length) ++ J))
noncomputable abbrev RoundAt (S : List Bool) (i : Nat) : Prop := rndL S i = rndR S i
theorem bb {P : Bool -> Prop} (h1 : P false) (h2 : P true) : ∀ b, P b
 | false => h1
 | true => h2
theorem r1_0 : ∀ s1 : Bool, RoundAt [false, s1] 0 := bb (by kernel_rfl) (by kernel_rfl)
theorem r1_1 : ∀ s0 : Bool, RoundAt [s0, false] 1 := bb (by kernel_rfl) (by kernel_rfl)
theorem rs1 : ∀ (s0 s1 : Bool) (i : Nat), [s0, s1][i]? = some false -> RoundAt [s0, s1] i
 | false, s1, 0, h => r1_0 s1
 | true, _, 0, h => nomatch h
 | s0, false, 1, h => r1_1 s0
 | _, true, 1, h => nomatch h
 | _, _, _ + 2, h => nomatch h
theorem r2_0 (s3 : Bool) : ∀ s1 s2 : Bool, RoundAt [false, s1, s2, s3] 0 := bb (bb (by kernel_rfl) (by kernel_rfl)) (bb (by kernel_rfl) (by kernel_rfl))
theorem r2_1 (s3 : Bool) : ∀ s0 s2 : Bool, RoundAt [s0, false, s2, s3] 1 := bb (bb (by kernel_rfl) (by kernel_rfl)) (bb (by kernel_rfl) (by kernel_rfl))
theorem r2_2 (s3 : Bool) : ∀ s0 s1 : Bool, RoundAt [s0, s1, false, s3] 2 := bb (bb (by kernel_rfl) (by kernel_rfl)) (bb (by kernel_rfl) (by kernel_rfl))
theorem r2_3 (s0 s1 s2 : Bool) : RoundAt [s0, s1, s2, false] 3 := by kernel_rfl
theorem rs2 : ∀ (s0 s1 s2 s3 : Bool) (i : Nat), [s0, s1, s2, s3][i]? = some false -> RoundAt [s0, s1, s2, s3] i
 | false, s1, s2, s3, 0, h => r2_0 s3 s1 s2
 | true, _, _, _, 0, h => nomatch h
 | s0, false, s2, s3, 1, h => r2_1 s3 s0 s2
 | _, true, _, _, 1, h => nomatch h
 | s0, s1, false, s3, 2, h => r2_2 s3 s0 s1
 | _, _, true, _, 2, h => nomatch h
 | s0, s1, s2, false, 3, h => r2_3 s0 s1 s2
 | _, _, _, true, 3, h => nomatch h
 | _, _, _, _, _ + 4, h => nomatch h
theorem r3_0 (s3 s4 s5 : Bool) : ∀ s1 s2 : Bool, RoundAt [false, s1, s2, s3, s4, s5] 0 := bb (bb (by kernel_rfl) (by kernel_rfl)) (bb (by kernel_rfl) (by kernel_rfl))
theorem r3_1 (s3 s4 s5 : Bool) : ∀ s0 s2 : Bool, RoundAt [s0, false, s2, s3, s4, s5] 1 := bb (bb (by kernel_rfl) (by kernel_rfl)) (bb (by kernel_rfl) (by kernel_rfl))
theorem r3_2 (s3 s4 s5 : Bool) : ∀ s0 s1 : Bool, RoundAt [s0, s1, false, s3, s4, s5] 2 := bb (bb (by kernel_rfl) (by kernel_rfl)) (bb (by kernel_rfl) (by kernel_rfl))
theorem r3_3 (s0 s1 s2 : Bool) : ∀ s4 s5 : Bool, RoundAt [s0, s1, s2, false, s4, s5] 3 := bb (bb (by kernel_rfl) (by kernel_rfl)) (bb (by kernel_rfl) (by kernel_rfl))
theorem r3_4 (s0 s1 s2 : Bool) : ∀ s3 s5 : Bool, RoundAt [s0, s1, s2, s3, false, s5] 4 := bb (bb (by kernel_rfl) (by kernel_rfl)) (bb (by kernel_rfl) (by kernel_rfl))
theorem r3_5 (s0 s1 s2 : Bool) : ∀ s3 s4 : Bool, RoundAt [s0, s1, s2, s3, s4, false] 5 := bb (bb (by kernel_rfl) (by kernel_rfl)) (bb (by kernel_rfl) (by kernel_rfl))
theorem rs3 : ∀ (s0 s1 s2 s3 s4 s5 : Bool) (i : Nat), [s0, s1, s2, s3, s4, s5][i]? = some false -> RoundAt [s0, s1, s2, s3, s4, s5] i
 | false, s1, s2, s3, s4, s5, 0, h => r3_0 s3 s4 s5 s1 s2
 | true, _, _, _, _, _, 0, h => nomatch h
 | s0, false, s2, s3, s4, s5, 1, h => r3_1 s3 s4 s5 s0 s2
 | _, true, _, _, _, _, 1, h => nomatch h
 | s0, s1, false, s3, s4, s5, 2, h => r3_2 s3 s4 s5 s0 s1
 | _, _, true, _, _, _, 2, h => nomatch h
 | s0, s1, s2, false, s4, s5, 3, h => r3_3 s0 s1 s2 s4 s5
 | _, _, _, true, _, _, 3, h => nomatch h
 | s0, s1, s2, s3, false, s5, 4, h => r3_4 s0 s1 s2 s3 s5
 | _, _, _, _, true, _, 4, h => nomatch h
 | s0, s1, s2, s3, s4, false, 5, h => r3_5 s0 s1 s2 s3 s4
 | _, _, _, _, _, true, 5, h => nomatch h
 | _, _, _, _, _, _, _ + 6, h => nomatch h
theorem r4_0 (s3 s4 s5 s6 s7 : Bool) : ∀ s1 s2 : Bool, RoundAt [false, s1, s2, s3, s4, s5, s6, s7] 0 := bb (bb (by kernel_rfl) (by kernel_rfl)) (bb (by kernel_rfl) (by kernel_rfl))
theorem r4_1 (s3 s4 s5 s6 s7 : Bool) : ∀ s0 s2 : Bool, RoundAt [s0, false, s2, s3, s4, s5, s6, s7] 1 := bb (bb (by kernel_rfl) (by kernel_rfl)) (bb (by kernel_rfl) (by kernel_rfl))
theorem r4_2 (s3 s4 s5 s6 s7 : Bool) : ∀ s0 s1 : Bool, RoundAt [s0, s1, false, s3, s4, s5, s6, s7] 2 := bb (bb (by kernel_rfl) (by kernel_rfl)) (bb (by kernel_rfl) (by kernel_rfl))
theorem r4_3 (s0 s1 s2 s6 s7 : Bool) : ∀ s4 s5 : Bool, RoundAt [s0, s1, s2, false, s4, s5, s6, s7] 3 := bb (bb (by kernel_rfl) (by kernel_rfl)) (bb (by kernel_rfl) (by kernel_rfl))
theorem r4_4 (s0 s1 s2 s6 s7 : Bool) : ∀ s3 s5 : Bool, RoundAt [s0, s1, s2, s3, false, s5, s6, s7] 4 := bb (bb (by kernel_rfl) (by kernel_rfl)) (bb (by kernel_rfl) (by kernel_rfl))
theorem r4_5 (s0 s1 s2 s6 s7 : Bool) : ∀ s3 s4 : Bool, RoundAt [s0, s1, s2, s3, s4, false, s6, s7] 5 := bb (bb (by kernel_rfl) (by kernel_rfl)) (bb (by kernel_rfl) (by kernel_rfl))
theorem r4_6 (s0 s1 s2 s3 s4 s5 : Bool) : ∀ s7 : Bool, RoundAt [s0, s1, s2, s3, s4, s5, false, s7] 6 := bb (by kernel_rfl) (by kernel_rfl)
theorem r4_7 (s0 s1 s2 s3 s4 s5 : Bool) : ∀ s6 : Bool, RoundAt [s0, s1, s2, s3, s4, s5, s6, false] 7 := bb (by kernel_rfl) (by kernel_rfl)
theorem rs4 : ∀ (s0 s1 s2 s3 s4 s5 s6 s7 : Bool) (i : Nat), [s0, s1, s2, s3, s4, s5, s6, s7][i]? = some false -> RoundAt [s0, s1, s2, s3, s4, s5, s6, s7] i
 | false, s1, s2, s3, s4, s5, s6, s7, 0, h => r4_0 s3 s4 s5 s6 s7 s1 s2
 | true, _, _, _, _, _, _, _, 0, h => nomatch h
 | s0, false, s2, s3, s4, s5, s6, s7, 1, h => r4_1 s3 s4 s5 s6 s7 s0 s2
 | _, true, _, _, _, _, _, _, 1, h => nomatch h
 | s0, s1, false, s3, s4, s5, s6, s7, 2, h => r4_2 s3 s4 s5 s6 s7 s0 s1
 | _, _, true, _, _, _, _, _, 2, h => nomatch h
 | s0, s1, s2, false, s4, s5, s6, s7, 3, h => r4_3 s0 s1 s2 s6 s7 s4 s5
 | _, _, _, true, _, _, _, _, 3, h => nomatch h
 | s0, s1, s2, s3, false, s5, s6, s7, 4, h => r4_4 s0 s1 s2 s6 s7 s3 s5
 | _, _, _, _, true, _, _, _, 4, h => nomatch h
 | s0, s1, s2, s3, s4, false, s6, s7, 5, h => r4_5 s0 s1 s2 s6 s7 s3 s4
 | _, _, _, _, _, true, _, _, 5, h => nomatch h
 | s0, s1, s2, s3, s4, s5, false, s7, 6, h => r4_6 s0 s1 s2 s3 s4 s5 s7
 | _, _, _, _, _, _, true, _, 6, h => nomatch h
 | s0, s1, s2, s3, s4, s5, s6, false, 7, h => r4_7 s0 s1 s2 s3 s4 s5 s6
 | _, _, _, _, _, _, _, true, 7, h => nomatch h
 | _, _, _, _, _, _, _, _, _ + 8, h => nomatch h
theorem r5_0 (s3 s4 s5 s6 s7 s8 s9 : Bool) : ∀ s1 s2 : Bool, RoundAt [false, s1, s2, s3, s4, s5, s6, s7, s8, s9] 0 := bb (bb (by kernel_rfl) (by kernel_rfl)) (bb (by kernel_rfl) (by kernel_rfl))
theorem r5_1 (s3 s4 s5 s6 s7 s8 s9 : Bool) : ∀ s0 s2 : Bool, RoundAt [s0, false, s2, s3, s4, s5, s6, s7, s8, s9] 1 := bb (bb (by kernel_rfl) (by kernel_rfl)) (bb (by kernel_rfl) (by kernel_rfl))
theorem r5_2 (s3 s4 s5 s6 s7 s8 s9 : Bool) : ∀ s0 s1 : Bool, RoundAt [s0, s1, false, s3, s4, s5, s6, s7, s8, s9] 2 := bb (bb (by kernel_rfl) (by kernel_rfl)) (bb (by kernel_rfl) (by kernel_rfl))
theorem r5_3 (s0 s1 s2 s6 s7 s8 s9 : Bool) : ∀ s4 s5 : Bool, RoundAt [s0, s1, s2, false, s4, s5, s6, s7, s8, s9] 3 := bb (bb (by kernel_rfl) (by kernel_rfl)) (bb (by kernel_rfl) (by kernel_rfl))
theorem r5_4 (s0 s1 s2 s6 s7 s8 s9 : Bool) : ∀ s3 s5 : Bool, RoundAt [s0, s1, s2, s3, false, s5, s6, s7, s8, s9] 4 := bb (bb (by kernel_rfl) (by kernel_rfl)) (bb (by kernel_rfl) (by kernel_rfl))
theorem r5_5 (s0 s1 s2 s6 s7 s8 s9 : Bool) : ∀ s3 s4 : Bool, RoundAt [s0, s1, s2, s3, s4, false, s6, s7, s8, s9] 5 := bb (bb (by kernel_rfl) (by kernel_rfl)) (bb (by kernel_rfl) (by kernel_rfl))
theorem r5_6 (s0 s1 s2 s3 s4 s5 s9 : Bool) : ∀ s7 s8 : Bool, RoundAt [s0, s1, s2, s3, s4, s5, false, s7, s8, s9] 6 := bb (bb (by kernel_rfl) (by kernel_rfl)) (bb (by kernel_rfl) (by kernel_rfl))
theorem r5_7 (s0 s1 s2 s3 s4 s5 s9 : Bool) : ∀ s6 s8 : Bool, RoundAt [s0, s1, s2, s3, s4, s5, s6, false, s8, s9] 7 := bb (bb (by kernel_rfl) (by kernel_rfl)) (bb (by kernel_rfl) (by kernel_rfl))
theorem r5_8 (s0 s1 s2 s3 s4 s5 s9 : Bool) : ∀ s6 s7 : Bool, RoundAt [s0, s1, s2, s3, s4, s5, s6, s7, false, s9] 8 := bb (bb (by kernel_rfl) (by kernel_rfl)) (bb (by kernel_rfl) (by kernel_rfl))
theorem r5_9 (s0 s1 s2 s3 s4 s5 s6 s7 s8 : Bool) : RoundAt [s0, s1, s2, s3, s4, s5, s6, s7, s8, false] 9 := by kernel_rfl
theorem rs5 : ∀ (s0 s1 s2 s3 s4 s5 s6 s7 s8 s9 : Bool) (i : Nat), [s0, s1, s2, s3, s4, s5, s6, s7, s8, s9][i]? = some false -> RoundAt [s0, s1, s2, s3, s4, s5, s6, s7, s8, s9] i
 | false, s1, s2, s3, s4, s5, s6, s7, s8, s9, 0, h => r5_0 s3 s4 s5 s6 s7 s8 s9 s1 s2
 | true, _, _, _, _, _, _, _, _, _, 0, h => nomatch h
 | s0, false, s2, s3, s4, s5, s6, s7, s8, s9, 1, h => r5_1 s3 s4 s5 s6 s7 s8 s9 s0 s2
 | _, true, _, _, _, _, _, _, _, _, 1, h => nomatch h
 | s0, s1, false, s3, s4, s5, s6, s7, s8, s9, 2, h => r5_2 s3 s4 s5 s6 s7 s8 s9 s0 s1
 | _, _, true, _, _, _, _, _, _, _, 2, h => nomatch h
 | s0, s1, s2, false, s4, s5, s6, s7, s8, s9, 3, h => r5_3 s0 s1 s2 s6 s7 s8 s9 s4 s5
 | _, _, _, true, _, _, _, _, _, _, 3, h => nomatch h
 | s0, s1, s2, s3, false, s5, s6, s7, s8, s9, 4, h => r5_4 s0 s1 s2 s6 s7 s8 s9 s3 s5
 | _, _, _, _, true, _, _, _, _, _, 4, h => nomatch h
 | s0, s1, s2, s3, s4, false, s6, s7, s8, s9, 5, h => r5_5 s0 s1 s2 s6 s7 s8 s9 s3 s4
 | _, _, _, _, _, true, _, _, _, _, 5, h => nomatch h
 | s0, s1, s2, s3, s4, s5, false, s7, s8, s9, 6, h => r5_6 s0 s1 s2 s3 s4 s5 s9 s7 s8
 | _, _, _, _, _, _, true, _, _, _, 6, h => nomatch h
 | s0, s1, s2, s3, s4, s5, s6, false, s8, s9, 7, h => r5_7 s0 s1 s2 s3 s4 s5 s9 s6 s8
 | _, _, _, _, _, _, _, true, _, _, 7, h => nomatch h
 | s0, s1, s2, s3, s4, s5, s6, s7, false, s9, 8, h => r5_8 s0 s1 s2 s3 s4 s5 s9 s6 s7
 | _, _, _, _, _, _, _, _, true, _, 8, h => nomatch h
 | s0, s1, s2, s3, s4, s5, s6, s7, s8, false, 9, h => r5_9 s0 s1 s2 s3 s4 s5 s6 s7 s8
 | _, _, _, _, _, _, _, _, _, true, 9, h => nomatch h
 | _, _, _, _, _, _, _, _, _, _, _ + 10, h => nomatch h
theorem rounds : ∀ (S : List Bool) (n i : Nat), 1 <= n -> n <= 5 -> S.length = 2 * n -> S[i]? = some false -> RoundAt S i
 | [s0, s1], _, i, _, _, _, h => rs1 s0 s1 i h
 | [s0, s1, s2, s3], _, i, _, _, _, h => rs2 s0 s1 s2 s3 i h
 | [s0, s1, s2, s3, s4, s5], _, i, _, _, _, h => rs3 s0 s1 s2 s3 s4 s5 i h
 | [s0, s1, s2, s3, s4, s5, s6, s7], _, i, _, _, _, h => rs4 s0 s1 s2 s3 s4 s5 s6 s7 i h
 | [s0, s1, s2, s3, s4, s5, s6, s7, s8, s9], _, i, _, _, _, h => rs5 s0 s1 s2 s3 s4 s5 s6 s7 s8 s9 i h
 | [], _, _, h0, _, hl, _ => absurd hl (by show ¬ 0 = _; omega)
 | [_], _, _, h0, _, hl, _ => absurd hl (by show ¬ 1 = _; omega)
 | [_, _, _], _, _, h0, _, hl, _ => absurd hl (by show ¬ 3 = _; omega)
 | [_, _, _, _, _], _, _, h0, _, hl, _ => absurd hl (by show ¬ 5 = _; omega)
 | [_, _, _, _, _, _, _], _, _, h0, _, hl, _ => absurd hl (by show ¬ 7 = _; omega)
 | [_, _, _, _, _, _, _, _, _], _, _, h0, _, hl, _ => absurd hl (by show ¬ 9 = _; omega)
 | _ :: _ :: _ :: _ :: _ :: _ :: _ :: _ :: _ :: _ :: _ :: r, _, _, _, h5, hl, _ => absurd hl (by show ¬ r.length + 11 = _; omega)
noncomputable def padI (n : Nat) : List Nat := match n % 3 with | 1 => [(8 * n + 5) / 6, (8 * n + 5) / 6 + 1] | 2 => [(8 * n + 5) / 6] | _ => []
noncomputable def padD (n : Nat) : List D := (padI n).map fun (x : Nat) => .int ((100 + x : Nat) : Int)
noncomputable def noS (n : Nat) : List Bool := List.replicate (2 * n) false
noncomputable def seenN : Nat -> Nat -> List Bool -> List Int
 | i, j, _ :: _ :: _ :: r => ((100 + j : Nat) : Int) :: ((200 + i : Nat) : Int) :: ((201 + i : Nat) : Int) :: (i : Int) :: ((i + 1 : Nat) : Int) :: ((101 + j : Nat) : Int) :: ((202 + i : Nat) : Int) :: ((i + 2 : Nat) : Int) :: seenN (i + 3) (j + 2) r
 | i, j, [_, _] => [((100 + j : Nat) : Int), ((200 + i : Nat) : Int), ((201 + i : Nat) : Int), (i : Int), ((i + 1 : Nat) : Int), ((101 + j : Nat) : Int), ((102 + j : Nat) : Int), ((103 + j : Nat) : Int)]
 | i, j, [_] => [((100 + j : Nat) : Int), ((200 + i : Nat) : Int), (i : Int), ((101 + j : Nat) : Int)]
 | _, _, [] => []
noncomputable def left0 (n : Nat) : Hp := .list [] :: .list [] :: .set (seenN 0 0 (noS n)) :: .dict [] (2 * (spN 0 0 (noS n)).length) :: List.replicate (spN 0 0 (noS n)).length .gone
noncomputable def stat (f : Int -> Int) (l : List (Nat × List Nat × Int)) : List (Nat × List Nat × Int) := l.map fun x => (x.1, x.2.1, f x.2.2)
noncomputable def z0 (i : Int) : Int := match i with | .negSucc _ => 0 | i => i
noncomputable def z1 (i : Int) : Int := match i with | .negSucc _ => -1 | i => i
noncomputable def rdyD (n : Nat) : List D := (List.range (2 * n)).map (fun (x : Nat) => .int (x : Int)) ++ padD n
noncomputable def SR1 (n : Nat) : Hp := KG (stat z0 (spN 0 0 (noS n))) (rdyD n) 0 0
noncomputable def SR2 (n : Nat) : Hp := KG (stat z1 (spN 0 0 (noS n))) [] ((rdyD n).length : Int) 0
noncomputable def addM (a : Int) : Nat -> Int
 | 0 => a
 | k + 1 => addM (a + 1) k
noncomputable abbrev Start1 (n : Nat) : Prop := (fun (m : Nat) (o0 o1 o2 o3 : Ob) (Q : D -> Hp -> Prop) => callN tabF (Nat.succ (Nat.succ (Nat.succ (Nat.succ m)))) 17 [.int (n : Int)] [o0, o1, o2, o3] Q) = fun m o0 o1 o2 o3 Q => Q (.ref 5) (o0 :: o1 :: o2 :: o3 :: (SR1 n ++ left0 n))
noncomputable abbrev Start2 (n : Nat) : Prop := (fun (m : Nat) (o0 o1 o2 o3 : Ob) (J : Hp) (Q : D -> Hp -> Prop) => callN tabF (Nat.succ m) 105 [.ref 5] (o0 :: o1 :: o2 :: o3 :: (SR1 n ++ J)) Q) = fun m o0 o1 o2 o3 J Q => Q (.tup (rdyD n)) (o0 :: o1 :: o2 :: o3 :: (SR2 n ++ J))
noncomputable abbrev Start3 (n : Nat) : Prop := (fun (m : Nat) (o0 o1 o2 o3 : Ob) (J : Hp) (Q : D -> Hp -> Prop) => callN tabF (Nat.succ m) 107 (.ref 5 :: padD n) (o0 :: o1 :: o2 :: o3 :: (SR2 n ++ J)) Q) = fun m o0 o1 o2 o3 J Q => Q .none (PRE o0 o1 o2 o3 (noS n) ((rdyD n).length : Int) (addM 0 (padD n).length) ++ J)
theorem st1_1 : Start1 1 := by kernel_rfl
theorem st1_2 : Start1 2 := by kernel_rfl
theorem st1_3 : Start1 3 := by kernel_rfl
theorem st1_4 : Start1 4 := by kernel_rfl
theorem st1_5 : Start1 5 := by kernel_rfl
theorem start1 : ∀ n : Nat, 1 <= n -> n <= 5 -> Start1 n
 | 1, _, _ => st1_1
 | 2, _, _ => st1_2
 | 3, _, _ => st1_3
 | 4, _, _ => st1_4
 | 5, _, _ => st1_5
 | 0, h, _ => absurd h (by decide)
 | n + 6, _, h => absurd h (by omega)
theorem st2_1 : Start2 1 := by kernel_rfl
theorem st2_2 : Start2 2 := by kernel_rfl
theorem st2_3 : Start2 3 := by kernel_rfl
theorem st2_4 : Start2 4 := by kernel_rfl
theorem st2_5 : Start2 5 := by kernel_rfl
theorem start2 : ∀ n : Nat, 1 <= n -> n <= 5 -> Start2 n
 | 1, _, _ => st2_1
 | 2, _, _ => st2_2
 | 3, _, _ => st2_3
 | 4, _, _ => st2_4
 | 5, _, _ => st2_5
 | 0, h, _ => absurd h (by decide)
 | n + 6, _, h => absurd h (by omega)
theorem st3_1 : Start3 1 := by kernel_rfl
theorem st3_2 : Start3 2 := by kernel_rfl
theorem st3_3 : Start3 3 := by kernel_rfl
theorem st3_4 : Start3 4 := by kernel_rfl
theorem st3_5 : Start3 5 := by kernel_rfl
theorem start3 : ∀ n : Nat, 1 <= n -> n <= 5 -> Start3 n
 | 1, _, _ => st3_1
 | 2, _, _ => st3_2
 | 3, _, _ => st3_3
 | 4, _, _ => st3_4
 | 5, _, _ => st3_5
 | 0, h, _ => absurd h (by decide)
 | n + 6, _, h => absurd h (by omega)
end Mine
end

section
open PySem PySem.W
namespace Mine
noncomputable def hexl (l : List Nat) : List Nat := l.flatMap fun v => [hexD (v / 16), hexD (v % 16)]
theorem hexD_lt {v : Nat} (h : v < 16) : hexD v < 128 := by unfold hexD; split <;> omega
theorem hexl_lt : ∀ {l : List Nat}, (∀ v ∈ l, v < 256) -> ∀ c ∈ hexl l, c < 128
 | [], _, _, m => nomatch m
 | v :: r, h, c, m => by
  have h0 := h v (.head _)
  rcases List.mem_cons.mp (show c ∈ hexD (v / 16) :: hexD (v % 16) :: hexl r from m) with q | m
  ·rw [q]; exact hexD_lt (by omega)
  rcases List.mem_cons.mp m with q | m
  ·rw [q]; exact hexD_lt (by omega)
  ·exact hexl_lt (fun x m => h x (.tail _ m)) c m
theorem hexS_eq {l : List Nat} (h : ∀ v ∈ l, v < 256) : (hexS (l.map fun v => v.toUInt8)).cps.toList = hexl l := by
 unfold hexS hexl
 show List.flatMap _ (l.map _) = _
 rw [List.flatMap_map]
 induction l with
 | nil => rfl
 | cons v r ih =>
  rw [List.flatMap_cons, List.flatMap_cons, ih fun x m => h x (.tail _ m), u8_nat (h v (.head _))]
theorem hexl_len : ∀ l : List Nat, (hexl l).length = 2 * l.length
 | [] => rfl
 | v :: r => by
  show (hexl r).length + 1 + 1 = 2 * (r.length + 1)
  rw [hexl_len r]
  omega
theorem ascii_hex {l : List Nat} (h : ∀ v ∈ l, v < 256) : asciiOf (hexS (l.map fun v => v.toUInt8)) = some ((hexl l).map fun v => v.toUInt8) := by
 unfold asciiOf
 rw [hexS_eq h]
 have : (hexl l).all (fun c => decide (c < 128)) = true := List.all_eq_true.mpr fun c m => decide_eq_true (hexl_lt h c m)
 rw [this]
theorem up_hex {v : Nat} (h : v < 16) : up (hexD v).toUInt8 = (hexU v).toUInt8 :=
 lt16 (P := fun v => up (hexD v).toUInt8 = (hexU v).toUInt8) (by decide +kernel) h
theorem up_hexl : ∀ {l : List Nat}, (∀ v ∈ l, v < 256) -> ((hexl l).map fun v => v.toUInt8).map up = (hex2 l).map fun v => v.toUInt8
 | [], _ => rfl
 | v :: r, h => by
  have h0 := h v (.head _)
  show up _ :: up _ :: ((hexl r).map fun v => v.toUInt8).map up = _ :: _ :: (hex2 r).map fun v => v.toUInt8
  rw [up_hexl fun x m => h x (.tail _ m), up_hex (show v / 16 < 16 by omega), up_hex (Nat.mod_lt _ (by decide))]
section
variable {m : Nat} {H : Hp} {Q : D -> Hp -> Prop} {l : List Nat}
theorem op_hex (hl : l.length <= 100) : bmD .hex (BY l) [] H = some (.str (hexS (l.map fun v => v.toUInt8)), H) := by
 show gd (decide ((l.map fun v => v.toUInt8).length <= 1000)) _ = _
 rw [List.length_map, decide_eq_true (show l.length <= 1000 by omega)]
 rfl
theorem op_enc (hv : ∀ v ∈ l, v < 256) (hl : l.length <= 100) : bmD .encode (.str (hexS (l.map fun v => v.toUInt8))) [.str (Str.ofString "ascii")] H = some (.bytes ((hexl l).map fun v => v.toUInt8), H) := by
 have e1 : (hexS (l.map fun v => v.toUInt8)).length = 2 * l.length := by
  show (hexS (l.map fun v => v.toUInt8)).cps.size = _
  rw [<- Array.length_toList, hexS_eq hv, hexl_len]
 show gd (decide _ && decide ((hexS (l.map fun v => v.toUInt8)).length <= 10000)) ((asciiOf (hexS (l.map fun v => v.toUInt8))).map _) = _
 rw [e1, ascii_hex hv, decide_eq_true (show 2 * l.length <= 10000 by omega), decide_eq_true rfl]
 rfl
theorem c7 (hm : 2 <= m) (hv : ∀ v ∈ l, v < 256) (hl : l.length <= 100) (q : Q (.bytes ((hexl l).map fun v => v.toUInt8)) H) : callN tabF m 7 [BY l, .val (.ref 109), .int 1] H Q := by
 refine call_in (k := 1) hm rfl rfl rfl fun n hn => ?_
 refine c2 hn ?_
 refine op_go (z := (.val (.type "int"), H)) rfl ?_
 refine op_go (z := false) rfl ?_
 refine op_go (z := false) rfl ?_
 refine op_go (z := false) rfl ?_
 refine op_go (z := true) rfl ?_
 refine wT_go rfl ?_
 refine op_go (op_hex hl) ?_
 refine wT_go rfl ?_
 exact op_go (op_enc hv hl) q
theorem wc12 (hm : 3 <= m) (hv : ∀ v ∈ l, v < 256) (hl : l.length <= 100) (q : Q (BY (hex2 l)) H) : callN tabF m 12 [BY l] H Q := by
 have hu : ∀ H : Hp, bmD .upper (.bytes ((hexl l).map fun v => v.toUInt8)) [] H = some (BY (hex2 l), H) := fun H => by
  show gd (decide (((hexl l).map fun v => v.toUInt8).length <= 10000)) (some (D.bytes (((hexl l).map fun v => v.toUInt8).map up), H)) = _
  rw [List.length_map, hexl_len, up_hexl hv, decide_eq_true (show 2 * l.length <= 10000 by omega)]
  rfl
 refine call_in (k := 2) hm rfl rfl rfl fun n hn => ?_
 refine c7 hn hv hl ?_
 refine wT_go rfl ?_
 exact op_go (hu H) q
end
end Mine
end

section
open PySem PySem.W
namespace Mine
noncomputable def pk : List Nat -> List Nat
 | a :: b :: r => (16 * a + b) :: pk r
 | _ => []
noncomputable def sx : List Nat -> List Nat
 | a :: b :: c :: r => (4 * a + b / 4) :: (16 * (b % 4) + c) :: sx r
 | [a, b] => [4 * a + b / 4, 16 * (b % 4)]
 | [a] => [4 * a]
 | [] => []
noncomputable def padn (n : Nat) : Nat := match n % 6 with | 2 => 2 | 4 => 1 | _ => 0
noncomputable def Dig (l : List Nat) : Prop := ∀ v ∈ l, v < 16
theorem Dig.tl {a : Nat} {l : List Nat} (h : Dig (a :: l)) : a < 16 /\ Dig l := ⟨h a (.head _), fun v m => h v (.tail _ m)⟩
theorem Dig.cons {a : Nat} {l : List Nat} (h : a < 16) (t : Dig l) : Dig (a :: l) := fun v m => by
 cases m with
 | head => exact h
 | tail _ m => exact t v m
theorem pk_len : ∀ l : List Nat, (pk l).length = l.length / 2
 | [] => rfl
 | [_] => show (0 : Nat) = 1 / 2 from rfl
 | a :: b :: r => by
  show (pk r).length + 1 = (r.length + 2) / 2
  rw [pk_len r, Nat.add_div_right _ (by decide)]
section
variable {L B C a b c d e f k n x y z : Nat}
theorem dv (hk : 0 < k) : (x * k + y) / k = x + y / k := by rw [Nat.mul_comm, Nat.mul_add_div hk]
theorem md : (x * k + y) % k = y % k := by rw [Nat.mul_comm, Nat.mul_add_mod]
theorem mm (hy : y < k) : (x * k + y) % (k * n) = x % n * k + y := by rw [Nat.mod_mul, md, Nat.mod_eq_of_lt hy, dv (Nat.zero_lt_of_lt hy), Nat.div_eq_of_lt hy, Nat.add_zero, Nat.mul_comm, Nat.add_comm]
theorem sp (x p q : Nat) : x * (p * q) = x * p * q := (Nat.mul_assoc x p q).symm
theorem dl (m : Nat) (h : x < m * k) : x / m < k := Nat.div_lt_of_lt_mul h
theorem m3 : (B * 256 + C) % 64 = C % 64 := by rw [show B * 256 = B * 4 * 64 from sp B 4 64, md]
theorem m5 : (B * 256 + C) % 16 = C % 16 := by rw [show B * 256 = B * 16 * 16 from sp B 16 16, md]
theorem m1 (hC : C < 256) : (B * 256 + C) / 16 % 64 = B % 4 * 16 + C / 16 := by
 rw [show B * 256 = B * 16 * 16 from sp B 16 16, dv (by decide)]
 exact mm (n := 4) (dl 16 hC)
theorem m2 (hC : C < 256) : (B * 256 + C) / 64 % 64 = B % 16 * 4 + C / 64 := by
 rw [show B * 256 = B * 4 * 64 from sp B 4 64, dv (by decide)]
 exact mm (n := 16) (dl 64 hC)
theorem m0 (hB : B < 256) : (L * 256 + B) % 65536 / 4 % 64 = B / 4 := by
 rw [show (65536 : Nat) = 4 * 16384 from rfl, Nat.mod_mul_right_div_self, Nat.mod_mod_of_dvd _ (show 64 ∣ 16384 from ⟨256, rfl⟩), show L * 256 = L * 64 * 4 from sp L 64 4, dv (by decide), md, Nat.mod_eq_of_lt (dl 4 hB)]
theorem m4 : (L * 256 + B) % 65536 % 4 = B % 4 := by rw [Nat.mod_mod_of_dvd _ (show 4 ∣ 65536 from ⟨16384, rfl⟩), show L * 256 = L * 64 * 4 from sp L 64 4, md]
theorem nx (hB : B < 256) (hC : C < 256) : ((L * 256 + B) % 65536 * 256 + C) % 65536 = B * 256 + C := by
 rw [show (65536 : Nat) = 256 * 256 from rfl, mm hC, Nat.mod_mod_of_dvd _ (show 256 ∣ 256 * 256 from ⟨256, rfl⟩), md, Nat.mod_eq_of_lt hB]
theorem byt (ha : a < 16) (hb : b < 16) : 16 * a + b < 256 := by omega
theorem f4 : 16 * a = 4 * a * 4 := by rw [Nat.mul_assoc, Nat.mul_comm a 4, <- Nat.mul_assoc]
theorem q0 : (16 * a + b) / 4 = 4 * a + b / 4 := by rw [f4, dv (by decide)]
theorem e4 : (16 * a + b) % 4 = b % 4 := by rw [f4, md]
theorem e16 (hb : b < 16) : (16 * a + b) % 16 = b := by rw [Nat.mul_add_mod, Nat.mod_eq_of_lt hb]
theorem h16 (hb : b < 16) : (16 * a + b) / 16 = a := by rw [Nat.mul_add_div (by decide), Nat.div_eq_of_lt hb, Nat.add_zero]
theorem q1 (hd : d < 16) : (16 * a + b) % 4 * 16 + (16 * c + d) / 16 = 16 * (b % 4) + c := by rw [e4, h16 hd, Nat.mul_comm]
theorem q2 (hb : b < 16) (hd : d < 16) : (16 * a + b) % 16 * 4 + (16 * c + d) / 64 = 4 * b + c / 4 := by
 rw [e16 hb, show (64 : Nat) = 16 * 4 from rfl, <- Nat.div_div_eq_div_mul, h16 hd, Nat.mul_comm]
theorem q3 (hb : b < 16) : (16 * a + b) % 64 = 16 * (a % 4) + b := by
 rw [Nat.mul_comm 16 a, Nat.mul_comm 16]
 exact mm (n := 4) hb
theorem q4 : (16 * a + b) % 4 * 16 = 16 * (b % 4) := by rw [e4, Nat.mul_comm]
theorem q5 (hb : b < 16) : (16 * a + b) % 16 * 4 = 4 * b := by rw [e16 hb, Nat.mul_comm]
theorem d0 : (4 * a + b / 4) * 4 + b % 4 = 16 * a + b := by rw [Nat.add_mul, Nat.add_assoc, Nat.mul_comm (b / 4), Nat.div_add_mod, <- f4]
theorem d1 (hc : c < 16) : (4 * a + b / 4) * 4 + (16 * (b % 4) + c) / 16 = 16 * a + b := by rw [h16 hc, d0]
theorem d2 (hc : c < 16) (he : e < 16) : (16 * (b % 4) + c) % 16 * 16 + (4 * d + e / 4) / 4 = 16 * c + d := by
 rw [e16 hc, Nat.mul_add_div (by decide), Nat.div_eq_of_lt (dl 4 he), Nat.add_zero, Nat.mul_comm]
theorem d3 (he : e < 16) : (4 * d + e / 4) % 4 * 64 + (16 * (e % 4) + f) = 16 * e + f := by
 rw [Nat.mul_add_mod, Nat.mod_eq_of_lt (dl 4 he), <- Nat.add_assoc, Nat.mul_comm (e / 4), show (64 : Nat) = 16 * 4 from rfl, Nat.mul_assoc, <- Nat.mul_add, Nat.div_add_mod]
end
theorem pk_lt : ∀ {l : List Nat}, Dig l -> ∀ v ∈ pk l, v < 256
 | [], _, v, m => nomatch m
 | [_], _, v, m => nomatch m
 | a :: b :: r, h, v, m => by
  rcases List.mem_cons.mp (show v ∈ (16 * a + b) :: pk r from m) with e | m
  ·rw [e]; exact byt h.tl.1 h.tl.2.tl.1
  ·exact pk_lt h.tl.2.tl.2 v m
theorem hex2_pk : ∀ {l : List Nat}, l.length % 2 = 0 -> Dig l -> hex2 (pk l) = l.map hexU
 | [], _, _ => rfl
 | [_], h, _ => absurd h (show ¬ 1 % 2 = 0 by decide)
 | a :: b :: r, h, hd => by
  show hexU ((16 * a + b) / 16) :: hexU ((16 * a + b) % 16) :: hex2 (pk r) = hexU a :: hexU b :: r.map hexU
  rw [hex2_pk (by rw [<- Nat.add_mod_right r.length 2]; exact h) hd.tl.2.tl.2, h16 hd.tl.2.tl.1, e16 hd.tl.2.tl.1]
theorem padn6 (n : Nat) : padn (n + 6) = padn n := by unfold padn; rw [Nat.add_mod_right]
theorem ev6 {n : Nat} (h : (n + 6) % 2 = 0) : n % 2 = 0 := by omega
theorem b2a_pk : ∀ (D : List Nat) (L : Nat), D.length % 2 = 0 -> Dig D ->
  (b2aF (pk D) 0 L).1.map b64 ++ b2aT (b2aF (pk D) 0 L).2.1 (b2aF (pk D) 0 L).2.2 = (sx D).map b64 ++ List.replicate (padn D.length) 61
 | [], L, _, _ => rfl
 | [_], _, h, _ => absurd h (show ¬ 1 % 2 = 0 by decide)
 | [a, b], L, _, hd => by
  obtain ⟨ha, hd⟩ := hd.tl
  obtain ⟨hb, hd⟩ := hd.tl
  show b64 ((L * 256 + (16 * a + b)) % 65536 / 4 % 64) :: b64 ((L * 256 + (16 * a + b)) % 65536 % 4 * 16) :: 61 :: 61 :: [] = b64 (4 * a + b / 4) :: b64 (16 * (b % 4)) :: 61 :: 61 :: []
  rw [m0 (byt ha hb), m4, q0, q4]
 | [_, _, _], _, h, _ => absurd h (show ¬ 3 % 2 = 0 by decide)
 | [a, b, c, d], L, _, hd => by
  obtain ⟨ha, hd⟩ := hd.tl
  obtain ⟨hb, hd⟩ := hd.tl
  obtain ⟨hc, hd⟩ := hd.tl
  obtain ⟨hd', hd⟩ := hd.tl
  show b64 ((L * 256 + (16 * a + b)) % 65536 / 4 % 64) :: b64 (((L * 256 + (16 * a + b)) % 65536 * 256 + (16 * c + d)) % 65536 / 16 % 64) :: b64 (((L * 256 + (16 * a + b)) % 65536 * 256 + (16 * c + d)) % 65536 % 16 * 4) :: 61 :: [] =
   b64 (4 * a + b / 4) :: b64 (16 * (b % 4) + c) :: b64 (4 * d) :: 61 :: []
  rw [nx (byt ha hb) (byt hc hd'), m0 (byt ha hb), m1 (byt hc hd'), m5, q0, q1 hd', q5 hd']
 | [_, _, _, _, _], _, h, _ => absurd h (show ¬ 5 % 2 = 0 by decide)
 | a :: b :: c :: d :: e :: f :: r, L, h, hd => by
  obtain ⟨ha, hd⟩ := hd.tl
  obtain ⟨hb, hd⟩ := hd.tl
  obtain ⟨hc, hd⟩ := hd.tl
  obtain ⟨hd', hd⟩ := hd.tl
  obtain ⟨he, hd⟩ := hd.tl
  obtain ⟨hf, hd⟩ := hd.tl
  have ih := b2a_pk r ((((L * 256 + (16 * a + b)) % 65536 * 256 + (16 * c + d)) % 65536 * 256 + (16 * e + f)) % 65536) (ev6 h) hd
  rw [show padn (a :: b :: c :: d :: e :: f :: r).length = padn r.length from padn6 _]
  show b64 ((L * 256 + (16 * a + b)) % 65536 / 4 % 64) :: b64 (((L * 256 + (16 * a + b)) % 65536 * 256 + (16 * c + d)) % 65536 / 16 % 64) ::
   b64 ((((L * 256 + (16 * a + b)) % 65536 * 256 + (16 * c + d)) % 65536 * 256 + (16 * e + f)) % 65536 / 64 % 64) :: b64 ((((L * 256 + (16 * a + b)) % 65536 * 256 + (16 * c + d)) % 65536 * 256 + (16 * e + f)) % 65536 % 64) ::
   ((b2aF (pk r) 0 ((((L * 256 + (16 * a + b)) % 65536 * 256 + (16 * c + d)) % 65536 * 256 + (16 * e + f)) % 65536)).1.map b64 ++ b2aT (b2aF (pk r) 0 ((((L * 256 + (16 * a + b)) % 65536 * 256 + (16 * c + d)) % 65536 * 256 + (16 * e + f)) % 65536)).2.1 (b2aF (pk r) 0 ((((L * 256 + (16 * a + b)) % 65536 * 256 + (16 * c + d)) % 65536 * 256 + (16 * e + f)) % 65536)).2.2) =
   b64 (4 * a + b / 4) :: b64 (16 * (b % 4) + c) :: b64 (4 * d + e / 4) :: b64 (16 * (e % 4) + f) :: ((sx r).map b64 ++ _)
  rw [ih, nx (byt hc hd') (byt he hf), nx (byt ha hb) (byt hc hd'), m0 (byt ha hb), m1 (byt hc hd'), m2 (byt he hf), m3, q0, q1 hd', q2 hd' hf, q3 hf]
theorem x0 {a b : Nat} (ha : a < 16) (hb : b < 16) : 4 * a + b / 4 < 64 := by have := dl (k := 4) 4 hb; omega
theorem x1 {b c : Nat} (hc : c < 16) : 16 * (b % 4) + c < 64 := by have := Nat.mod_lt b (show 4 > 0 by decide); omega
theorem fa {P : Nat -> Prop} {x : Nat} {l : List Nat} (h : P x) (t : ∀ v ∈ l, P v) : ∀ v ∈ x :: l, P v := fun v m => by
 cases m with
 | head => exact h
 | tail _ m => exact t v m
theorem sx_lt : ∀ {D : List Nat}, Dig D -> ∀ v ∈ sx D, v < 64
 | [], _ => fun _ m => nomatch m
 | [a], h => fa (x0 (b := 0) h.tl.1 (by decide)) fun _ m => nomatch m
 | [a, b], h => fa (x0 h.tl.1 h.tl.2.tl.1) (fa (x1 (c := 0) (by decide)) fun _ m => nomatch m)
 | a :: b :: c :: r, h => fa (x0 h.tl.1 h.tl.2.tl.1) (fa (x1 h.tl.2.tl.2.tl.1) (sx_lt h.tl.2.tl.2.tl.2))
noncomputable def tr (a b v : Nat) : Nat := if v = 62 then a else if v = 63 then b else b64 v
noncomputable def txt (a b : Nat) (D : List Nat) : List Nat := (sx D).map (tr a b) ++ List.replicate (padn D.length) 61
noncomputable def Sg (c : Nat) : Prop := c < 256 /\ c ≠ 61 /\ ∀ v, v < 62 -> b64 v ≠ c
theorem b64_tab : ((List.range 64).all fun v => (decide (v = 62) || b64 v != 43) && (decide (v = 63) || b64 v != 47) && b64 v != 61 && (List.range 64).all fun w => decide (v = w) || b64 v != b64 w) = true := by decide +kernel
theorem b64_ne {v : Nat} (h : v < 64) : (v ≠ 62 -> b64 v ≠ 43) /\ (v ≠ 63 -> b64 v ≠ 47) /\ b64 v ≠ 61 /\ ∀ w, w < 64 -> v ≠ w -> b64 v ≠ b64 w := by
 have := List.all_eq_true.mp b64_tab v (List.mem_range.mpr h)
 simp only [Bool.and_eq_true, Bool.or_eq_true, decide_eq_true_eq, bne_iff_ne, List.all_eq_true, List.mem_range] at this
 obtain ⟨⟨⟨h1, h2⟩, h3⟩, h4⟩ := this
 exact ⟨fun n => h1.resolve_left n, fun n => h2.resolve_left n, h3, fun w hw n => (h4 w hw).resolve_left n⟩
theorem tr_inj {a b : Nat} (ha : Sg a) (hb : Sg b) (hab : a ≠ b) {v w : Nat} (hv : v < 64) (hw : w < 64) (e : tr a b v = tr a b w) : v = w := by
 unfold tr at e
 apply Decidable.byContradiction
 intro n
 have h1 := (b64_ne hv).2.2.2 w hw n
 split at e
 ·split at e
  ·omega
  ·split at e
   ·exact hab e
   ·exact ha.2.2 w (by omega) e.symm
 ·split at e
  ·split at e
   ·exact hab e.symm
   ·split at e
    ·omega
    ·exact hb.2.2 w (by omega) e.symm
  ·split at e
   ·exact ha.2.2 v (by omega) e
   ·split at e
    ·exact hb.2.2 v (by omega) e
    ·exact h1 e
theorem tr_lt {a b : Nat} (ha : Sg a) (hb : Sg b) (v : Nat) : tr a b v < 256 := by
 unfold tr
 split
 ·exact ha.1
 ·split
  ·exact hb.1
  ·exact b64_lt v
theorem tr_61 {a b : Nat} (ha : Sg a) (hb : Sg b) {v : Nat} (h : v < 64) : tr a b v ≠ 61 := by
 unfold tr
 split
 ·exact ha.2.1
 ·split
  ·exact hb.2.1
  ·exact (b64_ne h).2.2.1
theorem txt_lt {a b : Nat} (ha : Sg a) (hb : Sg b) {D : List Nat} : ∀ v ∈ txt a b D, v < 256 := by
 intro v m
 rcases List.mem_append.mp m with m | m
 ·obtain ⟨x, _, rfl⟩ := List.mem_map.mp m
  exact tr_lt ha hb x
 ·rw [(List.mem_replicate.mp m).2]
  decide
theorem tab_get {p q x y c : Nat} (hp : p < 256) (hq : q < 256) (hx : x < 256) (hy : y < 256) (hc : c < 256) :
  (table256 [p.toUInt8, q.toUInt8] [x.toUInt8, y.toUInt8]).getD c.toUInt8.toNat 0 = (if c = q then y else if c = p then x else c).toUInt8 := by
 unfold table256
 simp only [List.zip_cons_cons, List.zip_nil_left, List.foldl_cons, List.foldl_nil, u8_nat hp, u8_nat hq, u8_nat hc]
 rw [List.getD_eq_getElem?_getD]
 by_cases e : c = q
 ·subst e
  rw [List.getElem?_set_self (by simp [hc])]
  simp
 ·rw [List.getElem?_set_ne (fun h => e h.symm)]
  by_cases e2 : c = p
  ·subst e2
   rw [List.getElem?_set_self (by simp [hc])]
   simp [e]
  ·rw [List.getElem?_set_ne (fun h => e2 h.symm)]
   simp [e, e2, hc]
theorem tab_len {p q x y : UInt8} : (table256 [p, q] [x, y]).length = 256 := by
 unfold table256
 simp only [List.zip_cons_cons, List.zip_nil_left, List.foldl_cons, List.foldl_nil, List.length_set, List.length_map, List.length_range]
theorem translate_ok {p q x y : Nat} (hp : p < 256) (hq : q < 256) (hx : x < 256) (hy : y < 256) {l l2 : List Nat} (hl : ∀ v ∈ l, v < 256) (hn : l.length <= 1000) (e : l.map (fun c => if c = q then y else if c = p then x else c) = l2) (H : Hp) :
  bmD .translate (BY l) [.bytes (table256 [p.toUInt8, q.toUInt8] [x.toUInt8, y.toUInt8])] H = some (BY l2, H) := by
 subst e
 show gd (decide ((table256 [p.toUInt8, q.toUInt8] [x.toUInt8, y.toUInt8]).length = 256) && decide ((l.map fun v => v.toUInt8).length <= 10000)) (some (D.bytes ((l.map fun v => v.toUInt8).map fun c => (table256 [p.toUInt8, q.toUInt8] [x.toUInt8, y.toUInt8]).getD c.toNat 0), H)) = _
 rw [tab_len, List.length_map, decide_eq_true (show l.length <= 10000 by omega), List.map_map]
 show some (D.bytes _, H) = some (D.bytes _, H)
 rw [List.map_map]
 congr 3
 apply List.map_congr_left
 intro v m
 exact tab_get hp hq hx hy (hl v m)
end Mine
end

section
open PySem PySem.W
namespace Mine
theorem sx_len : ∀ D : List Nat, (sx D).length <= D.length
 | [] => Nat.le_refl _
 | [_] => Nat.le_refl _
 | [_, _] => Nat.le_refl _
 | a :: b :: c :: r => Nat.le_succ_of_le (Nat.succ_le_succ (Nat.succ_le_succ (sx_len r)))
theorem padn_le (n : Nat) : padn n <= 2 := by unfold padn; split <;> omega
theorem txt_len {a b : Nat} {D : List Nat} : (txt a b D).length <= D.length + 2 := by
 have := sx_len D
 have := padn_le D.length
 unfold txt
 rw [List.length_append, List.length_map, List.length_replicate]
 exact Nat.add_le_add ‹_› ‹_›
theorem b64_62 : b64 62 = 43 := by decide +kernel
theorem b64_63 : b64 63 = 47 := by decide +kernel
theorem enc_map {a b : Nat} {D : List Nat} (hd : Dig D) :
  ((sx D).map b64 ++ List.replicate (padn D.length) 61).map (fun c => if c = 47 then b else if c = 43 then a else c) = txt a b D := by
 unfold txt
 rw [List.map_append, List.map_map, List.map_replicate]
 congr 1
 apply List.map_congr_left
 intro v m
 have hv := sx_lt hd v m
 have h := b64_ne hv
 simp only [Function.comp]
 unfold tr
 by_cases h1 : v = 62
 ·subst h1
  rw [b64_62]
  rfl
 ·by_cases h2 : v = 63
  ·subst h2
   rw [b64_63]
   rfl
  ·rw [if_neg h1, if_neg h2, if_neg (h.2.1 h2), if_neg (h.1 h1)]
theorem dec_map {a b : Nat} (ha : Sg a) (hb : Sg b) (hab : a ≠ b) {D : List Nat} (hd : Dig D) :
  (txt a b D).map (fun c => if c = b then 47 else if c = a then 43 else c) = (sx D).map b64 ++ List.replicate (padn D.length) 61 := by
 unfold txt
 rw [List.map_append, List.map_map, List.map_replicate, if_neg (Ne.symm hb.2.1), if_neg (Ne.symm ha.2.1)]
 congr 1
 apply List.map_congr_left
 intro v m
 have hv := sx_lt hd v m
 have h := b64_ne hv
 simp only [Function.comp]
 unfold tr
 by_cases h1 : v = 62
 ·subst h1
  rw [b64_62, if_pos rfl, if_neg hab, if_pos rfl]
 ·by_cases h2 : v = 63
  ·subst h2
   simp [b64_63]
  ·rw [if_neg h1, if_neg h2, if_neg (hb.2.2 v (by omega)), if_neg (ha.2.2 v (by omega))]
theorem wc10 {m : Nat} (hm : 3 <= m) {a b : Nat} (ha : Sg a) (hb : Sg b) {w : List Nat} {H : Hp} {Q : D -> Hp -> Prop} (hd : Dig w) (he : w.length % 2 = 0) (hl : w.length <= 100)
  (q : ∀ o, Q (BY (txt a b w)) (H ++ [o])) : callN tabF m 10 [BY (pk w), BY [a, b]] H Q := by
 refine call_in (k := 2) hm rfl rfl rfl fun n hn => ?_
 have e1 : b2a (pk w) = (sx w).map b64 ++ List.replicate (padn w.length) 61 := by unfold b2a; exact b2a_pk w 0 he hd
 refine wc6 hn (pk_lt hd) (by rw [pk_len]; omega) ?_
 rw [e1]
 refine op_go (z := true) rfl ?_
 refine op_go (z := (.int 2, _)) rfl ?_
 refine op_eqI (c := true) rfl ?_
 refine wT_go rfl ?_
 refine wT_go rfl ?_
 refine op_go (z := (.bytes (table256 [(43 : Nat).toUInt8, (47 : Nat).toUInt8] [a.toUInt8, b.toUInt8]), _)) rfl ?_
 refine op_go (translate_ok (l2 := txt a b w) (by decide) (by decide) ha.1 hb.1 ?_ ?_ (enc_map hd) _) (q _)
 ·intro v m
  rcases List.mem_append.mp m with m | m
  ·obtain ⟨x, _, rfl⟩ := List.mem_map.mp m
   exact b64_lt x
  ·rw [(List.mem_replicate.mp m).2]
   decide
 ·have := sx_len w
  have := padn_le w.length
  rw [List.length_append, List.length_map, List.length_replicate]
  omega
noncomputable def fillL : List Bool -> List Nat -> List Nat -> List Nat
 | s :: S, x :: t, y :: o => (if s then x else y) :: fillL S t o
 | _, _, _ => []
theorem fill_len : ∀ {S : List Bool} {t o : List Nat}, t.length = S.length -> o.length = S.length -> (fillL S t o).length = S.length
 | [], _, _, _, _ => rfl
 | _ :: _, _ :: _, _ :: _, h1, h2 => congrArg (· + 1) (fill_len (Nat.succ.inj h1) (Nat.succ.inj h2))
theorem fill_at : ∀ {S : List Bool} {t o : List Nat} {i x y : Nat} {s : Bool}, S[i]? = some s -> t[i]? = some x -> o[i]? = some y -> (fillL S t o)[i]? = some (if s then x else y)
 | _ :: _, _ :: _, _ :: _, 0, _, _, _, h1, h2, h3 => by
  rw [<- Option.some.inj h1, <- Option.some.inj h2, <- Option.some.inj h3]
  rfl
 | _ :: S, _ :: t, _ :: o, i + 1, _, _, _, h1, h2, h3 => fill_at (S := S) (t := t) (o := o) (i := i) h1 h2 h3
theorem fill_mem {P : Nat -> Prop} : ∀ {S : List Bool} {t o : List Nat}, (∀ v ∈ t, P v) -> (∀ v ∈ o, P v) -> ∀ v ∈ fillL S t o, P v
 | [], _, _, _, _, v, m => nomatch m
 | _ :: _, [], _, _, _, v, m => nomatch m
 | _ :: _, _ :: _, [], _, _, v, m => nomatch m
 | s :: S, x :: t, y :: o, h1, h2, v, m => by
  rcases List.mem_cons.mp (show v ∈ (if s then x else y) :: fillL S t o from m) with e | m
  ·rw [e]
   cases s
   ·exact h2 _ (.head _)
   ·exact h1 _ (.head _)
  ·exact fill_mem (fun v m => h1 v (.tail _ m)) (fun v m => h2 v (.tail _ m)) v m
theorem fm_range {g : D -> Option D} {l : List D} (h : ∀ (i : Nat) x, l[i]? = some x -> g (.int (i : Int)) = some x) : (rangeL (l.length : Int)).filterMap g = l := by
 have : ∀ (k : Nat) (l : List D), (∀ (i : Nat) x, l[i]? = some x -> g (.int ((k + i : Nat) : Int)) = some x) -> ((List.range' k l.length).map fun (i : Nat) => D.int (i : Int)).filterMap g = l := by
  intro k l
  induction l generalizing k with
  | nil => intro _; rfl
  | cons x r ih =>
   intro h
   have h0 : g (.int (k : Int)) = some x := h 0 x rfl
   rw [List.length_cons, List.range'_succ, List.map_cons, List.filterMap_cons, h0]
   dsimp only
   rw [ih (k + 1) fun i y e => by rw [show k + 1 + i = k + (i + 1) by omega]; exact h (i + 1) y e]
 unfold rangeL
 rw [Int.toNat_natCast, List.range_eq_range']
 refine this 0 l fun i x e => ?_
 rw [Nat.zero_add]
 exact h i x e
theorem range_len (n : Nat) : (rangeL (n : Int)).length = n := by unfold rangeL; rw [List.length_map, List.length_range, Int.toNat_natCast]
theorem range_mem {n : Nat} {d : D} (h : d ∈ rangeL (n : Int)) : ∃ i : Nat, i < n /\ d = .int (i : Int) := by
 unfold rangeL at h
 obtain ⟨i, hi, rfl⟩ := List.mem_map.mp h
 rw [Int.toNat_natCast] at hi
 exact ⟨i, List.mem_range.mp hi, rfl⟩
theorem wc18 {m : Nat} (hm : 1 <= m) {S : List Bool} {t o : List Nat} {kd : D} {H : Hp} {Q : D -> Hp -> Prop} (ht : t.length = S.length) (ho : o.length = S.length) (hl : S.length <= 100)
  (ht2 : ∀ v ∈ t, v < 256) (ho2 : ∀ v ∈ o, v < 256) (hk : ∀ (i : Nat) s, S[i]? = some s -> cmpD H .inn (.int (i : Int)) kd = some s) (q : Q (BY (fillL S t o)) H) : callN tabF m 18 [BY t, kd, BY o] H Q := by
 refine call_in (k := 0) hm rfl rfl rfl fun n hn => ?_
 have ht1 : t.length <= 1000 := by omega
 have hf := fill_len ht ho
 refine op_go (by_len ht1 H) ?_
 refine comp_pure (fun d => dI d fun i => (nats (fillL S t o))[i.toNat]?) (range_nx ht1) (range1_items ht1) (by rw [range_len]; exact Nat.le_trans ht1 (by decide)) (fun d md Kf Kt h => ?_) ?_
 ·obtain ⟨i, hi, rfl⟩ := range_mem md
  obtain ⟨x, hx⟩ : ∃ x, t[i]? = some x := ⟨_, List.getElem?_eq_getElem hi⟩
  obtain ⟨y, hy⟩ : ∃ y, o[i]? = some y := ⟨_, List.getElem?_eq_getElem (by omega)⟩
  obtain ⟨s, hs⟩ : ∃ s, S[i]? = some s := ⟨_, List.getElem?_eq_getElem (by omega)⟩
  have hfa := fill_at hs hx hy
  have hg : (dI (D.int (i : Int)) fun i => (nats (fillL S t o))[i.toNat]?) = some (.int ((if s then x else y : Nat) : Int)) := by
   show (nats (fillL S t o))[(i : Int).toNat]? = _
   rw [Int.toNat_natCast]
   unfold nats
   rw [List.getElem?_map, hfa]
   rfl
  rw [hg] at h
  refine op_go rfl ?_
  refine op_go (hk i s hs) ?_
  cases s with
  | false => exact op_go (sub_by' hy (ho2 _ (List.mem_of_getElem? hy)) (by omega)) h
  | true => exact op_go (sub_by' hx (ht2 _ (List.mem_of_getElem? hx)) (by omega)) h
 ·have e : (t.length : Int) = ((nats (fillL S t o)).length : Int) := by rw [nats_len, hf, ht]
  rw [e, fm_range fun i x h => by show (nats (fillL S t o))[(i : Int).toNat]? = _; rw [Int.toNat_natCast]; exact h]
  refine op_go (z := (BY (fillL S t o), H)) ?_ q
  show (bytesOf (nats (fillL S t o))).map (·, H) = _
  rw [bytesOf_ints (l := fillL S t o) (fill_mem ht2 ho2) (by omega)]
  rfl
end Mine
end

section
open PySem PySem.W
namespace Mine
noncomputable def dOut (q lc v : Nat) : List Nat := match q with | 0 => [] | 1 => [lc * 4 + v / 16] | 2 => [lc * 16 + v / 4] | _ => [lc * 64 + v]
noncomputable def dLc (q v : Nat) : Nat := match q with | 0 => v | 1 => v % 16 | 2 => v % 4 | _ => 0
noncomputable def dQ (q : Nat) : Nat := match q with | 0 => 1 | 1 => 2 | 2 => 3 | _ => 0
noncomputable def decB : List Stm := match fn5.body with
 | _ :: _ :: _ :: _ :: _ :: _ :: _ :: .for_ _ _ _ b :: _ => b
 | _ => []
theorem c4_all {v : Nat} (hv : v < 64) {m : Nat} (hm : 1 <= m) {H : Hp} {Q : D -> Hp -> Prop} (q : Q (.int (v : Int)) H) : callN tabF m 4 [.int (b64 v : Int)] H Q := by
 cases m with
 | zero => exact absurd hm (by decide)
 | succ n =>
  have h : (List.range 64).map (fun v => callN tabF (n + 1) 4 [.int (b64 v : Int)] H Q) = (List.range 64).map (fun (v : Nat) => Q (.int (v : Int)) H) := by kernel_rfl
  have h2 := congrArg (fun l => l[v]?) h
  rw [List.getElem?_map, List.getElem?_map, List.getElem?_range hv, Option.map_some, Option.map_some, Option.some.injEq] at h2
  exact h2 ▸ q
theorem or_low {a b k : Nat} (h : b < 2 ^ k) : a * 2 ^ k ||| b = a * 2 ^ k + b := by
 have := Nat.two_pow_add_eq_or_of_lt h a
 rw [Nat.mul_comm] at this
 exact this.symm
theorem orI {a b k v : Nat} (h : b < 2 ^ k) (e : a * 2 ^ k + b = v) : Builtin.bitOr ((a * 2 ^ k : Nat) : Int) (b : Int) = (v : Int) := by rw [bor_nat, or_low h, e]
theorem dec_turn {c : Nat} (hc : 1 <= c) {d0 d2 : Option D} {k q lc v i : Nat} {H : Hp} {out : List Nat} (hk : H[k]? = some (.list (nats out))) (hl : out.length <= 200) (hq : q < 4) (hlc : lc < 64) (hv : v < 64) {Q : Fl -> Lo -> Hp -> Prop}
  (h : Q .next [d0, some (.bool true), d2, some (.ref k), some (.int (dQ q : Int)), some (.int (dLc q v : Int)), some (.int 0), some (.int ((i + 1 : Nat) : Int)), some (.int (v : Int))] (H.set k (.list (nats (out ++ dOut q lc v))))) :
  exs (fnsN (callN tabF c) 29) decB [d0, some (.bool true), d2, some (.ref k), some (.int (q : Int)), some (.int (lc : Int)), some (.int 0), some (.int (i : Int)), some (.int (b64 v : Int))] H Q := by
 have h64 := b64_ne hv
 refine op_eqI (c := false) (beq_eq_false_iff_ne.mpr (by have := h64.2.2.1; omega)) ?_
 refine c4_all hv hc ?_
 refine op_ge (c := false) (decide_eq_false (by omega)) ?_
 refine op_go (z := false) rfl ?_
 have hq : q = 0 \/ q = 1 \/ q = 2 \/ q = 3 := by omega
 rcases hq with rfl | rfl | rfl | rfl
 ·refine op_eqI (c := true) rfl ?_
  rw [show dOut 0 lc v = [] from rfl, List.append_nil, set_id hk] at h
  exact h
 ·refine op_eqI (c := false) rfl ?_
  refine op_eqI (c := true) rfl ?_
  refine wT_go (bmK_app hk) ?_
  refine op_shlI (k := 2) rfl rfl (by omega) (by decide) ?_
  refine op_shrI (k := 4) rfl rfl ?_
  refine op_appN hk (by omega) (orI (by omega) rfl) ?_
  rw [show ((dLc 1 v : Nat) : Int) = Builtin.bitAnd (v : Int) 15 from (mask (k := 4) rfl).symm] at h
  exact h
 ·refine op_eqI (c := false) rfl ?_
  refine op_eqI (c := false) rfl ?_
  refine op_eqI (c := true) rfl ?_
  refine wT_go (bmK_app hk) ?_
  refine op_shlI (k := 4) rfl rfl (by omega) (by decide) ?_
  refine op_shrI (k := 2) rfl rfl ?_
  refine op_appN hk (by omega) (orI (by omega) rfl) ?_
  rw [show ((dLc 2 v : Nat) : Int) = Builtin.bitAnd (v : Int) 3 from (mask (k := 2) rfl).symm] at h
  exact h
 ·refine op_eqI (c := false) rfl ?_
  refine op_eqI (c := false) rfl ?_
  refine op_eqI (c := false) rfl ?_
  refine wT_go (bmK_app hk) ?_
  refine op_shlI (k := 6) rfl rfl (by omega) (by decide) ?_
  refine op_appN hk (by omega) (orI (by omega) rfl) ?_
  exact h
theorem dec_pad {c : CallF} {d0 d2 : Option D} {k q lc p i : Nat} {H : Hp} (hq : 2 <= q) (hp : q + p + 1 <= 4) {Q : Fl -> Lo -> Hp -> Prop}
  (h : Q .cont [d0, some (.bool true), d2, some (.ref k), some (.int (q : Int)), some (.int (lc : Int)), some (.int ((p + 1 : Nat) : Int)), some (.int ((i + 1 : Nat) : Int)), some (.int 61)] H) :
  exs (fnsN c 29) decB [d0, some (.bool true), d2, some (.ref k), some (.int (q : Int)), some (.int (lc : Int)), some (.int (p : Int)), some (.int (i : Int)), some (.int 61)] H Q := by
 refine op_eqI (c := true) rfl ?_
 refine op_ge (c := true) (decide_eq_true (by omega)) ?_
 refine op_go (z := true) (by show some (decide ((q : Int) + ((p : Int) + 1) <= 4)) = _; rw [decide_eq_true (by omega)]) ?_
 exact h
noncomputable def dF : List Nat -> Nat -> Nat -> List Nat × Nat × Nat
 | [], q, lc => ([], q, lc)
 | v :: r, q, lc => (dOut q lc v ++ (dF r (dQ q) (dLc q v)).1, (dF r (dQ q) (dLc q v)).2)
theorem dQ_lt (q : Nat) : dQ q < 4 := by unfold dQ; split <;> omega
theorem dLc_lt {q v : Nat} (h : v < 64) : dLc q v < 64 := by unfold dLc; split <;> omega
theorem dOut_len (q lc v : Nat) : (dOut q lc v).length <= 1 := by unfold dOut; split <;> simp
theorem dec_loop {c : Nat} (hc : 1 <= c) {k : Nat} {d0 d2 : Option D} {rest : List D} {Q : Fl -> Lo -> Hp -> Prop} : ∀ (ss : List Nat) (q lc i : Nat) (ch : Option D) (H : Hp) (out : List Nat), (∀ v ∈ ss, v < 64) -> H[k]? = some (.list (nats out)) -> out.length + ss.length <= 200 -> q < 4 -> lc < 64 ->
  (∀ i ch H', H' = H.set k (.list (nats (out ++ (dF ss q lc).1))) -> WF (fnsN (callN tabF c) 29) 8 decB rest [d0, some (.bool true), d2, some (.ref k), some (.int ((dF ss q lc).2.1 : Int)), some (.int ((dF ss q lc).2.2 : Int)), some (.int 0), some (.int (i : Nat)), ch] H' Q) ->
  WF (fnsN (callN tabF c) 29) 8 decB (nats (ss.map b64) ++ rest) [d0, some (.bool true), d2, some (.ref k), some (.int (q : Int)), some (.int (lc : Int)), some (.int 0), some (.int (i : Nat)), ch] H Q
 | [], q, lc, i, ch, H, out, _, hk, _, _, _, h => by
  refine h i ch H ?_
  show H = H.set k (.list (nats (out ++ [])))
  rw [List.append_nil, set_id hk]
 | v :: r, q, lc, i, ch, H, out, hv, hk, hl, hq, hlc, h => by
  have hl : out.length + (r.length + 1) <= 200 := hl
  refine wf_cons (d := .int (b64 v : Int)) (dec_turn hc hk (by omega) hq hlc (hv v (.head _)) ?_)
  have := dOut_len q lc v
  refine dec_loop hc r (dQ q) (dLc q v) (i + 1) _ _ (out ++ dOut q lc v) (fun x m => hv x (.tail _ m)) (get_set hk) (by rw [List.length_append]; omega) (dQ_lt q) (dLc_lt (hv v (.head _))) ?_
  intro i ch H' e
  refine h i ch H' ?_
  rw [e, List.set_set, List.append_assoc]
  rfl
theorem pad_loop {c : CallF} {k q lc : Nat} {d0 d2 : Option D} {H : Hp} {Q : Fl -> Lo -> Hp -> Prop} (hq : 2 <= q) : ∀ (r p i : Nat) (ch : Option D), q + p + r <= 4 ->
  (∀ i ch, Q .next [d0, some (.bool true), d2, some (.ref k), some (.int (q : Int)), some (.int (lc : Int)), some (.int ((p + r : Nat) : Int)), some (.int (i : Nat)), ch] H) ->
  WF (fnsN c 29) 8 decB (nats (List.replicate r 61)) [d0, some (.bool true), d2, some (.ref k), some (.int (q : Int)), some (.int (lc : Int)), some (.int (p : Int)), some (.int (i : Nat)), ch] H Q
 | 0, p, i, ch, _, h => wf_nil (h i ch)
 | r + 1, p, i, ch, hp, h => by
  refine wf_cons (d := .int 61) (dec_pad hq (by omega) ?_)
  refine pad_loop hq r (p + 1) (i + 1) _ (by omega) fun i ch => ?_
  rw [Nat.add_assoc, Nat.add_comm 1 r]
  exact h i ch
noncomputable def endq (n : Nat) : Nat := match n % 6 with | 2 => 2 | 4 => 3 | _ => 0
theorem endq_pad (n : Nat) : (endq n = 0 /\ padn n = 0) \/ (2 <= endq n /\ endq n + padn n = 4) := by
 unfold endq padn
 have : n % 6 < 6 := Nat.mod_lt _ (by decide)
 generalize n % 6 = k at *
 match k, this with
 | 0, _ => exact .inl ⟨rfl, rfl⟩
 | 1, _ => exact .inl ⟨rfl, rfl⟩
 | 2, _ => exact .inr ⟨by decide, rfl⟩
 | 3, _ => exact .inl ⟨rfl, rfl⟩
 | 4, _ => exact .inr ⟨by decide, rfl⟩
 | 5, _ => exact .inl ⟨rfl, rfl⟩
 | _ + 6, h => omega
theorem endq6 (n : Nat) : endq (n + 6) = endq n := by unfold endq; rw [Nat.add_mod_right]
theorem dF_pk : ∀ (w : List Nat) (lc : Nat), w.length % 2 = 0 -> Dig w -> (dF (sx w) 0 lc).1 = pk w /\ (dF (sx w) 0 lc).2.1 = endq w.length
 | [], _, _, _ => ⟨rfl, rfl⟩
 | [_], _, h, _ => absurd h (show ¬ 1 % 2 = 0 by decide)
 | [a, b], L, _, hd => by
  refine ⟨?_, rfl⟩
  show [(4 * a + b / 4) * 4 + 16 * (b % 4) / 16] = [16 * a + b]
  rw [Nat.mul_div_cancel_left _ (by decide), d0]
 | [_, _, _], _, h, _ => absurd h (show ¬ 3 % 2 = 0 by decide)
 | [a, b, c, d], L, _, hd => by
  have hc := hd.tl.2.tl.2.tl.1
  refine ⟨?_, rfl⟩
  show [(4 * a + b / 4) * 4 + (16 * (b % 4) + c) / 16, (16 * (b % 4) + c) % 16 * 16 + (4 * d) / 4] = [16 * a + b, 16 * c + d]
  rw [d1 hc, e16 hc, Nat.mul_div_cancel_left _ (by decide), Nat.mul_comm c]
 | [_, _, _, _, _], _, h, _ => absurd h (show ¬ 5 % 2 = 0 by decide)
 | a :: b :: c :: d :: e :: f :: r, L, h, hd => by
  have hd := hd.tl.2.tl.2.tl
  have hc := hd.1
  have hd := hd.2.tl.2.tl
  have he := hd.1
  obtain ⟨i1, i2⟩ := dF_pk r 0 (ev6 h) hd.2.tl.2
  rw [show endq (a :: b :: c :: d :: e :: f :: r).length = endq r.length from endq6 _]
  refine ⟨?_, i2⟩
  show ((4 * a + b / 4) * 4 + (16 * (b % 4) + c) / 16) :: ((16 * (b % 4) + c) % 16 * 16 + (4 * d + e / 4) / 4) :: ((4 * d + e / 4) % 4 * 64 + (16 * (e % 4) + f)) :: (dF (sx r) 0 0).1 = (16 * a + b) :: (16 * c + d) :: (16 * e + f) :: pk r
  rw [i1, d1 hc, d2 hc he, d3 he]
theorem wc5 {m : Nat} (hm : 2 <= m) {w : List Nat} {H : Hp} {Q : D -> Hp -> Prop} (hd : Dig w) (he : w.length % 2 = 0) (hl : w.length <= 100)
  (q : ∀ o, Q (BY (pk w)) (H ++ [o])) : callN tabF m 5 [BY ((sx w).map b64 ++ List.replicate (padn w.length) 61), .bool true] H Q := by
 have hpn := padn_le w.length
 have hsl := sx_len w
 have hb : ∀ v ∈ (sx w).map b64 ++ List.replicate (padn w.length) 61, v < 256 := by
  intro v m
  rcases List.mem_append.mp m with m | m
  ·obtain ⟨x, _, rfl⟩ := List.mem_map.mp m
   exact b64_lt x
  ·rw [(List.mem_replicate.mp m).2]
   decide
 refine call_in (k := 1) hm rfl rfl rfl fun n hn => ?_
 refine c1 hn ?_
 refine c3 hn ?_
 refine for_bytes (by_items hb) ?_
 rw [nats_app]
 obtain ⟨p1, p2⟩ := dF_pk w 0 he hd
 have fin : ∀ (x0 x2 : Option D) (lc pd i : Nat) (ch : Option D), ((endq w.length = 0) \/ (2 <= endq w.length /\ endq w.length + pd = 4)) ->
   exs (fnsN (callN tabF n) 30) [.if_ (.cmp .eq (.v 4) (.k (.int 1))) [.stop] [], .if_ (.and_ [(.cmp .ne (.v 4) (.k (.int 0))), (.cmp .lt (.bin .add (.v 4) (.v 6)) (.k (.int 4)))]) [.stop] [], .ret (.bf .bytes [(.v 3)])]
    [x0, some (.bool true), x2, some (.ref H.length), some (.int (endq w.length : Int)), some (.int (lc : Int)), some (.int (pd : Int)), some (.int (i : Int)), ch] (H ++ [.list (nats (pk w))]) (retQ Q) := by
  intro x0 x2 lc pd i ch hq
  refine op_eqI (c := false) (beq_eq_false_iff_ne.mpr (by omega)) ?_
  have z : OP (bfD .bytes [.ref H.length] (H ++ [.list (nats (pk w))])) fun r => Q r.1 r.2 := op_bytes get_last (pk_lt hd) (by rw [pk_len]; omega) (q _)
  rcases hq with h | h
  ·rw [h]
   exact op_go (z := false) rfl z
  ·refine op_go (z := true) (by show some ((endq w.length : Int) != 0) = _; rw [bne_iff_ne.mpr (by omega)]) ?_
   exact op_lt (c := false) (decide_eq_false (by omega)) z
 refine dec_loop hn (k := H.length) (sx w) 0 0 0 none (H ++ [.list []]) [] (sx_lt hd) get_last (by show 0 + _ <= _; omega) (by decide) (by decide) ?_
 intro i ch H' e
 rw [List.nil_append, p1, set_last] at e
 subst e
 rw [p2]
 rcases endq_pad w.length with ⟨e1, e2⟩ | ⟨e1, e2⟩
 ·rw [e2]
  refine wf_nil ?_
  exact fin _ _ _ 0 _ _ (.inl e1)
 ·refine pad_loop e1 _ 0 _ _ (by omega) fun i ch => ?_
  rw [Nat.zero_add]
  exact fin _ _ _ _ _ _ (.inr ⟨e1, e2⟩)
theorem wc11 {m : Nat} (hm : 3 <= m) {a b : Nat} (ha : Sg a) (hb : Sg b) (hab : a ≠ b) {w : List Nat} {H : Hp} {Q : D -> Hp -> Prop} (hd : Dig w) (he : w.length % 2 = 0) (hl : w.length <= 100)
  (q : ∀ o, Q (BY (pk w)) (H ++ [o])) : callN tabF m 11 [BY (txt a b w), BY [a, b], .bool true] H Q := by
 refine call_in (k := 2) hm rfl rfl rfl fun n hn => ?_
 refine c0 (Nat.le_of_succ_le hn) ?_
 refine op_go (z := true) rfl ?_
 refine c0 (Nat.le_of_succ_le hn) ?_
 refine op_go (z := (.int 2, _)) rfl ?_
 refine op_eqI (c := true) rfl ?_
 refine wT_go rfl ?_
 refine wT_go rfl ?_
 refine op_go (z := (.bytes (table256 [a.toUInt8, b.toUInt8] [(43 : Nat).toUInt8, (47 : Nat).toUInt8]), _)) rfl ?_
 refine op_go (translate_ok ha.1 hb.1 (by decide) (by decide) (txt_lt ha hb) (by have := txt_len (a := a) (b := b) (D := w); omega) (dec_map ha hb hab hd) _) ?_
 exact wc5 hn hd he hl q
end Mine
end

section
open PySem PySem.W
namespace Mine
noncomputable def rep (w : List Nat) (z : Nat) : List Nat := w.map fun _ => z
noncomputable def sureT (S : List Bool) : List Bool := sureS S ++ List.replicate (padn S.length) true
noncomputable def zeq (A B : List Nat) : List Bool := List.zipWith (fun x y => x == y) A B
theorem blk {α β : Type} {P : List α -> List β -> Prop} (h0 : P [] []) (h1 : ∀ a s, P [a] [s]) (h2 : ∀ a b s t, P [a, b] [s, t]) (h3 : ∀ a b c s t u w S, P w S -> P (a :: b :: c :: w) (s :: t :: u :: S)) : ∀ (w : List α) (S : List β), w.length = S.length -> P w S
 | [], [], _ => h0
 | [a], [s], _ => h1 a s
 | [a, b], [s, t], _ => h2 a b s t
 | a :: b :: c :: w, s :: t :: u :: S, h => h3 a b c s t u w S (blk h0 h1 h2 h3 w S (Nat.succ.inj (Nat.succ.inj (Nat.succ.inj h))))
theorem one {α β : Type} {P : List α -> List β -> Prop} (h0 : P [] []) (h1 : ∀ a s w S, P w S -> P (a :: w) (s :: S)) : ∀ (w : List α) (S : List β), w.length = S.length -> P w S
 | [], [], _ => h0
 | a :: w, s :: S, h => h1 a s w S (one h0 h1 w S (Nat.succ.inj h))
theorem ite_ap {f : Nat -> Nat} (s : Bool) (x y : Nat) : (if s then f x else f y) = f (if s then x else y) := by cases s <;> rfl
theorem fill_map (f : Nat -> Nat) : ∀ (S : List Bool) (t o : List Nat), fillL S (t.map f) (o.map f) = (fillL S t o).map f
 | [], _, _ => rfl
 | _ :: _, [], _ => rfl
 | _ :: _, _ :: _, [] => rfl
 | s :: S, x :: t, y :: o => by
  show (if s then f x else f y) :: fillL S (t.map f) (o.map f) = f (if s then x else y) :: (fillL S t o).map f
  rw [fill_map f S t o, ite_ap]
theorem fill_app (S S' : List Bool) (t t' o o' : List Nat) (h1 : t.length = S.length) (h2 : o.length = S.length) : fillL (S ++ S') (t ++ t') (o ++ o') = fillL S t o ++ fillL S' t' o' := by
 refine one (P := fun t S => ∀ o : List Nat, o.length = S.length -> fillL (S ++ S') (t ++ t') (o ++ o') = fillL S t o ++ fillL S' t' o') (fun o h => ?_) (fun x s t S ih o h => ?_) t S h1 o h2
 ·rw [List.length_eq_zero_iff.mp h]
  rfl
 ·cases o with
  | nil => exact nomatch h
  | cons y o => exact congrArg (_ :: ·) (ih o (Nat.succ.inj h))
theorem fill_rep : ∀ (k x y : Nat), fillL (List.replicate k true) (List.replicate k x) (List.replicate k y) = List.replicate k x
 | 0, _, _ => rfl
 | k + 1, x, y => congrArg (x :: ·) (fill_rep k x y)
theorem zeq_app (A A' B B' : List Nat) (h : A.length = B.length) : zeq (A ++ A') (B ++ B') = zeq A B ++ zeq A' B' :=
 one (P := fun A B => zeq (A ++ A') (B ++ B') = zeq A B ++ zeq A' B') rfl (fun x y _ _ ih => congrArg ((x == y) :: ·) ih) A B h
theorem zeq_rep : ∀ (k x : Nat), zeq (List.replicate k x) (List.replicate k x) = List.replicate k true
 | 0, _ => rfl
 | k + 1, x => by
  show (x == x) :: zeq (List.replicate k x) (List.replicate k x) = true :: List.replicate k true
  rw [zeq_rep k, beq_self_eq_true]
theorem zeq_map (f : Nat -> Nat) (m : Nat) (hf : ∀ v w, v < m -> w < m -> f v = f w -> v = w) : ∀ (A B : List Nat), (∀ v ∈ A, v < m) -> (∀ v ∈ B, v < m) -> zeq (A.map f) (B.map f) = zeq A B
 | [], _, _, _ => rfl
 | _ :: _, [], _, _ => rfl
 | x :: A, y :: B, h1, h2 => by
  show (f x == f y) :: zeq (A.map f) (B.map f) = (x == y) :: zeq A B
  rw [zeq_map f m hf A B (fun v m => h1 v (.tail _ m)) (fun v m => h2 v (.tail _ m))]
  congr 1
  by_cases e : x = y
  ·rw [e, beq_self_eq_true, beq_self_eq_true]
  ·rw [beq_eq_false_iff_ne.mpr e, beq_eq_false_iff_ne.mpr fun q => e (hf x y (h1 x (.head _)) (h2 y (.head _)) q)]
theorem sx_same (A B : List Nat) : A.length = B.length -> (sx A).length = (sx B).length :=
 blk (P := fun A B => (sx A).length = (sx B).length) rfl (fun _ _ => rfl) (fun _ _ _ _ => rfl) (fun _ _ _ _ _ _ _ _ ih => congrArg (· + 1 + 1) ih) A B
theorem sureS_len (S : List Bool) (w : List Nat) (h : w.length = S.length) : (sureS S).length = (sx w).length :=
 blk (P := fun w S => (sureS S).length = (sx w).length) rfl (fun _ _ => rfl) (fun _ _ _ _ => rfl) (fun _ _ _ _ _ _ _ _ ih => congrArg (· + 1 + 1) ih) w S h
theorem readS_len (S : List Bool) : (readS S).length = S.length :=
 blk (P := fun (S : List Bool) (_ : List Bool) => (readS S).length = S.length) rfl (fun _ _ => rfl) (fun _ _ _ _ => rfl) (fun _ _ _ _ _ _ _ _ ih => congrArg (· + 1 + 1 + 1) ih) S S rfl
noncomputable def A2 (p : Nat -> Nat -> Bool -> Bool -> Bool) : Bool := (List.range 16).all fun a => (List.range 16).all fun b => p a b false false && (p a b false true && (p a b true false && p a b true true))
theorem A2.use {p : Nat -> Nat -> Bool -> Bool -> Bool} (h : A2 p = true) {a b : Nat} (ha : a < 16) (hb : b < 16) (s t : Bool) : p a b s t = true := by
 have := List.all_eq_true.mp (List.all_eq_true.mp h a (List.mem_range.mpr ha)) b (List.mem_range.mpr hb)
 rw [Bool.and_eq_true, Bool.and_eq_true, Bool.and_eq_true] at this
 cases s <;> cases t
 ·exact this.1
 ·exact this.2.1
 ·exact this.2.2.1
 ·exact this.2.2.2
noncomputable def mix (p q : Bool) (b z : Nat) : Nat := (if p then b / 4 * 4 else z / 4 * 4) + (if q then b % 4 else z % 4)
theorem k1T : A2 (fun a b s0 s1 => (4 * (if s0 then a else 0) + (if s1 then b else 0) / 4 == 4 * (if s0 then a else 15) + (if s1 then b else 15) / 4) == (s0 && s1)) = true := by decide +kernel
theorem k2T : A2 (fun b c s1 s2 => (16 * ((if s1 then b else 0) % 4) + (if s2 then c else 0) == 16 * ((if s1 then b else 15) % 4) + (if s2 then c else 15)) == (s1 && s2)) = true := by decide +kernel
theorem k3T : A2 (fun a _ s _ => (4 * (if s then a else 0) == 4 * (if s then a else 15)) == s) = true := by decide +kernel
theorem k4T : A2 (fun a _ s _ => (16 * ((if s then a else 0) % 4) == 16 * ((if s then a else 15) % 4)) == s) = true := by decide +kernel
theorem k5T : A2 (fun b _ p q => (mix p q b 0 == mix p q b 15) == (p && q)) = true := by decide +kernel
theorem k6T : A2 (fun b z p q => Nat.ble (mix p q b z) 15 && (mix p q b z / 4 == (if p then b / 4 else z / 4) && mix p q b z % 4 == (if q then b % 4 else z % 4))) = true := by decide +kernel
theorem k6 {b z : Nat} (hb : b < 16) (hz : z < 16) (p q : Bool) : mix p q b z < 16 /\ mix p q b z / 4 = (if p then b / 4 else z / 4) /\ mix p q b z % 4 = (if q then b % 4 else z % 4) := by
 have := A2.use k6T hb hz p q
 rw [Bool.and_eq_true, Bool.and_eq_true] at this
 exact ⟨Nat.lt_succ_of_le (Nat.le_of_ble_eq_true this.1), eq_of_beq this.2.1, eq_of_beq this.2.2⟩
theorem k7 (p : Bool) (a : Nat) : ((if p then a else 0) == (if p then a else 15)) = p := by
 cases p
 ·rfl
 ·exact beq_self_eq_true a
theorem cons2 {α : Type} {a b : α} {l m : List α} (h1 : a = b) (h2 : l = m) : a :: l = b :: m := by rw [h1, h2]
theorem sure_eq (w : List Nat) (S : List Bool) : w.length = S.length -> Dig w -> zeq (sx (fillL S w (rep w 0))) (sx (fillL S w (rep w 15))) = sureS S :=
 blk (P := fun w S => Dig w -> zeq (sx (fillL S w (rep w 0))) (sx (fillL S w (rep w 15))) = sureS S) (fun _ => rfl) (fun a s h => cons2 (eq_of_beq (A2.use k3T h.tl.1 h.tl.1 s s)) rfl)
  (fun a b s t h => cons2 (eq_of_beq (A2.use k1T h.tl.1 h.tl.2.tl.1 s t)) (cons2 (eq_of_beq (A2.use k4T h.tl.2.tl.1 h.tl.1 t t)) rfl))
  (fun a b c s t u w S ih h => cons2 (eq_of_beq (A2.use k1T h.tl.1 h.tl.2.tl.1 s t)) (cons2 (eq_of_beq (A2.use k2T h.tl.2.tl.1 h.tl.2.tl.2.tl.1 t u)) (ih h.tl.2.tl.2.tl.2))) w S
noncomputable def rdD (z : Nat) : List Nat -> List Bool -> List Nat
 | a :: b :: c :: w, s0 :: s1 :: s2 :: S => (if s0 && s1 then a else z) :: mix (s0 && s1) (s1 && s2) b z :: (if s1 && s2 then c else z) :: rdD z w S
 | [a, b], [s0, s1] => [if s0 && s1 then a else z, mix (s0 && s1) s1 b z]
 | [a], [s0] => [if s0 then a else z]
 | _, _ => []
theorem ite_lt {p : Bool} {a z : Nat} (ha : a < 16) (hz : z < 16) : (if p then a else z) < 16 := by
 cases p
 ·exact hz
 ·exact ha
theorem rd_sx {z : Nat} (hz : z < 16) (w : List Nat) (S : List Bool) : w.length = S.length -> Dig w -> sx (rdD z w S) = fillL (sureS S) (sx (fillL S w (rep w 0))) (sx (rep w z)) :=
 blk (P := fun w S => Dig w -> sx (rdD z w S) = fillL (sureS S) (sx (fillL S w (rep w 0))) (sx (rep w z))) (fun _ => rfl) (fun a s h => cons2 (by cases s <;> rfl) rfl)
  (fun a b s t h => by
   have k := k6 h.tl.2.tl.1 hz (s && t) t
   refine cons2 (show 4 * (if s && t then a else z) + mix (s && t) t b z / 4 = _ from ?_) (cons2 (show 16 * (mix (s && t) t b z % 4) = _ from ?_) rfl)
   ·rw [k.2.1]; cases s <;> cases t <;> rfl
   ·rw [k.2.2]; cases s <;> cases t <;> rfl)
  (fun a b c s t u w S ih h => by
   have k := k6 h.tl.2.tl.1 hz (s && t) (t && u)
   refine cons2 (show 4 * (if s && t then a else z) + mix (s && t) (t && u) b z / 4 = _ from ?_) (cons2 (show 16 * (mix (s && t) (t && u) b z % 4) + (if t && u then c else z) = _ from ?_) (ih h.tl.2.tl.2.tl.2))
   ·rw [k.2.1]; cases s <;> cases t <;> rfl
   ·rw [k.2.2]; cases t <;> cases u <;> rfl) w S
theorem rd_dig {z : Nat} (hz : z < 16) (w : List Nat) (S : List Bool) : w.length = S.length -> Dig w -> Dig (rdD z w S) /\ (rdD z w S).length = w.length :=
 blk (P := fun w S => Dig w -> Dig (rdD z w S) /\ (rdD z w S).length = w.length) (fun h => ⟨h, rfl⟩) (fun a s h => ⟨.cons (ite_lt h.tl.1 hz) (fun _ m => nomatch m), rfl⟩)
  (fun a b s t h => ⟨.cons (ite_lt h.tl.1 hz) (.cons (k6 h.tl.2.tl.1 hz _ _).1 (fun _ m => nomatch m)), rfl⟩)
  (fun a b c s t u w S ih h => ⟨.cons (ite_lt h.tl.1 hz) (.cons (k6 h.tl.2.tl.1 hz _ _).1 (.cons (ite_lt h.tl.2.tl.2.tl.1 hz) (ih h.tl.2.tl.2.tl.2).1)), congrArg (· + 1 + 1 + 1) (ih h.tl.2.tl.2.tl.2).2⟩) w S
theorem read_eq (w : List Nat) (S : List Bool) : w.length = S.length -> Dig w -> zeq (rdD 0 w S) (rdD 15 w S) = readS S :=
 blk (P := fun w S => Dig w -> zeq (rdD 0 w S) (rdD 15 w S) = readS S) (fun _ => rfl) (fun a s h => cons2 (k7 _ _) rfl)
  (fun a b s t h => cons2 (k7 _ _) (cons2 (eq_of_beq (A2.use k5T h.tl.2.tl.1 h.tl.1 (s && t) t)) rfl))
  (fun a b c s t u w S ih h => cons2 (k7 _ _) (cons2 (eq_of_beq (A2.use k5T h.tl.2.tl.1 h.tl.1 (s && t) (t && u))) (cons2 (k7 _ _) (ih h.tl.2.tl.2.tl.2)))) w S
theorem sure_same (w : List Nat) (S : List Bool) : w.length = S.length -> fillL (sureS S) (sx (fillL S w (rep w 0))) (sx w) = sx w :=
 blk (P := fun w S => fillL (sureS S) (sx (fillL S w (rep w 0))) (sx w) = sx w) rfl (fun a s => cons2 (by cases s <;> rfl) rfl) (fun a b s t => cons2 (by cases s <;> cases t <;> rfl) (cons2 (by cases t <;> rfl) rfl))
  (fun a b c s t u w S ih => cons2 (by cases s <;> cases t <;> rfl) (cons2 (by cases t <;> cases u <;> rfl) ih)) w S
theorem ite_id (p : Bool) (a : Nat) : (if p then (if p then a else 0) else a) = a := by cases p <;> rfl
theorem mix_id (p q : Bool) (b : Nat) : (if p && q then mix p q b 0 else b) = b := by
 cases p <;> cases q <;> first | rfl | exact Nat.div_add_mod' b 4
theorem read_same (w : List Nat) (S : List Bool) : w.length = S.length -> fillL (readS S) (rdD 0 w S) w = w :=
 blk (P := fun w S => fillL (readS S) (rdD 0 w S) w = w) rfl (fun a s => cons2 (ite_id _ _) rfl) (fun a b s t => cons2 (ite_id _ _) (cons2 (mix_id _ _ _) rfl))
  (fun a b c s t u w S ih => cons2 (ite_id _ _) (cons2 (mix_id _ _ _) (cons2 (ite_id _ _) ih))) w S
end Mine
end

section
open PySem PySem.W
namespace Mine
noncomputable def idxI : Nat -> List Bool -> List D
 | _, [] => []
 | k, e :: E => match e with | true => .int (k : Int) :: idxI (k + 1) E | false => idxI (k + 1) E
noncomputable def prI : Nat -> List Bool -> List Nat -> List D
 | k, e :: E, x :: A => match e with | true => .tup [.int (k : Int), .int (x : Int)] :: prI (k + 1) E A | false => prI (k + 1) E A
 | _, _, _ => []
theorem pr_congr : ∀ (E : List Bool) (A B : List Nat) (k : Nat), A.length = E.length -> B.length = E.length -> fillL E A B = B -> prI k E A = prI k E B
 | [], _, _, _, _, _, _ => rfl
 | _ :: _, [], _, _, h, _, _ => by simp at h
 | _ :: _, _ :: _, [], _, _, h, _ => by simp at h
 | e :: E, x :: A, y :: B, k, h1, h2, h => by
  have h : (if e then x else y) :: fillL E A B = y :: B := h
  rw [List.cons.injEq] at h
  have ih := pr_congr E A B (k + 1) (by simpa using h1) (by simpa using h2) h.2
  cases e with
  | false => exact ih
  | true =>
   show D.tup [.int (k : Int), .int (x : Int)] :: prI (k + 1) E A = .tup [.int (k : Int), .int (y : Int)] :: prI (k + 1) E B
   rw [ih, show x = y from h.1]
theorem idx_in : ∀ (E : List Bool) (k : Nat) (x : Nat), ∃ xs, py1s (idxI k E) = some xs /\ (xs.any fun y => PyData.eqv y (.int (x : Int))) = (decide (k <= x) && E.getD (x - k) false)
 | [], k, x => ⟨[], rfl, by simp⟩
 | e :: E, k, x => by
  obtain ⟨xs, h1, h2⟩ := idx_in E (k + 1) x
  cases e with
  | false =>
   refine ⟨xs, h1, ?_⟩
   rw [h2]
   by_cases q : k + 1 <= x
   ·obtain ⟨d, rfl⟩ : ∃ d, x = k + 1 + d := ⟨x - (k + 1), by omega⟩
    rw [decide_eq_true q, decide_eq_true (show k <= k + 1 + d by omega), show k + 1 + d - (k + 1) = d by omega, show k + 1 + d - k = d + 1 by omega]
    simp
   ·rw [decide_eq_false q]
    by_cases q2 : k <= x
    ·obtain rfl : x = k := by omega
     simp
    ·rw [decide_eq_false q2]; simp
  | true =>
   refine ⟨.int (k : Int) :: xs, ?_, ?_⟩
   ·show (match py1s (idxI (k + 1) E) with | some xs => some (PyData.int (k : Int) :: xs) | none => none) = _
    rw [h1]
   ·show (PyData.eqv (.int (k : Int)) (.int (x : Int)) || xs.any fun y => PyData.eqv y (.int (x : Int))) = _
    rw [h2]
    have e1 : PyData.eqv (.int (k : Int)) (.int (x : Int)) = ((k : Int) == (x : Int)) := by simp [PyData.eqv]
    rw [e1]
    by_cases q : k + 1 <= x
    ·obtain ⟨d, rfl⟩ : ∃ d, x = k + 1 + d := ⟨x - (k + 1), by omega⟩
     rw [decide_eq_true q, decide_eq_true (show k <= k + 1 + d by omega), show k + 1 + d - (k + 1) = d by omega, show k + 1 + d - k = d + 1 by omega, beq_eq_false_iff_ne.mpr (show (k : Int) ≠ ((k + 1 + d : Nat) : Int) by omega)]
     simp
    ·rw [decide_eq_false q]
     by_cases q2 : k <= x
     ·obtain rfl : x = k := by omega
      simp
     ·rw [decide_eq_false q2, beq_eq_false_iff_ne.mpr (show (k : Int) ≠ (x : Int) by omega)]; simp
theorem in_idx {E : List Bool} {i : Nat} {s : Bool} (h : E[i]? = some s) (H : Hp) : cmpD H .inn (.int (i : Int)) (.lst (idxI 0 E)) = some s := by
 obtain ⟨xs, h1, h2⟩ := idx_in E 0 i
 show inDs (.int (i : Int)) (idxI 0 E) = _
 unfold inDs
 rw [show py1 (.int (i : Int)) = some (.int (i : Int)) from rfl, h1]
 dsimp only
 rw [h2, decide_eq_true (Nat.zero_le i), Nat.sub_zero, List.getD_eq_getElem?_getD, h]
 rfl
theorem fm_idx {g : D -> Option D} : ∀ (E : List Bool) (k : Nat), (∀ (i : Nat) e, E[i]? = some e -> g (.int ((k + i : Nat) : Int)) = if e then some (.int ((k + i : Nat) : Int)) else none) ->
  ((List.range' k E.length).map fun (i : Nat) => D.int (i : Int)).filterMap g = idxI k E
 | [], _, _ => rfl
 | e :: E, k, h => by
  have h0 : g (.int (k : Int)) = if e then some (.int (k : Int)) else none := h 0 e rfl
  have ih := fm_idx E (k + 1) fun i e m => by rw [show k + 1 + i = k + (i + 1) by omega]; exact h (i + 1) e m
  rw [List.length_cons, List.range'_succ, List.map_cons, List.filterMap_cons, h0, ih]
  cases e <;> rfl
theorem fm_pr {g : D -> Option D} : ∀ (E : List Bool) (A : List Nat) (k : Nat), A.length = E.length -> (∀ (i x : Nat), A[i]? = some x -> g (.int ((k + i : Nat) : Int)) = some (.tup [.int ((k + i : Nat) : Int), .int (x : Int)])) ->
  (idxI k E).filterMap g = prI k E A
 | [], _, _, _, _ => rfl
 | _ :: _, [], _, h, _ => by simp at h
 | e :: E, x :: A, k, hl, h => by
  have h0 : g (.int (k : Int)) = some (.tup [.int (k : Int), .int (x : Int)]) := h 0 x rfl
  have ih := fm_pr E A (k + 1) (by simpa using hl) fun i e m => by rw [show k + 1 + i = k + (i + 1) by omega]; exact h (i + 1) e m
  cases e with
  | false => exact ih
  | true =>
   show ((.int (k : Int)) :: idxI (k + 1) E).filterMap g = _
   rw [List.filterMap_cons, h0]
   show _ :: (idxI (k + 1) E).filterMap g = _ :: prI (k + 1) E A
   rw [ih]
theorem idx_mem : ∀ (E : List Bool) (k : Nat) (d : D), d ∈ idxI k E -> ∃ i, i < E.length /\ d = .int ((k + i : Nat) : Int)
 | [], _, _, h => by cases h
 | e :: E, k, d, h => by
  have : d = .int (k : Int) \/ d ∈ idxI (k + 1) E := by
   cases e with
   | false => exact .inr h
   | true => exact List.mem_cons.mp h
  rcases this with rfl | h
  ·exact ⟨0, by simp, rfl⟩
  ·obtain ⟨i, hi, rfl⟩ := idx_mem E (k + 1) d h
   exact ⟨i + 1, by simpa using hi, by rw [show k + 1 + i = k + (i + 1) by omega]⟩
theorem idx_len : ∀ (E : List Bool) (k : Nat), (idxI k E).length <= E.length
 | [], _ => by simp [idxI]
 | e :: E, k => by
  have := idx_len E (k + 1)
  cases e <;> simp [idxI] <;> omega
theorem zeq_len {A B : List Nat} (h : A.length = B.length) : (zeq A B).length = A.length := by unfold zeq; rw [List.length_zipWith]; omega
theorem zeq_at {A B : List Nat} {i x y : Nat} (h1 : A[i]? = some x) (h2 : B[i]? = some y) : (zeq A B)[i]? = some (x == y) := by
 unfold zeq
 rw [List.getElem?_zipWith, h1, h2]
theorem eqInt (x y : Nat) : ((x : Int) == (y : Int)) = (x == y) := by
 by_cases e : x = y
 ·rw [e, beq_self_eq_true, beq_self_eq_true]
 ·rw [beq_eq_false_iff_ne.mpr e, beq_eq_false_iff_ne.mpr (show (x : Int) ≠ (y : Int) from fun h => e (Int.ofNat.inj h))]
noncomputable def pick (E : List Bool) (F : Int -> D) (d : D) : Option D := dI d fun i => gd (E.getD i.toNat false) (some (F i))
theorem pick_at {E : List Bool} {F : Int -> D} {i : Nat} {e : Bool} (h : E[i]? = some e) : pick E F (.int (i : Int)) = gd e (some (F (i : Int))) := by
 show gd (E.getD (i : Int).toNat false) _ = _
 rw [Int.toNat_natCast, List.getD_eq_getElem?_getD, h]
 rfl
theorem pick_all {E : List Bool} {n : Nat} (h : E.length = n) : (rangeL (n : Int)).filterMap (pick E D.int) = idxI 0 E := by
 unfold rangeL
 rw [Int.toNat_natCast, List.range_eq_range', <- h, fm_idx]
 intro i e m
 rw [Nat.zero_add, pick_at m]
 cases e <;> rfl
section
variable {c : CallF} {n i1 i2 : Nat} {lo : Lo} {H : Hp} {Q : List D -> Hp -> Prop} {A B : List Nat} {E : List Bool}
theorem eqcomp (h1 : lo[i1]? = some (some (BY A))) (h2 : lo[i2]? = some (some (BY B))) (hl : A.length = B.length) (hn : A.length <= 1000)
  (ha : ∀ v ∈ A, v < 256) (hb : ∀ v ∈ B, v < 256) (q : Q (idxI 0 (zeq A B)) H) :
  compX (fnsN c (n + 6)) lo (.c 0) .range1 [.cmp .eq (.sub (.v i1) (.c 0)) (.sub (.v i2) (.c 0))] 0 [.int (A.length : Int)] H Q := by
 refine comp_pure (pick (zeq A B) D.int) (range_nx hn) (range1_items hn) (by rw [range_len]; exact Nat.le_trans hn (by decide)) (fun d md Kf Kt h => ?_) ?_
 ·obtain ⟨i, hi, rfl⟩ := range_mem md
  obtain ⟨x, hx⟩ : ∃ x, A[i]? = some x := ⟨_, List.getElem?_eq_getElem hi⟩
  obtain ⟨y, hy⟩ : ∃ y, B[i]? = some y := ⟨_, List.getElem?_eq_getElem (by omega)⟩
  rw [pick_at (zeq_at hx hy)] at h
  refine op_go rfl ?_
  show wOO lo[i1]? _
  rw [h1]
  refine op_go (sub_by' hx (ha _ (List.mem_of_getElem? hx)) hn) ?_
  show wOO lo[i2]? _
  rw [h2]
  refine op_go (sub_by' hy (hb _ (List.mem_of_getElem? hy)) (by omega)) ?_
  refine op_eqI (eqInt x y) ?_
  cases hxy : (x == y)
  ·rw [hxy] at h; exact h
  ·rw [hxy] at h; exact h
 ·rw [pick_all (zeq_len hl)]
  exact q
theorem prcomp (h1 : lo[i1]? = some (some (BY A))) (hl : A.length = E.length) (hn : A.length <= 1000) (ha : ∀ v ∈ A, v < 256) (q : Q (prI 0 E A) H) :
  compX (fnsN c (n + 6)) lo (.tup [(.c 0), (.sub (.v i1) (.c 0))]) .it [] 0 [.lst (idxI 0 E)] H Q := by
 have hE := idx_len E 0
 refine comp_pure (fun d => dI d fun i => (A[i.toNat]?).map fun (x : Nat) => .tup [.int i, .int (x : Int)]) rfl rfl (Nat.le_trans hE (Nat.le_trans (Nat.le_of_eq hl.symm) (Nat.le_trans hn (by decide)))) (fun d md Kf Kt h => ?_) ?_
 ·obtain ⟨i, hi, rfl⟩ := idx_mem E 0 d md
  rw [Nat.zero_add] at h ⊢
  obtain ⟨x, hx⟩ : ∃ x, A[i]? = some x := ⟨_, List.getElem?_eq_getElem (by omega)⟩
  have e : (dI (D.int (i : Int)) fun i => (A[i.toNat]?).map fun (x : Nat) => D.tup [.int i, .int (x : Int)]) = some (.tup [.int (i : Int), .int (x : Int)]) := by
   show (A[(i : Int).toNat]?).map _ = _
   rw [Int.toNat_natCast, hx]
   rfl
  rw [e] at h
  refine op_go rfl ?_
  show wOO lo[i1]? _
  rw [h1]
  exact op_go (sub_by' hx (ha _ (List.mem_of_getElem? hx)) hn) h
 ·rw [fm_pr E A 0 hl fun i x m => by show (A[((0 + i : Nat) : Int).toNat]?).map _ = _; rw [Int.toNat_natCast, Nat.zero_add, m]; rfl]
  exact q
end
end Mine
end

section
open PySem PySem.W
namespace Mine
theorem rep_dig {w : List Nat} {z : Nat} (hz : z < 16) : Dig (rep w z) := fun v m => by
 obtain ⟨_, _, rfl⟩ := List.mem_map.mp m
 exact hz
theorem rep_len (w : List Nat) (z : Nat) : (rep w z).length = w.length := by unfold rep; rw [List.length_map]
theorem hexU_inj {v w : Nat} (hv : v < 16) (hw : w < 16) (e : hexU v = hexU w) : v = w := by unfold hexU at e; split at e <;> split at e <;> omega
theorem hexs_lt {w : List Nat} (h : Dig w) : ∀ v ∈ w.map hexU, v < 256 := by
 intro v m
 obtain ⟨x, hx, rfl⟩ := List.mem_map.mp m
 exact hexU_lt (h x hx)
theorem d13 {m : Nat} (hm : 3 <= m) {w : List Nat} {H : Hp} {Q : D -> Hp -> Prop} (hd : Dig w) (he : w.length % 2 = 0) (hl : w.length <= 100) (q : ∀ o, Q (BY (pk w)) (H ++ [o])) : callN tabF m 13 [BY (w.map hexU), .bool false] H Q := by
 rw [<- hex2_pk he hd]
 exact wc13 hm (pk_lt hd) (by rw [pk_len]; omega) (q _)
theorem d12 {m : Nat} (hm : 3 <= m) {w : List Nat} {H : Hp} {Q : D -> Hp -> Prop} (hd : Dig w) (he : w.length % 2 = 0) (hl : w.length <= 100) (q : Q (BY (w.map hexU)) H) : callN tabF m 12 [BY (pk w)] H Q :=
 wc12 hm (pk_lt hd) (by rw [pk_len]; omega) (by rw [hex2_pk he hd]; exact q)
theorem op_rep {c n : Nat} {w : List Nat} {Q : D -> Prop} (z : Nat) (hc : hexU z = c) (hn : n = w.length) (h2 : 2 <= n) (hx : n <= 1000) (q : Q (BY ((rep w z).map hexU))) : OPB .mul (.bytes [c.toUInt8]) (.int (n : Int)) Q := by
 refine op_go (z := BY ((rep w z).map hexU)) ?_ q
 show gd (decide ((2 : Int) <= (n : Int)) && decide ((n : Int) <= 1000)) (some (D.bytes (List.replicate (n : Int).toNat c.toUInt8))) = _
 rw [decide_eq_true (show (2 : Int) <= (n : Int) by omega), decide_eq_true (show (n : Int) <= 1000 by omega), Int.toNat_natCast]
 show some (D.bytes _) = some (D.bytes _)
 unfold rep
 rw [List.map_map, List.map_map, hn, <- hc]
 congr 2
 exact (List.map_const (l := w)).symm
theorem txt_mk {a b : Nat} {w : List Nat} {k : Nat} (h : w.length = k) : txt a b w = (sx w).map (tr a b) ++ List.replicate (padn k) 61 := by unfold txt; rw [h]
theorem zeq_txt {a b : Nat} (ha : Sg a) (hb : Sg b) (hab : a ≠ b) {w : List Nat} {S : List Bool} (hd : Dig w) (hS : w.length = S.length) (llo : (fillL S w (rep w 0)).length = w.length) (lhi : (fillL S w (rep w 15)).length = w.length) :
  zeq (txt a b (fillL S w (rep w 0))) (txt a b (fillL S w (rep w 15))) = sureT S := by
 have hlo : Dig (fillL S w (rep w 0)) := fill_mem hd (rep_dig (by decide))
 have hhi : Dig (fillL S w (rep w 15)) := fill_mem hd (rep_dig (by decide))
 rw [txt_mk (llo.trans hS), txt_mk (lhi.trans hS), zeq_app _ _ _ _ (by rw [List.length_map, List.length_map]; exact sx_same _ _ (llo.trans lhi.symm)), zeq_rep, zeq_map (tr a b) 64 (fun v w hv hw e => tr_inj ha hb hab hv hw e) _ _ (sx_lt hlo) (sx_lt hhi), sure_eq w S hS hd]
 rfl
theorem fill_txt {a b z : Nat} (hz : z < 16) {w : List Nat} {S : List Bool} (hd : Dig w) (hS : w.length = S.length) (llo : (fillL S w (rep w 0)).length = w.length) :
  fillL (sureT S) (txt a b (fillL S w (rep w 0))) (txt a b (rep w z)) = txt a b (rdD z w S) := by
 have h := rd_dig hz w S hS hd
 rw [txt_mk (llo.trans hS), txt_mk ((rep_len w z).trans hS), txt_mk (h.2.trans hS), sureT, fill_app _ _ _ _ _ _ (by rw [List.length_map]; exact (sureS_len S _ (llo.trans hS)).symm) (by rw [List.length_map]; exact (sureS_len S _ ((rep_len w z).trans hS)).symm), fill_rep, fill_map, <- rd_sx hz w S hS hd]
theorem same_txt {a b : Nat} {w : List Nat} {S : List Bool} (hS : w.length = S.length) (llo : (fillL S w (rep w 0)).length = w.length) :
  fillL (sureT S) (txt a b (fillL S w (rep w 0))) (txt a b w) = txt a b w := by
 rw [txt_mk (llo.trans hS), txt_mk hS, sureT, fill_app _ _ _ _ _ _ (by rw [List.length_map]; exact (sureS_len S _ (llo.trans hS)).symm) (by rw [List.length_map]; exact (sureS_len S _ hS).symm), fill_rep, fill_map, sure_same w S hS]
theorem sureT_len {a b : Nat} {w : List Nat} {S : List Bool} (hS : w.length = S.length) : (txt a b w).length = (sureT S).length := by
 rw [txt_mk hS]
 unfold sureT
 rw [List.length_append, List.length_append, List.length_map, List.length_replicate, List.length_replicate, sureS_len S w hS]
set_option maxHeartbeats 4000000 in
theorem wc19 {m : Nat} (hm : 4 <= m) {a b : Nat} (ha : Sg a) (hb : Sg b) (hab : a ≠ b) {w : List Nat} {S : List Bool} {kd : D} {H : Hp} {Q : D -> Hp -> Prop} (hd : Dig w) (he : w.length % 2 = 0) (h2 : 2 <= w.length) (hl : w.length <= 50) (hS : w.length = S.length)
  (hk : ∀ (J : Hp) (i : Nat) s, S[i]? = some s -> cmpD (H ++ J) .inn (.int (i : Int)) kd = some s)
  (q : ∀ J, Q (.tup [.lst (prI 0 (sureT S) (txt a b w)), .lst (prI 0 (readS S) (w.map hexU))]) (H ++ J)) :
  callN tabF m 19 [BY (w.map hexU), kd, BY [a, b]] H Q := by
 have hz0 : Dig (rep w 0) := rep_dig (by decide)
 have hz1 : Dig (rep w 15) := rep_dig (by decide)
 have l0 := rep_len w 0
 have l1 := rep_len w 15
 have hlo : Dig (fillL S w (rep w 0)) := fill_mem hd hz0
 have hhi : Dig (fillL S w (rep w 15)) := fill_mem hd hz1
 have llo : (fillL S w (rep w 0)).length = w.length := (fill_len hS (l0.trans hS)).trans hS.symm
 have lhi : (fillL S w (rep w 15)).length = w.length := (fill_len hS (l1.trans hS)).trans hS.symm
 have hmx : ∀ x : List Nat, (x.map hexU).length = x.length := fun x => List.length_map ..
 have hl1 : w.length <= 100 := Nat.le_trans hl (by decide)
 have hlk : ∀ x : List Nat, x.length = w.length -> x.length <= 100 := fun x e => e ▸ hl1
 have hek : ∀ x : List Nat, x.length = w.length -> x.length % 2 = 0 := fun x e => e ▸ he
 have hb1 : (w.map hexU).length <= 1000 := by rw [hmx]; omega
 have hb2 : 2 <= (w.map hexU).length := by rw [hmx]; exact h2
 have hmS : (w.map hexU).length = S.length := (hmx w).trans hS
 have hm0 : ((rep w 0).map hexU).length = S.length := (hmx _).trans (l0.trans hS)
 have hm1 : ((rep w 15).map hexU).length = S.length := (hmx _).trans (l1.trans hS)
 have hS1 : S.length <= 100 := hS ▸ hl1
 have tl : ∀ x : List Nat, x.length = w.length -> (txt a b x).length = (sureT S).length /\ (txt a b x).length <= 100 := fun x e => ⟨sureT_len (e.trans hS), by have := txt_len (a := a) (b := b) (D := x); omega⟩
 have sT : (sureT S).length <= 100 := by rw [<- (tl w rfl).1]; exact (tl w rfl).2
 obtain ⟨r0, r0'⟩ := rd_dig (z := 0) (by decide) w S hS hd
 obtain ⟨r1, r1'⟩ := rd_dig (z := 15) (by decide) w S hS hd
 have slo := tl _ llo
 have shi := tl _ lhi
 have htx : ∀ x : List Nat, ∀ v ∈ txt a b x, v < 256 := fun x => txt_lt ha hb
 refine call_in (k := 3) hm rfl rfl rfl fun n hn => ?_
 have hn1 : 1 <= n := Nat.le_trans (by decide) hn
 refine op_go (by_len hb1 H) ?_
 refine op_rep (w := w) 0 (c := 48) rfl (hmx w) hb2 hb1 ?_
 refine op_go (by_len hb1 H) ?_
 refine op_rep (w := w) 15 (c := 70) rfl (hmx w) hb2 hb1 ?_
 refine wc18 (S := S) hn1 hmS hm0 hS1 (hexs_lt hd) (hexs_lt hz0) (fun i s h => by have := hk [] i s h; rwa [List.append_nil] at this) ?_
 rw [fill_map]
 refine d13 hn hlo (hek _ llo) (hlk _ llo) fun o1 => ?_
 refine wc10 hn ha hb hlo (hek _ llo) (hlk _ llo) fun o2 => ?_
 refine wc18 (S := S) hn1 hmS hm1 hS1 (hexs_lt hd) (hexs_lt hz1) (fun i s h => by rw [List.append_assoc]; exact hk _ i s h) ?_
 rw [fill_map]
 refine d13 hn hhi (hek _ lhi) (hlk _ lhi) fun o3 => ?_
 refine wc10 hn ha hb hhi (hek _ lhi) (hlk _ lhi) fun o4 => ?_
 refine op_go (by_len (Nat.le_trans slo.2 (by decide)) _) ?_
 refine eqcomp (A := txt a b (fillL S w (rep w 0))) (B := txt a b (fillL S w (rep w 15))) rfl rfl (slo.1.trans shi.1.symm) (Nat.le_trans slo.2 (by decide)) (htx _) (htx _) ?_
 rw [zeq_txt ha hb hab hd hS llo lhi]
 refine d13 hn hz0 (hek _ l0) (hlk _ l0) fun o5 => ?_
 refine wc10 hn ha hb hz0 (hek _ l0) (hlk _ l0) fun o6 => ?_
 refine wc18 (S := sureT S) hn1 slo.1 (tl _ l0).1 sT (htx _) (htx _) (fun i s h => in_idx h _) ?_
 rw [fill_txt (by decide) hd hS llo]
 refine d13 hn hz1 (hek _ l1) (hlk _ l1) fun o7 => ?_
 refine wc10 hn ha hb hz1 (hek _ l1) (hlk _ l1) fun o8 => ?_
 refine wc18 (S := sureT S) hn1 slo.1 (tl _ l1).1 sT (htx _) (htx _) (fun i s h => in_idx h _) ?_
 rw [fill_txt (by decide) hd hS llo]
 refine wc11 hn ha hb hab r0 (hek _ r0') (hlk _ r0') fun o9 => ?_
 refine d12 hn r0 (hek _ r0') (hlk _ r0') ?_
 refine wc11 hn ha hb hab r1 (hek _ r1') (hlk _ r1') fun o10 => ?_
 refine d12 hn r1 (hek _ r1') (hlk _ r1') ?_
 have x0 : ((rdD 0 w S).map hexU).length = w.length := (hmx _).trans r0'
 have x1 : ((rdD 15 w S).map hexU).length = w.length := (hmx _).trans r1'
 have xR : w.length = (readS S).length := hS.trans (readS_len S).symm
 refine op_go (by_len (l := (rdD 0 w S).map hexU) (by rw [x0]; omega) _) ?_
 refine eqcomp (A := (rdD 0 w S).map hexU) (B := (rdD 15 w S).map hexU) rfl rfl (x0.trans x1.symm) (by rw [x0]; omega) (hexs_lt r0) (hexs_lt r1) ?_
 rw [zeq_map hexU 16 (fun v w hv hw e => hexU_inj hv hw e) _ _ r0 r1, read_eq w S hS hd]
 refine prcomp (A := txt a b (fillL S w (rep w 0))) (E := sureT S) rfl slo.1 (Nat.le_trans slo.2 (by decide)) (htx _) ?_
 refine prcomp (A := (rdD 0 w S).map hexU) (E := readS S) rfl (x0.trans xR) (by rw [x0]; omega) (hexs_lt r0) ?_
 rw [pr_congr (sureT S) _ (txt a b w) 0 slo.1 (tl w rfl).1 (same_txt hS llo), pr_congr (readS S) _ (w.map hexU) 0 (x0.trans xR) ((hmx w).trans xR) (by rw [fill_map, read_same w S hS])]
 simp only [List.append_assoc]
 exact q _
end Mine
end

section
open PySem PySem.W
namespace Mine
noncomputable def figL (a b : Nat) : List Nat := (List.range 62).map b64 ++ [a, b]
theorem fig_at {a b v : Nat} (h : v < 64) : (figL a b)[v]? = some (tr a b v) := by
 unfold figL tr
 by_cases q : v < 62
 ·rw [List.getElem?_append_left (by simpa using q)]
  rw [if_neg (by omega), if_neg (by omega), List.getElem?_map, List.getElem?_range q]
  rfl
 ·rw [List.getElem?_append_right (by simp; omega)]
  obtain rfl | rfl : v = 62 \/ v = 63 := by omega
  ·rfl
  ·rfl
theorem idx_at {ds : List D} {i : Int} (h1 : decide (0 <= i) = true) (h2 : Nat.ble i.toNat 9223372036854775807 = true) : idx ds i = ds[i.toNat]? := by
 unfold idx
 rw [h1, h2]
 rfl
theorem idx_nat {ds : List D} {i : Nat} (hi : i < 1000) : idx ds (i : Int) = ds[i]? := idx_at (decide_eq_true (Int.natCast_nonneg i)) (Nat.ble_eq_true_of_le (by rw [Int.toNat_natCast]; exact Nat.le_trans (Nat.le_of_lt hi) (by decide)))
theorem sub_idx {ds : List D} {i : Int} {H : Hp} : subD H (.lst ds) (.int i) = idx ds i := rfl
theorem sub_lst {F : List Nat} {j : Int} {i x : Nat} {H : Hp} {Q : D -> Prop} (e : j = (i : Int)) (h : F[i]? = some x) (hi : i < 1000) (q : Q (.int (x : Int))) : OP (subD H (.lst (nats F)) (.int j)) Q := by
 subst e
 refine op_go ?_ q
 rw [sub_idx, idx_nat hi]
 unfold nats
 rw [List.getElem?_map, h]
 rfl
theorem binI_mul {a b : Int} (h1 : small a = true) (h2 : small b = true) : binI .mul a b = some (a * b) := by
 show (match small a && small b with | true => some (a * b) | false => none) = _
 rw [h1, h2]
 rfl
theorem binI_pow {a b : Int} (h1 : small a = true) (h2 : 0 <= b) (h3 : b <= 1000) : binI .pow a b = some (a ^ b.toNat) := by
 show (match small a && decide (0 <= b) && decide (b <= 1000) with | true => some (a ^ b.toNat) | false => none) = _
 rw [h1, decide_eq_true h2, decide_eq_true h3]
 rfl
theorem binI_fdiv {a b : Int} (h : inB b = true) : binI .fdiv a b = some (a.fdiv b) := by
 show (match inB b with | true => some (a.fdiv b) | false => none) = _
 rw [h]
theorem binI_mod {a b : Int} (h : inB b = true) : binI .mod a b = some (a.fmod b) := by
 show (match inB b with | true => some (a.fmod b) | false => none) = _
 rw [h]
section
variable {a b : Nat} {x y : Int} {Q : D -> Prop}
theorem op_mulN (e1 : x = (a : Int)) (e2 : y = (b : Int)) (ha : a < 1000000000) (hb : b < 1000000000) (q : Q (.int ((a * b : Nat) : Int))) : OPB .mul (.int x) (.int y) Q := by
 subst e1 e2
 refine op_int (binI_mul (small_nat ha) (small_nat hb)) ?_
 rw [Int.natCast_mul] at q
 exact q
theorem op_fdivN (e1 : x = (a : Int)) (e2 : y = (b : Int)) (h1 : 1 <= b) (hb : b < 1000000000) (q : Q (.int ((a / b : Nat) : Int))) : OPB .fdiv (.int x) (.int y) Q := by
 subst e1 e2
 refine op_int (binI_fdiv (inB_nat h1 hb)) ?_
 rw [Int.fdiv_eq_ediv_of_nonneg _ (Int.natCast_nonneg b)]
 rw [Int.natCast_ediv] at q
 exact q
theorem op_modN (e1 : x = (a : Int)) (e2 : y = (b : Int)) (h1 : 1 <= b) (hb : b < 1000000000) (q : Q (.int ((a % b : Nat) : Int))) : OPB .mod (.int x) (.int y) Q := by
 subst e1 e2
 refine op_int (binI_mod (inB_nat h1 hb)) ?_
 rw [Int.fmod_eq_emod_of_nonneg _ (Int.natCast_nonneg b)]
 rw [Int.natCast_emod] at q
 exact q
theorem op_powN (e1 : x = (a : Int)) (e2 : y = (b : Int)) (ha : a < 1000000000) (hb : b <= 1000) (q : Q (.int ((a ^ b : Nat) : Int))) : OPB .pow (.int x) (.int y) Q := by
 subst e1 e2
 refine op_int (binI_pow (small_nat ha) (Int.natCast_nonneg b) (by omega)) ?_
 rw [Int.natCast_pow] at q
 rw [Int.toNat_natCast]
 exact q
end
noncomputable def sgB : List Stm := match fn16.body with
 | _ :: _ :: _ :: _ :: .for_ _ _ _ b :: _ => b
 | _ => []
noncomputable def sgE : Ex := .sub (.v 2) (.bin .mod (.bin .fdiv (.v 7) (.bin .pow (.k (.int 64)) (.c 0))) (.k (.int 64)))
noncomputable def sg4 (a b x y z : Nat) : List Nat := [tr a b (x / 4), tr a b (x % 4 * 16 + y / 16), tr a b (y % 16 * 4 + z / 64), tr a b (z % 64)]
theorem sg_sign {c : CallF} {n a b N j : Nat} {x : Int} {lo : Lo} {H : Hp} {Q : D -> Hp -> Prop} (h2 : lo[2]? = some (some (.lst (nats (figL a b))))) (h7 : lo[7]? = some (some (.int x))) (eN : x = (N : Int)) (hj : j <= 3) (q : Q (.int (tr a b (N / 64 ^ j % 64) : Int)) H) :
  (fnsN c (n + 5)).ev [.int (j : Int)] lo sgE H Q := by
 have hp : 64 ^ j < 1000000000 := Nat.lt_of_le_of_lt (Nat.pow_le_pow_right (by decide) hj) (by decide)
 show wOO lo[2]? _
 rw [h2]
 show wOO lo[7]? _
 rw [h7]
 refine op_powN (a := 64) (b := j) rfl rfl (by decide) (by omega) ?_
 refine op_fdivN eN rfl (Nat.pow_pos (by decide)) hp ?_
 refine op_modN (b := 64) rfl rfl (by decide) (by decide) ?_
 exact sub_lst rfl (fig_at (Nat.mod_lt _ (by decide))) (Nat.lt_trans (Nat.mod_lt _ (by decide)) (by decide)) q
theorem op_extend {H : Hp} {k : Nat} {ds es : List D} {Q : D × Hp -> Prop} (hk : H[k]? = some (.list ds)) (hl : ds.length + es.length <= lim) (h : Q (.none, H.set k (.list (ds ++ es)))) : OP (bmD .extend (.ref k) [.lst es] H) Q := by
 refine op_go ?_ h
 show hL H k (fun ds => gd (decide (ds.length + es.length <= lim)) (some (D.none, H.set k (.list (ds ++ es))))) = _
 unfold hL
 rw [hk]
 show gd (decide (ds.length + es.length <= lim)) _ = _
 rw [decide_eq_true hl]
 rfl
theorem sg_div {x y z : Nat} (hx : x < 256) (hy : y < 256) (hz : z < 256) : (x * 65536 + y * 256 + z) / 64 ^ 3 % 64 = x / 4 /\ (x * 65536 + y * 256 + z) / 64 ^ 2 % 64 = x % 4 * 16 + y / 16 /\ (x * 65536 + y * 256 + z) / 64 ^ 1 % 64 = y % 16 * 4 + z / 64 /\ (x * 65536 + y * 256 + z) / 64 ^ 0 % 64 = z % 64 := by
 have e : x * 65536 + y * 256 + z = (x * 256 + y) * 256 + z := by rw [Nat.add_mul, <- sp x 256 256]
 have h : ((x * 256 + y) * 256 + z) / 256 = x * 256 + y := by rw [dv (by decide), Nat.div_eq_of_lt hz, Nat.add_zero]
 rw [e]
 refine ⟨?_, ?_, ?_, ?_⟩
 ·rw [show 64 ^ 3 = 256 * (256 * 4) from rfl, <- Nat.div_div_eq_div_mul, h, <- Nat.div_div_eq_div_mul, dv (by decide), Nat.div_eq_of_lt hy, Nat.add_zero]
  exact Nat.mod_eq_of_lt (dl 4 hx)
 ·rw [show 64 ^ 2 = 256 * 16 from rfl, <- Nat.div_div_eq_div_mul, h, m1 hy]
 ·rw [Nat.pow_one, m2 hz, m5]
 ·rw [Nat.pow_zero, Nat.div_one, m3]
theorem sg_turn {c : CallF} {d0 d1 d3 d7 : Option D} {a b k g x y z : Nat} {F out : List Nat} {H : Hp} (hk : H[k]? = some (.list (nats out))) (hl : out.length <= 100) (hg : g < 100) (hx : F[g]? = some x) (hy : F[g + 1]? = some y) (hz : F[g + 2]? = some z) (bx : x < 256) (bY : y < 256) (bz : z < 256) {Q : Fl -> Lo -> Hp -> Prop}
  (q : Q .next [d0, d1, some (.lst (nats (figL a b))), d3, some (.lst (nats F)), some (.ref k), some (.int (g : Int)), some (.int ((x * 65536 + y * 256 + z : Nat) : Int))] (H.set k (.list (nats (out ++ sg4 a b x y z))))) :
  exs (fnsN c 29) sgB [d0, d1, some (.lst (nats (figL a b))), d3, some (.lst (nats F)), some (.ref k), some (.int (g : Int)), d7] H Q := by
 obtain ⟨e3, e2, e1, e0⟩ := sg_div bx bY bz
 have hN : ((x * 65536 : Nat) : Int) + ((y * 256 : Nat) : Int) + (z : Int) = ((x * 65536 + y * 256 + z : Nat) : Int) := by rw [Int.natCast_add, Int.natCast_add]
 rw [<- hN] at q
 refine sub_lst rfl hx (by omega) ?_
 refine op_mulN (b := 65536) rfl rfl (by omega) (by decide) ?_
 refine sub_lst (i := g + 1) rfl hy (by omega) ?_
 refine op_mulN (b := 256) rfl rfl (by omega) (by decide) ?_
 refine sub_lst (i := g + 2) rfl hz (by omega) ?_
 refine wT_go (decide_eq_true (bmK_list hk)) ?_
 refine comp_map (fun d => (dI d fun j => some (D.int (tr a b ((x * 65536 + y * 256 + z) / 64 ^ j.toNat % 64) : Int))).getD .none) rfl rfl (by decide) (fun d md K h => ?_) ?_
 ·refine op_go rfl ?_
  have : ∃ j : Nat, j <= 3 /\ d = .int (j : Int) := by
   rcases List.mem_cons.mp md with rfl | md
   ·exact ⟨3, by decide, rfl⟩
   rcases List.mem_cons.mp md with rfl | md
   ·exact ⟨2, by decide, rfl⟩
   rcases List.mem_cons.mp md with rfl | md
   ·exact ⟨1, by decide, rfl⟩
   rcases List.mem_cons.mp md with rfl | md
   ·exact ⟨0, by decide, rfl⟩
   ·exact nomatch md
  obtain ⟨j, hj, rfl⟩ := this
  refine sg_sign (x := ((x * 65536 : Nat) : Int) + ((y * 256 : Nat) : Int) + (z : Int)) (N := x * 65536 + y * 256 + z) rfl rfl hN hj ?_
  exact h
 ·have e : [D.int 3, .int 2, .int 1, .int 0].map (fun d => (dI d fun j => some (D.int (tr a b ((x * 65536 + y * 256 + z) / 64 ^ j.toNat % 64) : Int))).getD .none) = nats (sg4 a b x y z) := by
   show [D.int (tr a b ((x * 65536 + y * 256 + z) / 64 ^ 3 % 64) : Int), D.int (tr a b ((x * 65536 + y * 256 + z) / 64 ^ 2 % 64) : Int), D.int (tr a b ((x * 65536 + y * 256 + z) / 64 ^ 1 % 64) : Int), D.int (tr a b ((x * 65536 + y * 256 + z) / 64 ^ 0 % 64) : Int)] = _
   rw [e3, e2, e1, e0]
   rfl
  rw [e]
  refine op_extend hk (by rw [nats_len, nats_len]; show _ + 4 <= _; exact Nat.le_trans (Nat.add_le_add_right hl 4) (by decide)) ?_
  rw [<- nats_app]
  exact q
end Mine
end

section
open PySem PySem.W
namespace Mine
noncomputable def dg (row : List Nat) : List Nat := row.flatMap fun r => [r / 16, r % 16]
theorem dg_len : ∀ row : List Nat, (dg row).length = 2 * row.length
 | [] => rfl
 | x :: r => by
  show (dg r).length + 1 + 1 = 2 * (r.length + 1)
  rw [dg_len r]
  omega
theorem dg_dig : ∀ {row : List Nat}, (∀ v ∈ row, v < 256) -> Dig (dg row)
 | [], _ => fun _ m => nomatch m
 | x :: r, h => by
  have := h x (.head _)
  exact .cons (by omega) (.cons (Nat.mod_lt _ (by decide)) (dg_dig fun v m => h v (.tail _ m)))
theorem pk_dg : ∀ row : List Nat, pk (dg row) = row
 | [] => rfl
 | x :: r => by
  show (16 * (x / 16) + x % 16) :: pk (dg r) = x :: r
  rw [pk_dg r, Nat.div_add_mod]
theorem len_ref {H : Hp} {k : Nat} {ds : List D} (hk : H[k]? = some (.list ds)) (hl : ds.length <= 1000) : bfD .len [.ref k] H = some (.int (ds.length : Int), H) := by
 show hL H k (fun ds => ifLim ds.length (D.int (ds.length : Int), H)) = _
 unfold hL ifLim
 rw [hk]
 show (match decide (ds.length <= lim) with | true => some (D.int (ds.length : Int), H) | false => none) = _
 rw [decide_eq_true (show ds.length <= lim from Nat.le_trans hl (by decide))]
theorem slc_ref {H : Hp} {k : Nat} {n : Int} {ds : List D} (hk : H[k]? = some (.list ds)) (hl : ds.length <= 1000) (h0 : 0 <= n) : slcToD H (.ref k) (.int n) = some (.lst (ds.take n.toNat)) := by
 show hL H k (fun ds => takeD ds n) = _
 unfold hL takeD
 rw [hk]
 show gd (decide (0 <= n) && decide (ds.length <= lim)) _ = _
 rw [decide_eq_true (show ds.length <= lim from Nat.le_trans hl (by decide)), decide_eq_true h0]
 rfl
theorem nats_take (l : List Nat) (n : Nat) : (nats l).take n = nats (l.take n) := by unfold nats; rw [List.map_take]
theorem lp_next {lo : Lo} {H : Hp} {k : Lo -> Hp -> Prop} {Q : Fl -> Lo -> Hp -> Prop} (h : k lo H) : lp .next lo H k Q := h
noncomputable def SgLoop (a b : Nat) (F : List Nat) (gs : List D) (out : List Nat) : Prop := ∀ (c : CallF) (d0 d1 d3 : Option D) (H : Hp) (Q : Fl -> Lo -> Hp -> Prop),
 (∀ d6 d7, Q .next [d0, d1, some (.lst (nats (figL a b))), d3, some (.lst (nats F)), some (.ref H.length), d6, d7] (H ++ [.list (nats out)])) ->
 WF (fnsN c 29) 6 sgB gs [d0, d1, some (.lst (nats (figL a b))), d3, some (.lst (nats F)), some (.ref H.length), none, none] (H ++ [.list []]) Q
section
variable {a b x y z u v w : Nat}
theorem sg_l1 (hx : x < 256) (hy : y < 256) (hz : z < 256) : SgLoop a b [x, y, z] [.int 0] (sg4 a b x y z) := by
 intro c d0 d1 d3 H Q q
 refine wf_cons (d := .int 0) (sg_turn (k := H.length) (g := 0) (F := [x, y, z]) (out := []) get_last (by decide) (by decide) rfl rfl rfl hx hy hz ?_)
 rw [set_last]
 refine lp_next ?_
 exact wf_nil (q _ _)
theorem sg_l2 (hx : x < 256) (hy : y < 256) (hz : z < 256) (hu : u < 256) (hv : v < 256) (hw : w < 256) : SgLoop a b [x, y, z, u, v, w] [.int 0, .int 3] (sg4 a b x y z ++ sg4 a b u v w) := by
 intro c d0 d1 d3 H Q q
 refine wf_cons (d := .int 0) (sg_turn (k := H.length) (g := 0) (F := [x, y, z, u, v, w]) (out := []) get_last (by decide) (by decide) rfl rfl rfl hx hy hz ?_)
 rw [set_last]
 refine lp_next ?_
 refine wf_cons (d := .int 3) (sg_turn (k := H.length) (g := 3) (F := [x, y, z, u, v, w]) (out := sg4 a b x y z) get_last (show 4 <= 100 by decide) (by decide) rfl rfl rfl hu hv hw ?_)
 rw [set_last]
 refine lp_next ?_
 exact wf_nil (q _ _)
theorem sg_call {m : Nat} (hm : 1 <= m) {row zs F out pads T : List Nat} {n lack len keep : Int} {gs : List D} {H : Hp} {Q : D -> Hp -> Prop}
  (e1 : ∀ H, bfD .len [.lst (nats row)] H = some (.int n, H)) (e2 : binD .mod (.int (-n)) (.int 3) = some (.int lack)) (e3 : binD .mul (.lst [.int 0]) (.int lack) = some (.lst (nats zs))) (e4 : binD .add (.lst (nats row)) (.lst (nats zs)) = some (.lst (nats F)))
  (e5 : ∀ H, bfD .len [.lst (nats F)] H = some (.int len, H)) (e6 : itemsOf .range3 [.int 0, .int len, .int 3] = some gs) (hl : SgLoop a b F gs out) (e7 : decide (out.length <= 1000) = true) (e8 : 0 <= keep) (e9 : (out.length : Int) - lack = keep)
  (e10 : binD .mul (.lst [.int 61]) (.int lack) = some (.lst (nats pads))) (e11 : binD .add (.lst ((nats out).take keep.toNat)) (.lst (nats pads)) = some (.lst (nats T)))
  (q : ∀ o, Q (.lst (nats T)) (H ++ [o])) : callN tabF m 16 [.lst (nats row), .lst [.int (a : Int), .int (b : Int)]] H Q := by
 have hb : (nats out).length <= 1000 := by rw [nats_len]; exact of_decide_eq_true e7
 refine call_in (k := 0) hm rfl rfl rfl fun n' _ => ?_
 refine op_go (z := (.lst (nats ((List.range 62).map b64)), H)) (by kernel_rfl) ?_
 refine op_go (z := .lst (nats (figL a b))) (by kernel_rfl) ?_
 refine op_go (e1 H) ?_
 refine op_go e2 ?_
 refine op_go e3 ?_
 refine op_go e4 ?_
 refine op_go (e5 _) ?_
 refine for_range3 e6 ?_
 refine hl _ _ _ _ H _ fun d6 d7 => ?_
 refine op_go (len_ref get_last hb) ?_
 rw [nats_len]
 refine op_go (slc_ref (n := (out.length : Int) - lack) get_last hb (by rw [e9]; exact e8)) ?_
 rw [e9]
 refine op_go e10 ?_
 exact op_go e11 (q _)
theorem sa (x : Nat) : 4 * (x / 16) + x % 16 / 4 = x / 4 := by rw [<- q0, Nat.div_add_mod]
theorem sg (x : Nat) : 16 * (x % 16 % 4) = x % 4 * 16 := by rw [Nat.mod_mod_of_dvd _ (show 4 ∣ 16 from ⟨4, rfl⟩), Nat.mul_comm]
theorem sb (x : Nat) (hy : y < 256) : 16 * (x % 16 % 4) + y / 16 = x % 4 * 16 + y / 16 := by rw [sg]
theorem sc (y : Nat) (hz : z < 256) : 4 * (y % 16) + z / 16 / 4 = y % 16 * 4 + z / 64 := by rw [Nat.div_div_eq_div_mul, Nat.mul_comm]
theorem se (z : Nat) : 16 * (z / 16 % 4) + z % 16 = z % 64 := by rw [show z % 64 = z % (16 * 4) from rfl, Nat.mod_mul, Nat.add_comm]
theorem sf (y : Nat) : 4 * (y % 16) = y % 16 * 4 := Nat.mul_comm ..
end
theorem sgp1 {a b x : Nat} (hx : x < 256) : (sg4 a b x 0 0).take 2 ++ ([61, 61] : List Nat) = txt a b (dg [x]) := by
 have e : txt a b (dg [x]) = [tr a b (4 * (x / 16) + x % 16 / 4), tr a b (16 * (x % 16 % 4)), 61, 61] := by kernel_rfl
 rw [e, sa x, sg x]
 rfl
theorem wc16_1 {m : Nat} (hm : 1 <= m) {a b x : Nat} {H : Hp} {Q : D -> Hp -> Prop} (hx : x < 256)
  (q : ∀ o, Q (.lst (nats (txt a b (dg [x])))) (H ++ [o])) : callN tabF m 16 [.lst (nats [x]), .lst [.int (a : Int), .int (b : Int)]] H Q :=
 sg_call hm (n := 1) (lack := 2) (zs := [0, 0]) (F := [x, 0, 0]) (len := 3) (out := sg4 a b x 0 0) (keep := 2) (pads := [61, 61]) (fun _ => by kernel_rfl) (by kernel_rfl) (by kernel_rfl) (by kernel_rfl) (fun _ => by kernel_rfl) (by kernel_rfl) (sg_l1 hx (by decide) (by decide)) (by kernel_rfl) (by decide) (by kernel_rfl) (by kernel_rfl) (by rw [nats_take, <- sgp1 hx]; kernel_rfl) q
theorem sgp2 {a b x y : Nat} (hx : x < 256) (hy : y < 256) : (sg4 a b x y 0).take 3 ++ ([61] : List Nat) = txt a b (dg [x, y]) := by
 have e : txt a b (dg [x, y]) = [tr a b (4 * (x / 16) + x % 16 / 4), tr a b (16 * (x % 16 % 4) + y / 16), tr a b (4 * (y % 16)), 61] := by kernel_rfl
 rw [e, sa x, sb x hy, sf y]
 rfl
theorem wc16_2 {m : Nat} (hm : 1 <= m) {a b x y : Nat} {H : Hp} {Q : D -> Hp -> Prop} (hx : x < 256) (hy : y < 256)
  (q : ∀ o, Q (.lst (nats (txt a b (dg [x, y])))) (H ++ [o])) : callN tabF m 16 [.lst (nats [x, y]), .lst [.int (a : Int), .int (b : Int)]] H Q :=
 sg_call hm (n := 2) (lack := 1) (zs := [0]) (F := [x, y, 0]) (len := 3) (out := sg4 a b x y 0) (keep := 3) (pads := [61]) (fun _ => by kernel_rfl) (by kernel_rfl) (by kernel_rfl) (by kernel_rfl) (fun _ => by kernel_rfl) (by kernel_rfl) (sg_l1 hx hy (by decide)) (by kernel_rfl) (by decide) (by kernel_rfl) (by kernel_rfl) (by rw [nats_take, <- sgp2 hx hy]; kernel_rfl) q
theorem sgp3 {a b x y z : Nat} (hx : x < 256) (hy : y < 256) (hz : z < 256) : (sg4 a b x y z).take 4 ++ ([] : List Nat) = txt a b (dg [x, y, z]) := by
 have e : txt a b (dg [x, y, z]) = [tr a b (4 * (x / 16) + x % 16 / 4), tr a b (16 * (x % 16 % 4) + y / 16), tr a b (4 * (y % 16) + z / 16 / 4), tr a b (16 * (z / 16 % 4) + z % 16)] := by kernel_rfl
 rw [e, sa x, sb x hy, sc y hz, se z]
 rfl
theorem wc16_3 {m : Nat} (hm : 1 <= m) {a b x y z : Nat} {H : Hp} {Q : D -> Hp -> Prop} (hx : x < 256) (hy : y < 256) (hz : z < 256)
  (q : ∀ o, Q (.lst (nats (txt a b (dg [x, y, z])))) (H ++ [o])) : callN tabF m 16 [.lst (nats [x, y, z]), .lst [.int (a : Int), .int (b : Int)]] H Q :=
 sg_call hm (n := 3) (lack := 0) (zs := []) (F := [x, y, z]) (len := 3) (out := sg4 a b x y z) (keep := 4) (pads := []) (fun _ => by kernel_rfl) (by kernel_rfl) (by kernel_rfl) (by kernel_rfl) (fun _ => by kernel_rfl) (by kernel_rfl) (sg_l1 hx hy hz) (by kernel_rfl) (by decide) (by kernel_rfl) (by kernel_rfl) (by rw [nats_take, <- sgp3 hx hy hz]; kernel_rfl) q
theorem sgp4 {a b x y z u : Nat} (hx : x < 256) (hy : y < 256) (hz : z < 256) (hu : u < 256) : (sg4 a b x y z ++ sg4 a b u 0 0).take 6 ++ ([61, 61] : List Nat) = txt a b (dg [x, y, z, u]) := by
 have e : txt a b (dg [x, y, z, u]) = [tr a b (4 * (x / 16) + x % 16 / 4), tr a b (16 * (x % 16 % 4) + y / 16), tr a b (4 * (y % 16) + z / 16 / 4), tr a b (16 * (z / 16 % 4) + z % 16), tr a b (4 * (u / 16) + u % 16 / 4), tr a b (16 * (u % 16 % 4)), 61, 61] := by kernel_rfl
 rw [e, sa x, sb x hy, sc y hz, se z, sa u, sg u]
 rfl
theorem wc16_4 {m : Nat} (hm : 1 <= m) {a b x y z u : Nat} {H : Hp} {Q : D -> Hp -> Prop} (hx : x < 256) (hy : y < 256) (hz : z < 256) (hu : u < 256)
  (q : ∀ o, Q (.lst (nats (txt a b (dg [x, y, z, u])))) (H ++ [o])) : callN tabF m 16 [.lst (nats [x, y, z, u]), .lst [.int (a : Int), .int (b : Int)]] H Q :=
 sg_call hm (n := 4) (lack := 2) (zs := [0, 0]) (F := [x, y, z, u, 0, 0]) (len := 6) (out := sg4 a b x y z ++ sg4 a b u 0 0) (keep := 6) (pads := [61, 61]) (fun _ => by kernel_rfl) (by kernel_rfl) (by kernel_rfl) (by kernel_rfl) (fun _ => by kernel_rfl) (by kernel_rfl) (sg_l2 hx hy hz hu (by decide) (by decide)) (by kernel_rfl) (by decide) (by kernel_rfl) (by kernel_rfl) (by rw [nats_take, <- sgp4 hx hy hz hu]; kernel_rfl) q
theorem sgp5 {a b x y z u v : Nat} (hx : x < 256) (hy : y < 256) (hz : z < 256) (hu : u < 256) (hv : v < 256) : (sg4 a b x y z ++ sg4 a b u v 0).take 7 ++ ([61] : List Nat) = txt a b (dg [x, y, z, u, v]) := by
 have e : txt a b (dg [x, y, z, u, v]) = [tr a b (4 * (x / 16) + x % 16 / 4), tr a b (16 * (x % 16 % 4) + y / 16), tr a b (4 * (y % 16) + z / 16 / 4), tr a b (16 * (z / 16 % 4) + z % 16), tr a b (4 * (u / 16) + u % 16 / 4), tr a b (16 * (u % 16 % 4) + v / 16), tr a b (4 * (v % 16)), 61] := by kernel_rfl
 rw [e, sa x, sb x hy, sc y hz, se z, sa u, sb u hv, sf v]
 rfl
theorem wc16_5 {m : Nat} (hm : 1 <= m) {a b x y z u v : Nat} {H : Hp} {Q : D -> Hp -> Prop} (hx : x < 256) (hy : y < 256) (hz : z < 256) (hu : u < 256) (hv : v < 256)
  (q : ∀ o, Q (.lst (nats (txt a b (dg [x, y, z, u, v])))) (H ++ [o])) : callN tabF m 16 [.lst (nats [x, y, z, u, v]), .lst [.int (a : Int), .int (b : Int)]] H Q :=
 sg_call hm (n := 5) (lack := 1) (zs := [0]) (F := [x, y, z, u, v, 0]) (len := 6) (out := sg4 a b x y z ++ sg4 a b u v 0) (keep := 7) (pads := [61]) (fun _ => by kernel_rfl) (by kernel_rfl) (by kernel_rfl) (by kernel_rfl) (fun _ => by kernel_rfl) (by kernel_rfl) (sg_l2 hx hy hz hu hv (by decide)) (by kernel_rfl) (by decide) (by kernel_rfl) (by kernel_rfl) (by rw [nats_take, <- sgp5 hx hy hz hu hv]; kernel_rfl) q
theorem wc16 {m : Nat} (hm : 1 <= m) {a b : Nat} {H : Hp} {Q : D -> Hp -> Prop} : ∀ (row : List Nat), (∀ v ∈ row, v < 256) -> 1 <= row.length -> row.length <= 5 -> (∀ o, Q (.lst (nats (txt a b (dg row)))) (H ++ [o])) -> callN tabF m 16 [.lst (nats row), .lst [.int (a : Int), .int (b : Int)]] H Q
 | [], _, h, _, _ => absurd h (by decide)
 | [x], h, _, _, q => wc16_1 hm (h x (.head _)) q
 | [x, y], h, _, _, q => wc16_2 hm (h x (.head _)) (h y (.tail _ (.head _))) q
 | [x, y, z], h, _, _, q => wc16_3 hm (h x (.head _)) (h y (.tail _ (.head _))) (h z (.tail _ (.tail _ (.head _)))) q
 | [x, y, z, u], h, _, _, q => wc16_4 hm (h x (.head _)) (h y (.tail _ (.head _))) (h z (.tail _ (.tail _ (.head _)))) (h u (.tail _ (.tail _ (.tail _ (.head _))))) q
 | [x, y, z, u, v], h, _, _, q => wc16_5 hm (h x (.head _)) (h y (.tail _ (.head _))) (h z (.tail _ (.tail _ (.head _)))) (h u (.tail _ (.tail _ (.tail _ (.head _))))) (h v (.tail _ (.tail _ (.tail _ (.tail _ (.head _)))))) q
 | _ :: _ :: _ :: _ :: _ :: _ :: r, _, _, h, _ => absurd h (show ¬ r.length + 6 <= 5 by omega)
end Mine
end

section
open PySem PySem.W
namespace Mine
theorem op_modZ {a y : Int} {b : Nat} {Q : D -> Prop} (e : y = (b : Int)) (h1 : 1 <= b) (hb : b < 1000000000) (q : ∀ r : Nat, r < b -> Q (.int (r : Int))) : OPB .mod (.int a) (.int y) Q := by
 subst e
 have e1 : 0 <= a % (b : Int) := Int.emod_nonneg _ (by omega)
 have e2 : a % (b : Int) < b := Int.emod_lt_of_pos _ (by omega)
 obtain ⟨r, hr⟩ := Int.eq_ofNat_of_zero_le e1
 rw [hr] at e2
 refine op_int (binI_mod (inB_nat h1 hb)) ?_
 rw [Int.fmod_eq_emod_of_nonneg _ (Int.natCast_nonneg b), hr]
 exact q r (Int.ofNat_lt.mp e2)
theorem op_fdivZ {a y : Int} {b : Nat} {Q : D -> Prop} (e : y = (b : Int)) (h1 : 1 <= b) (hb : b < 1000000000) (q : Q (.int (a.fdiv (b : Int)))) : OPB .fdiv (.int a) (.int y) Q := by
 subst e
 exact op_int (binI_fdiv (inB_nat h1 hb)) q
theorem nats_erase : ∀ (l : List Nat) (i : Nat), (nats l).eraseIdx i = nats (l.eraseIdx i)
 | [], _ => rfl
 | _ :: _, 0 => rfl
 | v :: l, i + 1 => by
  show D.int (v : Int) :: (nats l).eraseIdx i = .int (v : Int) :: nats (l.eraseIdx i)
  rw [nats_erase l i]
theorem erase_perm : ∀ (l : List Nat) (i : Nat) (h : i < l.length), (l[i] :: l.eraseIdx i).Perm l
 | [], _, h => by simp at h
 | _ :: _, 0, _ => .refl _
 | v :: l, i + 1, h => by
  have h' : i < l.length := by simpa using h
  exact (List.Perm.swap v l[i] (l.eraseIdx i)).trans (.cons v (erase_perm l i h'))
theorem op_popAt {H : Hp} {k i x : Nat} {l : List Nat} {Q : D × Hp -> Prop} (hk : H[k]? = some (.list (nats l))) (hl : l.length <= 1000) (hx : l[i]? = some x) (q : Q (.int (x : Int), H.set k (.list (nats (l.eraseIdx i))))) :
  OP (bmD .popAt (.ref k) [.int (i : Int)] H) Q := by
 refine op_go ?_ q
 show hL H k (fun ds => gd (decide (0 <= (i : Int)) && decide (ds.length <= lim)) ((ds[(i : Int).toNat]?).map fun d => (d, H.set k (.list (ds.eraseIdx (i : Int).toNat))))) = _
 unfold hL
 rw [hk]
 show gd (decide (0 <= (i : Int)) && decide ((nats l).length <= lim)) (((nats l)[(i : Int).toNat]?).map fun d => (d, H.set k (.list ((nats l).eraseIdx (i : Int).toNat)))) = _
 rw [nats_len, decide_eq_true (Int.natCast_nonneg i), decide_eq_true (show l.length <= lim from Nat.le_trans hl (by decide)), Int.toNat_natCast, nats_erase]
 show ((nats l)[i]?).map _ = _
 unfold nats
 rw [List.getElem?_map, hx]
 rfl
theorem bmK_pop {H : Hp} {k : Nat} {ds : List D} (hk : H[k]? = some (.list ds)) : bmK .popAt (.ref k) H = true := decide_eq_true (bmK_list hk)
noncomputable def OT : List Nat := (List.range 256).filter fun c => decide (c ≠ 61) && (List.range 62).all fun v => decide (b64 v ≠ c)
theorem ot_len : OT.length = 193 := by decide +kernel
theorem ot_sg {c : Nat} (h : c ∈ OT) : Sg c := by
 unfold OT at h
 rw [List.mem_filter, Bool.and_eq_true, decide_eq_true_eq, List.all_eq_true] at h
 exact ⟨List.mem_range.mp h.1, h.2.1, fun v hv => of_decide_eq_true (h.2.2 v (List.mem_range.mpr hv))⟩
theorem ot_nodup : OT.Nodup := List.Pairwise.filter _ List.nodup_range
noncomputable def twoC : Ex := .cmp .notIn (.c 0) (.k (.bytes [61, 65, 66, 67, 68, 69, 70, 71, 72, 73, 74, 75, 76, 77, 78, 79, 80, 81, 82, 83, 84, 85, 86, 87, 88, 89, 90, 97, 98, 99, 100, 101, 102, 103, 104, 105, 106, 107, 108, 109, 110, 111, 112, 113, 114, 115, 116, 117, 118, 119, 120, 121, 122, 48, 49, 50, 51, 52, 53, 54, 55, 56, 57]))
theorem ot_comp {c : CallF} {x : Int} (hx : x = 256) {lo : Lo} {H : Hp} {Q : List D -> Hp -> Prop} (q : Q (nats OT) H) : compX (fnsN c 28) lo (.c 0) .range1 [twoC] 0 [.int x] H Q := by
 subst hx
 have e : compX (fnsN c 28) lo (.c 0) .range1 [twoC] 0 [.int 256] H Q = Q (nats OT) H := by kernel_rfl
 rw [e]
 exact q
theorem sub_ref {H : Hp} {k i x : Nat} {l : List Nat} {Q : D -> Prop} (hk : H[k]? = some (.list (nats l))) (hx : l[i]? = some x) (hi : i < 1000) (q : Q (.int (x : Int))) : OP (subD H (.ref k) (.int (i : Int))) Q := by
 refine op_go ?_ q
 show subO H[k]? (i : Int) = _
 rw [hk]
 show idx (nats l) (i : Int) = _
 rw [idx_nat hi]
 unfold nats
 rw [List.getElem?_map, hx]
 rfl
noncomputable def twoB (x : Int) : List Stm := [.asg 1 (.comp true (.c 0) .range1 [.k (.int x)] [twoC] 0), .asg 2 (.bm .popAt (.v 1) [(.bin .mod (.v 0) (.k (.int 193)))]),
 .ret (.lst [(.v 2), (.sub (.v 1) (.bin .mod (.bin .fdiv (.v 0) (.k (.int 193))) (.k (.int 192))))])]
theorem two_run {c : CallF} {x N : Int} (hx : x = 256) {H : Hp} {Q : D -> Hp -> Prop} (q : ∀ a b, Sg a -> Sg b -> a ≠ b -> ∀ o, Q (.lst [.int ((a : Nat) : Int), .int ((b : Nat) : Int)]) (H ++ [o])) : exs (fnsN c 30) (twoB x) [some (.int N), none, none] H (retQ Q) := by
 refine ot_comp hx ?_
 refine wT_go (bmK_pop get_last) ?_
 refine op_modZ (b := 193) rfl (by decide) (by decide) fun r hr => ?_
 have hr1 : r < OT.length := by rw [ot_len]; exact hr
 refine op_popAt get_last (by rw [ot_len]; decide) (List.getElem?_eq_getElem hr1) ?_
 rw [set_last]
 refine op_fdivZ (b := 193) rfl (by decide) (by decide) ?_
 refine op_modZ (b := 192) rfl (by decide) (by decide) fun s hs => ?_
 have hs1 : s < (OT.eraseIdx r).length := by rw [List.length_eraseIdx_of_lt hr1, ot_len]; exact hs
 refine sub_ref get_last (List.getElem?_eq_getElem hs1) (Nat.lt_trans hs (by decide)) ?_
 have ha : OT[r] ∈ OT := List.getElem_mem hr1
 have hbm : (OT.eraseIdx r)[s] ∈ OT.eraseIdx r := List.getElem_mem hs1
 have hb : (OT.eraseIdx r)[s] ∈ OT := List.mem_of_mem_eraseIdx hbm
 refine q _ _ (ot_sg ha) (ot_sg hb) ?_ _
 intro e
 have hn := ((erase_perm _ _ hr1).nodup_iff).mpr ot_nodup
 rw [List.nodup_cons] at hn
 exact hn.1 (e ▸ hbm)
theorem wc14 {m : Nat} (hm : 1 <= m) {N : Int} {H : Hp} {Q : D -> Hp -> Prop} (q : ∀ a b, Sg a -> Sg b -> a ≠ b -> ∀ o, Q (.lst [.int ((a : Nat) : Int), .int ((b : Nat) : Int)]) (H ++ [o])) : callN tabF m 14 [.int N] H Q :=
 call_in (k := 0) hm rfl rfl rfl fun n _ => two_run (x := 256) rfl q
theorem py_nats : ∀ l : List Nat, py1s (nats l) = some (l.map fun (v : Nat) => PyData.int (v : Int))
 | [] => rfl
 | v :: r => by
  show (match py1s (nats r) with | some xs => some (PyData.int (v : Int) :: xs) | none => none) = _
  rw [py_nats r]
  rfl
theorem ne_nil {H : Hp} {k : Nat} {l : List Nat} (hk : H[k]? = some (.list (nats l))) : cmpD H .ne (.ref k) (.lst []) = some (!l.isEmpty) := by
 show hL H k (fun a => neDs a []) = _
 unfold hL
 rw [hk]
 show neDs (nats l) [] = _
 unfold neDs
 rw [py_nats]
 cases l <;> rfl
noncomputable def ordW : List Stm := match fn15.body with
 | _ :: _ :: .while_ _ b _ :: _ => b
 | _ => []
theorem get_two {H : Hp} {a b : Ob} : (H ++ [a, b])[H.length]? = some a /\ (H ++ [a, b])[H.length + 1]? = some b := by simp
theorem set_two {H : Hp} {a b c : Ob} : (H ++ [a, b]).set H.length c = H ++ [c, b] /\ (H ++ [a, b]).set (H.length + 1) c = H ++ [a, c] := by
 constructor
 ·rw [List.set_append_right _ _ (Nat.le_refl _)]
  simp
 ·rw [List.set_append_right _ _ (by omega)]
  simp
theorem ord_loop {c : CallF} {d0 : Option D} {H : Hp} {Q : Fl -> Lo -> Hp -> Prop} (size : Nat) (hs : size <= 100)
  (q : ∀ P N, P.Perm (List.range size) -> Q .next [d0, some (.int N), some (.ref H.length), some (.ref (H.length + 1))] (H ++ [.list [], .list (nats P)])) : ∀ (t : Nat) (L P : List Nat) (N : Int), (P ++ L).Perm (List.range size) -> L.length < t ->
  WH (fnsN c 29) (.cmp .ne (.v 2) (.lst [])) ordW [] t [d0, some (.int N), some (.ref H.length), some (.ref (H.length + 1))] (H ++ [.list (nats L), .list (nats P)]) Q
 | 0, _, _, _, _, h => absurd h (Nat.not_lt_zero _)
 | t + 1, [], P, N, hp, ht => by
  refine wh_step (op_go (ne_nil (l := []) get_two.1) ?_)
  exact q P N (by rwa [List.append_nil] at hp)
 | t + 1, x :: L, P, N, hp, ht => by
  have hlen : P.length + (L.length + 1) = size := by
   have := hp.length_eq
   rwa [List.length_append, List.length_range] at this
  refine wh_step (op_go (ne_nil (l := x :: L) get_two.1) ?_)
  refine wT_go (bmK_app get_two.2) ?_
  refine wT_go (bmK_pop get_two.1) ?_
  refine op_go (len_ref get_two.1 (by rw [nats_len]; show L.length + 1 <= _; omega)) ?_
  rw [nats_len]
  refine op_modZ (b := (x :: L).length) rfl (Nat.succ_le_succ (Nat.zero_le _)) (show L.length + 1 < _ by omega) fun r hr => ?_
  have hel : ((x :: L).eraseIdx r).length = L.length := by rw [List.length_eraseIdx_of_lt hr]; rfl
  refine op_popAt get_two.1 (show L.length + 1 <= _ by omega) (List.getElem?_eq_getElem hr) ?_
  rw [set_two.1]
  refine op_appN get_two.2 (by omega) rfl ?_
  rw [set_two.2]
  refine op_go (len_ref get_two.1 (by rw [nats_len, hel]; omega)) ?_
  rw [nats_len, hel]
  refine op_fdivZ (b := L.length + 1) rfl (Nat.succ_le_succ (Nat.zero_le _)) (by omega) ?_
  refine ord_loop size hs q t _ _ _ ?_ (by rw [hel]; exact Nat.lt_of_succ_lt_succ ht)
  rw [List.append_assoc]
  exact ((erase_perm _ _ hr).append_left P).trans hp
theorem wc15 {m : Nat} (hm : 1 <= m) {size : Nat} {N : Int} {H : Hp} {Q : D -> Hp -> Prop} (hs : size <= 100) (q : ∀ P, P.Perm (List.range size) -> Q (.ref (H.length + 1)) (H ++ [.list [], .list (nats P)])) : callN tabF m 15 [.int (size : Int), .int N] H Q := by
 refine call_in (k := 0) hm rfl rfl rfl fun n _ => ?_
 have hn : bfD .nlist [.int (size : Int)] H = some (.ref H.length, H ++ [.list (nats (List.range size))]) := by
  show gd (decide (0 <= (size : Int)) && decide ((size : Int) <= 1000)) (some (D.ref H.length, H ++ [Ob.list (rangeL (size : Int))])) = _
  rw [decide_eq_true (Int.natCast_nonneg size), decide_eq_true (show (size : Int) <= 1000 by omega)]
  unfold rangeL nats
  rw [Int.toNat_natCast]
  rfl
 refine op_go hn ?_
 refine wh_go ?_
 have e : (H ++ [Ob.list (nats (List.range size))]).length = H.length + 1 := by rw [List.length_append]; rfl
 have e2 : (H ++ [Ob.list (nats (List.range size))]) ++ [Ob.list []] = H ++ [.list (nats (List.range size)), .list (nats [])] := List.append_assoc ..
 show WH (fnsN _ 29) _ ordW [] 5000 [some (.int (size : Int)), some (.int N), some (.ref H.length), some (.ref (H ++ [Ob.list (nats (List.range size))]).length)] ((H ++ [Ob.list (nats (List.range size))]) ++ [Ob.list []]) _
 rw [e, e2]
 refine ord_loop (d0 := some (.int (size : Int))) size hs ?_ 5000 (List.range size) [] N (.refl _) (by rw [List.length_range]; omega)
 intro P N hP
 exact q P hP
end Mine
end

section
open PySem PySem.W
namespace Mine
noncomputable def Same (l : List D) : Prop := ∃ xs, py1s l = some xs /\ PyData.eqvAll xs xs = true
theorem same_nil : Same [] := ⟨[], rfl, by simp [PyData.eqvAll]⟩
theorem same_int {i : Int} {l : List D} (h : Same l) : Same (.int i :: l) := by
 obtain ⟨xs, h1, h2⟩ := h
 refine ⟨.int i :: xs, ?_, ?_⟩
 ·show (match py1s l with | some xs => some (PyData.int i :: xs) | none => none) = _
  rw [h1]
 ·simp [PyData.eqvAll, PyData.eqv, h2]
theorem same_pair {i j : Int} {l : List D} (h : Same l) : Same (.tup [.int i, .int j] :: l) := by
 obtain ⟨xs, h1, h2⟩ := h
 refine ⟨.tuple [.int i, .int j] :: xs, ?_, ?_⟩
 ·show (match py1s l with | some xs => some (PyData.tuple [.int i, .int j] :: xs) | none => none) = _
  rw [h1]
 ·simp [PyData.eqvAll, PyData.eqv, h2]
theorem same_ne {l : List D} (h : Same l) : neDs l l = some false := by
 obtain ⟨xs, h1, h2⟩ := h
 unfold neDs
 rw [h1]
 simp [h2]
theorem same_nats : ∀ l : List Nat, Same (nats l)
 | [] => same_nil
 | _ :: r => same_int (same_nats r)
theorem same_newI : ∀ (b j : Nat) (o n : List Bool), Same (newI b j o n)
 | b, j, x :: o, y :: n => by
  have ih := same_newI b (j + 1) o n
  unfold newI sd
  cases y && !x
  ·exact ih
  ·exact same_int ih
 | _, _, [], _ => by unfold newI; exact same_nil
 | _, _, _ :: _, [] => by unfold newI; exact same_nil
theorem same_pr : ∀ (k : Nat) (E : List Bool) (A : List Nat), Same (prI k E A)
 | k, e :: E, x :: A => by
  have ih := same_pr (k + 1) E A
  unfold prI
  cases e
  ·exact ih
  ·exact same_pair ih
 | _, [], _ => by unfold prI; exact same_nil
 | _, _ :: _, [] => by unfold prI; exact same_nil
theorem in_nats : ∀ (c : List Nat) (i : Nat), inDs (.int (i : Int)) (nats c) = some (decide (i ∈ c))
 | [], i => by
  show some (List.any [] _) = _
  simp
 | v :: c, i => by
  have ih := in_nats c i
  unfold inDs at ih ⊢
  rw [show py1 (.int (i : Int)) = some (.int (i : Int)) from rfl, py_nats] at ih ⊢
  dsimp only at ih ⊢
  rw [Option.some.injEq] at ih ⊢
  rw [List.map_cons, List.any_cons, ih]
  have e : PyData.eqv (.int (v : Int)) (.int (i : Int)) = decide (i = v) := by
   simp [PyData.eqv]
   by_cases h : i = v
   ·subst h; simp
   ·rw [beq_eq_false_iff_ne.mpr (show (v : Int) ≠ (i : Int) by omega), decide_eq_false h]
  rw [e]
  simp
theorem pr_in : ∀ (E : List Bool) (A : List Nat) (k j t : Nat), A.length = E.length -> ∃ xs, py1s (prI k E A) = some xs /\
  (xs.any fun y => PyData.eqv y (.tuple [.int (j : Int), .int (t : Int)])) = (decide (k <= j) && E.getD (j - k) false && decide (A[j - k]? = some t))
 | [], [], k, j, t, _ => ⟨[], rfl, by simp⟩
 | [], _ :: _, _, _, _, h => by simp at h
 | _ :: _, [], _, _, _, h => by simp at h
 | e :: E, x :: A, k, j, t, hl => by
  obtain ⟨xs, h1, h2⟩ := pr_in E A (k + 1) j t (by simpa using hl)
  have hc : ∀ (hk : k + 1 <= j), j - k = (j - (k + 1)) + 1 := fun hk => by omega
  cases e with
  | false =>
   refine ⟨xs, h1, ?_⟩
   rw [h2]
   by_cases q : k + 1 <= j
   ·rw [decide_eq_true q, decide_eq_true (show k <= j by omega), hc q]
    simp
   ·rw [decide_eq_false q]
    by_cases q2 : k <= j
    ·obtain rfl : j = k := by omega
     simp
    ·rw [decide_eq_false q2]; simp
  | true =>
   refine ⟨.tuple [.int (k : Int), .int (x : Int)] :: xs, ?_, ?_⟩
   ·show (match py1s (prI (k + 1) E A) with | some xs => some (PyData.tuple [.int (k : Int), .int (x : Int)] :: xs) | none => none) = _
    rw [h1]
   ·rw [List.any_cons, h2]
    have e1 : PyData.eqv (.tuple [.int (k : Int), .int (x : Int)]) (.tuple [.int (j : Int), .int (t : Int)]) = (decide (k = j) && decide (x = t)) := by
     simp [PyData.eqv, PyData.eqvAll]
     by_cases h : k = j <;> by_cases h' : x = t <;> simp [h, h'] <;> omega
    rw [e1]
    by_cases q : k + 1 <= j
    ·rw [decide_eq_true q, decide_eq_true (show k <= j by omega), hc q, decide_eq_false (show ¬ k = j by omega)]
     simp
    ·rw [decide_eq_false q]
     by_cases q2 : k = j
     ·subst q2
      simp
     ·rw [decide_eq_false q2, decide_eq_false (show ¬ k <= j by omega)]; simp
theorem pr_notin {E : List Bool} {A : List Nat} {j t : Nat} {e : Bool} (hl : A.length = E.length) (he : E[j]? = some e) (ht : A[j]? = some t) (H : Hp) :
  cmpD H .notIn (.tup [.int (j : Int), .int (t : Int)]) (.lst (prI 0 E A)) = some (!e) := by
 obtain ⟨xs, h1, h2⟩ := pr_in E A 0 j t hl
 show (inDs (.tup [.int (j : Int), .int (t : Int)]) (prI 0 E A)).map (!·) = _
 unfold inDs
 rw [show py1 (.tup [.int (j : Int), .int (t : Int)]) = some (.tuple [.int (j : Int), .int (t : Int)]) from rfl, h1]
 dsimp only
 rw [h2, decide_eq_true (Nat.zero_le j), Nat.sub_zero, List.getD_eq_getElem?_getD, he, ht]
 simp
end Mine
end

section
open PySem PySem.W
namespace Mine
theorem add_nat (a b : Nat) : (a : Int) + (b : Int) = ((a + b : Nat) : Int) := by omega
theorem fm_pads {g : D -> Option D} {b : Nat} : ∀ (E : List Bool) (k : Nat), (∀ (i : Nat) e, E[i]? = some e -> g (.int ((k + i : Nat) : Int)) = if e then some (.int ((b + (k + i) : Nat) : Int)) else none) ->
  ((List.range' k E.length).map fun (i : Nat) => D.int (i : Int)).filterMap g = idxI (b + k) E
 | [], _, _ => rfl
 | e :: E, k, h => by
  have h0 : g (.int (k : Int)) = if e then some (.int ((b + k : Nat) : Int)) else none := h 0 e rfl
  have ih := fm_pads E (k + 1) fun i e m => by rw [show k + 1 + i = k + (i + 1) by omega]; exact h (i + 1) e m
  rw [List.length_cons, List.range'_succ, List.map_cons, List.filterMap_cons, h0, ih]
  cases e <;> rfl
theorem len_lst {l : List D} (hl : l.length <= 1000) (H : Hp) : bfD .len [.lst l] H = some (.int (l.length : Int), H) := by
 show ifLim l.length (D.int (l.length : Int), H) = _
 unfold ifLim
 rw [decide_eq_true (show l.length <= lim from Nat.le_trans hl (by decide))]
theorem len_nats {l : List Nat} (hl : l.length <= 1000) (H : Hp) : bfD .len [.lst (nats l)] H = some (.int (l.length : Int), H) := by
 rw [len_lst (by rw [nats_len]; exact hl), nats_len]
section
variable {c : CallF} {n i1 i2 : Nat} {lo : Lo} {H : Hp} {Q : List D -> Hp -> Prop} {T : List Nat} {E E' : List Bool}
theorem padcomp (h1 : lo[i1]? = some (some (.lst (nats T)))) (hn : T.length <= 100) (q : Q (idxI 100 (T.map fun t => t == 61)) H) :
  compX (fnsN c (n + 6)) lo (.bin .add (.k (.int 100)) (.c 0)) .range1 [.cmp .eq (.sub (.v i1) (.c 0)) (.k (.int 61))] 0 [.int (T.length : Int)] H Q := by
 have hn1 : T.length <= 1000 := Nat.le_trans hn (by decide)
 refine comp_pure (pick (T.map fun t => t == 61) fun i => .int (100 + i)) (range_nx hn1) (range1_items hn1) (by rw [range_len]; exact Nat.le_trans hn1 (by decide)) (fun d md Kf Kt h => ?_) ?_
 ·obtain ⟨i, hi, rfl⟩ := range_mem md
  obtain ⟨x, hx⟩ : ∃ x, T[i]? = some x := ⟨_, List.getElem?_eq_getElem hi⟩
  rw [pick_at (e := x == 61) (by rw [List.getElem?_map, hx]; rfl)] at h
  refine op_go rfl ?_
  show wOO lo[i1]? _
  rw [h1]
  refine sub_lst rfl hx (by omega) ?_
  refine op_eqI (eqInt x 61) ?_
  cases hxy : (x == 61)
  ·rw [hxy] at h; exact h
  ·rw [hxy] at h; exact h
 ·have e : (rangeL (T.length : Int)).filterMap (pick (T.map fun t => t == 61) fun i => .int (100 + i)) = idxI 100 (T.map fun t => t == 61) := by
   unfold rangeL
   rw [Int.toNat_natCast, List.range_eq_range', show T.length = (T.map fun t => t == 61).length from (List.length_map ..).symm, fm_pads (b := 100)]
   intro i e m
   rw [Nat.zero_add, pick_at m]
   cases e <;> rfl
  rw [e]
  exact q
theorem idxb_mem : ∀ (E : List Bool) (k : Nat) (d : D), d ∈ idxI k E -> ∃ i, E[i]? = some true /\ d = .int ((k + i : Nat) : Int)
 | [], _, _, h => by cases h
 | e :: E, k, d, h => by
  cases e with
  | false =>
   obtain ⟨i, hi, rfl⟩ := idxb_mem E (k + 1) d h
   exact ⟨i + 1, hi, by rw [show k + 1 + i = k + (i + 1) by omega]⟩
  | true =>
   rcases List.mem_cons.mp (show d ∈ .int (k : Int) :: idxI (k + 1) E from h) with rfl | h
   ·exact ⟨0, rfl, rfl⟩
   ·obtain ⟨i, hi, rfl⟩ := idxb_mem E (k + 1) d h
    exact ⟨i + 1, hi, by rw [show k + 1 + i = k + (i + 1) by omega]⟩
theorem fm_sent {g : D -> Option D} {b : Nat} : ∀ (E : List Bool) (T : List Nat) (k : Nat), T.length = E.length -> (∀ (i t : Nat), E[i]? = some true -> T[i]? = some t -> g (.int ((b + (k + i) : Nat) : Int)) = some (.tup [.int ((k + i : Nat) : Int), .int (t : Int)])) ->
  (idxI (b + k) E).filterMap g = prI k E T
 | [], _, _, _, _ => rfl
 | _ :: _, [], _, h, _ => by simp at h
 | e :: E, x :: T, k, hl, h => by
  have ih := fm_sent (b := b) E T (k + 1) (by simpa using hl) fun i t m m' => by rw [show k + 1 + i = k + (i + 1) by omega]; exact h (i + 1) t m m'
  cases e with
  | false => exact ih
  | true =>
   have h0 : g (.int ((b + k : Nat) : Int)) = some (.tup [.int (k : Int), .int (x : Int)]) := h 0 x rfl rfl
   show (.int ((b + k : Nat) : Int) :: idxI (b + k + 1) E).filterMap g = _
   rw [List.filterMap_cons, h0]
   show _ :: (idxI (b + (k + 1)) E).filterMap g = _ :: prI (k + 1) E T
   rw [ih]
theorem sentcomp (hl : T.length = E.length) (hn : E.length <= 100) (hT : ∀ i : Nat, E[i]? = some true -> T[i]? = some 61) (q : Q (prI 0 E T) H) :
  compX (fnsN c (n + 6)) lo (.tup [(.bin .sub (.c 0) (.k (.int 100))), (.k (.int 61))]) .it [] 0 [.lst (idxI 100 E)] H Q := by
 refine comp_pure (fun d => dI d fun i => some (.tup [.int (i - 100), .int 61])) rfl rfl (Nat.le_trans (idx_len E 100) (Nat.le_trans hn (by decide))) (fun d md Kf Kt h => ?_) ?_
 ·obtain ⟨i, hi, rfl⟩ := idxb_mem E 100 d md
  refine op_go rfl ?_
  exact h
 ·have e := fm_sent (g := fun d => dI d fun i => some (.tup [.int (i - 100), .int 61])) (b := 100) E T 0 hl fun i t m m' => by
   rw [hT i m] at m'
   obtain rfl := Option.some.inj m'
   show some (D.tup [.int (((100 + (0 + i) : Nat) : Int) - 100), .int 61]) = some (.tup [.int ((0 + i : Nat) : Int), .int 61])
   rw [Int.natCast_add, Int.add_comm, Int.add_sub_assoc]
   show some (D.tup [.int (((0 + i : Nat) : Int) + 0), .int 61]) = _
   rw [Int.add_zero]
  rw [show idxI 100 E = idxI (100 + 0) E from rfl, e]
  exact q
theorem pr_mem : ∀ (E : List Bool) (T : List Nat) (k : Nat) (d : D), d ∈ prI k E T -> ∃ (i t : Nat), E[i]? = some true /\ T[i]? = some t /\ d = .tup [.int ((k + i : Nat) : Int), .int (t : Int)]
 | [], _, _, _, h => by cases h
 | _ :: _, [], _, _, h => by cases h
 | e :: E, x :: T, k, d, h => by
  cases e with
  | false =>
   obtain ⟨i, t, h1, h2, rfl⟩ := pr_mem E T (k + 1) d h
   exact ⟨i + 1, t, h1, h2, by rw [show k + 1 + i = k + (i + 1) by omega]⟩
  | true =>
   rcases List.mem_cons.mp (show d ∈ .tup [.int (k : Int), .int (x : Int)] :: prI (k + 1) E T from h) with rfl | h
   ·exact ⟨0, x, rfl, rfl, rfl⟩
   ·obtain ⟨i, t, h1, h2, rfl⟩ := pr_mem E T (k + 1) d h
    exact ⟨i + 1, t, h1, h2, by rw [show k + 1 + i = k + (i + 1) by omega]⟩
theorem pr_len : ∀ (E : List Bool) (T : List Nat) (k : Nat), (prI k E T).length <= E.length
 | [], _, _ => by simp [prI]
 | _ :: _, [], _ => by simp [prI]
 | e :: E, x :: T, k => by
  have := pr_len E T (k + 1)
  cases e <;> simp [prI] <;> omega
theorem fm_new {g : D -> Option D} {b : Nat} : ∀ (E E' : List Bool) (T : List Nat) (k : Nat), E.length = E'.length -> T.length = E'.length -> (∀ (i t : Nat) e, E[i]? = some e -> T[i]? = some t -> g (.tup [.int ((k + i : Nat) : Int), .int (t : Int)]) = if e then none else some (.int ((b + (k + i) : Nat) : Int))) ->
  (prI k E' T).filterMap g = newI b k E E'
 | [], [], _, _, _, _, _ => rfl
 | [], _ :: _, _, _, h, _, _ => by simp at h
 | _ :: _, [], _, _, h, _, _ => by simp at h
 | _ :: _, _ :: _, [], _, _, h, _ => by simp at h
 | e :: E, e' :: E', x :: T, k, hl, ht, h => by
  have ih := fm_new (b := b) E E' T (k + 1) (by simpa using hl) (by simpa using ht) fun i t e m m' => by rw [show k + 1 + i = k + (i + 1) by omega]; exact h (i + 1) t e m m'
  have h0 : g (.tup [.int (k : Int), .int (x : Int)]) = if e then none else some (.int ((b + k : Nat) : Int)) := h 0 x e rfl rfl
  cases e' with
  | false =>
   show (prI (k + 1) E' T).filterMap g = [] ++ newI b (k + 1) E E'
   rw [ih]
   rfl
  | true =>
   show (.tup [.int (k : Int), .int (x : Int)] :: prI (k + 1) E' T).filterMap g = (match true && !e with | true => [.int ((b + k : Nat) : Int)] | false => []) ++ newI b (k + 1) E E'
   rw [List.filterMap_cons, h0, ih]
   cases e <;> rfl
noncomputable def fresh (b : Int) (E : List Bool) (d : D) : Option D := dT d fun ds => lC ds fun x _ => dI x fun i => gd (!(E.getD i.toNat false)) (some (.int (b + i)))
theorem fresh_at {b : Int} {E : List Bool} {i : Nat} {e : Bool} {x : D} (h : E[i]? = some e) : fresh b E (.tup [.int (i : Int), x]) = gd (!e) (some (.int (b + (i : Int)))) := by
 show gd (!(E.getD (i : Int).toNat false)) _ = _
 rw [Int.toNat_natCast, List.getD_eq_getElem?_getD, h]
 rfl
theorem newcomp {b : Nat} (h2 : lo[i2]? = some (some (.lst (prI 0 E T)))) (hl : E.length = E'.length) (ht : T.length = E'.length) (hn : E.length <= 100) (q : Q (newI b 0 E E') H) :
  compX (fnsN c (n + 6)) lo (.bin .add (.k (.int (b : Int))) (.c 0)) .it [.cmp .notIn (.tup [(.c 0), (.c 1)]) (.v i2)] 2 [.lst (prI 0 E' T)] H Q := by
 refine comp_pure (fresh (b : Int) E) rfl rfl (Nat.le_trans (pr_len E' T 0) (Nat.le_trans (hl ▸ hn) (by decide))) (fun d md Kf Kt h => ?_) ?_
 ·obtain ⟨i, t, hi, hit, rfl⟩ := pr_mem E' T 0 d md
  rw [Nat.zero_add] at h ⊢
  obtain ⟨e, he⟩ : ∃ e, E[i]? = some e := ⟨_, List.getElem?_eq_getElem (by have := (List.getElem?_eq_some_iff.mp hi).1; omega)⟩
  rw [fresh_at he] at h
  refine op_go rfl ?_
  show wOO lo[i2]? _
  rw [h2]
  refine op_go (pr_notin (ht.trans hl.symm) he hit H) ?_
  cases e
  ·exact h
  ·exact h
 ·rw [fm_new (b := b) E E' T 0 hl ht fun i t e m m' => by rw [Nat.zero_add, fresh_at m, add_nat]; cases e <;> rfl]
  exact q
theorem badcomp (h2 : lo[i2]? = some (some (.lst (nats T)))) (hn : E.length <= 100) (q : Q [] H) :
  compX (fnsN c (n + 6)) lo (.c 0) .it [.cmp .ne (.sub (.v i2) (.c 0)) (.c 1)] 2 [.lst (prI 0 E T)] H Q := by
 refine comp_pure (fun _ => none) rfl rfl (Nat.le_trans (pr_len E T 0) (Nat.le_trans hn (by decide))) (fun d md Kf Kt h => ?_) ?_
 ·obtain ⟨i, t, hi, hit, rfl⟩ := pr_mem E T 0 d md
  rw [Nat.zero_add]
  refine op_go rfl ?_
  show wOO lo[i2]? _
  rw [h2]
  refine sub_lst rfl hit (by have := (List.getElem?_eq_some_iff.mp hi).1; omega) ?_
  refine op_go (z := false) ?_ h
  show some ((t : Int) != (t : Int)) = _
  rw [bne_self_eq_false]
 ·rw [show (prI 0 E T).filterMap (fun _ => (none : Option D)) = [] from List.filterMap_eq_nil_iff.mpr fun _ _ => rfl]
  exact q
end
end Mine
end

section
open PySem PySem.W
namespace Mine
theorem dg_at : ∀ (row : List Nat) (i r : Nat), row[i]? = some r -> (dg row)[2 * i]? = some (r / 16) /\ (dg row)[2 * i + 1]? = some (r % 16)
 | [], _, _, h => by simp at h
 | x :: row, 0, r, h => by
  simp at h
  subst h
  exact ⟨rfl, rfl⟩
 | x :: row, i + 1, r, h => dg_at row i r h
noncomputable def HEXB : List UInt8 := [48, 49, 50, 51, 52, 53, 54, 55, 56, 57, 65, 66, 67, 68, 69, 70]
theorem sub_hex {v : Nat} (h : v < 16) {H : Hp} : subD H (.bytes HEXB) (.int (v : Int)) = some (.int (hexU v : Int)) :=
 lt16 (P := fun v => subD H (.bytes HEXB) (.int (v : Int)) = some (.int (hexU v : Int))) (fun v m => by
  have e : (List.range 16).map (fun (v : Nat) => subD H (.bytes HEXB) (.int (v : Int))) = (List.range 16).map (fun (v : Nat) => some (D.int (hexU v : Int))) := by kernel_rfl
  exact List.map_inj_left.mp e v m) h
noncomputable def digE : Ex := .sub (.k (.bytes HEXB)) (.bin .mod (.bin .fdiv (.sub (.v 0) (.bin .fdiv (.c 0) (.k (.int 2)))) (.bin .pow (.k (.int 16)) (.bin .sub (.k (.int 1)) (.bin .mod (.c 0) (.k (.int 2)))))) (.k (.int 16)))
theorem dig_val {row : List Nat} {i r d : Nat} (hr : row[i / 2]? = some r) (hw : (dg row)[i]? = some d) (hb : r < 256) : r / 16 ^ (1 - i % 2) % 16 = d := by
 obtain ⟨a1, a2⟩ := dg_at row (i / 2) r hr
 have hm := Nat.div_add_mod i 2
 obtain q | q : i % 2 = 0 \/ i % 2 = 1 := Nat.mod_two_eq_zero_or_one i
 ·rw [q, Nat.add_zero] at hm
  rw [hm, hw] at a1
  rw [q, Option.some.inj a1]
  show r / 16 % 16 = r / 16
  exact Nat.mod_eq_of_lt (Nat.div_lt_of_lt_mul hb)
 ·rw [q] at hm
  rw [hm, hw] at a2
  rw [q, Option.some.inj a2]
  show r / 1 % 16 = r % 16
  rw [Nat.div_one]
theorem dig_sign {c : CallF} {n i r d : Nat} {row : List Nat} {lo : Lo} {H : Hp} {Q : D -> Hp -> Prop} (h0 : lo[0]? = some (some (.lst (nats row)))) (hr : row[i / 2]? = some r) (hi : i < 100) (hw : (dg row)[i]? = some d) (hb : r < 256) (q : Q (.int (hexU d : Int)) H) :
  (fnsN c (n + 7)).ev [.int (i : Int)] lo digE H Q := by
 have hd := dig_val hr hw hb
 have hm := Nat.mod_lt i (show 2 > 0 by decide)
 have hp : 16 ^ (1 - i % 2) < 1000000000 := Nat.lt_of_le_of_lt (Nat.pow_le_pow_right (by decide) (Nat.sub_le _ _)) (by decide)
 show wOO lo[0]? _
 rw [h0]
 refine op_fdivN (b := 2) rfl rfl (by decide) (by decide) ?_
 refine sub_lst rfl hr (by omega) ?_
 refine op_modN (b := 2) rfl rfl (by decide) (by decide) ?_
 refine op_powN (a := 16) (b := 1 - i % 2) rfl (Int.ofNat_sub (Nat.le_of_lt_succ hm)).symm (by decide) (by omega) ?_
 refine op_fdivN rfl rfl (Nat.pow_pos (by decide)) hp ?_
 refine op_modN (b := 16) rfl rfl (by decide) (by decide) ?_
 rw [hd]
 exact op_go (sub_hex (hd ▸ Nat.mod_lt _ (by decide))) q
theorem digcomp {c : CallF} {n : Nat} {lo : Lo} {row : List Nat} {H : Hp} {Q : List D -> Hp -> Prop} (h0 : lo[0]? = some (some (.lst (nats row)))) (hn : row.length <= 40) (hb : ∀ v ∈ row, v < 256)
  (q : Q (nats ((dg row).map hexU)) H) : compX (fnsN c (n + 7)) lo digE .range1 [] 0 [.int ((2 * row.length : Nat) : Int)] H Q := by
 have hl := dg_len row
 have hn1 : 2 * row.length <= 1000 := by omega
 refine comp_pure (fun d => dI d fun i => (nats ((dg row).map hexU))[i.toNat]?) (range_nx hn1) (range1_items hn1) (by rw [range_len]; exact Nat.le_trans hn1 (by decide)) (fun d md Kf Kt h => ?_) ?_
 ·obtain ⟨i, hi, rfl⟩ := range_mem md
  obtain ⟨r, hr⟩ : ∃ r, row[i / 2]? = some r := ⟨_, List.getElem?_eq_getElem (by omega)⟩
  obtain ⟨x, hx⟩ : ∃ x, (dg row)[i]? = some x := ⟨_, List.getElem?_eq_getElem (by omega)⟩
  have e : (dI (D.int (i : Int)) fun i => (nats ((dg row).map hexU))[i.toNat]?) = some (.int (hexU x : Int)) := by
   show (nats ((dg row).map hexU))[(i : Int).toNat]? = _
   rw [Int.toNat_natCast]
   unfold nats
   rw [List.getElem?_map, List.getElem?_map, hx]
   rfl
  rw [e] at h
  refine op_go rfl ?_
  exact dig_sign h0 hr (by omega) hx (hb _ (List.mem_of_getElem? hr)) h
 ·have e : ((2 * row.length : Nat) : Int) = ((nats ((dg row).map hexU)).length : Int) := by rw [nats_len, List.length_map, hl]
  rw [e, fm_range fun i x h => by show (nats ((dg row).map hexU))[(i : Int).toNat]? = _; rw [Int.toNat_natCast]; exact h]
  exact q
theorem ne_tup {a : List D} (h : Same a) (H : Hp) : cmpD H .ne (.tup a) (.tup a) = some false := same_ne h
theorem ne_lst {a : List D} (h : Same a) (H : Hp) : cmpD H .ne (.lst a) (.lst a) = some false := same_ne h
theorem tup_lst {l : List D} (hl : l.length <= 1000) (H : Hp) : bfD .tuple [.lst l] H = some (.tup l, H) := by
 show ifLim l.length (D.tup l, H) = _
 unfold ifLim
 rw [decide_eq_true (show l.length <= lim from Nat.le_trans hl (by decide))]
theorem list_by {l : List Nat} (h : ∀ v ∈ l, v < 256) (hl : l.length <= 1000) (H : Hp) : bfD .list [BY l] H = some (.lst (nats l), H) := by
 show ifLim (l.map fun v => v.toUInt8).length (D.lst ((l.map fun v => v.toUInt8).map fun c => .int c.toNat), H) = _
 unfold ifLim
 rw [by_items h, List.length_map, decide_eq_true (show l.length <= lim from Nat.le_trans hl (by decide))]
theorem bytes_nats {l : List Nat} (h : ∀ v ∈ l, v < 256) (hl : l.length <= 1000) (H : Hp) : bfD .bytes [.lst (nats l)] H = some (BY l, H) := by
 show (bytesOf (nats l)).map (·, H) = _
 rw [bytesOf_ints h hl]
 rfl
theorem newI_len : ∀ (b j : Nat) (o n : List Bool), (newI b j o n).length <= o.length
 | b, j, x :: o, y :: n => by
  have ih := newI_len b (j + 1) o n
  unfold newI sd
  rw [List.length_append]
  cases y && !x <;> simp <;> omega
 | _, _, [], _ => by simp [newI]
 | _, _, _ :: _, [] => by simp [newI]
theorem newI_app : ∀ (b j k : Nat) (o n : List Bool), o.length = n.length -> newI b j (o ++ List.replicate k true) (n ++ List.replicate k true) = newI b j o n
 | b, j, 0, [], [], _ => rfl
 | b, j, k + 1, [], [], _ => by
  show [] ++ newI b (j + 1) (List.replicate k true) (List.replicate k true) = []
  exact newI_app b (j + 1) k [] [] rfl
 | b, j, k, x :: o, y :: n, h => by
  show _ ++ newI b (j + 1) (o ++ List.replicate k true) (n ++ List.replicate k true) = _ ++ newI b (j + 1) o n
  rw [newI_app b (j + 1) k o n (by simpa using h)]
 | _, _, _, [], _ :: _, h => by simp at h
 | _, _, _, _ :: _, [], h => by simp at h
theorem spN_len : ∀ (S S' : List Bool) (i j i' j' : Nat), S.length = S'.length -> (spN i j S).length = (spN i' j' S').length
 | [], [], _, _, _, _, _ => rfl
 | [_], [_], _, _, _, _, _ => rfl
 | [_, _], [_, _], _, _, _, _, _ => rfl
 | _ :: _ :: _ :: A, _ :: _ :: _ :: B, i, j, i', j', h => by
  show (spN (i + 3) (j + 2) A).length + 1 + 1 + 1 + 1 + 1 + 1 + 1 + 1 = (spN (i' + 3) (j' + 2) B).length + 1 + 1 + 1 + 1 + 1 + 1 + 1 + 1
  rw [spN_len A B (i + 3) (j + 2) (i' + 3) (j' + 2) (by simpa using h)]
 | [], _ :: _, _, _, _, _, h => by simp at h
 | _ :: _, [], _, _, _, _, h => by simp at h
 | [_], _ :: _ :: _, _, _, _, _, h => by simp at h
 | _ :: _ :: _, [_], _, _, _, _, h => by simp at h
 | [_, _], _ :: _ :: _ :: _, _, _, _, _, h => by simp at h
 | _ :: _ :: _ :: _, [_, _], _, _, _, _, h => by simp at h
theorem nodeOs_len : ∀ (l : List (Nat × List Nat × Int)) (a : Nat), (nodeOs a l).length = 3 * l.length
 | [], _ => rfl
 | (_, _, _) :: r, a => by
  show (nodeOs (a + 3) r).length + 1 + 1 + 1 = 3 * (r.length + 1)
  rw [nodeOs_len r]
  omega
theorem ks_len {S S' : List Bool} (h : S.length = S'.length) (pa nf pa' nf' : Int) : (KS S pa nf).length = (KS S' pa' nf').length := by
 unfold KS KG
 simp only [List.length_cons, List.length_append, nodeOs_len]
 rw [spN_len S S' 0 0 0 0 h]
theorem hp_get {A B C : Hp} {x : Ob} : (A ++ (B ++ x :: C))[A.length + B.length]? = some x := by
 rw [<- List.append_assoc, List.getElem?_append_right (by simp)]
 simp
theorem hp_set {A B C : Hp} {x y : Ob} : (A ++ (B ++ x :: C)).set (A.length + B.length) y = A ++ (B ++ y :: C) := by
 rw [<- List.append_assoc, List.set_append_right _ _ (by simp)]
 simp
theorem pre_inst {o0 o1 o2 o3 : Ob} {S : List Bool} {pa nf : Int} {J : Hp} : isInst (PRE o0 o1 o2 o3 S pa nf ++ J) 5 = true := rfl
theorem addN_eq (a : Int) : ∀ k : Nat, addN a k = a + (k : Int)
 | 0 => (Int.add_zero a).symm
 | k + 1 => by
  show addN a k + 1 = _
  rw [addN_eq a k, Int.add_assoc]
  rfl
theorem addM_eq : ∀ (k : Nat) (a : Int), addM a k = a + (k : Int)
 | 0, a => (Int.add_zero a).symm
 | k + 1, a => by
  show addM (a + 1) k = _
  rw [addM_eq k, Int.add_assoc, Int.add_comm 1]
  rfl
theorem exs_app {f : Fns} {b : List Stm} {Q : Fl -> Lo -> Hp -> Prop} : ∀ (a : List Stm) (lo : Lo) (H : Hp), exs f a lo H (fun fl lo1 H1 => thn fl (exs f b lo1 H1 Q) (Q fl lo1 H1)) = exs f (a ++ b) lo H Q
 | [], _, _ => rfl
 | s :: r, lo, H => by
  show f.ex s lo H (fun fl lo1 H1 => thn fl (exs f r lo1 H1 (fun fl lo1 H1 => thn fl (exs f b lo1 H1 Q) (Q fl lo1 H1))) (thn fl (exs f b lo1 H1 Q) (Q fl lo1 H1))) = f.ex s lo H (fun fl lo1 H1 => thn fl (exs f (r ++ b) lo1 H1 Q) (Q fl lo1 H1))
  congr 1
  funext fl lo1 H1
  cases fl with
  | next => exact exs_app r lo1 H1
  | _ => rfl
end Mine
end

section
open PySem PySem.W
namespace Mine
theorem pre_ready {o0 o1 o2 o3 : Ob} {S : List Bool} {pa nf : Int} {J : Hp} : (PRE o0 o1 o2 o3 S pa nf ++ J)[7 + 3 * (spN 0 0 S).length]? = some (.list []) := by
 unfold PRE KS KG
 rw [show 7 + 3 * (spN 0 0 S).length = 3 * (spN 0 0 S).length + 1 + 1 + 1 + 1 + 1 + 1 + 1 from Nat.add_comm ..]
 simp only [List.cons_append, List.getElem?_cons_succ, List.append_assoc]
 rw [<- nodeOs_len (spN 0 0 S) 7, List.getElem?_append_right (Nat.le_refl _), Nat.sub_self]
 rfl
theorem wc106 {m : Nat} (hm : 1 <= m) {o0 o1 o2 o3 : Ob} {S : List Bool} {pa : Int} {J : Hp} {Q : D -> Hp -> Prop} (q : Q (.bool false) (PRE o0 o1 o2 o3 S pa pa ++ J)) : callN tabF m 106 [.ref 5] (PRE o0 o1 o2 o3 S pa pa ++ J) Q := by
 have a1 : attD (PRE o0 o1 o2 o3 S pa pa ++ J) (.ref 5) 1 = some (.ref (7 + 3 * (spN 0 0 S).length)) := rfl
 have a2 : attD (PRE o0 o1 o2 o3 S pa pa ++ J) (.ref 5) 2 = some (.int pa) := rfl
 have a3 : attD (PRE o0 o1 o2 o3 S pa pa ++ J) (.ref 5) 3 = some (.int pa) := rfl
 have hb : bfD .bool [.ref (7 + 3 * (spN 0 0 S).length)] (PRE o0 o1 o2 o3 S pa pa ++ J) = some (.bool false, PRE o0 o1 o2 o3 S pa pa ++ J) := by
  show hL (PRE o0 o1 o2 o3 S pa pa ++ J) (7 + 3 * (spN 0 0 S).length) (fun ds => ifLim ds.length (D.bool (!ds.isEmpty), PRE o0 o1 o2 o3 S pa pa ++ J)) = _
  unfold hL
  rw [pre_ready]
  rfl
 generalize PRE o0 o1 o2 o3 S pa pa ++ J = G at *
 refine call_in (k := 0) hm rfl rfl rfl fun n _ => ?_
 refine op_go a1 ?_
 refine op_go (z := false) rfl ?_
 refine op_go a3 ?_
 refine op_go a2 ?_
 refine op_lt (c := false) (decide_eq_false (Int.lt_irrefl _)) ?_
 refine op_go a1 ?_
 exact op_go hb q
noncomputable def runB : List Stm := match fn20.body with
 | _ :: _ :: _ :: _ :: _ :: _ :: _ :: _ :: _ :: _ :: _ :: _ :: .for_ _ _ _ b :: _ => b
 | _ => []
noncomputable def runT : List Stm := runB.drop 6
noncomputable def LR (row : List Nat) (a b : Nat) (T X : List Nat) (v8 : D) (S : List Bool) (kc : Nat) (x12 x13 x14 x15 x16 : Option D) : Lo :=
 [some (.lst (nats row)), some (.ref 1), some (.lst [.int (a : Int), .int (b : Int)]), some (BY [a, b]), some (.lst (nats T)), some (.lst (nats X)), some (BY X), some (.ref 5), some v8, some (.lst (prI 0 (sureT S) T)), some (.lst (prI 0 (readS S) X)), some (.ref kc), x12, x13, x14, x15, x16]
theorem new_same {S S' : List Bool} (h : S.length = S'.length) (w : List Nat) (hw : w.length = S.length) : newI 100 0 (sureT S) (sureT S') = newI 100 0 (sureS S) (sureS S') := by
 unfold sureT
 rw [h, newI_app]
 rw [sureS_len S w hw, sureS_len S' w (hw.trans h)]
theorem rnd_use {S : List Bool} {i m : Nat} (R : RoundAt S i) {d0 d1 d2 d3 d4 d5 d6 d8 d9 d10 d11 d13 d14 d15 d16 : Option D} {o0 o1 o2 o3 : Ob} {pa nf : Int} {J : Hp} {Q : Fl -> Lo -> Hp -> Prop}
  (q : rndR S i m d0 d1 d2 d3 d4 d5 d6 d8 d9 d10 d11 d13 d14 d15 d16 o0 o1 o2 o3 pa nf J Q) : rndL S i m d0 d1 d2 d3 d4 d5 d6 d8 d9 d10 d11 d13 d14 d15 d16 o0 o1 o2 o3 pa nf J Q := by
 rw [R]
 exact q
theorem came_in {S : List Bool} {i : Nat} {c : List Nat} (hi : S[i]? = some false) (hc : ∀ (x : Nat) s, S[x]? = some s -> s = decide (x ∈ c)) {x : Nat} {s : Bool} (hx : (S.set i true)[x]? = some s) : s = decide (x ∈ c ++ [i]) := by
 by_cases e : i = x
 ·rw [<- e, List.getElem?_set_self (List.getElem?_eq_some_iff.mp hi).1] at hx
  rw [<- e, <- Option.some.inj hx, decide_eq_true (List.mem_append_right _ (.head _))]
 ·rw [List.getElem?_set_ne e] at hx
  rw [hc x s hx]
  refine decide_eq_decide.mpr ⟨fun h => List.mem_append_left _ h, fun h => ?_⟩
  rcases List.mem_append.mp h with h | h
  ·exact h
  ·exact absurd (List.mem_singleton.mp h).symm e
theorem run_ask {n : Nat} (hn : 4 <= n) {row : List Nat} {a b : Nat} (ha : Sg a) (hb : Sg b) (hab : a ≠ b) (hrow : ∀ v ∈ row, v < 256) (h1 : 1 <= row.length) (h5 : row.length <= 5) {v8 : D} {S S' : List Bool} {kc : Nat} {G : Hp}
  (hS : S.length = 2 * row.length) (hS' : S'.length = 2 * row.length) (hview : ∀ (J : Hp) (x : Nat) s, S'[x]? = some s -> cmpD (G ++ J) .inn (.int (x : Int)) (.ref kc) = some s) {x12 x15 x16 : Option D} {Q : Fl -> Lo -> Hp -> Prop}
  (q : ∀ x13 x14 x15 x16 J, Q .next (LR row a b (txt a b (dg row)) ((dg row).map hexU) v8 S' kc x12 x13 x14 x15 x16) (G ++ J)) :
  exs (fnsN (callN tabF n) 29) runT (LR row a b (txt a b (dg row)) ((dg row).map hexU) v8 S kc x12 (some (.tup (newI 100 0 (sureS S) (sureS S')))) (some (.tup (newI 200 0 (readS S) (readS S')))) x15 x16) G Q := by
 have hdl := dg_len row
 have hw : (dg row).length = S.length := hdl.trans hS.symm
 have hw' : (dg row).length = S'.length := hdl.trans hS'.symm
 have htl : (txt a b (dg row)).length = (sureT S).length := sureT_len hw
 have htl' : (txt a b (dg row)).length = (sureT S').length := sureT_len hw'
 have htx := txt_len (a := a) (b := b) (D := dg row)
 have hxl : ((dg row).map hexU).length = (dg row).length := List.length_map ..
 have hrl : (readS S).length = S.length := readS_len _
 have hrl' : (readS S').length = S'.length := readS_len _
 have hl1 := newI_len 100 0 (sureS S) (sureS S')
 have hl2 := newI_len 200 0 (readS S) (readS S')
 have hsl : (sureS S).length <= 100 := by rw [sureS_len S _ hw]; have := sx_len (dg row); omega
 refine wc19 hn ha hb hab (dg_dig hrow) (by rw [hdl, Nat.mul_mod_right]) (by omega) (by omega) hw' hview fun J => ?_
 refine newcomp (T := txt a b (dg row)) (E := sureT S) (E' := sureT S') (b := 100) rfl (htl.symm.trans htl') htl' (by omega) ?_
 rw [new_same (hS.trans hS'.symm) (dg row) hw]
 refine op_go (tup_lst (by omega) _) ?_
 refine op_go (ne_tup (same_newI _ _ _ _) _) ?_
 refine newcomp (T := (dg row).map hexU) (E := readS S) (E' := readS S') (b := 200) rfl (by omega) (by omega) (by omega) ?_
 refine op_go (tup_lst (by omega) _) ?_
 refine op_go (ne_tup (same_newI _ _ _ _) _) ?_
 refine badcomp (T := txt a b (dg row)) (E := sureT S') rfl (by omega) ?_
 refine op_go (ne_lst same_nil _) ?_
 refine badcomp (T := (dg row).map hexU) (E := readS S') rfl (by omega) ?_
 refine op_go (ne_lst same_nil _) ?_
 exact q _ _ _ _ J
theorem run_turn {n : Nat} (hn : 4 <= n) {row : List Nat} {a b : Nat} (ha : Sg a) (hb : Sg b) (hab : a ≠ b) (hrow : ∀ v ∈ row, v < 256) (h1 : 1 <= row.length) (h5 : row.length <= 5) {v8 : D} {S : List Bool} {kc i : Nat} {c : List Nat} {o0 o1 o2 o3 : Ob} {pa nf : Int} {J1 J2 : Hp}
  (hS : S.length = 2 * row.length) (hi : S[i]? = some false) (hc : ∀ (x : Nat) s, S[x]? = some s -> s = decide (x ∈ c)) (hcl : c.length <= 100) (hkc : kc = (PRE o0 o1 o2 o3 S pa nf).length + J1.length) {x13 x14 x15 x16 : Option D} {Q : Fl -> Lo -> Hp -> Prop}
  (q : ∀ x13 x14 x15 x16 pa' nf' J2', pa' - nf' = pa - nf - 1 -> Q .next (LR row a b (txt a b (dg row)) ((dg row).map hexU) v8 (S.set i true) kc (some (.int (i : Int))) x13 x14 x15 x16) (PRE o0 o1 o2 o3 (S.set i true) pa' nf' ++ (J1 ++ .list (nats (c ++ [i])) :: J2'))) :
  exs (fnsN (callN tabF n) 29) runB (LR row a b (txt a b (dg row)) ((dg row).map hexU) v8 S kc (some (.int (i : Int))) x13 x14 x15 x16) (PRE o0 o1 o2 o3 S pa nf ++ (J1 ++ .list (nats c) :: J2)) Q := by
 obtain ⟨m, rfl⟩ : ∃ m, n = Nat.succ (Nat.succ (Nat.succ m)) := ⟨n - 3, by omega⟩
 have hS' : (S.set i true).length = S.length := List.length_set
 have hg : (PRE o0 o1 o2 o3 S pa nf ++ (J1 ++ .list (nats c) :: J2))[kc]? = some (.list (nats c)) := by rw [hkc]; exact hp_get
 have hs : ∀ y, (PRE o0 o1 o2 o3 S pa nf ++ (J1 ++ .list (nats c) :: J2)).set kc y = PRE o0 o1 o2 o3 S pa nf ++ (J1 ++ y :: J2) := fun y => by rw [hkc]; exact hp_set
 refine wT_go (bmK_app hg) ?_
 refine op_appN hg (Nat.le_trans hcl (by decide)) rfl ?_
 rw [hs]
 show exs (fnsN (callN tabF (Nat.succ (Nat.succ (Nat.succ m)))) 29) (roundS ++ runT) (LR row a b (txt a b (dg row)) ((dg row).map hexU) v8 S kc (some (.int (i : Int))) x13 x14 x15 x16) (PRE o0 o1 o2 o3 S pa nf ++ (J1 ++ .list (nats (c ++ [i])) :: J2)) Q
 rw [<- exs_app]
 refine rnd_use (S := S) (i := i) (m := m) (rounds S row.length i h1 h5 hS hi) ?_
 unfold rndR
 rw [<- newS_eq, <- newR_eq, addN_eq, addN_eq]
 have hd : (pa + ((newI 100 0 (sureS S) (sureS (S.set i true))).length : Int) + ((newI 200 0 (readS S) (readS (S.set i true))).length : Int)) - (nf + 1 + ((newI 100 0 (sureS S) (sureS (S.set i true))).length : Int) + ((newI 200 0 (readS S) (readS (S.set i true))).length : Int)) = pa - nf - 1 := by omega
 generalize (pa + ((newI 100 0 (sureS S) (sureS (S.set i true))).length : Int) + ((newI 200 0 (readS S) (readS (S.set i true))).length : Int)) = pa' at hd ⊢
 generalize (nf + 1 + ((newI 100 0 (sureS S) (sureS (S.set i true))).length : Int) + ((newI 200 0 (readS S) (readS (S.set i true))).length : Int)) = nf' at hd ⊢
 have hkc' : kc = (PRE o0 o1 o2 o3 (S.set i true) pa' nf').length + J1.length := by
  rw [hkc]
  show (KS S pa nf).length + 1 + 1 + 1 + 1 + _ = (KS (S.set i true) pa' nf').length + 1 + 1 + 1 + 1 + _
  rw [ks_len hS'.symm pa nf pa' nf']
 refine run_ask hn ha hb hab hrow h1 h5 (v8 := v8) (kc := kc) (G := PRE o0 o1 o2 o3 (S.set i true) pa' nf' ++ (J1 ++ .list (nats (c ++ [i])) :: J2)) hS (hS'.trans hS) (fun J x s hx => ?_) fun x13 x14 x15 x16 J => ?_
 ·show inO ((PRE o0 o1 o2 o3 (S.set i true) pa' nf' ++ (J1 ++ .list (nats (c ++ [i])) :: J2)) ++ J)[kc]? (x : Int) = some s
  have hg2 : ((PRE o0 o1 o2 o3 (S.set i true) pa' nf' ++ (J1 ++ .list (nats (c ++ [i])) :: J2)) ++ J)[kc]? = some (.list (nats (c ++ [i]))) := by
   rw [hkc', List.append_assoc, List.append_assoc, List.cons_append]
   exact hp_get
  rw [hg2]
  show inDs (.int (x : Int)) (nats (c ++ [i])) = some s
  rw [in_nats, <- came_in hi hc hx]
 ·have := q x13 x14 x15 x16 pa' nf' (J2 ++ J) hd
  rw [List.append_assoc, List.append_assoc, List.cons_append]
  exact this
end Mine
end

section
open PySem PySem.W
namespace Mine
theorem run_loop {n : Nat} (hn : 4 <= n) {row : List Nat} {a b : Nat} (ha : Sg a) (hb : Sg b) (hab : a ≠ b) (hrow : ∀ v ∈ row, v < 256) (h1 : 1 <= row.length) (h5 : row.length <= 5) {v8 : D} {kc : Nat} {P : List Nat} {o0 o2 o3 : Ob} {J1 : Hp} {Q : Fl -> Lo -> Hp -> Prop} (hP : P.Perm (List.range (2 * row.length)))
  (q : ∀ S pa x12 x13 x14 x15 x16 J2, S.length = 2 * row.length -> (∀ (x : Nat) s, S[x]? = some s -> s = true) -> Q .next (LR row a b (txt a b (dg row)) ((dg row).map hexU) v8 S kc x12 x13 x14 x15 x16) (PRE o0 (.list (nats P)) o2 o3 S pa pa ++ J2)) :
  ∀ (r p : List Nat) (t : Nat) (S : List Bool) (pa nf : Int) (J2 : Hp) (x12 x13 x14 x15 x16 : Option D), P = p ++ r -> r.length < t -> S.length = 2 * row.length -> (∀ (x : Nat) s, S[x]? = some s -> s = decide (x ∈ p)) -> pa - nf = (r.length : Int) ->
   kc = (PRE o0 (.list (nats P)) o2 o3 S pa nf).length + J1.length ->
   WR (fnsN (callN tabF n) 29) 1 12 runB t p.length (LR row a b (txt a b (dg row)) ((dg row).map hexU) v8 S kc x12 x13 x14 x15 x16) (PRE o0 (.list (nats P)) o2 o3 S pa nf ++ (J1 ++ .list (nats p) :: J2)) Q
 | _, _, 0, _, _, _, _, _, _, _, _, _, _, h, _, _, _, _ => absurd h (Nat.not_lt_zero _)
 | [], p, t + 1, S, pa, nf, J2, x12, x13, x14, x15, x16, hp, ht, hS, hm, hd, hk => by
  rw [List.append_nil] at hp
  subst hp
  obtain rfl : pa = nf := by have hd : pa - nf = 0 := hd; omega
  refine wr_end (ds := nats P) rfl (by unfold nats; rw [List.getElem?_map, List.getElem?_eq_none (Nat.le_refl _)]; rfl) ?_
  refine q S pa _ _ _ _ _ _ hS fun x s hx => ?_
  rw [hm x s hx]
  have : x < S.length := (List.getElem?_eq_some_iff.mp hx).1
  exact decide_eq_true (hP.mem_iff.mpr (List.mem_range.mpr (hS ▸ this)))
 | i :: r, p, t + 1, S, pa, nf, J2, x12, x13, x14, x15, x16, hp, ht, hS, hm, hd, hk => by
  have hiP : i ∈ P := by rw [hp]; exact List.mem_append_right _ (.head _)
  have hi2 : i < S.length := by rw [hS]; exact List.mem_range.mp (hP.mem_iff.mp hiP)
  have hnd : P.Nodup := hP.nodup_iff.mpr List.nodup_range
  have hni : i ∉ p := by
   intro hip
   rw [hp] at hnd
   exact (List.nodup_append.mp hnd).2.2 i hip i (.head _) rfl
  have hsi : S[i]? = some false := by
   obtain ⟨s, hs⟩ : ∃ s, S[i]? = some s := ⟨_, List.getElem?_eq_getElem hi2⟩
   rw [hs, hm i s hs, decide_eq_false hni]
  have hlen : P.length = 2 * row.length := by rw [hP.length_eq, List.length_range]
  have hpl : p.length + (r.length + 1) = P.length := by rw [hp, List.length_append]; rfl
  have hd : pa - nf = (r.length : Int) + 1 := hd
  refine wr_next (ds := nats P) (d := .int (i : Int)) rfl (by unfold nats; rw [List.getElem?_map, hp, List.getElem?_append_right (Nat.le_refl _), Nat.sub_self]; rfl) ?_
  refine run_turn hn ha hb hab hrow h1 h5 (S := S) (kc := kc) (i := i) (c := p) hS hsi hm (by omega) hk ?_
  intro x13 x14 x15 x16 pa' nf' J2' hd'
  have := run_loop hn ha hb hab hrow h1 h5 (v8 := v8) (kc := kc) (o0 := o0) (o2 := o2) (o3 := o3) (J1 := J1) (Q := Q) hP q r (p ++ [i]) t (S.set i true) pa' nf' J2' (some (.int (i : Int))) x13 x14 x15 x16 (by rw [hp, List.append_assoc]; rfl) (Nat.lt_of_succ_lt_succ ht) (by rw [List.length_set]; exact hS) (fun x s hx => came_in hsi hm hx) (by omega) ?_
  ·rw [List.length_append] at this
   exact this
  ·rw [hk]
   show (KS S pa nf).length + 1 + 1 + 1 + 1 + _ = (KS (S.set i true) pa' nf').length + 1 + 1 + 1 + 1 + _
   rw [ks_len (show S.length = (S.set i true).length from List.length_set.symm) pa nf pa' nf']
theorem sure_all (v : Bool) : ∀ w : List Nat, sureS (w.map fun _ => v) = (sx w).map fun _ => v
 | [] => rfl
 | [_] => rfl
 | [_, _] => by cases v <;> rfl
 | _ :: _ :: _ :: w => by
  show (v && v) :: (v && v) :: sureS (w.map fun _ => v) = v :: v :: (sx w).map fun _ => v
  rw [sure_all v w, Bool.and_self]
theorem read_all (v : Bool) : ∀ w : List Nat, readS (w.map fun _ => v) = w.map fun _ => v
 | [] => rfl
 | [_] => rfl
 | [_, _] => by cases v <;> rfl
 | _ :: _ :: _ :: w => by
  show (v && v) :: ((v && v) && (v && v)) :: (v && v) :: readS (w.map fun _ => v) = v :: v :: v :: w.map fun _ => v
  rw [read_all v w, Bool.and_self, Bool.and_self]
theorem pr_none : ∀ (w X : List Nat) (k : Nat), prI k (w.map fun _ => false) X = []
 | [], _, _ => rfl
 | _ :: _, [], _ => rfl
 | _ :: w, _ :: X, k => pr_none w X (k + 1)
theorem pr_full : ∀ (X : List Nat) (E : List Bool) (k : Nat), E = X.map (fun _ => true) -> (prI k E X).length = X.length
 | [], _, _, h => by subst h; rfl
 | x :: X, _, k, h => by
  subst h
  show (prI (k + 1) (X.map fun _ => true) X).length + 1 = _
  rw [pr_full X _ (k + 1) rfl]
  rfl
theorem all_true {S : List Bool} {w : List Nat} (h : S.length = w.length) (ht : ∀ (x : Nat) s, S[x]? = some s -> s = true) : S = w.map fun _ => true := by
 apply List.ext_getElem?
 intro i
 rw [List.getElem?_map]
 by_cases q : i < S.length
 ·rw [List.getElem?_eq_getElem q, List.getElem?_eq_getElem (by omega)]
  rw [ht i _ (List.getElem?_eq_getElem q)]
  rfl
 ·rw [List.getElem?_eq_none (by omega), List.getElem?_eq_none (by omega)]
  rfl
theorem txt_pads {a b : Nat} (ha : Sg a) (hb : Sg b) {w : List Nat} (hd : Dig w) : (txt a b w).map (fun t => t == 61) = sureT (w.map fun _ => false) := by
 unfold txt sureT
 rw [List.map_append, List.map_map, List.map_replicate, sure_all, List.length_map]
 congr 1
 apply List.map_congr_left
 intro v m
 show (tr a b v == 61) = false
 exact beq_eq_false_iff_ne.mpr (tr_61 ha hb (sx_lt hd v m))
theorem noS_eq {w : List Nat} {n : Nat} (h : w.length = 2 * n) : noS n = w.map fun _ => false := by
 unfold noS
 rw [<- h]
 exact (List.map_const (l := w)).symm
theorem pad_idx : ∀ n : Nat, 1 <= n -> n <= 5 -> idxI 100 (sureT (noS n)) = padD n
 | 1, _, _ => by kernel_rfl
 | 2, _, _ => by kernel_rfl
 | 3, _, _ => by kernel_rfl
 | 4, _, _ => by kernel_rfl
 | 5, _, _ => by kernel_rfl
 | 0, h, _ => absurd h (by decide)
 | n + 6, _, h => absurd h (by omega)
end Mine
end

section
open PySem PySem.W
namespace Mine
theorem range_nats {k : Nat} (hk : k <= 1000) (H : Hp) : bfD .listRange [.int (k : Int)] H = some (.lst (nats (List.range k)), H) := by
 show gd (decide (0 <= (k : Int)) && decide ((k : Int) <= 1000)) (some (D.lst (rangeL (k : Int)), H)) = _
 rw [decide_eq_true (Int.natCast_nonneg k), decide_eq_true (show (k : Int) <= 1000 by omega)]
 unfold rangeL nats
 rw [Int.toNat_natCast]
 rfl
theorem add_lst {A B : List D} (h : A.length + B.length <= 1000) : binD .add (.lst A) (.lst B) = some (.lst (A ++ B)) := by
 show gd (decide (A.length + B.length <= lim)) (some (D.lst (A ++ B))) = _
 rw [decide_eq_true (show A.length + B.length <= lim from Nat.le_trans h (by decide))]
 rfl
theorem same_app_idx : ∀ (A : List Nat) (k : Nat) (E : List Bool), Same (nats A ++ idxI k E)
 | v :: A, k, E => same_int (same_app_idx A k E)
 | [], _, [] => same_nil
 | [], k, e :: E => by
  have ih := same_app_idx [] (k + 1) E
  cases e
  ·exact ih
  ·exact same_int ih
theorem no_false {n i : Nat} {s : Bool} (h : (noS n)[i]? = some s) : s = false := by
 unfold noS at h
 rw [List.getElem?_replicate] at h
 split at h
 ·exact (Option.some.inj h).symm
 ·exact nomatch h
theorem no_len (n : Nat) : (noS n).length = 2 * n := List.length_replicate
section
variable {n m : Nat} {o0 o1 o2 o3 : Ob} {J : Hp} {Q : D -> Hp -> Prop}
theorem use1 {k : Nat} (hk : 4 <= k) (R : Start1 n) (q : Q (.ref 5) (o0 :: o1 :: o2 :: o3 :: (SR1 n ++ left0 n))) : callN tabF k 17 [.int (n : Int)] [o0, o1, o2, o3] Q := by
 obtain ⟨m, rfl⟩ : ∃ m, k = Nat.succ (Nat.succ (Nat.succ (Nat.succ m))) := ⟨k - 4, by omega⟩
 have e := congrFun (congrFun (congrFun (congrFun (congrFun (congrFun R m) o0) o1) o2) o3) Q
 exact e ▸ q
theorem use2 {k : Nat} (hk : 1 <= k) (R : Start2 n) (q : Q (.tup (rdyD n)) (o0 :: o1 :: o2 :: o3 :: (SR2 n ++ J))) : callN tabF k 105 [.ref 5] (o0 :: o1 :: o2 :: o3 :: (SR1 n ++ J)) Q := by
 obtain ⟨m, rfl⟩ : ∃ m, k = Nat.succ m := ⟨k - 1, by omega⟩
 have e := congrFun (congrFun (congrFun (congrFun (congrFun (congrFun (congrFun R m) o0) o1) o2) o3) J) Q
 exact e ▸ q
theorem use3 {k : Nat} (hk : 1 <= k) (R : Start3 n) (q : Q .none (PRE o0 o1 o2 o3 (noS n) ((rdyD n).length : Int) ((padD n).length : Int) ++ J)) : callN tabF k 107 (.ref 5 :: padD n) (o0 :: o1 :: o2 :: o3 :: (SR2 n ++ J)) Q := by
 obtain ⟨m, rfl⟩ : ∃ m, k = Nat.succ m := ⟨k - 1, by omega⟩
 have e := congrFun (congrFun (congrFun (congrFun (congrFun (congrFun (congrFun R m) o0) o1) o2) o3) J) Q
 rw [addM_eq, Int.zero_add] at e
 exact e ▸ q
end
noncomputable def runE : List Stm := fn20.body.drop 11
theorem run_end {n : Nat} (hn : 4 <= n) {row : List Nat} {a b : Nat} (ha : Sg a) (hb : Sg b) (hab : a ≠ b) (hrow : ∀ v ∈ row, v < 256) (h1 : 1 <= row.length) (h5 : row.length <= 5) {v8 : D} {P : List Nat} (hP : P.Perm (List.range (2 * row.length))) {o0 o2 o3 : Ob} {pa nf : Int} (hd : pa - nf = (P.length : Int)) {J : Hp} {Q : D -> Hp -> Prop}
  (q : ∀ H', Q (.bool true) H') : exs (fnsN (callN tabF n) 30) runE [some (.lst (nats row)), some (.ref 1), some (.lst [.int (a : Int), .int (b : Int)]), some (BY [a, b]), some (.lst (nats (txt a b (dg row)))), some (.lst (nats ((dg row).map hexU))), some (BY ((dg row).map hexU)), some (.ref 5), some v8,
   some (.lst (prI 0 (sureT (noS row.length)) (txt a b (dg row)))), some (.lst (prI 0 (readS (noS row.length)) ((dg row).map hexU))), none, none, none, none, none, none] (PRE o0 (.list (nats P)) o2 o3 (noS row.length) pa nf ++ J) (retQ Q) := by
 have hdl := dg_len row
 have hxl : ((dg row).map hexU).length = (dg row).length := List.length_map ..
 have htx := txt_len (a := a) (b := b) (D := dg row)
 have hPl : P.length = 2 * row.length := by rw [hP.length_eq, List.length_range]
 refine for_ref (a := 1) (ds := nats P) rfl ?_
 have hQ := run_loop hn ha hb hab hrow h1 h5 (v8 := v8) (kc := (PRE o0 (.list (nats P)) o2 o3 (noS row.length) pa nf).length + J.length)
  (P := P) (o0 := o0) (o2 := o2) (o3 := o3) (J1 := J) (Q := fun fl lo1 H1 => thn fl (exs (fnsN (callN tabF n) 30) [.ret (.and_ [(.cmp .eq (.bf .len [(.v 9)]) (.bf .len [(.v 4)])), (.cmp .eq (.bf .len [(.v 10)]) (.bf .len [(.v 5)])), (.nt (.om 106 (.v 7) []))])] lo1 H1 (retQ Q)) (retQ Q fl lo1 H1)) hP ?_
  P [] 5000 (noS row.length) pa nf [] none none none none none rfl (by omega) (no_len _) (fun x s hx => no_false hx) hd rfl
 ·unfold LR at hQ
  rw [<- List.length_append, <- List.append_assoc] at hQ
  exact hQ
 ·intro S pa x12 x13 x14 x15 x16 J2 hSl hSt
  have hS := all_true (w := dg row) (hSl.trans hdl.symm) hSt
  have hs1 : (prI 0 (sureT S) (txt a b (dg row))).length = (txt a b (dg row)).length := by
   refine pr_full _ _ 0 ?_
   unfold sureT txt
   rw [hS, sure_all, List.length_map, List.map_append, List.map_map, List.map_replicate]
   rfl
  have hs2 : (prI 0 (readS S) ((dg row).map hexU)).length = ((dg row).map hexU).length := by
   refine pr_full _ _ 0 ?_
   rw [hS, read_all, List.map_map]
   rfl
  refine op_go (len_lst (by rw [hs1]; omega) _) ?_
  refine op_go (len_nats (by omega) _) ?_
  rw [hs1]
  refine op_eqI (c := true) (beq_self_eq_true _) ?_
  refine op_go (len_lst (by rw [hs2]; omega) _) ?_
  refine op_go (len_nats (by omega) _) ?_
  rw [hs2]
  refine op_eqI (c := true) (beq_self_eq_true _) ?_
  refine wT_go pre_inst ?_
  refine wc106 (Nat.le_trans (by decide) hn) ?_
  exact q _
set_option maxHeartbeats 4000000 in
theorem wc20 {m : Nat} (hm : 5 <= m) {row : List Nat} {a b : Nat} (ha : Sg a) (hb : Sg b) (hab : a ≠ b) (hrow : ∀ v ∈ row, v < 256) (h1 : 1 <= row.length) (h5 : row.length <= 5) {P : List Nat} (hP : P.Perm (List.range (2 * row.length))) {o0 o2 : Ob} {Q : D -> Hp -> Prop}
  (q : ∀ H', Q (.bool true) H') : callN tabF m 20 [.lst (nats row), .ref 1, .lst [.int (a : Int), .int (b : Int)]] [o0, .list (nats P), o2] Q := by
 have hdl := dg_len row
 have hdd := dg_dig hrow
 have hxl : ((dg row).map hexU).length = (dg row).length := List.length_map ..
 have htx := txt_len (a := a) (b := b) (D := dg row)
 have hno := noS_eq hdl
 have hnl := no_len row.length
 have hE := txt_pads ha hb hdd
 rw [<- hno] at hE
 have hEl : (sureT (noS row.length)).length = (txt a b (dg row)).length := by rw [<- hE, List.length_map]
 have hidx := pad_idx row.length h1 h5
 have hPl : P.length = 2 * row.length := by rw [hP.length_eq, List.length_range]
 have hil := idx_len (sureT (noS row.length)) 100
 have hx : hex2 row = (dg row).map hexU := by rw [<- hex2_pk (by rw [hdl, Nat.mul_mod_right]) hdd, pk_dg]
 refine call_in (k := 4) hm rfl rfl rfl fun n hn => ?_
 have hn1 : 1 <= n := Nat.le_trans (by decide) hn
 have hn3 : 3 <= n := Nat.le_trans (by decide) hn
 refine op_go (bytes_nats (l := [a, b]) (by intro v m; rcases List.mem_cons.mp m with e | m; exact e ▸ ha.1; exact List.mem_singleton.mp m ▸ hb.1) (show 2 <= 1000 by decide) _) ?_
 refine wc16 hn1 row hrow h1 h5 fun o3 => ?_
 refine op_go (len_nats (l := row) (by omega) _) ?_
 refine op_mulN (a := 2) rfl rfl (by decide) (by omega) ?_
 refine digcomp rfl (by omega) hrow ?_
 refine op_go (bytes_nats hrow (by omega) _) ?_
 refine wc12 hn3 hrow (by omega) ?_
 rw [hx]
 refine op_go (list_by (hexs_lt hdd) (by omega) _) ?_
 refine op_go (ne_lst (same_nats _) _) ?_
 refine op_go (len_nats (l := row) (by omega) _) ?_
 refine use1 hn (start1 row.length h1 h5) ?_
 refine op_go (len_nats (l := txt a b (dg row)) (by omega) _) ?_
 refine padcomp (T := txt a b (dg row)) rfl (by omega) ?_
 rw [hE]
 refine wT_go rfl ?_
 refine use2 hn1 (start2 row.length h1 h5) ?_
 refine op_go (len_nats (l := (dg row).map hexU) (by omega) _) ?_
 rw [hxl, hdl]
 refine op_go (range_nats (by omega) _) ?_
 refine op_go (add_lst (by rw [nats_len, List.length_range]; omega)) ?_
 refine op_go (tup_lst (by rw [List.length_append, nats_len, List.length_range]; omega) _) ?_
 have hr : rdyD row.length = nats (List.range (2 * row.length)) ++ idxI 100 (sureT (noS row.length)) := by rw [hidx]; rfl
 rw [hr]
 refine op_go (ne_tup (same_app_idx _ _ _) _) ?_
 refine wT_go rfl ?_
 refine wT_go (decide_eq_true (Nat.le_trans hil (Nat.le_trans (show _ <= 1000 by omega) (by decide)))) ?_
 rw [hidx]
 refine use3 hn1 (start3 row.length h1 h5) ?_
 refine wc19 (S := noS row.length) hn ha hb hab hdd (by rw [hdl, Nat.mul_mod_right]) (by omega) (by omega) (by omega) (fun J x s hx => by rw [no_false hx]; rfl) fun J' => ?_
 rw [<- hidx]
 refine sentcomp (T := txt a b (dg row)) (E := sureT (noS row.length)) hEl.symm (by omega) (fun x hx => ?_) ?_
 ·rw [<- hE, List.getElem?_map] at hx
  cases ht : (txt a b (dg row))[x]? with
  | none => rw [ht] at hx; exact nomatch hx
  | some t =>
   rw [ht] at hx
   rw [eq_of_beq (Option.some.inj hx)]
 refine op_go (ne_lst (same_pr _ _ _) _) ?_
 have hr0 : prI 0 (readS (noS row.length)) ((dg row).map hexU) = [] := by rw [hno, read_all, pr_none]
 rw [hr0]
 refine op_go (ne_lst same_nil _) ?_
 have hlen : (rdyD row.length).length = 2 * row.length + (padD row.length).length := by unfold rdyD; rw [List.length_append, List.length_map, List.length_range]
 have hfin := run_end hn ha hb hab hrow h1 h5 (v8 := .lst (idxI 100 (sureT (noS row.length)))) hP (o0 := o0) (o2 := o2) (o3 := o3) (pa := ((rdyD row.length).length : Int)) (nf := ((padD row.length).length : Int)) (by rw [hlen]; omega) (J := left0 row.length ++ J') q
 rw [hr0, hr, hidx] at hfin
 rw [List.append_assoc, hidx]
 exact hfin
end Mine
end

section
open PySem PySem.W
namespace Mine
theorem intsOf_map : ∀ is : List Int, intsOf (is.map D.int) = some is
 | [] => rfl
 | i :: r => by
  show (intsOf (r.map D.int)).map (i :: ·) = _
  rw [intsOf_map r]
  rfl
theorem intsOf_pick (is : List Int) : ∀ l : List Nat, ∃ xs, intsOf (l.filterMap (fun j => (is.map D.int)[j]?)) = some xs
 | [] => ⟨[], rfl⟩
 | j :: l => by
  obtain ⟨xs, h⟩ := intsOf_pick is l
  rw [List.filterMap_cons, List.getElem?_map]
  cases is[j]? with
  | none => exact ⟨xs, h⟩
  | some i =>
   refine ⟨i :: xs, ?_⟩
   show (intsOf (l.filterMap (fun j => (is.map D.int)[j]?))).map (i :: ·) = _
   rw [h]
   rfl
noncomputable def CON : List Nat := [163, 92, 7, 250, 61]
noncomputable def rowE : Ex := .bin .mod (.bin .add (.sub (.lst [(.k (.int 163)), (.k (.int 92)), (.k (.int 7)), (.k (.int 250)), (.k (.int 61))]) (.c 0)) (.bf .sum [(.slcStep (.v 0) (.c 0) (.k (.int 5)))])) (.k (.int 256))
noncomputable def rowV (is : List Int) (k : Int) : Nat := (((CON.getD k.toNat 0 : Nat) : Int) + ((intsOf (pickD (is.map D.int) k 5)).getD []).sum).fmod 256 |>.toNat
theorem rowV_eq (a : Int) : (((a.fmod 256).toNat : Nat) : Int) = a.fmod 256 /\ (a.fmod 256).toNat < 256 := by
 have e : a.fmod 256 = a % 256 := Int.fmod_eq_emod_of_nonneg _ (by decide)
 have e1 : 0 <= a % 256 := Int.emod_nonneg _ (by decide)
 have e2 : a % 256 < 256 := Int.emod_lt_of_pos _ (by decide)
 rw [e]
 exact ⟨Int.toNat_of_nonneg e1, (Int.toNat_lt e1).mpr e2⟩
section
variable {c : CallF} {n : Nat} {is : List Int} {lo : Lo} {H : Hp}
theorem row_elt {k : Nat} {Q : D -> Hp -> Prop} (h0 : lo[0]? = some (some (.lst (is.map D.int)))) (hl : is.length <= 63) (hk : k < 5) (q : Q (.int (rowV is (k : Int) : Int)) H) : (fnsN c (n + 7)).ev [.int (k : Int)] lo rowE H Q := by
 obtain ⟨x, hx⟩ : ∃ x, CON[k]? = some x := ⟨_, List.getElem?_eq_getElem (show k < CON.length from hk)⟩
 obtain ⟨xs, hxs⟩ := intsOf_pick is (sliceRange (sliceBounds (some (k : Int)) none (some 5) (is.map D.int).length).1 (sliceBounds (some (k : Int)) none (some 5) (is.map D.int).length).2.1 (sliceBounds (some (k : Int)) none (some 5) (is.map D.int).length).2.2)
 have hp : intsOf (pickD (is.map D.int) (k : Int) 5) = some xs := hxs
 have hs : slcStepD (.lst (is.map D.int)) (.int (k : Int)) (.int 5) = some (.lst (pickD (is.map D.int) (k : Int) 5)) := by
  show gd (decide (0 <= (k : Int)) && decide ((1 : Int) <= 5) && decide ((is.map D.int).length <= lim)) (some (D.lst (pickD (is.map D.int) (k : Int) 5))) = _
  rw [decide_eq_true (Int.natCast_nonneg k), decide_eq_true (show (is.map D.int).length <= lim by rw [List.length_map]; exact Nat.le_trans hl (by decide))]
  rfl
 have hsum : bfD .sum [.lst (pickD (is.map D.int) (k : Int) 5)] H = some (.int xs.sum, H) := by
  show (intsOf (pickD (is.map D.int) (k : Int) 5)).map (fun is => (D.int is.sum, H)) = _
  rw [hp]
  rfl
 have hv : (rowV is (k : Int) : Int) = ((x : Int) + xs.sum).fmod 256 := by
  unfold rowV
  rw [(rowV_eq _).1, hp, Int.toNat_natCast, List.getD_eq_getElem?_getD, hx]
  rfl
 rw [hv] at q
 refine sub_lst (F := CON) rfl hx (by omega) ?_
 show wOO lo[0]? _
 rw [h0]
 refine op_go hs ?_
 refine op_go hsum ?_
 exact op_int (binI_mod (inB_nat (b := 256) (by decide) (by decide))) q
theorem comp_row {x : Int} {k : Nat} {Q : List D -> Hp -> Prop} (e : x = (k : Int)) (hk : k <= 5) (h0 : lo[0]? = some (some (.lst (is.map D.int)))) (hl : is.length <= 63) (q : ∀ row : List Nat, row.length = k -> (∀ v ∈ row, v < 256) -> Q (nats row) H) :
  compX (fnsN c (n + 7)) lo rowE .range1 [] 0 [.int x] H Q := by
 subst e
 refine comp_map (fun d => (dI d fun i => some (D.int (rowV is i : Int))).getD .none) (range_nx (by omega)) (range1_items (by omega)) (by rw [range_len]; exact Nat.le_trans hk (by decide)) (fun d md K h => ?_) ?_
 ·obtain ⟨i, hi, rfl⟩ := range_mem md
  refine op_go rfl ?_
  exact row_elt h0 hl (by omega) h
 ·have e : (rangeL (k : Int)).map (fun d => (dI d fun i => some (D.int (rowV is i : Int))).getD .none) = nats ((List.range k).map fun (i : Nat) => rowV is (i : Int)) := by
   unfold rangeL nats
   rw [List.map_map, List.map_map, Int.toNat_natCast]
   rfl
  rw [e]
  refine q _ (by rw [List.length_map, List.length_range]) fun v m => ?_
  obtain ⟨i, _, rfl⟩ := List.mem_map.mp m
  exact (rowV_eq _).2
end
theorem wc21 {m : Nat} (hm : 6 <= m) {is : List Int} (hl : is.length <= 63) : callN tabF m 21 [.lst (is.map D.int)] [] (fun d _ => d = .bool true) := by
 have hsum : bfD .sum [.lst (is.map D.int)] [] = some (.int is.sum, []) := by
  show (intsOf (is.map D.int)).map (fun is => (D.int is.sum, ([] : Hp))) = _
  rw [intsOf_map]
  rfl
 refine call_in (k := 5) hm rfl rfl rfl fun n hn => ?_
 have hn1 : 1 <= n := Nat.le_trans (by decide) hn
 refine op_go hsum ?_
 refine op_modZ (b := 5) rfl (by decide) (by decide) fun r hr => ?_
 have h5 : (5 : Int) - (r : Int) = ((5 - r : Nat) : Int) := (Int.ofNat_sub (Nat.le_of_lt hr)).symm
 refine comp_row h5 (Nat.sub_le _ _) rfl hl fun row hr1 hr2 => ?_
 refine op_mulN (a := 2) (b := 5 - r) rfl h5 (by decide) (by omega) ?_
 refine op_fdivZ (b := 5) rfl (by decide) (by decide) ?_
 refine wc15 hn1 (size := 2 * (5 - r)) (by omega) fun P hP => ?_
 refine op_go (len_lst (l := is.map D.int) (by rw [List.length_map]; omega) _) ?_
 refine op_mulN (a := 211) rfl rfl (by decide) (by rw [List.length_map]; omega) ?_
 refine wc14 hn1 fun a b ha hb hab o => ?_
 exact wc20 hn (row := row) ha hb hab hr2 (by omega) (by omega) (P := P) (by rw [hr1]; exact hP) (o0 := .list []) (o2 := o) fun H' => rfl
theorem lawA : ∀ is : List Int, is.length <= 63 -> ∃ k, k <= 18 /\ callN tabF k 21 [.lst (is.map .int)] [] fun d _ => d = .bool true :=
 fun is hl => ⟨6, by decide, wc21 (Nat.le_refl _) hl⟩
end Mine
end

section
theorem PySem.Challenge.cw_qh0103_01_holds : PySem.Challenge.rw_qh0103_01.Holds :=
 Mine.head_of (Mine.walk Mine.lawA)
end
