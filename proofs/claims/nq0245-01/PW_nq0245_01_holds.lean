import PyProof.Rows.All
import Wide.All
import OpenK.AllK
import Wide.FinOn
import Lean
import PySem.Challenge.RW_nq0245_01
set_option Elab.async false
set_option linter.all false
set_option compiler.extract_closed false
set_option maxRecDepth 100000
set_option maxHeartbeats 1000000
open PySem PySem.W PyProof.Rows
namespace Mine
noncomputable section
/-! # part K -/
section
open PySem PySem.W PyProof.Rows
noncomputable section
set_option maxHeartbeats 8000000
/-! ## the head: the text's top, run by the kernel; the written part of the heap, its bodies named by their place in the text -/
abbrev prg : Program := PySem.Challenge.rw_nq0245_01.prog
noncomputable def stAt (i : Nat) : Stmt := prg.main.body.getD i (.Pass default)
noncomputable def clsBody : Stmt → List Stmt
  | .ClassDef _ _ _ b _ _ _ _ _ _ _ => b
  | _ => []
noncomputable def inCls (i j : Nat) : Stmt := (clsBody (stAt i)).getD j (.Pass default)
noncomputable def fArgs : Stmt → Arguments
  | .FunctionDef _ a _ _ _ _ _ _ _ _ => a
  | _ => default
noncomputable def fBody : Stmt → List Stmt
  | .FunctionDef _ _ b _ _ _ _ _ _ _ => b
  | _ => []
noncomputable def fScope : Stmt → Scope
  | .FunctionDef _ _ _ _ _ _ s _ _ _ => s
  | _ => default
noncomputable def kv (P : Params) (k : String) (t : Tok) (v : Value) : DictEntry := ⟨PyData.keyHash P (Str.ofString k), .str (Str.ofString k) t, v⟩
noncomputable def fo (name qual : Str) (st : Stmt) (dV pm cdv : Value) : Obj := ⟨.type "function", none, .func (fnOf name qual (fArgs st) (fBody st) (fScope st) dV .none .none pm none cdv .none), #[]⟩
noncomputable def KF (P : Params) : Frag := [
  (3, ⟨.type "dict", none, .dict #[kv P "__name__" 165 (.str "law_nq0245_01" 468), kv P "__doc__" 166 (.none), kv P "__package__" 167 (.none), kv P "__loader__" 168 (.builtin "__main__.__loader__#opaque"), kv P "__spec__" 169 (.none), kv P "__annotations__" 170 (.ref 6), kv P "__builtins__" 171 (.ref 4), kv P "__file__" 173 (.str "/claim/cut.py" 172), kv P "__cached__" 174 (.none), kv P "_wall" 193 (.ref 21), kv P "T" 204 (.ref 28), kv P "digits" 206 (.bytes #[97, 98, 99, 100, 101, 102, 103, 104, 105, 106, 107, 108, 109, 110, 111, 112, 113, 114, 115, 116, 117, 118, 119, 120, 121, 122, 48, 49, 50, 51, 52, 53, 54, 55, 56, 57] 205), kv P "generate_generalized_integer" 217 (.ref 35), kv P "adapt" 228 (.ref 42), kv P "generate_integers" 241 (.ref 49), kv P "decode_generalized_number" 257 (.ref 56), kv P "insertion_sort" 272 (.ref 63), kv P "punycode_decode" 285 (.ref 70), kv P "_NODE_OUT" 290 (.int (-1) 289), kv P "_NODE_DONE" 293 (.int (-2) 292), kv P "_NodeInfo" 330 (.ref 89), kv P "CycleError" 348 (.ref 104), kv P "TopologicalSorter" 467 (.ref 186), kv P "_law_lay" 475 (.ref 195), kv P "_law_base" 481 (.ref 200), kv P "_law_rest" 487 (.ref 205), kv P "_law_letters" 493 (.ref 210), kv P "_law_rounds" 499 (.ref 215), kv P "_law_layers" 505 (.ref 220), kv P "law" 511 (.ref 225)] 30, #[]⟩),
  (27, ⟨.type "code", none, .fields #[.str "T" 196, .str "T" 197, .str "/claim/cut.py" 198, .int (5) 0, .int (2) 0, .int (0) 0, .int (0) 0, .int (3) 0, .ref 22, .bool true, .int (181) 0, .ref 23, .none, .ref 24, .ref 25, .ref 26, .int (202) 0, .int (5) 0, .str "/claim/cut.py" 203], #[]⟩),
  (28, fo "T" "T" (stAt 2) (.none) (.str "cpy313.encodings.punycode" 194) (.ref 27)),
  (34, ⟨.type "code", none, .fields #[.str "generate_generalized_integer" 207, .str "generate_generalized_integer" 208, .str "/claim/cut.py" 209, .int (13) 0, .int (2) 0, .int (0) 0, .int (0) 0, .int (3) 0, .ref 29, .bool true, .int (181) 0, .ref 30, .none, .ref 31, .ref 32, .ref 33, .int (215) 0, .int (13) 0, .str "/claim/cut.py" 216], #[]⟩),
  (35, fo "generate_generalized_integer" "generate_generalized_integer" (stAt 4) (.none) (.str "cpy313.encodings.punycode" 194) (.ref 34)),
  (41, ⟨.type "code", none, .fields #[.str "adapt" 218, .str "adapt" 219, .str "/claim/cut.py" 220, .int (24) 0, .int (3) 0, .int (0) 0, .int (0) 0, .int (3) 0, .ref 36, .bool true, .int (181) 0, .ref 37, .none, .ref 38, .ref 39, .ref 40, .int (226) 0, .int (24) 0, .str "/claim/cut.py" 227], #[]⟩),
  (42, fo "adapt" "adapt" (stAt 5) (.none) (.str "cpy313.encodings.punycode" 194) (.ref 41)),
  (48, ⟨.type "code", none, .fields #[.str "generate_integers" 229, .str "generate_integers" 230, .str "/claim/cut.py" 231, .int (36) 0, .int (2) 0, .int (0) 0, .int (0) 0, .int (3) 0, .ref 43, .bool true, .int (181) 0, .ref 44, .none, .ref 45, .ref 46, .ref 47, .int (239) 0, .int (36) 0, .str "/claim/cut.py" 240], #[]⟩),
  (49, fo "generate_integers" "generate_integers" (stAt 6) (.none) (.str "cpy313.encodings.punycode" 194) (.ref 48)),
  (55, ⟨.type "code", none, .fields #[.str "decode_generalized_number" 242, .str "decode_generalized_number" 243, .str "/claim/cut.py" 244, .int (44) 0, .int (4) 0, .int (0) 0, .int (0) 0, .int (3) 0, .ref 50, .bool true, .int (181) 0, .ref 51, .none, .ref 52, .ref 53, .ref 54, .int (255) 0, .int (44) 0, .str "/claim/cut.py" 256], #[]⟩),
  (56, fo "decode_generalized_number" "decode_generalized_number" (stAt 7) (.none) (.str "cpy313.encodings.punycode" 194) (.ref 55)),
  (62, ⟨.type "code", none, .fields #[.str "insertion_sort" 258, .str "insertion_sort" 259, .str "/claim/cut.py" 260, .int (70) 0, .int (3) 0, .int (0) 0, .int (0) 0, .int (3) 0, .ref 57, .bool true, .int (181) 0, .ref 58, .none, .ref 59, .ref 60, .ref 61, .int (270) 0, .int (70) 0, .str "/claim/cut.py" 271], #[]⟩),
  (63, fo "insertion_sort" "insertion_sort" (stAt 8) (.none) (.str "cpy313.encodings.punycode" 194) (.ref 62)),
  (69, ⟨.type "code", none, .fields #[.str "punycode_decode" 273, .str "punycode_decode" 274, .str "/claim/cut.py" 275, .int (90) 0, .int (2) 0, .int (0) 0, .int (0) 0, .int (3) 0, .ref 64, .bool true, .int (181) 0, .ref 65, .none, .ref 66, .ref 67, .ref 68, .int (283) 0, .int (90) 0, .str "/claim/cut.py" 284], #[]⟩),
  (70, fo "punycode_decode" "punycode_decode" (stAt 9) (.none) (.str "cpy313.encodings.punycode" 194) (.ref 69)),
  (84, ⟨.type "code", none, .fields #[.str "__init__" 310, .str "_NodeInfo.__init__" 311, .str "/claim/cut.py" 312, .int (116) 0, .int (2) 0, .int (0) 0, .int (0) 0, .int (3) 0, .ref 79, .bool true, .int (181) 0, .ref 80, .none, .ref 81, .ref 82, .ref 83, .int (315) 0, .int (116) 0, .str "/claim/cut.py" 316], #[]⟩),
  (85, fo "__init__" "_NodeInfo.__init__" (inCls 13 1) (.none) (.str "cpy313.graphlib" 286) (.ref 84)),
  (88, ⟨.type "dict", none, .dict #[kv P "__module__" 301 (.str "cpy313.graphlib" 286), kv P "__firstlineno__" 305 (.int (113) 304), kv P "__slots__" 309 (.ref 78), kv P "__init__" 317 (.ref 85), kv P "__static_attributes__" 321 (.ref 86), kv P "node" 323 (.ref 90), kv P "npredecessors" 325 (.ref 91), kv P "successors" 327 (.ref 92), kv P "__doc__" 328 (.none)] 5, #[]⟩),
  (89, ⟨.type "type", none, .cls { name := "_NodeInfo", bases := [.type "object"], mro := [.ref 89, .type "object"], ns := 88, qualname := "_NodeInfo", hasDict := false, slotNames := ["node", "npredecessors", "successors"] }, #[none, none, some (.str "_NodeInfo" 294), some (.str "_NodeInfo" 302), some (.builtin "object.__new__"), some (.bool false)]⟩),
  (90, ⟨.type "member_descriptor", none, .fields #[.str "node" 322, .ref 89, .builtin "proto.slot", .builtin "proto.slot#set", .int (2) 0], #[]⟩),
  (91, ⟨.type "member_descriptor", none, .fields #[.str "npredecessors" 324, .ref 89, .builtin "proto.slot", .builtin "proto.slot#set", .int (1) 0], #[]⟩),
  (92, ⟨.type "member_descriptor", none, .fields #[.str "successors" 326, .ref 89, .builtin "proto.slot", .builtin "proto.slot#set", .int (0) 0], #[]⟩),
  (115, ⟨.type "tuple", none, .seq #[.none] 0, #[]⟩),
  (121, ⟨.type "code", none, .fields #[.str "__init__" 361, .str "TopologicalSorter.__init__" 362, .str "/claim/cut.py" 363, .int (124) 0, .int (2) 0, .int (0) 0, .int (0) 0, .int (3) 0, .ref 116, .bool true, .int (181) 0, .ref 117, .none, .ref 118, .ref 119, .ref 120, .int (368) 0, .int (124) 0, .str "/claim/cut.py" 369], #[]⟩),
  (122, fo "__init__" "TopologicalSorter.__init__" (inCls 15 0) (.ref 115) (.str "cpy313.graphlib" 286) (.ref 121)),
  (128, ⟨.type "code", none, .fields #[.str "_get_nodeinfo" 371, .str "TopologicalSorter._get_nodeinfo" 372, .str "/claim/cut.py" 373, .int (133) 0, .int (2) 0, .int (0) 0, .int (0) 0, .int (3) 0, .ref 123, .bool true, .int (181) 0, .ref 124, .none, .ref 125, .ref 126, .ref 127, .int (377) 0, .int (133) 0, .str "/claim/cut.py" 378], #[]⟩),
  (129, fo "_get_nodeinfo" "TopologicalSorter._get_nodeinfo" (inCls 15 1) (.none) (.str "cpy313.graphlib" 286) (.ref 128)),
  (135, ⟨.type "code", none, .fields #[.str "add" 380, .str "TopologicalSorter.add" 381, .str "/claim/cut.py" 382, .int (138) 0, .int (2) 0, .int (0) 0, .int (0) 0, .int (7) 0, .ref 130, .bool true, .int (181) 0, .ref 131, .none, .ref 132, .ref 133, .ref 134, .int (389) 0, .int (138) 0, .str "/claim/cut.py" 390], #[]⟩),
  (136, fo "add" "TopologicalSorter.add" (inCls 15 2) (.none) (.str "cpy313.graphlib" 286) (.ref 135)),
  (140, ⟨.type "code", none, .fields #[.str "prepare" 392, .str "TopologicalSorter.prepare" 393, .str "/claim/cut.py" 394, .int (147) 0, .int (1) 0, .int (0) 0, .int (0) 0, .int (3) 0, .ref 137, .bool true, .int (181) 0, .ref 138, .none, .none, .none, .ref 139, .int (395) 0, .int (147) 0, .str "/claim/cut.py" 396], #[]⟩),
  (141, fo "prepare" "TopologicalSorter.prepare" (inCls 15 3) (.none) (.str "cpy313.graphlib" 286) (.ref 140)),
  (147, ⟨.type "code", none, .fields #[.str "get_ready" 398, .str "TopologicalSorter.get_ready" 399, .str "/claim/cut.py" 400, .int (155) 0, .int (1) 0, .int (0) 0, .int (0) 0, .int (3) 0, .ref 142, .bool true, .int (181) 0, .ref 143, .none, .ref 144, .ref 145, .ref 146, .int (405) 0, .int (155) 0, .str "/claim/cut.py" 406], #[]⟩),
  (148, fo "get_ready" "TopologicalSorter.get_ready" (inCls 15 4) (.none) (.str "cpy313.graphlib" 286) (.ref 147)),
  (154, ⟨.type "code", none, .fields #[.str "is_active" 408, .str "TopologicalSorter.is_active" 409, .str "/claim/cut.py" 410, .int (166) 0, .int (1) 0, .int (0) 0, .int (0) 0, .int (3) 0, .ref 149, .bool true, .int (181) 0, .ref 150, .none, .ref 151, .ref 152, .ref 153, .int (412) 0, .int (166) 0, .str "/claim/cut.py" 413], #[]⟩),
  (155, fo "is_active" "TopologicalSorter.is_active" (inCls 15 5) (.none) (.str "cpy313.graphlib" 286) (.ref 154)),
  (168, ⟨.type "code", none, .fields #[.str "done" 422, .str "TopologicalSorter.done" 423, .str "/claim/cut.py" 424, .int (174) 0, .int (1) 0, .int (0) 0, .int (0) 0, .int (7) 0, .ref 163, .bool true, .int (181) 0, .ref 164, .none, .ref 165, .ref 166, .ref 167, .int (433) 0, .int (174) 0, .str "/claim/cut.py" 434], #[]⟩),
  (169, fo "done" "TopologicalSorter.done" (inCls 15 7) (.none) (.str "cpy313.graphlib" 286) (.ref 168)),
  (175, ⟨.type "code", none, .fields #[.str "_find_cycle" 436, .str "TopologicalSorter._find_cycle" 437, .str "/claim/cut.py" 438, .int (197) 0, .int (1) 0, .int (0) 0, .int (0) 0, .int (3) 0, .ref 170, .bool true, .int (181) 0, .ref 171, .none, .ref 172, .ref 173, .ref 174, .int (446) 0, .int (197) 0, .str "/claim/cut.py" 447], #[]⟩),
  (176, fo "_find_cycle" "TopologicalSorter._find_cycle" (inCls 15 8) (.none) (.str "cpy313.graphlib" 286) (.ref 175)),
  (185, ⟨.type "dict", none, .dict #[kv P "__module__" 356 (.str "cpy313.graphlib" 286), kv P "__firstlineno__" 360 (.int (122) 359), kv P "__init__" 370 (.ref 122), kv P "_get_nodeinfo" 379 (.ref 129), kv P "add" 391 (.ref 136), kv P "prepare" 397 (.ref 141), kv P "get_ready" 407 (.ref 148), kv P "is_active" 414 (.ref 155), kv P "__bool__" 421 (.ref 162), kv P "done" 435 (.ref 169), kv P "_find_cycle" 448 (.ref 176), kv P "static_order" 455 (.ref 183), kv P "__static_attributes__" 460 (.ref 184), kv P "__dict__" 462 (.ref 187), kv P "__weakref__" 464 (.ref 188), kv P "__doc__" 465 (.none)] 4, #[]⟩),
  (186, ⟨.type "type", none, .cls { name := "TopologicalSorter", bases := [.type "object"], mro := [.ref 186, .type "object"], ns := 185, qualname := "TopologicalSorter", hasDict := true, slotNames := [] }, #[none, none, some (.str "TopologicalSorter" 349), some (.str "TopologicalSorter" 357), some (.builtin "object.__new__"), some (.bool true)]⟩),
  (187, ⟨.type "getset_descriptor", none, .fields #[.str "__dict__" 461, .ref 186, .builtin "function.__dict__", .builtin "function.__dict__#set"], #[]⟩),
  (188, ⟨.type "getset_descriptor", none, .fields #[.str "__weakref__" 463, .ref 186, .builtin "ExceptionGroup.__weakref__", .none], #[]⟩),
  (194, ⟨.type "code", none, .fields #[.str "_law_lay" 470, .str "_law_lay" 471, .str "/claim/cut.py" 472, .int (229) 0, .int (4) 0, .int (0) 0, .int (0) 0, .int (3) 0, .ref 191, .bool true, .int (181) 0, .ref 192, .none, .none, .none, .ref 193, .int (473) 0, .int (229) 0, .str "/claim/cut.py" 474], #[]⟩),
  (195, fo "_law_lay" "_law_lay" (stAt 17) (.none) (.str "law_nq0245_01" 468) (.ref 194)),
  (199, ⟨.type "code", none, .fields #[.str "_law_base" 476, .str "_law_base" 477, .str "/claim/cut.py" 478, .int (246) 0, .int (1) 0, .int (0) 0, .int (0) 0, .int (3) 0, .ref 196, .bool true, .int (181) 0, .ref 197, .none, .none, .none, .ref 198, .int (479) 0, .int (246) 0, .str "/claim/cut.py" 480], #[]⟩),
  (200, fo "_law_base" "_law_base" (stAt 18) (.none) (.str "law_nq0245_01" 468) (.ref 199)),
  (204, ⟨.type "code", none, .fields #[.str "_law_rest" 482, .str "_law_rest" 483, .str "/claim/cut.py" 484, .int (250) 0, .int (1) 0, .int (0) 0, .int (0) 0, .int (3) 0, .ref 201, .bool true, .int (181) 0, .ref 202, .none, .none, .none, .ref 203, .int (485) 0, .int (250) 0, .str "/claim/cut.py" 486], #[]⟩),
  (205, fo "_law_rest" "_law_rest" (stAt 19) (.none) (.str "law_nq0245_01" 468) (.ref 204)),
  (209, ⟨.type "code", none, .fields #[.str "_law_letters" 488, .str "_law_letters" 489, .str "/claim/cut.py" 490, .int (254) 0, .int (2) 0, .int (0) 0, .int (0) 0, .int (3) 0, .ref 206, .bool true, .int (181) 0, .ref 207, .none, .none, .none, .ref 208, .int (491) 0, .int (254) 0, .str "/claim/cut.py" 492], #[]⟩),
  (210, fo "_law_letters" "_law_letters" (stAt 20) (.none) (.str "law_nq0245_01" 468) (.ref 209)),
  (214, ⟨.type "code", none, .fields #[.str "_law_rounds" 494, .str "_law_rounds" 495, .str "/claim/cut.py" 496, .int (278) 0, .int (1) 0, .int (0) 0, .int (0) 0, .int (3) 0, .ref 211, .bool true, .int (181) 0, .ref 212, .none, .none, .none, .ref 213, .int (497) 0, .int (278) 0, .str "/claim/cut.py" 498], #[]⟩),
  (215, fo "_law_rounds" "_law_rounds" (stAt 21) (.none) (.str "law_nq0245_01" 468) (.ref 214)),
  (219, ⟨.type "code", none, .fields #[.str "_law_layers" 500, .str "_law_layers" 501, .str "/claim/cut.py" 502, .int (288) 0, .int (1) 0, .int (0) 0, .int (0) 0, .int (3) 0, .ref 216, .bool true, .int (181) 0, .ref 217, .none, .none, .none, .ref 218, .int (503) 0, .int (288) 0, .str "/claim/cut.py" 504], #[]⟩),
  (220, fo "_law_layers" "_law_layers" (stAt 22) (.none) (.str "law_nq0245_01" 468) (.ref 219)),
  (224, ⟨.type "code", none, .fields #[.str "law" 506, .str "law" 507, .str "/claim/cut.py" 508, .int (293) 0, .int (1) 0, .int (0) 0, .int (0) 0, .int (3) 0, .ref 221, .bool true, .int (181) 0, .ref 222, .none, .none, .none, .ref 223, .int (509) 0, .int (293) 0, .str "/claim/cut.py" 510], #[]⟩),
  (225, fo "law" "law" (stAt 23) (.none) (.str "law_nq0245_01" 468) (.ref 224))]
noncomputable def asF : List Addr := [3, 27, 28, 34, 35, 41, 42, 48, 49, 55, 56, 62, 63, 69, 70, 84, 85, 88, 89, 90, 91, 92, 115, 121, 122, 128, 129, 135, 136, 140, 141, 147, 148, 154, 155, 168, 169, 175, 176, 185, 186, 187, 188, 194, 195, 199, 200, 204, 205, 209, 210, 214, 215, 219, 220, 224, 225]
theorem asF_eq (P : Params) : asF = (KF P).map (·.1) := by kernel_rfl
noncomputable def view0 : Program := { prg with main := { prg.main with body := [stAt 23] } }
noncomputable def loose0 : List Str := ["_wall", "T", "digits", "generate_generalized_integer", "adapt", "generate_integers", "decode_generalized_number", "insertion_sort", "punycode_decode", "_NODE_OUT", "_NODE_DONE", "_NodeInfo", "CycleError", "TopologicalSorter", "_law_lay", "_law_base", "_law_rest", "_law_letters", "_law_rounds", "_law_layers"]
theorem left0 : LeftO prg view0 loose0 (fun s => xlAt view0 [] s && recOk [] s) (Hook.obs (kHook KF asF asF_eq)) (Hook.val (kHook KF asF asF_eq)) 3112 := fun w => by kernel_rfl
theorem said0 : PySem.Challenge.rw_nq0245_01.wellSaid = true := by kernel_rfl
noncomputable def dLaw : DefRec := ⟨"law", fArgs (stAt 23), fBody (stAt 23), fScope (stAt 23), (stAt 23).pos⟩
theorem hd (walk : WalkO view0 loose0 (XL view0 []) (kHook KF asF asF_eq).says PySem.Challenge.rw_nq0245_01.row.toRowW dLaw [] fun f vs => PySem.call f vs) : PySem.Challenge.rw_nq0245_01.Holds := by
  refine holds_law said0 fun said => ?_
  refine holds_open (q := view0) (loose := loose0) (Xt := fun s => xlAt view0 [] s && recOk [] s) (XP := XL view0 []) (Yf := Hook.obs (kHook KF asF asF_eq)) (Ya := Hook.val (kHook KF asF asF_eq)) (YP := Hook.says (kHook KF asF asF_eq)) (N := 3112)
    left0 (Hook.of (kHook KF asF asF_eq)) (Hook.keeps (kHook KF asF asF_eq)) (fun s e => xl_of s (Bool.and_eq_true_iff.mp e).1) XL.keeps (d := dLaw) (kwd := []) (by kernel_rfl) (by kernel_rfl) (by kernel_rfl) (fun s e => recFacts_of (Bool.and_eq_true_iff.mp e).2) (by rfl) said (by kernel_rfl) ⟨rfl, rfl, rfl, rfl, rfl, by decide +kernel⟩ ?_ walk
  w_witness2
end
end
/-! # part X0 -/
section
open PySem PySem.W PyProof.Rows
open PySem.Sem (wp)
/-! ## the library's logic, kept to stacks that hold no decoder (bytearray's methods look for one) -/
noncomputable def Dec : Code → Bool
  | .builtin id _ => ["bytearray.__contains__", "bytearray.__mod__", "bytearray.__rmod__", "_struct.pack_into.held", "bytearray.find.held"].contains id || Builtin.Bytes.decodersThatHold.contains id
  | _ => false
noncomputable def Cln (l : List (Code × Pos)) : Prop := ∀ x ∈ l, Dec x.1 = false
noncomputable def NoE : Value → Shared → Prop := fun _ _ => False
noncomputable def wpX {α : Type} (M : Model) (A : Around) (t : Sem α) (Q : α → Shared → Prop) (E : Value → Shared → Prop) (s : Shared) : Prop :=
  ∀ Γ p, Γ.In A → Dec Γ.code = false → Cln Γ.below → wp M Γ t (fun a _ s' => Q a s') (fun e _ s' => E e s') p s
noncomputable def codeX (M : Model) (A : Around) (c : Code) (R : Result → Shared → Prop) (s : Shared) : Prop :=
  ∀ Γ p, Γ.code = c → Γ.Below A → Cln Γ.below → wpCode M Γ R p s
noncomputable def okR (Q : Flow → Shared → Prop) : Result → Shared → Prop
  | .ok f, s => Q f s
  | .error _, _ => False
noncomputable def okV (Q : Value → Shared → Prop) (E : Value → Shared → Prop) : Result → Shared → Prop := fun r s' => match r with | .ok (.ret v) => Q v s' | .ok _ => False | .error e => E e s'
section
variable {α β : Type} {M : Model} {A : Around} {E : Value → Shared → Prop} {s : Shared}
theorem wx {t : Sem α} {Q : α → Shared → Prop} (h : wpAny M A t Q E s) : wpX M A t Q E s := fun Γ p hΓ _ _ => h Γ p hΓ
theorem cx {c : Code} {R : Result → Shared → Prop} (h : codeAny M A c R s) : codeX M A c R s := fun Γ p hc hΓ _ => h Γ p hc hΓ
theorem wpX_pure {a : α} {Q : α → Shared → Prop} (h : Q a s) : wpX M A (pure a) Q E s := fun _ _ _ _ _ => h
theorem wpX_mono {t : Sem α} {Q Q' : α → Shared → Prop} {E' : Value → Shared → Prop} (h : wpX M A t Q E s) (hQ : ∀ a s, Q a s → Q' a s) (hE : ∀ e s, E e s → E' e s) : wpX M A t Q' E' s :=
  fun Γ p hΓ hd hc => Sem.wp_mono M Γ t (fun a _ s => hQ a s) (fun e _ s => hE e s) p s (h Γ p hΓ hd hc)
theorem wpX_bind {m : Sem α} {f : α → Sem β} {Q : β → Shared → Prop} (h : wpX M A m (fun a s' => wpX M A (f a) Q E s') E s) : wpX M A (m >>= f) Q E s := fun Γ p hΓ hd hc => by
  rw [Sem.wp_bind']
  exact Sem.wp_mono M Γ m (fun a p' s' h' => h' Γ p' hΓ hd hc) (fun _ _ _ h' => h') p s (h Γ p hΓ hd hc)
theorem wpX_then {m : Sem α} {f : α → Sem β} {Q₀ : α → Shared → Prop} {Q : β → Shared → Prop} (h : wpX M A m Q₀ E s) (k : ∀ a s', Q₀ a s' → wpX M A (f a) Q E s') : wpX M A (m >>= f) Q E s := wpX_bind (wpX_mono h k fun _ _ e => e)
theorem wpX_eq {t t' : Sem α} {Q : α → Shared → Prop} (e : t = t') (h : wpX M A t' Q E s) : wpX M A t Q E s := e ▸ h
theorem wpX_hold {vs : List Value} {m : Sem α} {Q : α → Shared → Prop} (h : wpX M A m Q E s) : wpX M A (holding vs m) Q E s := fun Γ p hΓ hd hc => by rw [Sem.wp_holding]; exact h Γ p hΓ hd hc
theorem wpX_keep {vs : List Value} {m : Sem α} {Q : α → Shared → Prop} (h : wpX M A m Q E s) : wpX M A (m.keep vs) Q E s := fun Γ p hΓ hd hc => by rw [Sem.wp_keep]; exact h Γ p hΓ hd hc
theorem wpX_stand {pos : Pos} {f : Unit → Sem α} {Q : α → Shared → Prop} (h : wpX M A (f ()) Q E s) : wpX M A (standAt pos >>= f) Q E s := wpX_bind (wx (wpAny_standAt h))
theorem wpX_oper {vs : List Value} {m : Sem Value} {Q : Value → Shared → Prop} (h : wpX M A m Q E s) : wpX M A (operate vs m) Q E s := fun Γ p hΓ hd hc => by rw [Sem.wp_operate]; exact h Γ p hΓ hd hc
theorem wpX_onRaise {m : Sem α} {k : Value → Sem Unit} {Q : α → Shared → Prop} (h : wpX M A m Q NoE s) : wpX M A (m.onRaise k) Q E s := fun Γ p hΓ hd hc => by
  rw [Sem.wp_onRaise]
  exact Sem.wp_mono M Γ m (fun _ _ _ h' => h') (fun e p' s' (f : False) => f.elim) p s (h Γ p hΓ hd hc)
theorem wpX_attempt {m : Sem α} {Q : Except Value α → Shared → Prop} (h : wpX M A m (fun a => Q (.ok a)) NoE s) : wpX M A m.attempt Q E s := fun Γ p hΓ hd hc => by
  rw [Sem.wp_attempt]
  exact Sem.wp_mono M Γ m (fun _ _ _ h' => h') (fun e p' s' (f : False) => f.elim) p s (h Γ p hΓ hd hc)
theorem wpX_tryCatch {m : Sem α} {k : Value → Sem α} {Q : α → Shared → Prop} (h : wpX M A m Q NoE s) : wpX M A (tryCatch m k) Q E s := fun Γ p hΓ hd hc => by
  rw [Sem.wp_tryCatch']
  exact Sem.wp_mono M Γ m (fun _ _ _ h' => h') (fun e p' s' (f : False) => f.elim) p s (h Γ p hΓ hd hc)
theorem wpX_tryCatch' {m : Sem α} {k : Value → Sem α} {Q : α → Shared → Prop} (h : wpX M A m Q (fun e s' => wpX M A (k e) Q E s') s) : wpX M A (tryCatch m k) Q E s := fun Γ p hΓ hd hc => by
  rw [Sem.wp_tryCatch']
  exact Sem.wp_mono M Γ m (fun _ _ _ h' => h') (fun e p' s' h' => h' Γ p' hΓ hd hc) p s (h Γ p hΓ hd hc)
theorem wpX_no {t : Sem α} {Q : α → Shared → Prop} (h : wpX M A t Q NoE s) : wpX M A t Q E s := wpX_mono h (fun _ _ q => q) fun _ _ f => False.elim f
theorem Cln.cons {Γ : Ctx} {p : Pos} (hd : Dec Γ.code = false) (hc : Cln Γ.below) : Cln ((Γ.code, p) :: Γ.below) := fun x hx => by
  rcases List.mem_cons.mp hx with rfl | hx
  · exact hd
  · exact hc x hx
theorem wpX_run {c : Code} {h : Option Value} {Q : Flow → Shared → Prop} (hc : codeX M (A.mark h) c (fun r s' => match r with | .ok f => Q f s' | .error e => E e s') s) (hnb : h ≠ some byPass := by intro x; cases x) : wpX M A (run c h) Q E s :=
  fun Γ p hΓ hd hcl => by rw [Sem.wp_run]; exact hc _ p rfl (hΓ.enter c h p hnb) (.cons hd hcl)
theorem wpX_runValue {c : Code} {Q : Value → Shared → Prop} (hc : codeX M A c (okV Q E) s) : wpX M A (runValue c) Q E s :=
  fun Γ p hΓ hd hcl => by rw [Sem.wp_runValue]; exact hc _ p rfl (hΓ.enter c none p (by intro x; cases x)) (.cons hd hcl)
theorem wpX_call {f : Value} {pos : List Value} {kw : List (Str × Value)} {Q : Value → Shared → Prop} (hc : codeX M A (.call f ⟨pos, kw⟩) (okV Q E) s) : wpX M A (call f pos kw) Q E s := wpX_runValue hc
theorem codeX_mono {c : Code} {R R' : Result → Shared → Prop} (h : codeX M A c R s) (hR : ∀ r s, R r s → R' r s) : codeX M A c R' s := fun Γ p hc hΓ hcl => wpCode_mono hR (h Γ p hc hΓ hcl)
theorem codeX_of_tree {c : Code} {R : Result → Shared → Prop}
    (h : wpX M (A.under c) (M.den c) (fun fin s' => match fin with | .done f => R (.ok f) s' | .again c' => c'.quiet = true ∧ codeX M A c' R s') (fun e s' => R (.error e) s') s) (hd : Dec c = false := by rfl) : codeX M A c R s := fun Γ p hc hΓ hcl => by
  rw [wpCode_iff_wp, hc]
  refine Sem.wp_mono M Γ _ (fun fin p' s' h' => ?_) (fun _ _ _ h' => h') p s (h Γ p (hc ▸ hΓ.in) (hc ▸ hd) hcl)
  cases fin with
  | done f => exact h'
  | again c' => exact ⟨h'.1, h'.2 (Γ.goto c') p' rfl (hΓ.goto c') hcl⟩
theorem codeX_loop {c : Code} {R : Result → Shared → Prop} (hq : c.quiet = true) (hd : Dec c = false) (I : Nat → Shared → Prop)
    (turn : ∀ n s, I n s → wpX M (A.under c) (M.den c) (fun fin s' => match fin with
        | .done f => R (.ok f) s'
        | .again c' => (c' = c ∧ ∃ m, m < n ∧ I m s') ∨ (c'.quiet = true ∧ codeX M A c' R s')) (fun e s' => R (.error e) s') s)
    (n : Nat) (h : I n s) : codeX M A c R s := by
  induction n using Nat.strongRecOn generalizing s with
  | ind n ih =>
    refine codeX_of_tree (wpX_mono (turn n s h) (fun fin s' hf => ?_) fun _ _ h' => h') hd
    cases fin with
    | done f => exact hf
    | again c' =>
      rcases hf with ⟨rfl, m, hm, hI⟩ | hf
      · exact ⟨hq, ih m hm hI⟩
      · exact hf
end
section
variable {M : Model} {A : Around} {E : Value → Shared → Prop} {s : Shared} {env : Env}
theorem wpX_execs_cons {st : Stmt} {rest : List Stmt} {Q : Flow → Shared → Prop} (h : wpX M A (exec st env) (fun f s' => match f with | .next => wpX M A (execs rest env) Q E s' | f => Q f s') E s) : wpX M A (execs (st :: rest) env) Q E s := by
  rw [execs_cons]
  refine wpX_then h fun f s' hf => ?_
  cases f <;> first | exact hf | exact wpX_pure hf
theorem wpX_bindName {x : Str} {v : Value} {Q : Unit → Shared → Prop} (h : wpX M A (storeName env x v) Q E s) : wpX M A (bindName env x v) Q E s := fun Γ p hΓ hd hc => by rw [Sem.wp_bindName]; exact h Γ p hΓ hd hc
theorem wpX_assign_Name {x : Str} {pos : Pos} {v : Value} {Q : Unit → Shared → Prop} (h : wpX M A (storeName env x v) Q E s) : wpX M A (assign (.Name x pos) env v) Q E s := wpX_eq (t' := do standAt pos; bindName env x v) rfl (wpX_stand (wpX_bindName h))
theorem wpX_Assign_Name {x : Str} {pos' pos : Pos} {value : Expr} {Q : Flow → Shared → Prop} (h : wpX M A (eval value env) (fun v s₁ => wpX M A (storeName env x v) (fun _ => Q .next) E s₁) E s)
    (hs : swapsWith value (some (.Name x pos')) pos.line env = pure false) : wpX M A (exec (.Assign [.Name x pos'] value pos) env) Q E s := by
  rw [exec_Assign_Name env x pos' value pos hs]
  exact wpX_stand (wpX_then h fun v s₁ h₁ => wpX_stand (wpX_then (wpX_bindName h₁) fun _ _ h₂ => wpX_pure h₂))
theorem wpX_AugAssign_Name {x : Str} {pos' pos : Pos} {op : Operator} {value : Expr} {Q : Flow → Shared → Prop}
    (h : wpX M A (loadName env x) (fun old s₁ => wpX M A (eval value env) (fun v s₂ => wpX M A (inplaceOp op old v) (fun r s₃ => wpX M A (storeName env x r) (fun _ => Q .next) E s₃) E s₂) E s₁) E s) : wpX M A (exec (.AugAssign (.Name x pos') op value pos) env) Q E s := by
  rw [exec_AugAssign_Name]
  exact wpX_stand (wpX_then h fun old s₁ h₁ => wpX_then (wpX_hold h₁) fun v s₂ h₂ => wpX_stand (wpX_then (wpX_oper h₂) fun r s₃ h₃ => wpX_stand (wpX_then (wpX_bindName h₃) fun _ _ h₄ => wpX_pure h₄)))
theorem wpX_If {test : Expr} {body orelse : List Stmt} {pos : Pos} {Q : Flow → Shared → Prop}
    (h : wpX M A (isTrue test env (eval test env)) (fun b s₂ => if b = true then wpX M A (execs body env) Q E s₂ else wpX M A (execs orelse env) Q E s₂) E s) : wpX M A (exec (.If test body orelse pos) env) Q E s := by
  rw [exec_If]
  refine wpX_stand (wpX_then h fun b s₂ h₂ => ?_)
  cases b <;> exact h₂
theorem wpX_Return {e : Expr} {pos : Pos} {Q : Flow → Shared → Prop} (h : wpX M A (eval e env) (fun v => Q (.ret v)) E s) : wpX M A (exec (.Return (some e) pos) env) Q E s := by
  rw [exec_Return_some]
  exact wpX_stand (wpX_then h fun v _ h₁ => wpX_pure h₁)
theorem wpX_runOwn {c : Code} {Q : Flow → Shared → Prop} (hc : codeX M A c (okR Q) s) : wpX M A (runOwn c env) Q E s := by
  unfold runOwn
  exact wpX_onRaise (wpX_run (codeX_mono hc fun r s' h => by cases r <;> exact h))
theorem wpX_While {test : Expr} {body orelse : List Stmt} {pos : Pos} {Q : Flow → Shared → Prop} (h : codeX M A (.whileLoop test body orelse env) (okR Q) s) : wpX M A (exec (.While test body orelse pos) env) Q E s := by
  rw [exec_While]
  exact wpX_stand (wpX_runOwn h)
theorem wpX_For {target iter : Expr} {body orelse : List Stmt} {pos : Pos} {Q : Flow → Shared → Prop}
    (h : wpX M A (eval iter env) (fun x s₁ => wpX M A (pyIter x) (fun it s₂ => codeX M A (.forLoop target it body orelse env) (okR Q) s₂) E s₁) E s) (hs : ∀ x, foldedSetIterable iter env x = pure x) : wpX M A (exec (.For target iter body orelse pos) env) Q E s := by
  rw [exec_For]
  exact wpX_stand (wpX_then h fun x s₁ h₁ => wpX_bind (wpX_eq (hs x) (wpX_pure (wpX_stand (wpX_then (wpX_hold h₁) fun it s₂ h₂ => wpX_runOwn h₂)))))
theorem wpX_BinOp {l r : Expr} {op : Operator} {pos : Pos} {Q : Value → Shared → Prop} (h : wpX M A (eval l env) (fun a s₁ => wpX M A (eval r env) (fun b s₂ => wpX M A (binaryOp op a b) Q E s₂) E s₁) E s) : wpX M A (eval (.BinOp l op r pos) env) Q E s := by
  rw [eval_BinOp]
  exact wpX_then h fun a s₁ h₁ => wpX_then (wpX_hold h₁) fun b s₂ h₂ => wpX_stand (wpX_oper h₂)
theorem wpX_Compare1 {l r : Expr} {op : CmpOp} {pos : Pos} {Q : Value → Shared → Prop} (h : wpX M A (eval l env) (fun a s₁ => wpX M A (eval r env) (fun b s₂ => wpX M A (compareOp op a b) Q E s₂) E s₁) E s) (hm : behindInMarks op r = false) :
    wpX M A (eval (.Compare l [op] [r] pos) env) Q E s := by
  rw [eval_Compare1]
  exact wpX_then h fun a s₁ h₁ => wpX_then (wpX_hold (wpX_eq (markedBehindIn_of_false hm) h₁)) fun b s₂ h₂ => wpX_stand (wpX_oper h₂)
theorem wpX_isTrue_Compare1 {l r : Expr} {op : CmpOp} {pos : Pos} {whole : Sem Value} {Q : Bool → Shared → Prop}
    (h : wpX M A (eval l env) (fun a s₁ => wpX M A (eval r env) (fun b s₂ => wpX M A (compareOp op a b) (fun c s₃ => wpX M A (truthy c) Q E s₃) E s₂) E s₁) E s) (hm : behindInMarks op r = false) : wpX M A (isTrue (.Compare l [op] [r] pos) env whole) Q E s := by
  rw [isTrue_Compare1]
  exact wpX_then h fun a s₁ h₁ => wpX_then (wpX_hold (wpX_eq (markedBehindIn_of_false hm) h₁)) fun b s₂ h₂ => wpX_stand (wpX_then (wpX_oper h₂) fun c s₃ h₃ => wpX_hold h₃)
theorem wpX_isTrue_val {e : Expr} {whole : Sem Value} {Q : Bool → Shared → Prop} (h : wpX M A whole (fun v s₁ => wpX M A (truthy v) Q E s₁) E s) (he : isTrue e env whole = (do let v ← whole; standAt e.pos; holding [v] (truthy v))) : wpX M A (isTrue e env whole) Q E s := by
  rw [he]
  exact wpX_then h fun v s₁ h₁ => wpX_stand (wpX_hold h₁)
theorem wpX_isTrue_not {x : Expr} {pos : Pos} {whole : Sem Value} {Q : Bool → Shared → Prop} (h : wpX M A (isTrue x env (eval x env)) (fun c => Q (!c)) E s) : wpX M A (isTrue (.UnaryOp .Not x pos) env whole) Q E s := by
  show wpX M A (do return !(← isTrue x env (eval x env))) Q E s
  exact wpX_then h fun c s' h' => wpX_pure h'
theorem wpX_isTrue_or {x : Expr} {rest : List Expr} {pos : Pos} {whole : Sem Value} {Q : Bool → Shared → Prop} (h : wpX M A (isTrue x env (eval x env)) (fun c s' => if c = true then Q true s' else wpX M A (isTrue (.BoolOp .Or rest pos) env whole) Q E s') E s) :
    wpX M A (isTrue (.BoolOp .Or (x :: rest) pos) env whole) Q E s := by
  show wpX M A (do
    match BoolOp.Or, ← isTrue x env (eval x env) with
    | .And, false => pure false
    | .Or, true => pure true
    | _, _ => allTrue .Or rest env) Q E s
  refine wpX_then h fun c s' h' => ?_
  cases c with
  | false => exact h'
  | true => exact wpX_pure h'
theorem wpX_IfExp {test body orelse : Expr} {pos : Pos} {Q : Value → Shared → Prop} (h : wpX M A (isTrue test env (eval test env)) (fun b s₁ => if b = true then wpX M A (eval body env) Q E s₁ else wpX M A (eval orelse env) Q E s₁) E s) : wpX M A (eval (.IfExp test body orelse pos) env) Q E s := by
  rw [arm_eval_IfExp]
  refine wpX_then h fun b s₁ h₁ => ?_
  cases b <;> exact h₁
theorem wpX_UnaryOp {op : UnaryOp} {x : Expr} {pos : Pos} {Q : Value → Shared → Prop} (h : wpX M A (eval x env) (fun v s₁ => wpX M A (unaryOp op v) Q E s₁) E s) : wpX M A (eval (.UnaryOp op x pos) env) Q E s := by
  rw [arm_eval_UnaryOp]
  exact wpX_then h fun v s₁ h₁ => wpX_stand (wpX_hold h₁)
theorem wpX_Subscript {value slice : Expr} {pos : Pos} {Q : Value → Shared → Prop} (h : wpX M A (eval value env) (fun o s₁ => wpX M A (eval slice env) (fun i s₂ => wpX M A (subscriptTail value slice o i) Q E s₂) E s₁) E s) : wpX M A (eval (.Subscript value slice pos) env) Q E s := by
  rw [eval_Subscript]
  exact wpX_then h fun o s₁ h₁ => wpX_then (wpX_hold h₁) fun i s₂ h₂ => wpX_stand h₂
theorem wpX_Tuple {elts : List Expr} {k : Nat} {pos : Pos} {Q : Value → Shared → Prop} (h : wpX M A (spliced (backTo pos (starEach elts env))) (fun vs s₁ => wpX M A (newTuple vs) Q E s₁) E s) : wpX M A (eval (.Tuple elts k pos) env) Q E s := by
  show wpX M A (do standAt pos; newTuple (← spliced (backTo pos (starEach elts env)))) Q E s
  exact wpX_stand (wpX_bind h)
theorem wpX_List {elts : List Expr} {pos : Pos} {Q : Value → Shared → Prop} (h : wpX M A (spliced (backTo pos (starEach elts env))) (fun vs s₁ => wpX M A (newList vs) Q E s₁) E s) : wpX M A (eval (.List elts pos) env) Q E s := by
  show wpX M A (do standAt pos; newList (← spliced (backTo pos (starEach elts env)))) Q E s
  exact wpX_stand (wpX_bind h)
theorem wpX_args {e : Expr} {rest : List Expr} {pos : Pos} {Q : List Value → Shared → Prop} (h : wpX M A (eval e env) (fun v s₁ => wpX M A (spliced (backTo pos (starEach rest env))) (fun vs => Q (v :: vs)) E s₁) E s)
    (he : starEach (e :: rest) env = (false, eval e env) :: starEach rest env) : wpX M A (spliced (backTo pos (starEach (e :: rest) env))) Q E s := by
  rw [he]
  show wpX M A (spliced ((false, eval e env) :: backTo pos (starEach rest env))) Q E s
  rw [spliced]
  refine wpX_then h fun v s₁ h₁ => ?_
  simp only [Bool.false_eq_true, if_false]
  exact wpX_bind (wpX_pure (wpX_then (wpX_hold h₁) fun vs s₂ h₂ => wpX_pure h₂))
theorem wpX_Call {func : Expr} {args : List Expr} {pos : Pos} {Q : Value → Shared → Prop} (h : wpX M A (eval func env) (fun f s₁ => wpX M A (callWith pos f [] (backTo pos (starEach args env)) []) Q E s₁) E s)
    (he : eval (.Call func args [] pos) env = (do callWith pos (← eval func env) [] (backTo pos (starEach args env)) (backToKw pos (keywordEach [] env)))) : wpX M A (eval (.Call func args [] pos) env) Q E s := by
  rw [he]; exact wpX_bind h
theorem wpX_Meth {o : Expr} {name : Str} {apos pos : Pos} {args : List Expr} {pl : Sem Bool} {Q : Value → Shared → Prop}
    (h : wpX M A (eval o env) (fun ov s₁ => wpX M A (getMethod ov name pl) (fun fx s₂ => wpX M A (callWith pos fx.1 fx.2 (backTo pos (starEach args env)) []) Q E s₂) E s₁) E s)
    (he : eval (.Call (.Attribute o name apos) args [] pos) env = (do
      let ov ← eval o env
      standAt apos.atName
      let (f, first) ← holding [ov] (getMethod ov name pl)
      callWith pos f first (backTo pos (starEach args env)) [])) : wpX M A (eval (.Call (.Attribute o name apos) args [] pos) env) Q E s := by
  rw [he]
  exact wpX_then h fun ov s₁ h₁ => wpX_stand (wpX_then (wpX_hold h₁) fun fx s₂ h₂ => h₂)
/-- the call itself, whoever keeps its arguments -/
theorem wpX_callWith {pos : Pos} {f : Value} {first : List Value} {args : List (Bool × Sem Value)} {Q : Value → Shared → Prop}
    (h : wpX M A (evalArgs f true args []) (fun a s₁ => (∃ k, Looks M s₁.heap (keeperOf f) k) ∧ wpX M A (call f (first ++ a.pos) a.kw) Q E s₁) E s) : wpX M A (callWith pos f first args []) Q E s := by
  unfold callWith
  refine wpX_then (wpX_hold h) fun a s₁ h₁ => wpX_stand ?_
  obtain ⟨⟨k, L⟩, hc⟩ := h₁
  have tail : ∀ {t : Sem Value}, wpX M A t Q E s₁ → wpX M A (t >>= fun r => holding [r] point >>= fun _ => pure r) Q E s₁ := fun ht =>
    wpX_then ht fun r s₂ hr => wx (wpAny_bind (wpAny_holding (wpAny_point (wpAny_pure hr))))
  have mk : ∀ (m : Value), wpX M A (callMarked m f (first ++ a.pos) a.kw) Q E s₁ := fun m => by unfold callMarked; exact wpX_keep hc
  refine wpX_bind (wx (L.here ?_))
  dsimp only
  generalize ((args.any fun x => x.1) || ([] : List (Option Str × Sem Value)).any fun x => x.1.isNone) = st
  cases k <;> cases st <;> dsimp only <;> first
    | exact tail hc
    | exact tail (mk _)
    | exact tail (wpX_oper hc)
    | (split <;> first | exact tail hc | exact tail (mk _))
end
end
/-! # part X1 -/
section
open PySem PySem.W PyProof.Rows
open PySem.Sem (wp)
section
variable {w : World} {A : Around} {E : Value → Shared → Prop} {R : Result → Shared → Prop} {s : Shared} {env : Env}
theorem codeX_func {body : List Stmt} (h : wpX (model prg w) (A.deeper env) (execs body env) (fun f s' => R (.ok (.ret (match f with | .ret v => v | _ => .none))) s') NoE s) : codeX (model prg w) A (.func body env) R s := by
  refine codeX_of_tree ?_
  show wpX _ (A.deeper env) (do point; match ← (execs body env).onRaise (leaving env) with | .ret v => ret v | _ => ret .none) _ _ s
  refine wpX_bind (wx (wpAny_point (wpX_then (wpX_onRaise h) fun f s' h' => ?_)))
  cases f <;> exact wpX_pure h'
theorem codeX_call {a : Addr} {args : Args} {o : Obj} {fd : FuncData} {body : List Stmt} (hroom : A.depth < recursionLimit) (ho : s.heap.get? a = some o) (hd' : o.data = .func fd) (hco : fd.scope.isCoroutine = false) (hgen : fd.scope.isGenerator = false)
    (hbody : fd.body = .stmts body) (hcd : s.heap.CodeRec fd.code fd.qualname)
    (h : wpX (model prg w) A.in1 (bindArgs fd args) (fun binds s₁ => wpAny (model prg w) A.in1 (newFunctionEnv fd.scope fd.globals fd.closure binds (fd.qualname ++ ".<locals>.") (some a) fd.code none fd.builtins)
        (fun env s₂ => s₂.heap.NoLimit ∧ codeX (model prg w) A (.func body env) R s₂) (fun e s' => R (.error e) s') s₁) (fun e s' => R (.error e) s') s) : codeX (model prg w) A (.call (.ref a) args) R s := by
  refine codeX_of_tree ?_
  show wpX _ A.in1 (callAny (.ref a) args) _ _ s
  simp only [callAny]
  refine wpX_bind (wx (wpAny_load ho ?_))
  obtain ⟨c, oc, vs, tq, hc, hoc, hdc, hq⟩ := hcd
  simp only [hd', callFunction, hco, hgen, hbody, hc]
  rw [hc] at h
  refine wpX_bind (m := field (.ref c) 1) (wx (wpAny_field hoc hdc hq (wpX_bind (wpX_pure ?_))))
  exact wpX_then h fun binds s₁ h₁ => wpX_then (wx h₁) fun env s₂ h₂ => wpX_bind (wx (wpAny_enterFrame h₂.1 hroom (wpX_pure (And.intro rfl h₂.2))))
theorem codeX_while {test : Expr} {body orelse : List Stmt} {Q : Flow → Shared → Prop} (I : Nat → Shared → Prop)
    (turn : ∀ n s, I n s → wpX (model prg w) A (isTrue test env (eval test env)) (fun b s₂ =>
        if b = true then wpX (model prg w) A (execs body env) (fun f s₃ => match f with
            | .next | .cont => ∃ m, m < n ∧ I m s₃
            | .brk => Q .next s₃
            | .ret v => Q (.ret v) s₃) NoE s₂
        else wpX (model prg w) A (execs orelse env) (fun f s₃ => Q f s₃) NoE s₂) NoE s)
    (n : Nat) (h : I n s) : codeX (model prg w) A (.whileLoop test body orelse env) (okR Q) s := by
  refine codeX_loop rfl rfl I (fun n s hI => ?_) n h
  show wpX _ A ((whileTurn test body orelse env).onRaise (fun x => do noteFrame x env; theTreesLotGoes x)) _ _ s
  refine wpX_onRaise ?_
  simp only [whileTurn]
  refine wpX_then (turn n s hI) fun b s₂ h₂ => ?_
  cases b with
  | false =>
    simp only [Bool.false_eq_true, if_false] at h₂ ⊢
    exact wpX_then h₂ fun f s₃ h₃ => wpX_pure h₃
  | true =>
    simp only [if_true] at h₂ ⊢
    refine wpX_then h₂ fun f s₃ h₃ => ?_
    cases f with
    | next => exact wpX_pure (.inl ⟨rfl, h₃⟩)
    | cont => exact wpX_pure (.inl ⟨rfl, h₃⟩)
    | brk => exact wpX_pure h₃
    | ret v => exact wpX_pure h₃
theorem codeX_block {stmts : List Stmt} {Q : Flow → Shared → Prop} (h : wpX (model prg w) A (execs stmts env) Q NoE s) : codeX (model prg w) A (.block stmts env) (okR Q) s := by
  refine codeX_of_tree ?_
  show wpX _ A (do return Fin.done (← (execs stmts env).onRaise (fun x => do noteFrame x env; theTreesLotGoes x))) _ _ s
  exact wpX_then (wpX_onRaise h) fun f s' h' => wpX_pure h'
theorem codeX_for {target : Expr} {it : Value} {body orelse : List Stmt} {Q : Flow → Shared → Prop} (I : Nat → Shared → Prop)
    (turn : ∀ n s, I n s → wpX (model prg w) A (pyNext it) (fun r s₁ => match r with
      | none => wpX (model prg w) A (execs orelse env) (fun f s₃ => Q f s₃) NoE s₁
      | some v => wpX (model prg w) A (letOwnedTupleGo target it v) (fun _ s₂ => wpX (model prg w) A (assign target env v) (fun _ s₂ => wpX (model prg w) A (execs body env) (fun f s₃ => match f with
          | .next | .cont => ∃ m, m < n ∧ I m s₃
          | .brk => Q .next s₃
          | .ret v => Q (.ret v) s₃) NoE s₂) NoE s₂) NoE s₁) NoE s)
    (n : Nat) (h : I n s) : codeX (model prg w) A (.forLoop target it body orelse env) (okR Q) s := by
  refine codeX_loop rfl rfl I (fun n s hI => ?_) n h
  show wpX _ _ ((forTurn target it body orelse env).onRaise (fun x => do noteFrame x env; theTreesLotGoes x)) _ _ s
  refine wpX_onRaise ?_
  simp only [forTurn]
  refine wpX_stand (wpX_then (wpX_onRaise (turn n s hI)) fun r s₁ h₁ => ?_)
  cases r with
  | none => exact wpX_pure (.inr ⟨rfl, codeX_block h₁⟩)
  | some v =>
    refine wpX_then h₁ fun _ s₂ h₂ => wpX_then h₂ fun _ s₃ h₃ => wpX_then h₃ fun f s₄ h₄ => ?_
    cases f with
    | next => exact wpX_pure (.inl ⟨rfl, h₄⟩)
    | cont => exact wpX_pure (.inl ⟨rfl, h₄⟩)
    | brk => exact wpX_pure h₄
    | ret v => exact wpX_pure h₄
theorem codeX_comp {elt target iter : Expr} {ifs : List Expr} {scope : Scope} {pos : Pos} {it acc : Value} {Q : Flow → Shared → Prop} (I : Nat → Shared → Prop)
    (turn : ∀ n s, I n s → wpX (model prg w) A (pyNext it) (fun r s₁ => match r with
      | none => Q .next s₁
      | some v => wpX (model prg w) A (letOwnedTupleGo target it v) (fun _ s₂ => wpX (model prg w) A (assign target env v) (fun _ s₂ =>
          wpX (model prg w) A (forIn ifs true fun c r => if r = true then do let ok ← isTrue c env (eval c env); pure (ForInStep.yield ok) else pure (ForInStep.yield r)) (fun ok s₃ =>
            if ok = true then wpX (model prg w) A (eval elt env) (fun x s₄ => wpX (model prg w) A (call (.builtin "list.append") [acc, x]) (fun _ s₅ => ∃ m, m < n ∧ I m s₅) NoE s₄) NoE s₃
            else ∃ m, m < n ∧ I m s₃) NoE s₂) NoE s₂) NoE s₁) NoE s)
    (n : Nat) (h : I n s) : codeX (model prg w) A (.compLoop (.ListComp elt [⟨target, iter, ifs, 0⟩] scope pos) 0 it acc env) (okR Q) s := by
  refine codeX_loop rfl rfl I (fun n s hI => ?_) n h
  show wpX _ A ((compTurn (.ListComp elt [⟨target, iter, ifs, 0⟩] scope pos) 0 it acc env).onRaise (fun x => do noteFrame x env; theTreesLotGoes x)) _ _ s
  refine wpX_onRaise ?_
  rw [compTurn_list]
  refine wpX_stand (wpX_then (turn n s hI) fun r s₁ h₁ => ?_)
  cases r with
  | none => exact wpX_pure h₁
  | some v =>
    refine wpX_then h₁ fun _ s₂ h₂ => wpX_then h₂ fun _ s₂ h₂ => wpX_then h₂ fun ok s₃ h₃ => ?_
    cases ok with
    | false => exact wpX_pure (.inl ⟨rfl, h₃⟩)
    | true => exact wpX_bind (wpX_then h₃ fun x s₄ h₄ => wpX_then h₄ fun _ s₅ h₅ => wpX_pure (wpX_pure (.inl ⟨rfl, h₅⟩)))
theorem codeX_compStart {elt target iter : Expr} {ifs : List Expr} {rest : List Comprehension} {scope : Scope} {pos : Pos} {it acc : Value} {Q : Flow → Shared → Prop}
    (h0 : codeX (model prg w) A (.compLoop (.ListComp elt (⟨target, iter, ifs, 0⟩ :: rest) scope pos) 0 it acc env) (okR Q) s)
    (h : wpX (model prg w) A (pyIter it) (fun it' s' => codeX (model prg w) A (.compLoop (.ListComp elt (⟨target, iter, ifs, 0⟩ :: rest) scope pos) 0 it' acc env) (okR Q) s') NoE s) :
    codeX (model prg w) A (.compStart (.ListComp elt (⟨target, iter, ifs, 0⟩ :: rest) scope pos) 0 it acc env) (okR Q) s := by
  refine codeX_of_tree ?_
  show wpX _ _ ((compStart (.ListComp elt (⟨target, iter, ifs, 0⟩ :: rest) scope pos) 0 it acc env).onRaise (fun x => do noteFrame x env; standAt theWindowsPlace)) _ _ s
  refine wpX_onRaise ?_
  unfold compStart
  show wpX _ _ (ask >>= _) _ _ s
  refine wpX_bind (wx (wpAny_askSetting ?_))
  split
  · first
      | exact wpX_bind (wpX_pure (wpX_pure (And.intro rfl h0)))
      | exact wpX_pure (And.intro rfl h0)
  · first
      | exact wpX_bind (wx (wpAny_rule (wpX_stand (wpX_then h fun it' s' h' => wpX_pure (And.intro rfl h')))))
      | (refine wpX_bind (wx (wpAny_rule ?_)); show wpX _ _ (standAt iter.pos >>= _) _ _ s; exact wpX_stand (wpX_then h fun it' s' h' => wpX_pure (And.intro rfl h')))
/-- what a comprehension leaves: its own names are let go -/
noncomputable def compDone (M : Model) (A : Around) (use : Option (Value → Sem Unit)) (Q : Value → Shared → Prop) (acc : Value) (C : Addr) (s' : Shared) : Prop :=
  match use with
  | none => ∃ m, s'.heap.Ns C m ∧ ∀ h', Heap.SameBut C s'.heap h' → Q acc { s' with heap := h' }
  | some u => wpX M A (u acc) (fun _ s'' => ∃ m, s''.heap.Ns C m ∧ ∀ h', Heap.SameBut C s''.heap h' → Q .none { s'' with heap := h' }) NoE s'
theorem wpX_comprehension {e : Expr} {scope : Scope} {pos : Pos} {newAcc first : Sem Value} {g : Comprehension} {gs : List Comprehension} {cl : List (Str × Addr)} {use : Option (Value → Sem Unit)} {Q : Value → Shared → Prop}
    (hcl : clausesOf e = g :: gs) (hs : ∀ x, foldedSetIterable g.iter env x = pure x) (hclos : closureFor scope env = pure cl) (hkind : scope.kind = .function) (hnames : ∀ x ∈ scope.names, x.2 = .local → scope.names.lookup x.1 = some .local)
    (h : wpX (model prg w) A first (fun x s₁ => wpX (model prg w) A (pyIter x) (fun it s₂ => wpX (model prg w) A newAcc (fun acc s₃ =>
      wpX (model prg w) A (newFunctionEnv scope env.globals cl [] env.qual none .none (some env)) (fun cenv s₄ =>
        codeX (model prg w) A (.compStart e 0 it acc { cenv with scope := relabel scope env }) (okR fun _ s' => compDone (model prg w) A use Q acc cenv.locals s') s₄) NoE s₃) NoE s₂) NoE s₁) NoE s) :
    wpX (model prg w) A (comprehension e scope env pos newAcc false first use) Q E s := by
  refine wpX_no ?_
  unfold comprehension
  rw [hclos, hcl]
  refine wpX_then h fun x s₁ h₁ => wpX_stand (wpX_bind (wpX_eq (hs x) (wpX_pure (wpX_then (wpX_hold h₁) fun it s₂ h₂ => ?_))))
  have std : ∀ {α : Type} {c : Prop} [Decidable c] {pos : Pos} {k : PUnit → Sem α} {Q : α → Shared → Prop} {s : Shared}, wpX (model prg w) A (k ()) Q NoE s → wpX (model prg w) A (if c then (standAt pos >>= k) else k ()) Q NoE s := fun h => by
    split
    · exact wpX_stand h
    · exact h
  refine std (wpX_then h₂ fun acc s₃ h₃ => wpX_bind (wpX_pure (wpX_then h₃ fun cenv s₄ h₄ => ?_)))
  dsimp only
  have hv : ∀ x ∈ (scope.names.filter fun x => (x.2 == .local || x.2 == .cell) && x.1 != (".0" : Str)).reverse, x.2 = .local →
      Env.kindOf { cenv with scope := relabel scope env } x.1 = some .local := fun x hx hl => lookup_relabel_local (hnames x (List.mem_filter.mp (List.mem_reverse.mp hx)).1 hl)
  have hv' : ∀ x ∈ (scope.names.filter fun x => (x.2 == .local || x.2 == .cell) && x.1 != (".0" : Str)).reverse.drop 1 ++ (scope.names.filter fun x => (x.2 == .local || x.2 == .cell) && x.1 != (".0" : Str)).reverse.take 1,
      x.2 = .local → Env.kindOf { cenv with scope := relabel scope env } x.1 = some .local := fun x hx hl => by
    rcases List.mem_append.mp hx with h1 | h1
    · exact hv x (List.mem_of_mem_drop h1) hl
    · exact hv x (List.mem_of_mem_take h1) hl
  refine wpX_hold (wpX_bind (wpX_attempt (wpX_hold (wpX_run (codeX_mono h₄ fun r s' hr => ?_)))))
  cases r with
  | error x => exact hr
  | ok f =>
    cases use with
    | none =>
      obtain ⟨m, hn, hr⟩ := hr
      exact wpX_bind (wpX_hold (wx (wpAny_comp_letGo (cenv := { cenv with scope := relabel scope env }) hkind _ s' m hv hn fun h' m' _ hs' => wpX_pure (hr h' hs'))))
    | some u =>
      refine wpX_bind (wx (wpAny_rule (wpX_then (wpX_hold hr) fun _ s'' hr' => ?_)))
      obtain ⟨m, hn, hr'⟩ := hr'
      exact wpX_bind (wx (wpAny_comp_letGo (cenv := { cenv with scope := relabel scope env }) hkind _ s'' m hv' hn fun h' m' _ hs' => wpX_pure (hr' h' hs')))
theorem wpX_evalArgs {f : Value} {x : Sem Value} {rest : List (Bool × Sem Value)} {M : Model} {Q : Args → Shared → Prop} (h : wpX M A (spliced ((false, x) :: rest)) (fun vs s' => Q ⟨vs, []⟩ s') E s) : wpX M A (evalArgs f true ((false, x) :: rest) []) Q E s := by
  unfold evalArgs
  show wpX M A (spliced ((false, x) :: rest) >>= _) Q E s
  refine wpX_then h fun vs s' h' => wpX_hold ?_
  exact wpX_bind (wpX_pure (wpX_bind (wpX_pure (wpX_pure h'))))
end
end
/-! # part H -/
section
open PySem PySem.W PyProof.Rows
open PySem.Sem (wp)
/-! ## the head, from a walk over clean stacks -/
noncomputable abbrev cal : Ctx := ⟨.builtin "claim.caller" {}, none, none, [], none⟩
abbrev rowL : OpenRow := PySem.Challenge.rw_nq0245_01.row
abbrev clm : ClaimW := rowL.toRowW.claim
noncomputable abbrev hook : Hook := kHook KF asF asF_eq
theorem endsX {w : World} {t : Sem Fin} {s : Shared} {R : Result → Shared → Prop} (hreg : s.asleep) (h : wpX (model prg w) callerA t (fun fin s' => ∃ f, fin = .done f ∧ (R (.ok f) s' ∧ leftWithCleanup s'.gens = false)) NoE s) :
    ∃ n r s' s'', runN (denote table) prg w n s ⟨t, .builtin "claim.caller" {}, default, []⟩ = .halted (outcomeOf r) s' ∧
      schedN (denote table) prg w n (.single s ⟨t, .builtin "claim.caller" {}, default, []⟩) = .halted (outcomeOf r) s' ∧ s'.forget = s''.forget ∧ R r s'' := by
  have hw : wp (model prg w) cal t (Sem.finPost (model prg w) cal fun r s' => R r s' ∧ leftWithCleanup s'.gens = false) (fun e _ s' => R (.error e) s' ∧ leftWithCleanup s'.gens = false) default s := by
    refine Sem.wp_mono _ _ _ (fun fin p' s' h' => ?_) (fun _ _ _ f => False.elim f) _ _ (h cal default caller_in (by decide +kernel) fun x hx => nomatch hx)
    obtain ⟨f, rfl, hf⟩ := h'
    exact hf
  obtain ⟨n, r, s₁, s₂, hs, hn, hfo, hR⟩ := wp_halts_full (M := model prg w) (R := R) hreg hw
  exact ⟨n, r, s₂, s₁, hn, hs, hfo, hR⟩
noncomputable def WalkX : Prop := ∀ (w : World) (s₀ s₁ : Shared) (mg mb : Str → Option Value), Ground view0 loose0 [] (XL view0 []) w s₀ mg mb s₁.heap → hook.says w s₁.heap → s₁.gens = #[] →
  ∀ (args : List WData) (vs : List Value) (as : List Addr), clm.pre args = true → WData.layableAll args = true → ReadsAllW [] (classAt s₀.heap) s₁.heap vs args as →
    wpX (model prg w) callerA (PySem.call (.ref 225) vs) (fun v s' => GoodWG clm (classAt s₀.heap) (ExcName.means s₀.heap) args s₁ (.ok (.ret v)) s') NoE s₁
theorem hdX (walk : WalkX) : PySem.Challenge.rw_nq0245_01.Holds := by
  refine holds_law said0 fun said => ?_
  have hw : rowL.toRowW.promised := by w_witness2
  have hb : rowL.prog.bare := ⟨rfl, rfl, rfl, rfl, rfl, by decide +kernel⟩
  have hch : chainsOk view0 = true := by kernel_rfl
  have o1 : opensWell rowL.prog = true := by kernel_rfl
  have k5 : frees rowL.toRowW = true := by kernel_rfl
  have hX : ∀ s, (fun s => xlAt view0 [] s && recOk [] s) s = true → XL view0 [] (s.heap.nsMap mainGlobals) s.heap := fun s e => xl_of s (Bool.and_eq_true_iff.mp e).1
  have hdef : defOf view0 rowL.name = some (dLaw, []) := by kernel_rfl
  obtain ⟨hsame, hu, ha, hap, hm⟩ := frees_parts k5
  refine ⟨said, hw, ⟨hb, o1, by kernel_rfl⟩, hw.witness, fun w => ⟨(left0.behind hX hch w).1, fun s' hs' => ?_⟩⟩
  obtain ⟨s₀, hf, hg0, s, hT, hz, hgens, hg, G, y⟩ := (left0.behind hX hch w).2 s' hs'
  have pin : ∀ n ∈ (if rowL.pinned then [rowL.name] else []), isTheDefsW rowL.prog s.heap n := fun n hn => by
    obtain rfl : n = rowL.name := by split at hn <;> simp_all
    exact pinned_of_view hg G hdef (by kernel_rfl) (by kernel_rfl)
  have hgens : s.gens = #[] := Array.eq_empty_of_size_eq_zero (beq_iff_eq.mp hgens)
  refine ⟨s₀, hf, hg0, s, hT, pin, fun x hx => (nomatch hx), fun x hx => (nomatch hx), ?_⟩
  intro args hpre hlay ord hord
  obtain ⟨⟨vs, s₁⟩, hlaid⟩ := Option.isSome_iff_exists.mp (layAllW_isSome (P := w.params) (ord := ord) G.has args rowL.args s (pre_splitW hpre).1)
  have keeps := layAllW_keeps _ _ _ hlaid
  have hal := layAllW_rest _ _ _ hlaid
  obtain ⟨as, hrd, hin, hold⟩ := reads_layAllW hord _ _ _ hlaid hlay s₁.heap (fun _ _ e => e)
  have L : Laid [] w s s₁ args vs as := ⟨⟨ord, hord, hlaid⟩, hrd, hin, hold, keeps, hal.1.trans hgens, hal.2.2.1⟩
  have G₁ := G.keeps XL.keeps keeps
  have hi := ident_freeW hu ha hap
  have hY := Hook.keeps hook _ _ _ (Hook.of hook w s y) keeps
  have h := walk w s s₁ _ _ G₁ hY (hal.1.trans hgens) args vs as hpre hlay hrd
  have hname : s.heap.nsMap mainGlobals rowL.name = some (.ref 225) := by
    have e : nsIn (KF w.params) mainGlobals rowL.name = some (some (.ref 225)) := by kernel_rfl
    exact mg_of (kIn_of (Hook.of hook w s y)) G.T.g e
  obtain ⟨k, r, s', s'', hrun, hsched, hfo, hcase, hos⟩ := endsX (w := w) (s := s₁) (t := do match ← nsGet mainNs rowL.name with
      | some f => do ret (← PySem.call f vs)
      | none => unsupported "claim.caller:no-such-global") (R := fun r s' => clm.Ends s args vs s₁ r s' ∧ s'.os = s.os) (Shared.asleep_of_life hal.2.2.2 hz) (by
    refine wpX_bind (wx (wpAny_nsGet G₁.T.g ?_))
    rw [hname]
    refine wpX_then h fun v s' g => wpX_pure ⟨_, rfl, ?_⟩
    have z := g.laid (c := clm) hsame (by kernel_rfl) hi L
    exact ⟨⟨z.1, z.2.1⟩, leftWithCleanup_false_of_bare z.2.2⟩)
  obtain ⟨eh, _, _, eo, _⟩ := Shared.forget_eq hfo
  have hcase := hcase.congr eh
  rw [← eo] at hos
  have hlife : s'.heap.life = s.heap.life := (runN_life _ _ _ hrun).trans hal.2.2.2
  refine ⟨vs, s₁, hlaid, k, _, s', hsched, ?_, (fun _ i x hx => by rw [hgens] at hx; simp at hx), (fun q => absurd (show false = true from q) (by decide)), by rw [hlife], Shared.rest_eq hos⟩
  rcases hcase with ⟨v, rfl, d1, d2, d3, d4, d5⟩ | ⟨e, ob, cls, rfl, d1, d2, d3, d4, d5⟩
  · exact .inl ⟨v, rfl, d1, d2, d3, fun b o y _ => d4 b o y, d5⟩
  · exact .inr ⟨e, ob, cls, rfl, d1, d2, d3, d4, fun b o y _ => d5 b o y⟩
end
/-! # part E0 -/
section
/-! ## some things at once, some facts at once: one step to make, one step to take apart -/
inductive Ex2 {α0 α1 : Type} (p : α0 → α1 → Prop) : Prop
  | mk (x0 : α0) (x1 : α1) (h : p x0 x1) : Ex2 p
inductive Ex3 {α0 α1 α2 : Type} (p : α0 → α1 → α2 → Prop) : Prop
  | mk (x0 : α0) (x1 : α1) (x2 : α2) (h : p x0 x1 x2) : Ex3 p
inductive Ex4 {α0 α1 α2 α3 : Type} (p : α0 → α1 → α2 → α3 → Prop) : Prop
  | mk (x0 : α0) (x1 : α1) (x2 : α2) (x3 : α3) (h : p x0 x1 x2 x3) : Ex4 p
inductive Ex5 {α0 α1 α2 α3 α4 : Type} (p : α0 → α1 → α2 → α3 → α4 → Prop) : Prop
  | mk (x0 : α0) (x1 : α1) (x2 : α2) (x3 : α3) (x4 : α4) (h : p x0 x1 x2 x3 x4) : Ex5 p
inductive Ex6 {α0 α1 α2 α3 α4 α5 : Type} (p : α0 → α1 → α2 → α3 → α4 → α5 → Prop) : Prop
  | mk (x0 : α0) (x1 : α1) (x2 : α2) (x3 : α3) (x4 : α4) (x5 : α5) (h : p x0 x1 x2 x3 x4 x5) : Ex6 p
inductive Ex7 {α0 α1 α2 α3 α4 α5 α6 : Type} (p : α0 → α1 → α2 → α3 → α4 → α5 → α6 → Prop) : Prop
  | mk (x0 : α0) (x1 : α1) (x2 : α2) (x3 : α3) (x4 : α4) (x5 : α5) (x6 : α6) (h : p x0 x1 x2 x3 x4 x5 x6) : Ex7 p
inductive Ex8 {α0 α1 α2 α3 α4 α5 α6 α7 : Type} (p : α0 → α1 → α2 → α3 → α4 → α5 → α6 → α7 → Prop) : Prop
  | mk (x0 : α0) (x1 : α1) (x2 : α2) (x3 : α3) (x4 : α4) (x5 : α5) (x6 : α6) (x7 : α7) (h : p x0 x1 x2 x3 x4 x5 x6 x7) : Ex8 p
inductive Ex9 {α0 α1 α2 α3 α4 α5 α6 α7 α8 : Type} (p : α0 → α1 → α2 → α3 → α4 → α5 → α6 → α7 → α8 → Prop) : Prop
  | mk (x0 : α0) (x1 : α1) (x2 : α2) (x3 : α3) (x4 : α4) (x5 : α5) (x6 : α6) (x7 : α7) (x8 : α8) (h : p x0 x1 x2 x3 x4 x5 x6 x7 x8) : Ex9 p
inductive Ex10 {α0 α1 α2 α3 α4 α5 α6 α7 α8 α9 : Type} (p : α0 → α1 → α2 → α3 → α4 → α5 → α6 → α7 → α8 → α9 → Prop) : Prop
  | mk (x0 : α0) (x1 : α1) (x2 : α2) (x3 : α3) (x4 : α4) (x5 : α5) (x6 : α6) (x7 : α7) (x8 : α8) (x9 : α9) (h : p x0 x1 x2 x3 x4 x5 x6 x7 x8 x9) : Ex10 p
inductive Ex12 {α0 α1 α2 α3 α4 α5 α6 α7 α8 α9 α10 α11 : Type} (p : α0 → α1 → α2 → α3 → α4 → α5 → α6 → α7 → α8 → α9 → α10 → α11 → Prop) : Prop
  | mk (x0 : α0) (x1 : α1) (x2 : α2) (x3 : α3) (x4 : α4) (x5 : α5) (x6 : α6) (x7 : α7) (x8 : α8) (x9 : α9) (x10 : α10) (x11 : α11) (h : p x0 x1 x2 x3 x4 x5 x6 x7 x8 x9 x10 x11) : Ex12 p
inductive An2 (p0 p1 : Prop) : Prop
  | mk (h0 : p0) (h1 : p1) : An2 p0 p1
inductive An3 (p0 p1 p2 : Prop) : Prop
  | mk (h0 : p0) (h1 : p1) (h2 : p2) : An3 p0 p1 p2
inductive An4 (p0 p1 p2 p3 : Prop) : Prop
  | mk (h0 : p0) (h1 : p1) (h2 : p2) (h3 : p3) : An4 p0 p1 p2 p3
inductive An5 (p0 p1 p2 p3 p4 : Prop) : Prop
  | mk (h0 : p0) (h1 : p1) (h2 : p2) (h3 : p3) (h4 : p4) : An5 p0 p1 p2 p3 p4
inductive An6 (p0 p1 p2 p3 p4 p5 : Prop) : Prop
  | mk (h0 : p0) (h1 : p1) (h2 : p2) (h3 : p3) (h4 : p4) (h5 : p5) : An6 p0 p1 p2 p3 p4 p5
inductive An7 (p0 p1 p2 p3 p4 p5 p6 : Prop) : Prop
  | mk (h0 : p0) (h1 : p1) (h2 : p2) (h3 : p3) (h4 : p4) (h5 : p5) (h6 : p6) : An7 p0 p1 p2 p3 p4 p5 p6
inductive An8 (p0 p1 p2 p3 p4 p5 p6 p7 : Prop) : Prop
  | mk (h0 : p0) (h1 : p1) (h2 : p2) (h3 : p3) (h4 : p4) (h5 : p5) (h6 : p6) (h7 : p7) : An8 p0 p1 p2 p3 p4 p5 p6 p7
inductive An9 (p0 p1 p2 p3 p4 p5 p6 p7 p8 : Prop) : Prop
  | mk (h0 : p0) (h1 : p1) (h2 : p2) (h3 : p3) (h4 : p4) (h5 : p5) (h6 : p6) (h7 : p7) (h8 : p8) : An9 p0 p1 p2 p3 p4 p5 p6 p7 p8
inductive An10 (p0 p1 p2 p3 p4 p5 p6 p7 p8 p9 : Prop) : Prop
  | mk (h0 : p0) (h1 : p1) (h2 : p2) (h3 : p3) (h4 : p4) (h5 : p5) (h6 : p6) (h7 : p7) (h8 : p8) (h9 : p9) : An10 p0 p1 p2 p3 p4 p5 p6 p7 p8 p9
inductive An11 (p0 p1 p2 p3 p4 p5 p6 p7 p8 p9 p10 : Prop) : Prop
  | mk (h0 : p0) (h1 : p1) (h2 : p2) (h3 : p3) (h4 : p4) (h5 : p5) (h6 : p6) (h7 : p7) (h8 : p8) (h9 : p9) (h10 : p10) : An11 p0 p1 p2 p3 p4 p5 p6 p7 p8 p9 p10
inductive An12 (p0 p1 p2 p3 p4 p5 p6 p7 p8 p9 p10 p11 : Prop) : Prop
  | mk (h0 : p0) (h1 : p1) (h2 : p2) (h3 : p3) (h4 : p4) (h5 : p5) (h6 : p6) (h7 : p7) (h8 : p8) (h9 : p9) (h10 : p10) (h11 : p11) : An12 p0 p1 p2 p3 p4 p5 p6 p7 p8 p9 p10 p11
end
/-! # part B1 -/
section
open PySem PySem.W PyProof.Rows
noncomputable abbrev KK : Params → Frag := KF
noncomputable abbrev Kn := Addr → Option Obj
/-- the fixed part of a run: the world, and the heap that stood when the law was called -/
structure Pk where
  w : World
  gens : Array GenState
  drawn : Drawn
  os : OsState
  b : Heap
  mg : Str → Option Value
  mb : Str → Option Value
  kin : (KK w.params).In b
  g : b.Ns mainGlobals mg
  bl : b.Ns builtinsNs mb
  hmb : ∀ x : Str, x ≠ "__name__" → mb x = bootBuiltins x
  nolim : b.NoLimit
noncomputable def Pk.st (P : Pk) (h : Heap) (k : Nat) : Shared := ⟨h, P.gens, P.drawn, k, P.os⟩
theorem Pk.st_heap (P : Pk) (h : Heap) (k : Nat) : (P.st h k).heap = h := rfl
/-- a frame: where its names lie, the cells that it owns, what is known of its names -/
structure Fm where
  L : Addr
  cs : List (Str × Addr)
  vs : List (Str × Value)
noncomputable def Fm.as (f : Fm) : List Addr := f.L :: f.cs.map (·.2)
structure FmOk (f : Fm) (h : Heap) : Prop where
  loc : ∃ m, h.Ns f.L m ∧ ∀ p ∈ f.vs, f.cs.lookup p.1 = none → m p.1 = some p.2
  cell : ∀ x c, f.cs.lookup x = some c → ∃ v, h.IsCell c v ∧ ∀ y, (x, y) ∈ f.vs → v = some y
  live : ∀ a ∈ f.as, ∃ o, h.get? a = some o
structure St (P : Pk) (kn : Kn) (frs : List Fm) (h : Heap) : Prop where
  base : ∀ a o, P.b.get? a = some o → h.get? a = some o
  know : ∀ a o, kn a = some o → h.get? a = some o ∧ P.b.get? a = none
  fms : ∀ f ∈ frs, FmOk f h
  nodup : (frs.flatMap Fm.as).Nodup
  apart : ∀ a ∈ frs.flatMap Fm.as, P.b.get? a = none ∧ kn a = none
inductive FinW (P : Pk) (Q : Kn → List Fm → Prop) (s : Shared) : Prop
  | mk (kn : Kn) (frs : List Fm) (h : Heap) (k : Nat) (e : s = P.st h k) (hs : St P kn frs h) (hq : Q kn frs) : FinW P Q s
noncomputable def WP (P : Pk) (A : Around) {α : Type} (t : Sem α) (Q : α → Kn → List Fm → Prop) (kn : Kn) (frs : List Fm) : Prop :=
  ∀ h k, St P kn frs h → wpX (model prg P.w) A t (fun a => FinW P (Q a)) NoE (P.st h k)
noncomputable def Kn.set (kn : Kn) (a : Addr) (o : Obj) : Kn := fun b => if b = a then some o else kn b
theorem Kn.set_self {kn : Kn} {a : Addr} {o : Obj} : kn.set a o a = some o := if_pos rfl
theorem Kn.set_ne {kn : Kn} {a b : Addr} {o : Obj} (h : b ≠ a) : kn.set a o b = kn b := if_neg h
section
variable {P : Pk} {kn kn' : Kn} {frs : List Fm} {h h' : Heap}
theorem FmOk.keeps {f : Fm} (x : FmOk f h) (hk : ∀ a ∈ f.as, ∀ o, h.get? a = some o → h'.get? a = some o) : FmOk f h' := by
  refine ⟨?_, fun n c hc => ?_, fun a ha => ?_⟩
  · obtain ⟨m, hm, hv⟩ := x.loc
    obtain ⟨o, es, ep, ho, r⟩ := hm
    exact ⟨m, ⟨o, es, ep, hk _ (.head _) _ ho, r⟩, hv⟩
  · obtain ⟨v, ⟨o, ho, hd⟩, hy⟩ := x.cell n c hc
    exact ⟨v, ⟨o, hk _ (.tail _ (List.mem_map_of_mem (f := (·.2)) (mem_of_lookup hc))) _ ho, hd⟩, hy⟩
  · obtain ⟨o, ho⟩ := x.live a ha
    exact ⟨o, hk a ha o ho⟩
/-- less known -/
theorem St.less (hs : St P kn frs h) (hk : ∀ a o, kn' a = some o → kn a = some o) : St P kn' frs h := by
  refine ⟨hs.base, fun a o e => hs.know a o (hk a o e), hs.fms, hs.nodup, fun a ha => ⟨(hs.apart a ha).1, ?_⟩⟩
  cases e : kn' a with
  | none => rfl
  | some o => have := hk a o e; rw [(hs.apart a ha).2] at this; cases this
/-- nothing but new things -/
theorem St.grow (hs : St P kn frs h) (hk : ∀ a o, h.get? a = some o → h'.get? a = some o) : St P kn frs h' :=
  ⟨fun a o e => hk a o (hs.base a o e), fun a o e => ⟨hk a o (hs.know a o e).1, (hs.know a o e).2⟩, fun f hf => (hs.fms f hf).keeps fun a _ o e => hk a o e, hs.nodup, hs.apart⟩
theorem St.fresh (hs : St P kn frs h) {a : Addr} (ha : h.get? a = none) : kn a = none ∧ P.b.get? a = none := by
  refine ⟨?_, ?_⟩
  · cases e : kn a with
    | none => rfl
    | some o => rw [(hs.know a o e).1] at ha; cases ha
  · cases e : P.b.get? a with
    | none => rfl
    | some o => rw [hs.base a o e] at ha; cases ha
/-- a new thing is known -/
theorem St.add (hs : St P kn frs h) {a : Addr} {o : Obj} (ha : h.get? a = none) (ho : h'.get? a = some o) (hk : ∀ a o, h.get? a = some o → h'.get? a = some o) : St P (kn.set a o) frs h' := by
  have g := hs.grow hk
  refine ⟨g.base, fun b ob e => ?_, g.fms, g.nodup, fun b hb => ⟨(g.apart b hb).1, ?_⟩⟩
  · unfold Kn.set at e
    split at e
    · rename_i q; subst q; cases e; exact ⟨ho, (hs.fresh ha).2⟩
    · exact g.know b ob e
  · unfold Kn.set
    split
    · rename_i q; subst q
      obtain ⟨f, hf, hm⟩ := List.mem_flatMap.mp hb
      obtain ⟨o', ho'⟩ := (hs.fms f hf).live b hm
      rw [ha] at ho'; cases ho'
    · exact (g.apart b hb).2
theorem St.push (hs : St P kn frs h) (o : Obj) (hf : o.isFreed = false := by rfl) : St P (kn.set h.objs.size o) frs (h.push o) := by
  refine hs.add ?_ (Heap.get?_push_size _ hf) fun a o' e => Heap.get?_push_of_some o e
  cases e : h.get? h.objs.size with
  | none => rfl
  | some o' => exact absurd (Heap.lt_size e) (Nat.lt_irrefl _)
/-- a known thing is turned -/
theorem St.turn (hs : St P kn frs h) {a : Addr} {o o' : Obj} (ha : kn a = some o) (ho : h'.get? a = some o') (hk : ∀ b ob, b ≠ a → h.get? b = some ob → h'.get? b = some ob) : St P (kn.set a o') frs h' := by
  have hb := hs.know a o ha
  refine ⟨fun b ob e => hk b ob (fun q => ?_) (hs.base b ob e), fun b ob e => ?_, fun f hf => (hs.fms f hf).keeps fun b hm ob e => hk b ob (fun q => ?_) e, hs.nodup, fun b hm => ⟨(hs.apart b hm).1, ?_⟩⟩
  · subst q; rw [hb.2] at e; cases e
  · unfold Kn.set at e
    split at e
    · rename_i q; subst q; cases e; exact ⟨ho, hb.2⟩
    · rename_i q; exact ⟨hk b ob q (hs.know b ob e).1, (hs.know b ob e).2⟩
  · subst q
    have := (hs.apart b (List.mem_flatMap.mpr ⟨f, hf, hm⟩)).2
    rw [ha] at this; cases this
  · unfold Kn.set
    split
    · rename_i q; subst q
      have := (hs.apart b hm).2
      rw [ha] at this; cases this
    · exact (hs.apart b hm).2
end
section
variable {P : Pk} {A : Around} {kn : Kn} {frs : List Fm} {α β : Type} {t : Sem α} {Q : α → Kn → List Fm → Prop}
theorem WP.use (H : WP P A t Q kn frs) {h : Heap} {k₀ : Nat} (hs : St P kn frs h) {Q2 : α → Shared → Prop} {E2 : Value → Shared → Prop}
    (k : ∀ a kn' frs' h' k', St P kn' frs' h' → Q a kn' frs' → Q2 a (P.st h' k')) : wpX (model prg P.w) A t Q2 E2 (P.st h k₀) :=
  wpX_mono (H h k₀ hs) (fun a _ x => by cases x with | mk kn' frs' h' k' e hs' hq => subst e; exact k a kn' frs' h' k' hs' hq) fun _ _ f => False.elim f
theorem WP.fin {h : Heap} {k : Nat} {a : α} (hs : St P kn frs h) (hq : Q a kn frs) : FinW P (Q a) (P.st h k) := ⟨kn, frs, h, k, rfl, hs, hq⟩
theorem WP.mono (H : WP P A t Q kn frs) {Q' : α → Kn → List Fm → Prop} (k : ∀ a kn' frs', Q a kn' frs' → Q' a kn' frs') : WP P A t Q' kn frs :=
  fun _ _ hs => H.use hs fun a kn' frs' _ _ hs' hq => WP.fin hs' (k a kn' frs' hq)
theorem WP.bind {f : α → Sem β} {Q : β → Kn → List Fm → Prop} (H : WP P A t (fun a kn' frs' => WP P A (f a) Q kn' frs') kn frs) : WP P A (t >>= f) Q kn frs :=
  fun _ _ hs => wpX_bind (H.use hs fun _ _ _ h' k' hs' hq => hq h' k' hs')
theorem WP.ret {a : α} (h : Q a kn frs) : WP P A (pure a) Q kn frs := fun _ _ hs => wpX_pure (WP.fin hs h)
/-- forget some of what is known -/
theorem WP.less {kn' : Kn} (H : WP P A t Q kn' frs) (hk : ∀ a o, kn' a = some o → kn a = some o) : WP P A t Q kn frs := fun h k hs => H h k (hs.less hk)
end
inductive Lk (x : Str) (v : Value) : List (Str × Value) → Prop
  | head {l : List (Str × Value)} : Lk x v ((x, v) :: l)
  | tail {p : Str × Value} {l : List (Str × Value)} (h : Lk x v l) : Lk x v (p :: l)
theorem Lk.mem {x : Str} {v : Value} {l : List (Str × Value)} (h : Lk x v l) : (x, v) ∈ l := by
  induction h with
  | head => exact .head _
  | tail _ ih => exact .tail _ ih
/-! ## names -/
section
variable {P : Pk} {A : Around} {kn : Kn} {frs : List Fm} {env : Env} {x : Str} {pos : Pos} {v : Value} {Q : Value → Kn → List Fm → Prop} {f : Fm}
theorem e_loc (hv : Lk x v f.vs) (h : Q v kn (f :: frs)) (hL : env.locals = f.L := by rfl) (hc : f.cs.lookup x = none := by kernel_rfl) (hk : env.scope.kind = .function := by rfl) (hl : env.kindOf x = some .local := by kernel_rfl)
    (hd : (x == ("__debug__" : Str)) = false := by kernel_rfl) : WP P A (eval (.Name x pos) env) Q kn (f :: frs) := fun _ _ hs => by
  obtain ⟨m, hm, hp⟩ := (hs.fms f (.head _)).loc
  exact wx (wpAny_Name (wpAny_loadName_local hk hl (hL ▸ hm) (hp _ hv.mem hc) (WP.fin hs h)) hd)
theorem l_loc (hv : Lk x v f.vs) (h : Q v kn (f :: frs)) (hL : env.locals = f.L := by rfl) (hc : f.cs.lookup x = none := by kernel_rfl) (hk : env.scope.kind = .function := by rfl) (hl : env.kindOf x = some .local := by kernel_rfl) :
    WP P A (loadName env x) Q kn (f :: frs) := fun _ _ hs => by
  obtain ⟨m, hm, hp⟩ := (hs.fms f (.head _)).loc
  exact wx (wpAny_loadName_local hk hl (hL ▸ hm) (hp _ hv.mem hc) (WP.fin hs h))
theorem e_cell {c : Addr} (hv : Lk x v f.vs) (h : Q v kn (f :: frs)) (hC : env.cells = f.cs := by rfl) (hc : f.cs.lookup x = some c := by rfl) (hk : env.scope.kind = .function := by rfl) (hl : env.kindOf x = some .cell := by kernel_rfl)
    (hd : (x == ("__debug__" : Str)) = false := by kernel_rfl) : WP P A (eval (.Name x pos) env) Q kn (f :: frs) := fun _ _ hs => by
  obtain ⟨u, hm, hp⟩ := (hs.fms f (.head _)).cell x c hc
  have := hp v hv.mem
  subst this
  exact wx (wpAny_Name (wpAny_loadName_cell hk hl (hC ▸ hc) hm (WP.fin hs h)) hd)
theorem e_glob (e : nsIn (KK P.w.params) mainGlobals x = some (some v)) (h : Q v kn frs) (hg : env.globals = mainGlobals := by rfl) (hk : env.scope.kind = .function := by rfl) (hl : env.kindOf x = some .globalImplicit := by kernel_rfl)
    (hd : (x == ("__debug__" : Str)) = false := by kernel_rfl) : WP P A (eval (.Name x pos) env) Q kn frs := fun _ _ hs =>
  wx (Calls.Name_function_global hk hl (Calls.loadGlobal_global (hg ▸ P.g.keeps hs.base) (mg_of P.kin P.g e) (WP.fin hs h)) hd)
theorem e_blt (e : nsIn (KK P.w.params) mainGlobals x = some none) (hv : bootBuiltins x = some v) (h : Q v kn frs) (hn : x ≠ "__name__" := by decide +kernel) (hg : env.globals = mainGlobals := by rfl) (hb : env.builtins = builtinsNs := by rfl)
    (hk : env.scope.kind = .function := by rfl) (hl : env.kindOf x = some .globalImplicit := by kernel_rfl)
    (hd : (x == ("__debug__" : Str)) = false := by kernel_rfl) : WP P A (eval (.Name x pos) env) Q kn frs := fun _ _ hs =>
  wx (Calls.Name_function_global hk hl (Calls.loadGlobal_builtin (hg ▸ P.g.keeps hs.base) (mg_none_of P.kin P.g e) (hb ▸ P.bl.keeps hs.base) ((P.hmb x hn).trans hv) (WP.fin hs h)) hd)
end
end
/-! # part B2 -/
section
open PySem PySem.W PyProof.Rows
/-! ## storing names -/
inductive Pv (x : Str) (v : Value) : List (Str × Value) → List (Str × Value) → Prop
  | nil : Pv x v [] [(x, v)]
  | hit {u : Value} {l : List (Str × Value)} (h : (l.any fun p => p.1 == x) = false) : Pv x v ((x, u) :: l) ((x, v) :: l)
  | miss {y : Str} {u : Value} {l l' : List (Str × Value)} (h : (y == x) = false) (r : Pv x v l l') : Pv x v ((y, u) :: l) ((y, u) :: l')
theorem Pv.ok {x : Str} {v : Value} {l l' : List (Str × Value)} (r : Pv x v l l') : ∀ p ∈ l', p = (x, v) ∨ (p ∈ l ∧ p.1 ≠ x) := by
  induction r with
  | nil => intro p hp; simp at hp; exact .inl hp
  | @hit u l h =>
    intro p hp
    rcases List.mem_cons.mp hp with q | q
    · exact .inl q
    · refine .inr ⟨.tail _ q, fun z => ?_⟩
      have := List.any_eq_false.mp h p q
      rw [z] at this; simp at this
  | @miss y u l l' h _ ih =>
    intro p hp
    rcases List.mem_cons.mp hp with q | q
    · subst q; exact .inr ⟨.head _, fun z => by have z' : y = x := z; rw [z'] at h; simp at h⟩
    · rcases ih p q with z | z
      · exact .inl z
      · exact .inr ⟨.tail _ z.1, z.2⟩
section
variable {P : Pk} {A : Around} {kn : Kn} {frs : List Fm} {env : Env} {x : Str} {v : Value} {Q : Unit → Kn → List Fm → Prop} {L : Addr} {cs : List (Str × Addr)} {vs vs' : List (Str × Value)}
theorem St.setFm {h h' : Heap} {f' : Fm} {a : Addr} (hs : St P kn (⟨L, cs, vs⟩ :: frs) h) (ha : a ∈ Fm.as ⟨L, cs, vs⟩) (hs' : Heap.SameBut a h h') (has : f'.as = Fm.as ⟨L, cs, vs⟩) (hf : FmOk f' h') : St P kn (f' :: frs) h' := by
  have hall : ∀ g ∈ frs, a ∉ g.as := fun g hg hm => by
    have hn := hs.nodup
    rw [List.flatMap_cons, List.nodup_append] at hn
    exact hn.2.2 a ha a (List.mem_flatMap.mpr ⟨g, hg, hm⟩) rfl
  have hap := hs.apart a (List.mem_flatMap.mpr ⟨_, .head _, ha⟩)
  refine ⟨fun b o e => (hs'.2 b fun q => ?_).trans (hs.base b o e), fun b o e => ⟨(hs'.2 b fun q => ?_).trans (hs.know b o e).1, (hs.know b o e).2⟩, fun g hg => ?_, ?_, ?_⟩
  · subst q; rw [hap.1] at e; cases e
  · subst q; rw [hap.2] at e; cases e
  · rcases List.mem_cons.mp hg with q | q
    · subst q; exact hf
    · refine (hs.fms g (.tail _ q)).keeps fun b hb o e => (hs'.2 b fun z => ?_).trans e
      subst z; exact hall g q hb
  · rw [List.flatMap_cons, has]; have := hs.nodup; rwa [List.flatMap_cons] at this
  · rw [List.flatMap_cons, has]; have := hs.apart; rwa [List.flatMap_cons] at this
theorem s_loc (r : Pv x v vs vs') (h : Q () kn (⟨L, cs, vs'⟩ :: frs)) (hL : env.locals = L := by rfl) (hc : cs.lookup x = none := by kernel_rfl) (hk : env.scope.kind = .function := by rfl) (hl : env.kindOf x = some .local := by kernel_rfl) :
    WP P A (storeName env x v) Q kn (⟨L, cs, vs⟩ :: frs) := fun h₀ k hs => by
  have F := hs.fms _ (.head _)
  obtain ⟨m, hm, hp⟩ := F.loc
  subst hL
  refine wx (wpAny_storeName_local hl hm (fun h' hm' hsb => ?_) (by rw [hk]; rfl))
  refine WP.fin (hs.setFm (f' := ⟨env.locals, cs, vs'⟩) (.head _) hsb rfl ⟨⟨_, hm', fun p hpv hcn => ?_⟩, fun y c hy => ?_, fun a ha => ?_⟩) h
  · rcases r.ok p hpv with rfl | ⟨q1, q2⟩
    · exact if_pos rfl
    · exact (if_neg q2).trans (hp p q1 hcn)
  · obtain ⟨u, hu, hv⟩ := F.cell y c hy
    have hca : c ≠ env.locals := fun q => by
      have hn := hs.nodup
      rw [List.flatMap_cons, List.nodup_append] at hn
      have h1 := (List.nodup_cons.mp hn.1).1
      exact h1 (q ▸ List.mem_map_of_mem (f := (·.2)) (mem_of_lookup hy))
    refine ⟨u, hu.sameBut hsb hca, fun w hw => ?_⟩
    rcases r.ok _ hw with e | ⟨q1, _⟩
    · cases e; rw [hc] at hy; cases hy
    · exact hv w q1
  · by_cases q : a = env.locals
    · subst q; obtain ⟨o, _, _, ho, _⟩ := hm'; exact ⟨o, ho⟩
    · obtain ⟨o, ho⟩ := F.live a ha; exact ⟨o, (hsb.2 a q).trans ho⟩
theorem s_cell {c : Addr} (r : Pv x v vs vs') (h : Q () kn (⟨L, cs, vs'⟩ :: frs)) (hC : env.cells = cs := by rfl) (hc : cs.lookup x = some c := by rfl) (hk : env.scope.kind = .function := by rfl) (hl : env.kindOf x = some .cell := by kernel_rfl)
    (hd : (cs.map (·.1)).Nodup := by decide +kernel) : WP P A (storeName env x v) Q kn (⟨L, cs, vs⟩ :: frs) := fun h₀ k hs => by
  have F := hs.fms _ (.head _)
  obtain ⟨m, hm, hp⟩ := F.loc
  obtain ⟨u, hu, hv⟩ := F.cell x c hc
  subst hC
  have hn := hs.nodup
  rw [List.flatMap_cons, List.nodup_append] at hn
  have hn1 := List.nodup_cons.mp hn.1
  have hcm : c ∈ env.cells.map (·.2) := List.mem_map_of_mem (f := (·.2)) (mem_of_lookup hc)
  refine wx (wpAny_storeName_cell hk hl hc hu fun h' hc' hsb => ?_)
  refine WP.fin (hs.setFm (f' := ⟨L, env.cells, vs'⟩) (.tail _ hcm) hsb rfl ⟨⟨m, hm.sameBut hsb fun q => hn1.1 (q ▸ hcm), fun p hpv hcn => ?_⟩, fun y d hy => ?_, fun a ha => ?_⟩) h
  · rcases r.ok p hpv with rfl | ⟨q1, q2⟩
    · rw [hc] at hcn; cases hcn
    · exact hp p q1 hcn
  · by_cases q : y = x
    · subst q
      rw [hc] at hy; cases hy
      refine ⟨some v, hc', fun w hw => ?_⟩
      rcases r.ok _ hw with e | ⟨_, q2⟩
      · cases e; rfl
      · exact absurd rfl q2
    · obtain ⟨u', hu', hv'⟩ := F.cell y d hy
      have hdc : d ≠ c := fun z => by
        subst z
        have pw : env.cells.Pairwise fun a b => a.2 ≠ b.2 := List.pairwise_map.mp hn1.2
        exact q (name_of_addr pw (mem_of_lookup hy) (mem_of_lookup hc))
      refine ⟨u', hu'.sameBut hsb hdc, fun w hw => ?_⟩
      rcases r.ok _ hw with e | ⟨q1, _⟩
      · cases e; exact absurd rfl q
      · exact hv' w q1
  · by_cases q : a = c
    · subst q; obtain ⟨o, ho, _⟩ := hc'; exact ⟨o, ho⟩
    · obtain ⟨o, ho⟩ := F.live a ha; exact ⟨o, (hsb.2 a q).trans ho⟩
end
/-! ## statements -/
section
variable {P : Pk} {A : Around} {kn : Kn} {frs : List Fm} {env : Env} {Q : Flow → Kn → List Fm → Prop}
theorem x_nil (h : Q .next kn frs) : WP P A (execs [] env) Q kn frs := fun _ _ hs => wx (wpAny_execs_nil (WP.fin hs h))
noncomputable def Then (P : Pk) (A : Around) (env : Env) (rest : List Stmt) (Q : Flow → Kn → List Fm → Prop) : Flow → Kn → List Fm → Prop
  | .next, kn, frs => WP P A (execs rest env) Q kn frs
  | f, kn, frs => Q f kn frs
theorem x_cons {st : Stmt} {rest : List Stmt} (H : WP P A (exec st env) (Then P A env rest Q) kn frs) : WP P A (execs (st :: rest) env) Q kn frs :=
  fun _ _ hs => wpX_execs_cons (H.use hs fun f _ _ h' k' hs' hq => by cases f <;> first | exact hq h' k' hs' | exact WP.fin hs' hq)
theorem x_assign {x : Str} {pos' pos : Pos} {value : Expr} (H : WP P A (eval value env) (fun v kn' frs' => WP P A (storeName env x v) (fun _ => Q .next) kn' frs') kn frs)
    (hsw : swapsWith value (some (.Name x pos')) pos.line env = pure false := by rfl) : WP P A (exec (.Assign [.Name x pos'] value pos) env) Q kn frs :=
  fun _ _ hs => wpX_Assign_Name (H.use hs fun _ _ _ h' k' hs' hq => (hq : WP _ _ _ _ _ _) h' k' hs') hsw
theorem x_aug {x : Str} {pos' pos : Pos} {op : Operator} {value : Expr} (H : WP P A (loadName env x) (fun old kn₁ frs₁ => WP P A (eval value env) (fun v kn₂ frs₂ => WP P A (inplaceOp op old v)
      (fun r kn₃ frs₃ => WP P A (storeName env x r) (fun _ => Q .next) kn₃ frs₃) kn₂ frs₂) kn₁ frs₁) kn frs) : WP P A (exec (.AugAssign (.Name x pos') op value pos) env) Q kn frs :=
  fun _ _ hs => wpX_AugAssign_Name (H.use hs fun _ _ _ _ _ hs₁ h₁ => h₁.use hs₁ fun _ _ _ _ _ hs₂ h₂ => h₂.use hs₂ fun _ _ _ h' k' hs₃ h₃ => (h₃ : WP _ _ _ _ _ _) h' k' hs₃)
theorem x_if {test : Expr} {body orelse : List Stmt} {pos : Pos} (H : WP P A (isTrue test env (eval test env)) (fun b kn' frs' => if b = true then WP P A (execs body env) Q kn' frs' else WP P A (execs orelse env) Q kn' frs') kn frs) :
    WP P A (exec (.If test body orelse pos) env) Q kn frs :=
  fun _ _ hs => wpX_If (H.use hs fun b _ _ h' k' hs' hq => by cases b <;> exact hq h' k' hs')
theorem x_ret {e : Expr} {pos : Pos} (H : WP P A (eval e env) (fun v => Q (.ret v)) kn frs) : WP P A (exec (.Return (some e) pos) env) Q kn frs :=
  fun h k hs => wpX_Return (H h k hs)
end
end
/-! # part B3 -/
section
open PySem PySem.W PyProof.Rows
/-- room below: frames, C units; nothing is being handled -/
structure Rm (n : Nat) (A : Around) : Prop where
  depth : A.depth + n < recursionLimit
  units : A.units + 10 * n < cLine
  handled : A.handled = none
theorem Rm.le {n m : Nat} {A : Around} (h : Rm n A) (hm : m ≤ n) : Rm m A := ⟨by have := h.depth; (first | lia | omega), by have := h.units; (first | lia | omega), h.handled⟩
theorem Rm.deep {n : Nat} {A : Around} {env : Env} (h : Rm (n + 1) A) : Rm n (A.deeper env) := ⟨by have := h.depth; show A.depth + 1 + n < _; (first | lia | omega), by have := h.units; show A.units + 3 + 10 * n < _; (first | lia | omega), h.handled⟩
/-! ## calls of the text's own defs -/
noncomputable def BindOk (scope : Scope) (binds : List (Str × Value)) : Bool :=
  (binds.all fun y => scope.names.lookup y.1 == some .local || scope.names.lookup y.1 == some .cell) && decide (binds.map (·.1)).Nodup && decide ((cellsFrom 0 scope.names []).map (·.1)).Nodup && decide (scope.names.map (·.1)).Nodup
theorem bindL_get {kd : Str → Option NameKind} : ∀ {binds : List (Str × Value)} {m : Str → Option Value} {n : Str} {v : Value}, (n, v) ∈ binds → (binds.map (·.1)).Nodup → kd n = some .local → bindL kd binds m n = some v
  | (y, u) :: r, m, n, v, hm, hn, hk => by
    have hn' := List.nodup_cons.mp hn
    unfold bindL
    rcases List.mem_cons.mp hm with e | hm
    · cases e
      have : ∀ (r : List (Str × Value)) (m : Str → Option Value), y ∉ r.map (·.1) → bindL kd r m y = m y := by
        intro r
        induction r with
        | nil => intro m _; rfl
        | cons p r ih =>
          intro m hq
          obtain ⟨y', u'⟩ := p
          unfold bindL
          rw [ih _ (fun h => hq (.tail _ h))]
          split
          · exact if_neg fun e => hq (by rw [e]; exact .head _)
          · rfl
      rw [this r _ hn'.1, if_pos hk]
      exact if_pos rfl
    · exact bindL_get hm hn'.2 hk
theorem bindC_get {kd : Str → Option NameKind} : ∀ {binds : List (Str × Value)} {m : Str → Option Value} {n : Str} {v : Value}, (n, v) ∈ binds → (binds.map (·.1)).Nodup → kd n ≠ some .local → bindC kd binds m n = some v
  | (y, u) :: r, m, n, v, hm, hn, hk => by
    have hn' := List.nodup_cons.mp hn
    unfold bindC
    rcases List.mem_cons.mp hm with e | hm
    · cases e
      have : ∀ (r : List (Str × Value)) (m : Str → Option Value), y ∉ r.map (·.1) → bindC kd r m y = m y := by
        intro r
        induction r with
        | nil => intro m _; rfl
        | cons p r ih =>
          intro m hq
          obtain ⟨y', u'⟩ := p
          unfold bindC
          rw [ih _ (fun h => hq (.tail _ h))]
          split
          · rfl
          · exact if_neg fun e => hq (by rw [e]; exact .head _)
      rw [this r _ hn'.1, if_neg hk]
      exact if_pos rfl
    · exact bindC_get hm hn'.2 hk
theorem cellsFrom_kind {x : Str} {c : Addr} : ∀ {names : List (Str × NameKind)} {n : Nat} {acc : List (Str × Addr)}, (x, c) ∈ cellsFrom n names acc → (x, .cell) ∈ names ∨ (x, c) ∈ acc
  | [], _, _, h => .inr h
  | (y, k) :: r, n, acc, h => by
    unfold cellsFrom at h
    split at h
    · rename_i hk
      rcases cellsFrom_kind h with q | q
      · exact .inl (.tail _ q)
      · rcases List.mem_cons.mp q with e | q
        · cases e; exact .inl (by rw [beq_iff_eq.mp hk]; exact .head _)
        · exact .inr q
    · exact (cellsFrom_kind h).imp (fun q => .tail _ q) id
theorem lookup_mem {α : Type} : ∀ {l : List (Str × α)} {n : Str} {c : α}, (l.map (·.1)).Nodup → (n, c) ∈ l → l.lookup n = some c
  | (k, v) :: r, n, c, hn, h => by
    have hn' := List.nodup_cons.mp hn
    rw [List.lookup_cons]
    rcases List.mem_cons.mp h with e | h
    · cases e; simp
    · cases hb : n == k with
      | true => exact absurd (List.mem_map_of_mem (f := (·.1)) h) (by rw [beq_iff_eq.mp hb]; exact hn'.1)
      | false => exact lookup_mem hn'.2 h
theorem St.pop {P : Pk} {kn : Kn} {frs : List Fm} {h : Heap} (hs : St P kn frs h) : St P kn frs.tail h := by
  cases frs with
  | nil => exact hs
  | cons f r =>
    have hn := hs.nodup
    rw [List.flatMap_cons, List.nodup_append] at hn
    exact ⟨hs.base, hs.know, fun g hg => hs.fms g (.tail _ hg), hn.2.1, fun a ha => hs.apart a (by rw [List.flatMap_cons]; exact List.mem_append_right _ ha)⟩
noncomputable def Back (Q : Value → Kn → List Fm → Prop) (fl : Flow) (kn : Kn) (frs : List Fm) : Prop := Q (match fl with | .ret v => v | _ => .none) kn frs.tail
section
variable {P : Pk} {A : Around} {kn : Kn} {frs : List Fm} {Q : Value → Kn → List Fm → Prop}
  {name qual : Str} {params : Arguments} {body : List Stmt} {scope : Scope} {dV kV doc pm cdv ct oc : Value} {an od : Option Addr} {osl : Array (Option Value)} {f : Addr} {args : Args}
noncomputable def CP (P : Pk) (A : Around) (c : Code) (Q : Value → Kn → List Fm → Prop) (kn : Kn) (frs : List Fm) : Prop :=
  ∀ h k, St P kn frs h → codeX (model prg P.w) A c (okV (fun v => FinW P (Q v)) NoE) (P.st h k)
/-- a call of a def of the text -/
theorem c_defC (hA : A.depth < recursionLimit) (ho : (KK P.w.params).lookup f = some ⟨oc, od, .func (fnOf name qual params body scope dV kV doc pm an cdv ct), osl⟩) (hcd : codeIn (KK P.w.params) cdv qual = true)
    (H : WP P A.in1 (bindArgs (fnOf name qual params body scope dV kV doc pm an cdv ct) args) (fun binds kn' frs' => BindOk scope binds = true ∧ ∀ L,
      WP P (A.deeper (envX qual scope L f cdv (cellsFrom (L + 1) scope.names []))) (execs body (envX qual scope L f cdv (cellsFrom (L + 1) scope.names []))) (Back Q) kn' (⟨L, cellsFrom (L + 1) scope.names [], binds⟩ :: frs')) kn frs)
    (hco : scope.isCoroutine = false := by rfl) (hgen : scope.isGenerator = false := by rfl) (hk : scope.kind = .function := by rfl) :
    CP P A (.call (.ref f) args) Q kn frs := fun h k hs => by
  refine (codeX_call (fd := fnOf name qual params body scope dV kV doc pm an cdv ct) hA (hs.base _ _ (P.kin _ _ ho)) rfl hco hgen rfl ((codeRec_of P.kin hcd).keeps hs.base) ?_)
  refine H.use hs fun binds kn' frs' h' k' hs' hq => ?_
  obtain ⟨hok, hq⟩ := hq
  unfold BindOk at hok
  rw [Bool.and_eq_true, Bool.and_eq_true, Bool.and_eq_true] at hok
  obtain ⟨⟨⟨hok1, hok2⟩, hok3⟩, hok4⟩ := hok
  have hsn := of_decide_eq_true hok4
  have hnd := of_decide_eq_true hok2
  have hcn := of_decide_eq_true hok3
  refine wpAny_newFunctionEnv_cells hk (kindsX hok1 _) fun env he s' x => ?_
  subst he
  obtain ⟨h₁, tk, rfl, _⟩ := x.done
  have hk₁ := x.toInCall.keep
  have hgr : St P kn' frs' h₁ := hs'.grow hk₁
  refine ⟨P.nolim.keeps hgr.base, codeX_func ?_⟩
  have hns : h₁.Ns h'.objs.size _ := x.toInCall.ns
  have hcell : ∀ n c, (cellsFrom (h'.objs.size + 1) scope.names []).lookup n = some c → h₁.IsCell c _ := x.cell
  have habove : ∀ n c, (n, c) ∈ cellsFrom (h'.objs.size + 1) scope.names [] → h'.objs.size < c := x.above
  have hap : (cellsFrom (h'.objs.size + 1) scope.names []).Pairwise fun a b => a.2 ≠ b.2 := x.apart
  have hcn' : ((cellsFrom (h'.objs.size + 1) scope.names []).map (·.1)).Nodup := cellsFrom_names scope.names 0 (h'.objs.size + 1) [] [] rfl ▸ hcn
  have hout : ∀ a, h'.objs.size ≤ a → h'.get? a = none := fun a ha => by
    cases e : h'.get? a with
    | none => rfl
    | some o => exact absurd (Heap.lt_size e) (Nat.not_lt.mpr ha)
  have hmem : ∀ a ∈ Fm.as ⟨h'.objs.size, cellsFrom (h'.objs.size + 1) scope.names [], binds⟩, h'.objs.size ≤ a := fun a ha => by
    rcases List.mem_cons.mp ha with e | ha
    · exact Nat.le_of_eq e.symm
    · obtain ⟨p, hp, rfl⟩ := List.mem_map.mp ha
      exact Nat.le_of_lt (habove p.1 p.2 hp)
  have hst : St P kn' (⟨h'.objs.size, cellsFrom (h'.objs.size + 1) scope.names [], binds⟩ :: frs') h₁ := by
    refine ⟨hgr.base, hgr.know, fun g hg => ?_, ?_, fun a ha => ?_⟩
    · rcases List.mem_cons.mp hg with e | hg
      · subst e
        refine ⟨⟨_, hns, fun p hp hn => ?_⟩, fun n c hc => ⟨_, hcell n c hc, fun y hy => ?_⟩, fun a ha => ?_⟩
        · refine bindL_get (n := p.1) (v := p.2) hp hnd ?_
          rcases kindsX hok1 (h'.objs.size + 1) p hp with q | ⟨_, q⟩
          · exact q
          · rw [hn] at q; cases q
        · refine bindC_get hy hnd fun e => ?_
          rcases cellsFrom_kind (mem_of_lookup hc) with q | q
          · have q' := lookup_mem hsn q
            have e' : scope.names.lookup n = some .local := e
            rw [q'] at e'; cases e'
          · cases q
        · rcases List.mem_cons.mp ha with e | ha
          · subst e; obtain ⟨o, _, _, ho', _⟩ := hns; exact ⟨o, ho'⟩
          · obtain ⟨p, hp, rfl⟩ := List.mem_map.mp ha
            obtain ⟨o, ho', _⟩ := hcell p.1 p.2 (lookup_of_mem_nodup hcn' hp)
            exact ⟨o, ho'⟩
      · exact hgr.fms g hg
    · rw [List.flatMap_cons, List.nodup_append]
      refine ⟨List.nodup_cons.mpr ⟨fun hm => ?_, List.pairwise_map.mpr hap⟩, hgr.nodup, fun a ha b hb e => ?_⟩
      · obtain ⟨p, hp, e⟩ := List.mem_map.mp hm
        have := habove p.1 p.2 hp
        rw [e] at this; exact Nat.lt_irrefl _ this
      · subst e
        obtain ⟨g, hg, hm⟩ := List.mem_flatMap.mp hb
        obtain ⟨o, ho'⟩ := (hs'.fms g hg).live a hm
        rw [hout a (hmem a ha)] at ho'; cases ho'
    · rw [List.flatMap_cons] at ha
      rcases List.mem_append.mp ha with ha | ha
      · exact ⟨(hs'.fresh (hout a (hmem a ha))).2, (hs'.fresh (hout a (hmem a ha))).1⟩
      · exact hgr.apart a ha
  refine (hq h'.objs.size).use hst fun fl kn'' frs'' h'' k'' hs'' hb => ?_
  exact WP.fin hs''.pop hb
theorem CP.call {f : Value} (H : CP P A (.call f args) Q kn frs) : WP P A (PySem.call f args.pos args.kw) Q kn frs := fun h k hs => wpX_call (H h k hs)
theorem c_def (hA : A.depth < recursionLimit) (ho : (KK P.w.params).lookup f = some ⟨oc, od, .func (fnOf name qual params body scope dV kV doc pm an cdv ct), osl⟩) (hcd : codeIn (KK P.w.params) cdv qual = true)
    (H : WP P A.in1 (bindArgs (fnOf name qual params body scope dV kV doc pm an cdv ct) args) (fun binds kn' frs' => BindOk scope binds = true ∧ ∀ L,
      WP P (A.deeper (envX qual scope L f cdv (cellsFrom (L + 1) scope.names []))) (execs body (envX qual scope L f cdv (cellsFrom (L + 1) scope.names []))) (Back Q) kn' (⟨L, cellsFrom (L + 1) scope.names [], binds⟩ :: frs')) kn frs)
    (hco : scope.isCoroutine = false := by rfl) (hgen : scope.isGenerator = false := by rfl) (hk : scope.kind = .function := by rfl) :
    WP P A (call (.ref f) args.pos args.kw) Q kn frs := CP.call (c_defC hA ho hcd H hco hgen hk)
end
end
/-! # part B4 -/
section
open PySem PySem.W PyProof.Rows
/-! ## another base: whatever is neither known nor a frame's is kept -/
noncomputable def cut (h : Heap) (p : Addr → Bool) : Heap := ⟨h.objs.mapIdx fun a o => if p a then { o with data := .freed } else o, h.life⟩
theorem cut_get (h : Heap) (p : Addr → Bool) (a : Addr) : (cut h p).get? a = if p a then none else h.get? a := by
  unfold cut Heap.get?
  simp only [Array.getElem?_mapIdx]
  cases h.objs[a]? with
  | none => simp
  | some o => cases p a <;> simp
structure Le (P P' : Pk) : Prop where
  w : P'.w = P.w
  gens : P'.gens = P.gens
  drawn : P'.drawn = P.drawn
  os : P'.os = P.os
  b : ∀ a o, P.b.get? a = some o → P'.b.get? a = some o
theorem Le.refl (P : Pk) : Le P P := ⟨rfl, rfl, rfl, rfl, fun _ _ e => e⟩
theorem Le.trans {P P' P'' : Pk} (x : Le P P') (y : Le P' P'') : Le P P'' := ⟨y.w.trans x.w, y.gens.trans x.gens, y.drawn.trans x.drawn, y.os.trans x.os, fun a o e => y.b a o (x.b a o e)⟩
theorem Le.st {P P' : Pk} (x : Le P P') (h : Heap) (k : Nat) : P'.st h k = P.st h k := by unfold Pk.st; rw [x.gens, x.drawn, x.os]
theorem Le.back {P P' : Pk} (x : Le P P') {kn : Kn} {frs : List Fm} {h : Heap} (hs : St P' kn frs h) : St P kn frs h := by
  have lo : ∀ a, P'.b.get? a = none → P.b.get? a = none := fun a e => by
    cases q : P.b.get? a with
    | none => rfl
    | some o => rw [x.b a o q] at e; cases e
  exact ⟨fun a o e => hs.base a o (x.b a o e), fun a o e => ⟨(hs.know a o e).1, lo a (hs.know a o e).2⟩, hs.fms, hs.nodup, fun a ha => ⟨lo a (hs.apart a ha).1, (hs.apart a ha).2⟩⟩
open Classical in
noncomputable def Pk.on (P : Pk) (kn : Kn) (frs : List Fm) (h : Heap) (hb : ∀ a o, P.b.get? a = some o → (cut h fun a => decide ((kn a).isSome = true ∨ a ∈ frs.flatMap Fm.as)).get? a = some o) : Pk :=
  { P with b := cut h fun a => decide ((kn a).isSome = true ∨ a ∈ frs.flatMap Fm.as), kin := fun a o e => hb a o (P.kin a o e), g := P.g.keeps hb, bl := P.bl.keeps hb, nolim := P.nolim.keeps hb }
open Classical in
theorem rebase {P : Pk} {kn : Kn} {frs : List Fm} {h : Heap} (hs : St P kn frs h) : ∃ P', Le P P' ∧ St P' kn frs h ∧ ∀ a o, h.get? a = some o → kn a = none → a ∉ frs.flatMap Fm.as → P'.b.get? a = some o := by
  have hcut : ∀ a o, h.get? a = some o → kn a = none → a ∉ frs.flatMap Fm.as → (cut h fun a => decide ((kn a).isSome = true ∨ a ∈ frs.flatMap Fm.as)).get? a = some o := fun a o e hk hf => by
    rw [cut_get, if_neg, e]
    simp [hk, hf]
  have hb : ∀ a o, P.b.get? a = some o → (cut h fun a => decide ((kn a).isSome = true ∨ a ∈ frs.flatMap Fm.as)).get? a = some o := fun a o e => by
    refine hcut a o (hs.base a o e) ?_ fun hm => ?_
    · cases q : kn a with
      | none => rfl
      | some o' => rw [(hs.know a o' q).2] at e; cases e
    · rw [(hs.apart a hm).1] at e; cases e
  refine ⟨P.on kn frs h hb, ⟨rfl, rfl, rfl, rfl, hb⟩, ⟨fun a o e => ?_, fun a o e => ⟨(hs.know a o e).1, ?_⟩, hs.fms, hs.nodup, fun a ha => ⟨?_, (hs.apart a ha).2⟩⟩, hcut⟩
  · have e' : (cut h fun a => decide ((kn a).isSome = true ∨ a ∈ frs.flatMap Fm.as)).get? a = some o := e
    rw [cut_get] at e'
    split at e'
    · cases e'
    · exact e'
  · show (cut h fun a => decide ((kn a).isSome = true ∨ a ∈ frs.flatMap Fm.as)).get? a = none
    rw [cut_get, if_pos]; simp [e]
  · show (cut h fun a => decide ((kn a).isSome = true ∨ a ∈ frs.flatMap Fm.as)).get? a = none
    rw [cut_get, if_pos]; simp only [decide_eq_true_eq]; exact .inr ha
/-- known, by the run or by the ground -/
noncomputable def Kw (P : Pk) (kn : Kn) (a : Addr) (o : Obj) : Prop := kn a = some o ∨ P.b.get? a = some o
theorem Kw.le {P P' : Pk} {kn : Kn} {a : Addr} {o : Obj} (x : Kw P kn a o) (hl : Le P P') : Kw P' kn a o := x.imp id (hl.b a o)
theorem Kw.get {P : Pk} {kn : Kn} {frs : List Fm} {h : Heap} {a : Addr} {o : Obj} (x : Kw P kn a o) (hs : St P kn frs h) : h.get? a = some o := x.elim (fun e => (hs.know a o e).1) (hs.base a o)
/-! ## loops -/
section
variable {P : Pk} {A : Around} {kn : Kn} {frs : List Fm} {env : Env} {Q : Flow → Kn → List Fm → Prop}
noncomputable def Turn (Q : Flow → Kn → List Fm → Prop) (I : Kn → List Fm → Prop) : Flow → Kn → List Fm → Prop
  | .next, kn, frs => I kn frs
  | .cont, kn, frs => I kn frs
  | .brk, kn, frs => Q .next kn frs
  | .ret v, kn, frs => Q (.ret v) kn frs
inductive Sub : List (Str × Value) → List (Str × Value) → Prop
  | nil {l : List (Str × Value)} : Sub [] l
  | keep {a : Str × Value} {l l' : List (Str × Value)} (h : Sub l l') : Sub (a :: l) (a :: l')
  | skip {a : Str × Value} {l l' : List (Str × Value)} (h : Sub l l') : Sub l (a :: l')
theorem Sub.mem {l l' : List (Str × Value)} (h : Sub l l') : ∀ p ∈ l, p ∈ l' := by
  induction h with
  | nil => intro p hp; cases hp
  | keep _ ih => intro p hp; rcases List.mem_cons.mp hp with e | hp; exact e ▸ .head _; exact .tail _ (ih p hp)
  | skip _ ih => intro p hp; exact .tail _ (ih p hp)
theorem Sub.refl : ∀ l, Sub l l
  | [] => .nil
  | _ :: l => .keep (Sub.refl l)
inductive FrLe : List Fm → List Fm → Prop
  | nil : FrLe [] []
  | cons {L : Addr} {cs : List (Str × Addr)} {vs vs' : List (Str × Value)} {r r' : List Fm} (h : Sub vs vs') (t : FrLe r r') : FrLe (⟨L, cs, vs⟩ :: r) (⟨L, cs, vs'⟩ :: r')
theorem FrLe.refl : ∀ l, FrLe l l
  | [] => .nil
  | ⟨_, _, vs⟩ :: l => .cons (.refl vs) (FrLe.refl l)
theorem FrLe.top {L : Addr} {cs : List (Str × Addr)} {vs vs' : List (Str × Value)} {r : List Fm} (h : Sub vs vs') : FrLe (⟨L, cs, vs⟩ :: r) (⟨L, cs, vs'⟩ :: r) := .cons h (.refl r)
theorem FrLe.as {l l' : List Fm} (h : FrLe l l') : l.flatMap Fm.as = l'.flatMap Fm.as := by
  induction h with
  | nil => rfl
  | cons _ _ ih => rw [List.flatMap_cons, List.flatMap_cons, ih]; rfl
theorem FrLe.ok {h : Heap} {l l' : List Fm} (x : FrLe l l') : (∀ f ∈ l', FmOk f h) → ∀ f ∈ l, FmOk f h := by
  induction x with
  | nil => exact fun H => H
  | cons hs _ ih =>
    intro H f hf
    rcases List.mem_cons.mp hf with e | hf
    · subst e
      have F := H _ (.head _)
      obtain ⟨m, hm, hp⟩ := F.loc
      exact ⟨⟨m, hm, fun p hpv hc => hp p (hs.mem p hpv) hc⟩, fun x c hc => let ⟨v, hv, hy⟩ := F.cell x c hc; ⟨v, hv, fun y hyv => hy y (hs.mem _ hyv)⟩, F.live⟩
    · exact ih (fun g hg => H g (.tail _ hg)) f hf
theorem St.weak {P : Pk} {kn kn0 : Kn} {frs frs0 : List Fm} {h : Heap} (hs : St P kn frs h) (hk : ∀ a o, kn0 a = some o → kn a = some o) (hf : FrLe frs0 frs) : St P kn0 frs0 h := by
  have h1 := hs.less hk
  exact ⟨h1.base, h1.know, hf.ok h1.fms, hf.as ▸ h1.nodup, hf.as ▸ h1.apart⟩
inductive Wkn (I : Kn → List Fm → Prop) (kn : Kn) (frs : List Fm) : Prop
  | mk (kn0 : Kn) (frs0 : List Fm) (hk : ∀ a o, kn0 a = some o → kn a = some o) (hf : FrLe frs0 frs) (hi : I kn0 frs0) : Wkn I kn frs
theorem tw {P : Pk} {A : Around} {t : Sem Flow} {Q : Flow → Kn → List Fm → Prop} {I : Kn → List Fm → Prop} {kn : Kn} {frs : List Fm} (H : WP P A t (Turn Q (Wkn I)) kn frs) : WP P A t (Turn Q I) kn frs := fun _ _ hs =>
  H.use hs fun fl _ _ _ _ hs' hq => by
    cases fl with
    | next => obtain ⟨_, _, hk, hf, hi⟩ := hq; exact WP.fin (hs'.weak hk hf) hi
    | cont => obtain ⟨_, _, hk, hf, hi⟩ := hq; exact WP.fin (hs'.weak hk hf) hi
    | brk => exact WP.fin hs' hq
    | ret v => exact WP.fin hs' hq
/-- the same, at any place -/
theorem WP.weak {P : Pk} {A : Around} {α : Type} {t : Sem α} {Q : α → Kn → List Fm → Prop} {kn : Kn} {frs : List Fm} (H : WP P A t (fun v => Wkn (Q v)) kn frs) : WP P A t Q kn frs := fun _ _ hs =>
  H.use hs fun _ _ _ _ _ hs' ⟨_, _, hk, hf, hi⟩ => WP.fin (hs'.weak hk hf) hi
theorem wk {I : Kn → List Fm → Prop} {kn kn0 : Kn} {L : Addr} {cs : List (Str × Addr)} {vs vs' : List (Str × Value)} {r : List Fm} (hi : I kn0 (⟨L, cs, vs⟩ :: r)) (hk : ∀ a o, kn0 a = some o → kn a = some o) (h : Sub vs vs') : Wkn I kn (⟨L, cs, vs'⟩ :: r) := ⟨_, _, hk, .top h, hi⟩
theorem Wkn.of {I : Kn → List Fm → Prop} {kn : Kn} {frs : List Fm} (h : I kn frs) : Wkn I kn frs := ⟨kn, frs, fun _ _ e => e, .refl _, h⟩
/-- what is asked is given a name -/
theorem WP.hide {α : Type} {t : Sem α} {Q : α → Kn → List Fm → Prop} (H : ∀ K : α → Kn → List Fm → Prop, (∀ v kn' frs', Q v kn' frs' → K v kn' frs') → WP P A t K kn frs) : WP P A t Q kn frs := H Q fun _ _ _ h => h
theorem twK {t : Sem Flow} {Q : Flow → Kn → List Fm → Prop} {I : Kn → List Fm → Prop} (H : ∀ K : Kn → List Fm → Prop, (∀ kn' frs', Wkn I kn' frs' → K kn' frs') → WP P A t (Turn Q K) kn frs) : WP P A t (Turn Q I) kn frs := tw (H _ fun _ _ h => h)
theorem x_while {test : Expr} {body orelse : List Stmt} {pos : Pos} (I : Nat → Kn → List Fm → Prop) (n : Nat) (h0 : I n kn frs)
    (turn : ∀ n kn frs (K : Kn → List Fm → Prop), (∀ m kn' frs', m < n → Wkn (I m) kn' frs' → K kn' frs') → I n kn frs → WP P A (isTrue test env (eval test env)) (fun b kn' frs' => if b = true then WP P A (execs body env) (Turn Q K) kn' frs' else WP P A (execs orelse env) Q kn' frs') kn frs) :
    WP P A (exec (.While test body orelse pos) env) Q kn frs := fun h k hs => by
  refine wpX_While (codeX_while (fun n s' => FinW P (I n) s') ?_ n ⟨kn, frs, h, k, rfl, hs, h0⟩)
  rintro n s' ⟨kn', frs', h', k', rfl, hs', hI⟩
  refine (turn n kn' frs' (fun kn'' frs'' => ∃ m, m < n ∧ Wkn (I m) kn'' frs'') (fun m _ _ hm hw => ⟨m, hm, hw⟩) hI).use hs' fun b kn₁ frs₁ h₁ k₁ hs₁ hb => ?_
  cases b with
  | true =>
    refine (show WP P A (execs body env) _ kn₁ frs₁ from hb).use hs₁ fun f kn₂ frs₂ h₂ k₂ hs₂ hf => ?_
    cases f with
    | next => obtain ⟨m, hm, k0, f0, hk, hfr, hi⟩ := hf; exact ⟨m, hm, k0, f0, h₂, k₂, rfl, hs₂.weak hk hfr, hi⟩
    | cont => obtain ⟨m, hm, k0, f0, hk, hfr, hi⟩ := hf; exact ⟨m, hm, k0, f0, h₂, k₂, rfl, hs₂.weak hk hfr, hi⟩
    | brk => exact WP.fin hs₂ hf
    | ret v => exact WP.fin hs₂ hf
  | false => exact (show WP P A (execs orelse env) _ kn₁ frs₁ from hb).use hs₁ fun f kn₂ frs₂ h₂ k₂ hs₂ hf => WP.fin hs₂ hf
end
end
/-! # part B5 -/
section
open PySem PySem.W PyProof.Rows
/-- a place that is neither known, nor a frame's, nor the ground's -/
structure Free (P : Pk) (kn : Kn) (frs : List Fm) (I : Addr) : Prop where
  kn : kn I = none
  fm : I ∉ frs.flatMap Fm.as
  b : P.b.get? I = none
theorem St.off {P : Pk} {kn : Kn} {frs : List Fm} {h h' : Heap} {I : Addr} (hs : St P kn frs h) (hf : Free P kn frs I) (he : Heap.ExtBut I h h') : St P kn frs h' := by
  refine ⟨fun a o e => he a o (fun q => ?_) (hs.base a o e), fun a o e => ⟨he a o (fun q => ?_) (hs.know a o e).1, (hs.know a o e).2⟩, fun f hf' => (hs.fms f hf').keeps fun a ha o e => he a o (fun q => ?_) e, hs.nodup, hs.apart⟩
  · subst q; rw [hf.b] at e; cases e
  · subst q; rw [hf.kn] at e; cases e
  · subst q; exact hf.fm (List.mem_flatMap.mpr ⟨f, hf', ha⟩)
theorem St.free {P : Pk} {kn : Kn} {frs : List Fm} {h : Heap} {I : Addr} (hs : St P kn frs h) (hI : h.get? I = none) : Free P kn frs I :=
  ⟨(hs.fresh hI).1, fun hm => (by obtain ⟨f, hf, ha⟩ := List.mem_flatMap.mp hm; obtain ⟨o, ho⟩ := (hs.fms f hf).live I ha; rw [hI] at ho; cases ho), (hs.fresh hI).2⟩
theorem Free.of_base {P P' : Pk} {kn kn' : Kn} {frs frs' : List Fm} {h' : Heap} {I : Addr} {o : Obj} (hf : Free P kn frs I) (hs : St P' kn' frs' h') (hb : P'.b.get? I = some o) : Free P kn' frs' I := by
  refine ⟨?_, fun hm => ?_, hf.b⟩
  · cases q : kn' I with
    | none => rfl
    | some o' => rw [(hs.know I o' q).2] at hb; cases hb
  · rw [(hs.apart I hm).1] at hb; cases hb
/-- what an iterator does: n items, the i-th as V says; its own place I, whose make after i items G says; R: what it reads -/
structure Iter (P : Pk) (A : Around) (n : Nat) (V : Nat → Value → Prop) (I : Addr) (G : Nat → Heap → Prop) (R : Kn → Prop) : Prop where
  next : ∀ i kn frs h k (E : Value → Shared → Prop) (Q : Option Value → Shared → Prop), i < n → St P kn frs h → R kn → G i h →
    (∀ v h' k', V i v → G (i + 1) h' → Heap.SameBut I h h' → Q (some v) (P.st h' k')) → wpAny (model prg P.w) A (pyNext (.ref I)) Q E (P.st h k)
  stop : ∀ kn frs h k (E : Value → Shared → Prop) (Q : Option Value → Shared → Prop), St P kn frs h → R kn → G n h → (∀ h' k', Heap.ExtBut I h h' → Q none (P.st h' k')) → wpAny (model prg P.w) A (pyNext (.ref I)) Q E (P.st h k)
  frame : ∀ i h h', G i h → (∀ o, h.get? I = some o → h'.get? I = some o) → G i h'
  there : ∀ i h, G i h → ∃ o, h.get? I = some o
  own : ∀ i h k (target : Expr) (v : Value) (E : Value → Shared → Prop) (Q : Unit → Shared → Prop), G i h → Q () (P.st h k) → wpAny (model prg P.w) A (letOwnedTupleGo target (.ref I) v) Q E (P.st h k)
  self : ∀ i h k (E : Value → Shared → Prop) (Q : Value → Shared → Prop), G i h → Q (.ref I) (P.st h k) → wpAny (model prg P.w) A (pyIter (.ref I)) Q E (P.st h k)
noncomputable def Src (P : Pk) (A : Around) (x : Value) (n : Nat) (V : Nat → Value → Prop) (R : Kn → Prop) : Prop :=
  ∀ kn frs h k (E : Value → Shared → Prop) (Q : Value → Shared → Prop), St P kn frs h → R kn →
    (∀ I G h' k', Iter P A n V I G R → h.get? I = none → G 0 h' → (∀ a o, h.get? a = some o → h'.get? a = some o) → Q (.ref I) (P.st h' k')) → wpAny (model prg P.w) A (pyIter x) Q E (P.st h k)
section
variable {P : Pk} {A : Around} {kn : Kn} {frs : List Fm} {env : Env} {Q : Flow → Kn → List Fm → Prop}
noncomputable def owners : List String := ["enumerate", "zip", "dict_itemiterator", "dict_reverseitemiterator", "odict_iterator", "itertools.zip_longest", "itertools.pairwise"]
theorem own_plain {w : World} {A : Around} {E : Value → Shared → Prop} {s : Shared} {target : Expr} {I : Addr} {v : Value} {o : Obj} {n : String} {Q : Unit → Shared → Prop} (ho : s.heap.get? I = some o) (hc : o.cls = .type n) (h : Q () s) (hn : owners.contains n = false := by decide +kernel) :
    wpAny (model prg w) A (letOwnedTupleGo target (.ref I) v) Q E s := by
  have key : ∀ a : Addr, wpAny (model prg w) A (do
      let o ← load I
      match o.cls, o.data with
      | .type n, .fields vs =>
        if owners.contains n && vs[0]? == some (rawInt a) then
          rule "for.unpacks-the-owned-tuple"
          updateField I 0 .none
      | _, _ => pure ()) Q E s := fun a => by
    refine wpAny_bind (wpAny_load ho ?_)
    rw [hc]
    cases o.data with
    | fields vs =>
      dsimp only
      rw [hn, Bool.false_and, if_neg (by decide)]
      exact wpAny_pure h
    | _ => exact wpAny_pure h
  have k1 : wpAny (model prg w) A (pure () : Sem Unit) Q E s := wpAny_pure h
  cases target with
  | Tuple _ _ _ => cases v <;> first | exact key _ | exact k1
  | List _ _ => cases v <;> first | exact key _ | exact k1
  | _ => exact k1
/-- what a loop over any source asks, once the source stands -/
inductive ForOk (P : Pk) (A : Around) (env : Env) (target : Expr) (body orelse : List Stmt) (Q : Flow → Kn → List Fm → Prop) (x : Value) (kn : Kn) (frs : List Fm) : Prop
  | mk (n : Nat) (V : Nat → Value → Prop) (R : Kn → Prop) (J : Nat → Kn → List Fm → Prop) (src : Src P A x n V R) (h0 : J 0 kn frs) (hR : ∀ i kn frs, J i kn frs → R kn)
      (turn : ∀ i v P' kn frs (K : Kn → List Fm → Prop), Le P P' → i < n → V i v → (∀ kn' frs', Wkn (J (i + 1)) kn' frs' → K kn' frs') → J i kn frs → WP P' A (assign target env v) (fun _ kn' frs' => WP P' A (execs body env) (Turn Q K) kn' frs') kn frs)
      (fin : ∀ kn frs, J n kn frs → WP P A (execs orelse env) Q kn frs) : ForOk P A env target body orelse Q x kn frs
/-- for, over any source -/
theorem x_for {target iter : Expr} {body orelse : List Stmt} {pos : Pos} (H : WP P A (eval iter env) (ForOk P A env target body orelse Q) kn frs)
    (hs : ∀ x, foldedSetIterable iter env x = pure x := by intro _; rfl) :
    WP P A (exec (.For target iter body orelse pos) env) Q kn frs := fun h k hst => by
  refine wpX_For (H.use hst fun x kn₁ frs₁ h₁ k₁ hst₁ hx => ?_) hs
  obtain ⟨n, V, R, J, hsrc, hJ, hR, hturn, hfin⟩ := hx
  refine wx (hsrc kn₁ frs₁ h₁ k₁ _ _ hst₁ (hR 0 _ _ hJ) fun I G h₂ k₂ W hI hG hk => ?_)
  have hst₂ := hst₁.grow hk
  refine codeX_for (fun m s' => Ex5 fun i kn frs h k => An7 (s' = P.st h k) (m = n - i) (i ≤ n) (St P kn frs h) (J i kn frs) (G i h) (Free P kn frs I)) ?_ n
    ⟨0, kn₁, frs₁, h₂, k₂, rfl, rfl, Nat.zero_le _, hst₂, hJ, hG, hst₁.free hI⟩
  rintro m s' ⟨i, kn, frs, h, k, rfl, rfl, hi, hst, hJ, hG, hfr⟩
  by_cases hlt : i < n
  · refine wx (W.next i kn frs h k _ _ hlt hst (hR i _ _ hJ) hG fun v h₃ k₃ hV hG₃ hsb => ?_)
    have hst₃ := hst.off hfr hsb.extBut
    obtain ⟨P', hle, hst', hkeep⟩ := rebase hst₃
    obtain ⟨oI, hoI⟩ := W.there _ _ hG₃
    have hPI := hkeep I oI hoI hfr.kn hfr.fm
    have hmod : model prg P.w = model prg P'.w := by rw [hle.w]
    have hpst : ∀ h k, P.st h k = P'.st h k := fun h k => (hle.st h k).symm
    refine wx (W.own _ _ _ _ _ _ _ hG₃ ?_)
    rw [hpst, hmod]
    refine (hturn i v P' kn frs (Wkn (J (i + 1))) hle hlt hV (fun _ _ h => h) hJ).use hst' fun _ kn₄ frs₄ h₄ k₄ hst₄ hb => ?_
    refine (show WP P' A (execs body env) _ kn₄ frs₄ from hb).use hst₄ fun f kn₅ frs₅ h₅ k₅ hst₅ hf => ?_
    rw [← hpst]
    cases f with
    | next =>
      obtain ⟨k0, f0, hk0, hf0, hj0⟩ := hf
      have hst₆ := hst₅.weak hk0 hf0
      exact ⟨n - (i + 1), by (first | lia | omega), i + 1, k0, f0, h₅, k₅, rfl, rfl, hlt, hle.back hst₆, hj0, W.frame _ _ _ hG₃ fun o e => by rw [hoI] at e; cases e; exact hst₆.base I oI hPI, hfr.of_base hst₆ hPI⟩
    | cont =>
      obtain ⟨k0, f0, hk0, hf0, hj0⟩ := hf
      have hst₆ := hst₅.weak hk0 hf0
      exact ⟨n - (i + 1), by (first | lia | omega), i + 1, k0, f0, h₅, k₅, rfl, rfl, hlt, hle.back hst₆, hj0, W.frame _ _ _ hG₃ fun o e => by rw [hoI] at e; cases e; exact hst₆.base I oI hPI, hfr.of_base hst₆ hPI⟩
    | brk => exact WP.fin (hle.back hst₅) hf
    | ret v => exact WP.fin (hle.back hst₅) hf
  · have hin : i = n := by (first | lia | omega)
    subst hin
    refine wx (W.stop kn frs h k _ _ hst (hR _ _ _ hJ) hG fun h₃ k₃ he => ?_)
    exact (hfin kn frs hJ).use (hst.off hfr he) fun f kn₄ frs₄ h₄ k₄ hst₄ hf => WP.fin hst₄ hf
noncomputable abbrev lo (ys : List Value) (ep : Nat) : Obj := { cls := .type "list", data := .seq ys.toArray ep }
inductive LcInv (P : Pk) (n : Nat) (J : Nat → List Value → Kn → List Fm → Prop) (G : Nat → Heap → Prop) (I D C : Addr) (m : Nat) (s : Shared) : Prop
  | mk (i : Nat) (ys : List Value) (ep : Nat) (kn : Kn) (frs : List Fm) (h : Heap) (k : Nat) (e : s = P.st h k) (hm : m = n - i) (hi : i ≤ n) (hy : ys.length ≤ i) (hst : St P kn frs h) (hJ : J i ys kn frs) (hG : G i h)
      (fI : Free P kn frs I) (gD : h.get? D = some (lo ys ep)) (fD : Free P kn frs D) (fC : Free P kn frs C) (mC : Str → Option Value) (hn : h.Ns C mC) : LcInv P n J G I D C m s
/-- the block of a list comprehension, behind its first iterable -/
theorem lc_core {elt iter target : Expr} {ifs : List Expr} {scope : Scope} {cl : List (Str × Addr)} {pos : Pos} {h : Heap} {k : Nat} {xv : Value} {RR : Value → Addr → Shared → Prop}
    {n : Nat} {V : Nat → Value → Prop} {R : Kn → Prop} (J : Nat → List Value → Kn → List Fm → Prop)
    (hst : St P kn frs h) (hcell : ∀ y ∈ scope.names, y.2 ≠ .cell) (hkind : scope.kind = .function) (hn : n ≤ sizeLine) (hsrc : Src P A xv n V R) (hJ0 : J 0 [] kn frs) (hR : ∀ i ys kn frs, J i ys kn frs → R kn)
    (turn : ∀ i ys v P' C kn frs, Le P P' → i < n → V i v → J i ys kn frs → WP P' A (assign target (compEnvC scope cl C env) v) (fun _ kn' frs' =>
      WP P' A (forIn ifs true fun c r => if r = true then do let ok ← isTrue c (compEnvC scope cl C env) (eval c (compEnvC scope cl C env)); pure (ForInStep.yield ok) else pure (ForInStep.yield r)) (fun ok kn' frs' =>
        if ok = true then WP P' A (eval elt (compEnvC scope cl C env)) (fun y kn' frs' => J (i + 1) (ys ++ [y]) kn' frs'.tail ∧ ∃ f, frs'.head? = some f ∧ f.L = C ∧ f.cs = []) kn' frs'
        else J (i + 1) ys kn' frs'.tail ∧ ∃ f, frs'.head? = some f ∧ f.L = C ∧ f.cs = []) kn' frs') kn (⟨C, [], []⟩ :: frs))
    (hRR : ∀ D C h' k' ys ep kn frs, St P kn frs h' → J n ys kn frs → h'.get? D = some (lo ys ep) → Free P kn frs D → Free P kn frs C → D ≠ C → (∃ m, h'.Ns C m) → ys.length ≤ n → RR (.ref D) C (P.st h' k')) :
    wpX (model prg P.w) A (pyIter xv) (fun it s₂ => wpX (model prg P.w) A (newList []) (fun acc s₃ => wpX (model prg P.w) A (newFunctionEnv scope env.globals cl [] env.qual none .none (some env)) (fun cenv s₄ =>
      codeX (model prg P.w) A (.compStart (.ListComp elt [⟨target, iter, ifs, 0⟩] scope pos) 0 it acc { cenv with scope := relabel scope env }) (okR fun _ s' => RR acc cenv.locals s') s₄) NoE s₃) NoE s₂) NoE (P.st h k) := by
  refine wx (hsrc kn frs h k _ _ hst (hR _ _ _ _ hJ0) fun I G h₂ k₂ W hI hG hk => ?_)
  have hst₂ := hst.grow hk
  refine wx (wpAny_newObj_type (wx (wpAny_newFunctionEnv hcell (by intro y hy; simp at hy) (fun h₄ hns₄ hsb₄ => ?_) hkind)))
  have hD : h₂.get? h₂.objs.size = none := by
    cases e : h₂.get? h₂.objs.size with
    | none => rfl
    | some o => exact absurd (Heap.lt_size e) (Nat.lt_irrefl _)
  simp only [Pk.st_heap] at hns₄ hsb₄ ⊢
  generalize hH3 : h₂.push { cls := .type "list", dict := none, data := .seq ([] : List Value).toArray } = H3 at hns₄ hsb₄ ⊢
  have hC : H3.objs.size = h₂.objs.size + 1 := by rw [← hH3, Heap.size_push]
  obtain ⟨D, hDe⟩ : ∃ D : Nat, h₂.objs.size = D := ⟨_, rfl⟩
  obtain ⟨C, hCe⟩ : ∃ C : Nat, H3.objs.size = C := ⟨_, rfl⟩
  rw [hDe] at hD hC ⊢
  rw [hCe] at hC hns₄ hsb₄ ⊢
  have hDC : D ≠ C := by (first | lia | omega)
  have hk3 : ∀ a o, h₂.get? a = some o → H3.get? a = some o := fun a o e => hH3 ▸ Heap.get?_push_of_some _ e
  have hC2 : h₂.get? C = none := by
    cases e : h₂.get? C with
    | none => rfl
    | some o => have q : @LT.lt Nat _ C h₂.objs.size := Heap.lt_size e; (first | lia | omega)
  have hk4 : ∀ a o, a ≠ C → H3.get? a = some o → h₄.get? a = some o := fun a o ha e => hsb₄.extBut a o ha (Heap.get?_push_of_some _ e)
  have hk24 : ∀ a o, h₂.get? a = some o → h₄.get? a = some o := fun a o e => hk4 a o (fun q => by rw [q, hC2] at e; cases e) (hk3 a o e)
  have hst₄ := hst₂.grow hk24
  have hD4 : h₄.get? D = some (lo [] 0) := hk4 D _ hDC (by rw [← hH3, ← hDe]; exact Heap.get?_push_size _ rfl)
  have hI2 : I ≠ D := fun q => by obtain ⟨o, ho⟩ := W.there _ _ hG; rw [q, hD] at ho; cases ho
  have hIC : I ≠ C := fun q => by obtain ⟨o, ho⟩ := W.there _ _ hG; rw [q, hC2] at ho; cases ho
  have hG4 : G 0 h₄ := W.frame _ _ _ hG fun o e => hk24 _ _ e
  have main : ∀ k₄, codeX (model prg P.w) A (.compLoop (.ListComp elt [⟨target, iter, ifs, 0⟩] scope pos) 0 (.ref I) (.ref D) (compEnvC scope cl C env)) (okR fun _ s' => RR (.ref D) C s') (P.st h₄ k₄) := by
    intro k₄
    refine codeX_comp (LcInv P n J G I D C) ?_ n
      ⟨0, [], 0, kn, frs, h₄, k₄, rfl, rfl, Nat.zero_le _, Nat.le_refl _, hst₄, hJ0, hG4, hst.free hI, hD4, hst₂.free hD, hst₂.free hC2, _, hns₄⟩
    rintro m s' ⟨i, ys, ep, kn, frs, h, k, rfl, rfl, hi, hys, hst, hJ, hG, hfI, hDh, hfD, hfC, mC, hnC⟩
    by_cases hlt : i < n
    · refine wx (W.next i kn frs h k _ _ hlt hst (hR i _ _ _ hJ) hG fun v h₅ k₅ hV hG₅ hsb => ?_)
      have hst₅ := hst.off hfI hsb.extBut
      have hD5 : h₅.get? D = some (lo ys ep) := (hsb.2 D (Ne.symm hI2)).trans hDh
      have hnC5 := hnC.sameBut hsb (Ne.symm hIC)
      -- the block's own frame
      have hstC : St P kn (⟨C, [], []⟩ :: frs) h₅ := by
        refine ⟨hst₅.base, hst₅.know, fun g hg => ?_, ?_, fun a ha => ?_⟩
        · rcases List.mem_cons.mp hg with e | hg
          · subst e
            refine ⟨⟨mC, hnC5, fun p hp => nomatch hp⟩, fun x c hc => (nomatch hc), fun a ha => ?_⟩
            rcases List.mem_cons.mp ha with e | ha
            · subst e; obtain ⟨o, _, _, ho, _⟩ := hnC5; exact ⟨o, ho⟩
            · cases ha
          · exact hst₅.fms g hg
        · rw [List.flatMap_cons, List.nodup_append]
          refine ⟨by simp [Fm.as], hst₅.nodup, fun a ha b hb e => ?_⟩
          rcases List.mem_cons.mp ha with e' | ha
          · subst e'; subst e; exact hfC.fm hb
          · cases ha
        · rw [List.flatMap_cons] at ha
          rcases List.mem_append.mp ha with ha | ha
          · rcases List.mem_cons.mp ha with e' | ha
            · subst e'; exact ⟨hfC.b, hfC.kn⟩
            · cases ha
          · exact hst₅.apart a ha
      obtain ⟨P', hle, hst', hkeep⟩ := rebase hstC
      obtain ⟨oI, hoI⟩ := W.there _ _ hG₅
      have nin : ∀ a, a ≠ C → a ∉ frs.flatMap Fm.as → a ∉ (Fm.mk C [] [] :: frs).flatMap Fm.as := fun a ha hf hm => by
        rw [List.flatMap_cons] at hm
        rcases List.mem_append.mp hm with hm | hm
        · rcases List.mem_cons.mp hm with e | hm
          · exact ha e
          · cases hm
        · exact hf hm
      have hPI := hkeep I oI hoI hfI.kn (nin I hIC hfI.fm)
      have hPD := hkeep D _ hD5 hfD.kn (nin D hDC hfD.fm)
      have hmod : model prg P.w = model prg P'.w := by rw [hle.w]
      have hpst : ∀ h k, P.st h k = P'.st h k := fun h k => (hle.st h k).symm
      -- what stands behind a turn
      have fin : ∀ ys' kn' frs' h' k' ep', St P' kn' frs' h' → J (i + 1) ys' kn' frs'.tail → (∃ f, frs'.head? = some f ∧ f.L = C ∧ f.cs = []) → ∀ h'', (∀ b o, b ≠ D → h'.get? b = some o → h''.get? b = some o) → h''.get? D = some (lo ys' ep') → ys'.length ≤ i + 1 →
          ∃ m, m < n - i ∧ LcInv P n J G I D C m (P.st h'' k') := by
        intro ys' kn' frs' h' k' ep' hs' hJ' hf h'' hb hD'' hl
        obtain ⟨f, hf, hfL, hfc⟩ := hf
        cases frs' with
        | nil => cases hf
        | cons f' r =>
          injection hf with hf
          subst hf
          subst hfL
          have hpop := (hle.back hs').pop
          have hPD' := hs'.base D _ hPD
          have fD : Free P kn' r D := by have := hfD.of_base hs' hPD; exact ⟨this.kn, fun hm => this.fm (by rw [List.flatMap_cons]; exact List.mem_append_right _ hm), this.b⟩
          have fI : Free P kn' r I := by have := hfI.of_base hs' hPI; exact ⟨this.kn, fun hm => this.fm (by rw [List.flatMap_cons]; exact List.mem_append_right _ hm), this.b⟩
          have hnd := hs'.nodup
          rw [List.flatMap_cons, List.nodup_append] at hnd
          have hapC := hs'.apart f'.L (by rw [List.flatMap_cons]; exact List.mem_append_left _ (.head _))
          have fC : Free P kn' r f'.L := ⟨hapC.2, fun hm => hnd.2.2 _ (.head _) _ hm rfl, hfC.b⟩
          obtain ⟨mC', hnC', _⟩ := (hs'.fms f' (.head _)).loc
          have hpop'' : St P kn' r h'' := hpop.off fD fun b o hbD e => hb b o hbD e
          obtain ⟨oC, e1, e2, hoC, hrest⟩ := hnC'
          refine ⟨n - (i + 1), by (first | lia | omega), i + 1, ys', ep', kn', r, h'', k', rfl, rfl, hlt, hl, hpop'', hJ', W.frame _ _ _ hG₅ fun o e => ?_, fI, hD'', fD, fC, mC', oC, e1, e2, hb _ _ (Ne.symm hDC) hoC, hrest⟩
          rw [hoI] at e; cases e
          exact hb _ _ hI2 (hs'.base I oI hPI)
      refine wx (W.own _ _ _ _ _ _ _ hG₅ ?_)
      rw [hpst, hmod]
      refine (turn i ys v P' C kn frs hle hlt hV hJ).use hst' fun _ kn₆ frs₆ h₆ k₆ hst₆ hb => ?_
      refine (show WP P' A _ _ kn₆ frs₆ from hb).use hst₆ fun ok kn₇ frs₇ h₇ k₇ hst₇ hok => ?_
      cases ok with
      | false =>
        simp only [Bool.false_eq_true, if_false] at hok ⊢
        rw [← hpst]
        exact fin ys kn₇ frs₇ h₇ k₇ ep hst₇ hok.1 hok.2 h₇ (fun _ _ _ e => e) (hst₇.base D _ hPD) (by (first | lia | omega))
      | true =>
        simp only [if_true] at hok ⊢
        refine (show WP P' A _ _ kn₇ frs₇ from hok).use hst₇ fun y kn₈ frs₈ h₈ k₈ hst₈ hy => ?_
        have hD8 := hst₈.base D _ hPD
        refine wx (wpAny_list_append_plain (items := ys.toArray) ⟨ep, hD8⟩ (fun h₉ hp₉ hsb₉ => ?_) (by rw [List.size_toArray]; (first | lia | omega)))
        obtain ⟨ep₉, hp₉⟩ := hp₉
        have := fin (ys ++ [y]) kn₈ frs₈ h₈ k₈ ep₉ hst₈ hy.1 hy.2 h₉ (fun b o hbD e => hsb₉.extBut b o hbD e) (by rw [hp₉]; simp) (by simp; (first | lia | omega))
        rw [hpst] at this
        exact this
    · have hin : i = n := by (first | lia | omega)
      subst hin
      refine wx (W.stop kn frs h k _ _ hst (hR _ _ _ _ hJ) hG fun h₅ k₅ he => ?_)
      exact hRR D C h₅ k₅ ys ep kn frs (hst.off hfI he) hJ (he D _ (Ne.symm hI2) hDh) hfD hfC hDC ⟨mC, hnC.extBut he (Ne.symm hIC)⟩ hys
  exact codeX_compStart (main _) (wx (W.self 0 h₄ _ _ _ hG4 (main _)))
end
end
/-! # part B6 -/
section
open PySem PySem.W PyProof.Rows
section
variable {P : Pk} {A : Around} {kn : Kn} {frs : List Fm} {env : Env}
noncomputable def LcTurn (P : Pk) (A : Around) (env : Env) (elt target : Expr) (ifs : List Expr) (scope : Scope) (cl : List (Str × Addr)) (n : Nat) (V : Nat → Value → Prop) (J : Nat → List Value → Kn → List Fm → Prop) : Prop :=
  ∀ i ys v P' C kn frs, Le P P' → i < n → V i v → J i ys kn frs → WP P' A (assign target (compEnvC scope cl C env) v) (fun _ kn' frs' =>
      WP P' A (forIn ifs true fun c r => if r = true then do let ok ← isTrue c (compEnvC scope cl C env) (eval c (compEnvC scope cl C env)); pure (ForInStep.yield ok) else pure (ForInStep.yield r)) (fun ok kn' frs' =>
        if ok = true then WP P' A (eval elt (compEnvC scope cl C env)) (fun y kn' frs' => J (i + 1) (ys ++ [y]) kn' frs'.tail ∧ ∃ f, frs'.head? = some f ∧ f.L = C ∧ f.cs = []) kn' frs'
        else J (i + 1) ys kn' frs'.tail ∧ ∃ f, frs'.head? = some f ∧ f.L = C ∧ f.cs = []) kn' frs') kn (⟨C, [], []⟩ :: frs)
theorem e_lc {elt iter target : Expr} {ifs : List Expr} {scope : Scope} {cl : List (Str × Addr)} {pos : Pos} {Q : Value → Kn → List Fm → Prop}
    (H : WP P A (eval iter env) (fun xv kn frs => ∃ (n : Nat) (V : Nat → Value → Prop) (R : Kn → Prop) (J : Nat → List Value → Kn → List Fm → Prop), n ≤ sizeLine ∧ Src P A xv n V R ∧ J 0 [] kn frs ∧ (∀ i ys kn frs, J i ys kn frs → R kn) ∧
      LcTurn P A env elt target ifs scope cl n V J ∧ (∀ ys kn frs D ep, J n ys kn frs → kn D = none → ys.length ≤ n → Q (.ref D) (kn.set D (lo ys ep)) frs)) kn frs)
    (hclos : closureFor scope env = pure cl) (hcell : ∀ y ∈ scope.names, y.2 ≠ .cell) (hkind : scope.kind = .function) (hnames : ∀ x ∈ scope.names, x.2 = .local → scope.names.lookup x.1 = some .local)
    (hs : ∀ x, foldedSetIterable iter env x = pure x := by intro _; rfl) :
    WP P A (eval (.ListComp elt [⟨target, iter, ifs, 0⟩] scope pos) env) Q kn frs := fun h k hst => by
  rw [eval_ListComp]
  refine wpX_comprehension (use := none) rfl hs hclos hkind hnames (H.use hst fun xv kn₁ frs₁ h₁ k₁ hst₁ hx => ?_)
  obtain ⟨n, V, R, J, hn, hsrc, hJ, hR, hturn, hfin⟩ := hx
  refine lc_core (RR := fun acc C => compDone (model prg P.w) A none _ acc C) J hst₁ hcell hkind hn hsrc hJ hR hturn (fun D C h' k' ys ep kn frs hs' hJn hD fD fC hDC hm hl => ?_)
  obtain ⟨m, hm⟩ := hm
  refine ⟨m, hm, fun h'' hsb => ?_⟩
  have hst'' := hs'.off fC hsb.extBut
  have hst3 : St P (kn.set D (lo ys ep)) frs h'' := by
    refine ⟨hst''.base, fun a o e => ?_, hst''.fms, hst''.nodup, fun a ha => ⟨(hst''.apart a ha).1, ?_⟩⟩
    · unfold Kn.set at e
      split at e
      · rename_i q; subst q; cases e; exact ⟨(hsb.2 _ hDC).trans hD, fD.b⟩
      · exact hst''.know a o e
    · unfold Kn.set
      split
      · rename_i q; subst q; exact absurd ha fD.fm
      · exact (hst''.apart a ha).2
  exact ⟨_, _, _, _, rfl, hst3, hfin ys kn frs D ep hJn fD.kn hl⟩
/-- a list comprehension bound at once to a name -/
theorem x_lc {elt iter target : Expr} {ifs : List Expr} {scope : Scope} {cl : List (Str × Addr)} {pos py spos : Pos} {y : Str} {Q : Flow → Kn → List Fm → Prop}
    (H : WP P A (eval iter env) (fun xv kn frs => ∃ (n : Nat) (V : Nat → Value → Prop) (R : Kn → Prop) (J : Nat → List Value → Kn → List Fm → Prop), n ≤ sizeLine ∧ Src P A xv n V R ∧ J 0 [] kn frs ∧ (∀ i ys kn frs, J i ys kn frs → R kn) ∧
      LcTurn P A env elt target ifs scope cl n V J ∧ (∀ ys kn frs D ep P', Le P P' → J n ys kn frs → kn D = none → ys.length ≤ n → WP P' A (storeName env y (.ref D)) (fun _ => Q .next) (kn.set D (lo ys ep)) frs)) kn frs)
    (hsw : swapsWith (.ListComp elt [⟨target, iter, ifs, 0⟩] scope pos) (some (.Name y py)) spos.line env = pure true)
    (hclos : closureFor scope env = pure cl) (hcell : ∀ y ∈ scope.names, y.2 ≠ .cell) (hkind : scope.kind = .function) (hnames : ∀ x ∈ scope.names, x.2 = .local → scope.names.lookup x.1 = some .local)
    (hs : ∀ x, foldedSetIterable iter env x = pure x := by intro _; rfl) :
    WP P A (exec (.Assign [.Name y py] (.ListComp elt [⟨target, iter, ifs, 0⟩] scope pos) spos) env) Q kn frs := fun h k hst => by
  rw [exec_Assign_Name_used _ _ _ _ hsw]
  refine wpX_stand (wpX_bind ?_)
  show wpX _ A (do let _ ← comprehension (.ListComp elt [⟨target, iter, ifs, 0⟩] scope pos) scope env _ (newList []) false (eval iter env) (some (assign (.Name y py) env))) _ _ _
  refine wpX_bind (wpX_mono (wpX_comprehension (use := some (assign (.Name y py) env)) (Q := fun _ s' => FinW P (Q .next) s') rfl hs hclos hkind hnames
    (H.use hst fun xv kn₁ frs₁ h₁ k₁ hst₁ hx => ?_)) (fun _ s' hq => wpX_pure (wpX_pure hq)) fun _ _ e => e)
  obtain ⟨n, V, R, J, hn, hsrc, hJ, hR, hturn, hfin⟩ := hx
  refine lc_core (RR := fun acc C => compDone (model prg P.w) A (some (assign (.Name y py) env)) _ acc C) J hst₁ hcell hkind hn hsrc hJ hR hturn (fun D C h' k' ys ep kn frs hs' hJn hD fD fC hDC hm hl => ?_)
  obtain ⟨m, hm⟩ := hm
  show wpX _ A (assign (.Name y py) env (.ref D)) _ _ _
  have hst3 : St P (kn.set D (lo ys ep)) frs h' := by
    refine ⟨hs'.base, fun a o e => ?_, hs'.fms, hs'.nodup, fun a ha => ⟨(hs'.apart a ha).1, ?_⟩⟩
    · unfold Kn.set at e
      split at e
      · rename_i q; subst q; cases e; exact ⟨hD, fD.b⟩
      · exact hs'.know a o e
    · unfold Kn.set
      split
      · rename_i q; subst q; exact absurd ha fD.fm
      · exact (hs'.apart a ha).2
  obtain ⟨P', hle, hst', hkeep⟩ := rebase hst3
  obtain ⟨oC, e1, e2, hoC, hrest⟩ := hm
  have hPC := hkeep C oC hoC (by rw [Kn.set_ne (Ne.symm hDC)]; exact fC.kn) fC.fm
  have hmod : model prg P.w = model prg P'.w := by rw [hle.w]
  have hpst : ∀ h k, P.st h k = P'.st h k := fun h k => (hle.st h k).symm
  rw [hpst, hmod]
  refine wpX_assign_Name ((hfin ys kn frs D ep P' hle hJn fD.kn hl).use hst' fun _ kn₂ frs₂ h₂ k₂ hst₂ hq => ?_)
  refine ⟨m, ⟨oC, e1, e2, hst₂.base C oC hPC, hrest⟩, fun h'' hsb => ?_⟩
  rw [← hpst]
  exact ⟨_, _, _, _, rfl, (hle.back hst₂).off (fC.of_base hst₂ hPC |> fun q => ⟨q.kn, q.fm, q.b⟩) hsb.extBut, hq⟩
theorem t_none {Q : Bool → Kn → List Fm → Prop} (h : Q true kn frs) :
    WP P A (forIn ([] : List Expr) true fun c r => if r = true then do let ok ← isTrue c env (eval c env); pure (ForInStep.yield ok) else pure (ForInStep.yield r)) Q kn frs := fun _ _ hs => wx (wpAny_tests_nil (WP.fin hs h))
theorem t_one {c : Expr} {Q : Bool → Kn → List Fm → Prop} (H : WP P A (isTrue c env (eval c env)) Q kn frs) :
    WP P A (forIn [c] true fun c r => if r = true then do let ok ← isTrue c env (eval c env); pure (ForInStep.yield ok) else pure (ForInStep.yield r)) Q kn frs := fun h k hs => by
  simp only [List.forIn_cons, List.forIn_nil, if_true]
  exact wpX_bind (wpX_then (H h k hs) fun b s' hb => wpX_pure (wpX_pure hb))
theorem a_name {x : Str} {pos : Pos} {v : Value} {Q : Unit → Kn → List Fm → Prop} (H : WP P A (storeName env x v) Q kn frs) : WP P A (assign (.Name x pos) env v) Q kn frs := fun h k hs => wpX_assign_Name (H h k hs)
/-! ## sources -/
theorem src_list (hA : A.handled = none) (l : Addr) (items : List Value) : Src P A (.ref l) items.length (fun i v => items[i]? = some v) (fun kn => ∃ ep, Kw P kn l (lo items ep)) := by
  intro kn frs h k E Q hs hR hQ
  obtain ⟨ep, hl⟩ := hR
  have isL : ∀ {kn frs h}, St P kn frs h → (∃ ep, Kw P kn l (lo items ep)) → h.IsList l items.toArray := fun hs ⟨ep, hl⟩ => ⟨_, hl.get hs, rfl, ep, rfl⟩
  refine wpAny_pyIter_list (isL hs ⟨ep, hl⟩) ?_
  have hI : h.get? h.objs.size = none := by
    cases e : h.get? h.objs.size with
    | none => rfl
    | some o => exact absurd (Heap.lt_size e) (Nat.lt_irrefl _)
  refine hQ h.objs.size (fun i h => h.IsListIter _ l i) _ k ⟨?_, ?_, ?_, ?_, ?_, ?_⟩ hI ⟨_, Heap.get?_push_size _ rfl, rfl, rfl⟩ fun a o e => Heap.get?_push_of_some _ e
  · intro i kn frs h k E Q hi hs hR hG hQ
    have hx : items.toArray[i]? = some items[i] := by simp [hi]
    exact wpAny_pyNext_list_item hG (isL hs hR) hx fun h' hG' hsb => hQ _ h' k (by simp [hi]) hG' hsb
  · intro kn frs h k E Q hs hR hG hQ
    exact wpAny_pyNext_list_end hA hG (isL hs hR) (by simp) fun h' he => hQ h' k he
  · intro i h h' ⟨o, ho, r⟩ hk
    exact ⟨o, hk o ho, r⟩
  · intro i h ⟨o, ho, _⟩
    exact ⟨o, ho⟩
  · intro i h k target v E Q ⟨o, ho, hc, _⟩ hq
    exact own_plain ho hc hq
  · intro i h k E Q hG hq
    exact wpAny_pyIter_listiter hG hq
noncomputable abbrev to (ys : List Value) : Obj := { cls := .type "tuple", data := .seq ys.toArray }
theorem src_tuple (hA : A.handled = none) (l : Addr) (items : List Value) : Src P A (.ref l) items.length (fun i v => items[i]? = some v) (fun kn => Kw P kn l (to items)) := by
  intro kn frs h k E Q hs hl hQ
  have isL : ∀ {kn frs h}, St P kn frs h → Kw P kn l (to items) → h.IsTuple l items.toArray := fun hs hl => ⟨_, hl.get hs, rfl, _, rfl⟩
  refine wpAny_pyIter_tuple (isL hs hl) ?_
  have hI : h.get? h.objs.size = none := by
    cases e : h.get? h.objs.size with
    | none => rfl
    | some o => exact absurd (Heap.lt_size e) (Nat.lt_irrefl _)
  refine hQ h.objs.size (fun i h => h.IsTupleIter _ l i) _ k ⟨?_, ?_, ?_, ?_, ?_, ?_⟩ hI ⟨_, Heap.get?_push_size _ rfl, rfl, rfl⟩ fun a o e => Heap.get?_push_of_some _ e
  · intro i kn frs h k E Q hi hs hR hG hQ
    have hx : items.toArray[i]? = some items[i] := by simp [hi]
    exact wpAny_pyNext_tuple_item hG (isL hs hR) hx fun h' hG' hsb => hQ _ h' k (by simp [hi]) hG' hsb
  · intro kn frs h k E Q hs hR hG hQ
    exact wpAny_pyNext_tuple_end hA hG (isL hs hR) (by simp) fun h' he => hQ h' k he
  · intro i h h' ⟨o, ho, r⟩ hk
    exact ⟨o, hk o ho, r⟩
  · intro i h ⟨o, ho, _⟩
    exact ⟨o, ho⟩
  · intro i h k target v E Q ⟨o, ho, hc, _⟩ hq
    exact own_plain ho hc hq
  · intro i h k E Q hG hq
    exact wpAny_pyIter_tupleiter hG hq
end
end
/-! # part B7 -/
section
open PySem PySem.W PyProof.Rows
theorem get_size (h : Heap) : h.get? h.objs.size = none := by
  cases e : h.get? h.objs.size with
  | none => rfl
  | some o => exact absurd (Heap.lt_size e) (Nat.lt_irrefl _)
theorem if_dec {p : Prop} [Decidable p] {X Y : Prop} (h1 : p → X) (h2 : ¬ p → Y) : if decide p = true then X else Y := by
  by_cases h : p
  · simp only [h, decide_true, if_true]; exact h1 h
  · simp only [h, decide_false, Bool.false_eq_true, if_false]; exact h2 h
theorem if_beq {a b : Int} {X Y : Prop} (h1 : a = b → X) (h2 : a ≠ b → Y) : if (a == b) = true then X else Y := by
  by_cases h : a = b
  · simp only [h, beq_self_eq_true, if_true]; exact h1 h
  · simp only [beq_eq_false_iff_ne.mpr h, Bool.false_eq_true, if_false]; exact h2 h
theorem if_bne {a b : Int} {X Y : Prop} (h1 : a ≠ b → X) (h2 : a = b → Y) : if (a != b) = true then X else Y := by
  by_cases h : a = b
  · simp only [h, bne_self_eq_false, Bool.false_eq_true, if_false]; exact h2 h
  · simp only [bne_iff_ne, ne_eq, h, not_false_eq_true, if_true]; exact h1 h
theorem if_tt {X Y : Prop} (h : X) : if true = true then X else Y := h
theorem if_ff {X Y : Prop} (h : Y) : if false = true then X else Y := h
section
variable {P : Pk} {A : Around} {kn : Kn} {frs : List Fm} {env : Env} {Q : Value → Kn → List Fm → Prop} {Qb : Bool → Kn → List Fm → Prop} {pos : Pos}
/-! ## constants, operators -/
theorem e_int {i : Int} {k : Nat} (h : ∀ t, Q (.int i t) kn frs) : WP P A (eval (.Constant (.int i) k pos) env) Q kn frs := fun _ _ hs => wx (wpAny_Constant_int ⟨_, _, _, _, rfl, hs, h _⟩)
theorem e_none {k : Nat} (h : Q .none kn frs) : WP P A (eval (.Constant .none k pos) env) Q kn frs := fun _ _ hs => wx (wpAny_Constant_none (WP.fin hs h))
theorem e_bool {b : Bool} {k : Nat} (h : Q (.bool b) kn frs) : WP P A (eval (.Constant (.bool b) k pos) env) Q kn frs := fun _ _ hs => wx (wpAny_Constant_bool (WP.fin hs h))
theorem e_str {x : Str} {k : Nat} (h : ∀ t, Q (.str x t) kn frs) : WP P A (eval (.Constant (.str x) k pos) env) Q kn frs := fun _ _ hs => wx (wpAny_Constant_str ⟨_, _, _, _, rfl, hs, h _⟩)
theorem e_bytes {x : List UInt8} {k : Nat} (h : ∀ t, Q (.bytes x.toArray t) kn frs) : WP P A (eval (.Constant (.bytes x) k pos) env) Q kn frs := fun _ _ hs => wx (Constant_bytes ⟨_, _, _, _, rfl, hs, h _⟩)
theorem e_bin {l r : Expr} {op : Operator} (H : WP P A (eval l env) (fun a kn₁ frs₁ => WP P A (eval r env) (fun b kn₂ frs₂ => WP P A (binaryOp op a b) Q kn₂ frs₂) kn₁ frs₁) kn frs) : WP P A (eval (.BinOp l op r pos) env) Q kn frs :=
  fun _ _ hs => wpX_BinOp (H.use hs fun _ _ _ _ _ hs₁ h₁ => h₁.use hs₁ fun _ _ _ h k hs₂ h₂ => (h₂ : WP _ _ _ _ _ _) h k hs₂)
theorem e_cmp {l r : Expr} {op : CmpOp} (H : WP P A (eval l env) (fun a kn₁ frs₁ => WP P A (eval r env) (fun b kn₂ frs₂ => WP P A (compareOp op a b) Q kn₂ frs₂) kn₁ frs₁) kn frs)
    (hm : behindInMarks op r = false := by with_unfolding_all rfl) : WP P A (eval (.Compare l [op] [r] pos) env) Q kn frs :=
  fun _ _ hs => wpX_Compare1 (H.use hs fun _ _ _ _ _ hs₁ h₁ => h₁.use hs₁ fun _ _ _ h k hs₂ h₂ => (h₂ : WP _ _ _ _ _ _) h k hs₂) hm
theorem t_cmp {l r : Expr} {op : CmpOp} {whole : Sem Value} (H : WP P A (eval l env) (fun a kn₁ frs₁ => WP P A (eval r env) (fun b kn₂ frs₂ => WP P A (compareOp op a b) (fun c kn₃ frs₃ => WP P A (truthy c) Qb kn₃ frs₃) kn₂ frs₂) kn₁ frs₁) kn frs)
    (hm : behindInMarks op r = false := by with_unfolding_all rfl) : WP P A (isTrue (.Compare l [op] [r] pos) env whole) Qb kn frs :=
  fun _ _ hs => wpX_isTrue_Compare1 (H.use hs fun _ _ _ _ _ hs₁ h₁ => h₁.use hs₁ fun _ _ _ _ _ hs₂ h₂ => h₂.use hs₂ fun _ _ _ h k hs₃ h₃ => (h₃ : WP _ _ _ _ _ _) h k hs₃) hm
theorem t_chain {l r₁ r₂ : Expr} {op₁ op₂ : CmpOp} {whole : Sem Value} (H : WP P A (eval l env) (fun a kn₁ frs₁ => WP P A (eval r₁ env) (fun b kn₂ frs₂ => WP P A (compareOp op₁ a b) (fun c kn₃ frs₃ => WP P A (truthy c) (fun t kn₄ frs₄ =>
      if t = true then WP P A (eval r₂ env) (fun d kn₅ frs₅ => WP P A (compareOp op₂ b d) (fun c kn₆ frs₆ => WP P A (truthy c) Qb kn₆ frs₆) kn₅ frs₅) kn₄ frs₄ else Qb false kn₄ frs₄) kn₃ frs₃) kn₂ frs₂) kn₁ frs₁) kn frs)
    (hm : lastMarks [op₁, op₂] [r₁, r₂] = false := by with_unfolding_all rfl) : WP P A (isTrue (.Compare l [op₁, op₂] [r₁, r₂] pos) env whole) Qb kn frs := fun _ _ hs => by
  show wpX _ A (do testChain pos (← eval l env) [op₁, op₂] (markedEach [op₁, op₂] [r₁, r₂] (evalEach [r₁, r₂] env))) _ _ _
  rw [markedEach_of_false _ _ _ hm]
  refine wpX_bind (H.use hs fun a _ _ h₁ k₁ hs₁ H₁ => ?_)
  show wpX _ A (do
    let rv ← holding [a] (eval r₁ env)
    standAt pos
    let c ← holding [a, rv] (compareOp op₁ a rv)
    release [a, rv] [c]
    if ← holding [c, rv] (truthy c) then testChain pos rv [op₂] [eval r₂ env] else pure false) _ _ _
  refine wpX_bind (wpX_hold (H₁.use hs₁ fun b _ _ h₂ k₂ hs₂ H₂ => wpX_stand (wpX_bind (wpX_hold (H₂.use hs₂ fun c _ _ h₃ k₃ hs₃ H₃ => wpX_bind (wx (wpAny_release' (wpX_bind (wpX_hold (H₃.use hs₃ fun t _ _ h₄ k₄ hs₄ H₄ => ?_)))))))))) 
  cases t with
  | false => exact wpX_pure (WP.fin hs₄ H₄)
  | true =>
    show wpX _ A (do
      let rv ← holding [b] (eval r₂ env)
      standAt pos
      let c ← operate [b, rv] (compareOp op₂ b rv)
      holding [c] (truthy c)) _ _ _
    exact wpX_bind (wpX_hold ((show WP P A _ _ _ _ from H₄).use hs₄ fun d _ _ h₅ k₅ hs₅ H₅ => wpX_stand (wpX_bind (wpX_oper (H₅.use hs₅ fun c _ _ h₆ k₆ hs₆ H₆ => wpX_hold ((H₆ : WP _ _ _ _ _ _) h₆ k₆ hs₆))))))
theorem t_val {e : Expr} (H : WP P A (eval e env) (fun v kn₁ frs₁ => WP P A (truthy v) Qb kn₁ frs₁) kn frs)
    (he : isTrue e env (eval e env) = (do let v ← (eval e env); standAt e.pos; holding [v] (truthy v)) := by rfl) : WP P A (isTrue e env (eval e env)) Qb kn frs :=
  fun _ _ hs => wpX_isTrue_val (H.use hs fun _ _ _ h k hs₂ h₂ => (h₂ : WP _ _ _ _ _ _) h k hs₂) he
theorem t_not {x : Expr} {whole : Sem Value} (H : WP P A (isTrue x env (eval x env)) (fun c => Qb (!c)) kn frs) : WP P A (isTrue (.UnaryOp .Not x pos) env whole) Qb kn frs := fun h k hs => wpX_isTrue_not (H h k hs)
theorem t_or {x : Expr} {rest : List Expr} {whole : Sem Value} (H : WP P A (isTrue x env (eval x env)) (fun c kn' frs' => if c = true then Qb true kn' frs' else WP P A (isTrue (.BoolOp .Or rest pos) env whole) Qb kn' frs') kn frs) :
    WP P A (isTrue (.BoolOp .Or (x :: rest) pos) env whole) Qb kn frs := fun _ _ hs => wpX_isTrue_or (H.use hs fun c _ _ h k hs' hq => by
  cases c
  · exact (show WP P A _ _ _ _ from hq) h k hs'
  · exact WP.fin hs' hq)
theorem t_or0 {whole : Sem Value} (h : Qb false kn frs) : WP P A (isTrue (.BoolOp .Or [] pos) env whole) Qb kn frs := fun _ _ hs => wx (isTrue_or_nil (WP.fin hs h))
theorem e_ifexp {test body orelse : Expr} (H : WP P A (isTrue test env (eval test env)) (fun b kn' frs' => if b = true then WP P A (eval body env) Q kn' frs' else WP P A (eval orelse env) Q kn' frs') kn frs) :
    WP P A (eval (.IfExp test body orelse pos) env) Q kn frs := fun _ _ hs => wpX_IfExp (H.use hs fun b _ _ h k hs' hq => by cases b <;> exact hq h k hs')
theorem e_un {op : UnaryOp} {x : Expr} (H : WP P A (eval x env) (fun v kn' frs' => WP P A (unaryOp op v) Q kn' frs') kn frs) : WP P A (eval (.UnaryOp op x pos) env) Q kn frs :=
  fun _ _ hs => wpX_UnaryOp (H.use hs fun _ _ _ h k hs₂ h₂ => (h₂ : WP _ _ _ _ _ _) h k hs₂)
theorem e_sub {value slice : Expr} (H : WP P A (eval value env) (fun o kn₁ frs₁ => WP P A (eval slice env) (fun i kn₂ frs₂ => WP P A (subscriptTail value slice o i) Q kn₂ frs₂) kn₁ frs₁) kn frs) : WP P A (eval (.Subscript value slice pos) env) Q kn frs :=
  fun _ _ hs => wpX_Subscript (H.use hs fun _ _ _ _ _ hs₁ h₁ => h₁.use hs₁ fun _ _ _ h k hs₂ h₂ => (h₂ : WP _ _ _ _ _ _) h k hs₂)
theorem e_tuple {elts : List Expr} {k : Nat} (H : WP P A (spliced (backTo pos (starEach elts env))) (fun vs kn₁ frs₁ => WP P A (newTuple vs) Q kn₁ frs₁) kn frs) : WP P A (eval (.Tuple elts k pos) env) Q kn frs :=
  fun _ _ hs => wpX_Tuple (H.use hs fun _ _ _ h k hs₂ h₂ => (h₂ : WP _ _ _ _ _ _) h k hs₂)
theorem e_list {elts : List Expr} (H : WP P A (spliced (backTo pos (starEach elts env))) (fun vs kn₁ frs₁ => WP P A (newList vs) Q kn₁ frs₁) kn frs) : WP P A (eval (.List elts pos) env) Q kn frs :=
  fun _ _ hs => wpX_List (H.use hs fun _ _ _ h k hs₂ h₂ => (h₂ : WP _ _ _ _ _ _) h k hs₂)
theorem n_tuple {vs : List Value} (h : ∀ a, kn a = none → Q (.ref a) (kn.set a (to vs)) frs) (hsz : vs.length ≤ sizeLine := by decide +kernel) : WP P A (newTuple vs) Q kn frs := fun hp _ hs =>
  wx (wpAny_newObj_type ⟨_, _, _, _, rfl, hs.push _, h _ (hs.free (get_size hp)).kn⟩ (by show vs.toArray.size ≤ sizeLine; rw [List.size_toArray]; exact hsz))
theorem n_list {vs : List Value} (h : ∀ a, kn a = none → Q (.ref a) (kn.set a (lo vs 0)) frs) (hsz : vs.length ≤ sizeLine := by decide +kernel) : WP P A (newList vs) Q kn frs := fun hp _ hs =>
  wx (wpAny_newObj_type ⟨_, _, _, _, rfl, hs.push _, h _ (hs.free (get_size hp)).kn⟩ (by show vs.toArray.size ≤ sizeLine; rw [List.size_toArray]; exact hsz))
/-! ## arguments, calls -/
theorem a_nil {Q : List Value → Kn → List Fm → Prop} (h : Q [] kn frs) : WP P A (spliced (backTo pos (starEach [] env))) Q kn frs := fun _ _ hs => wx (args_nil (WP.fin hs h))
theorem a_cons {e : Expr} {rest : List Expr} {Q : List Value → Kn → List Fm → Prop} (H : WP P A (eval e env) (fun v kn₁ frs₁ => WP P A (spliced (backTo pos (starEach rest env))) (fun vs => Q (v :: vs)) kn₁ frs₁) kn frs)
    (he : starEach (e :: rest) env = (false, eval e env) :: starEach rest env := by rfl) : WP P A (spliced (backTo pos (starEach (e :: rest) env))) Q kn frs :=
  fun _ _ hs => wpX_args (H.use hs fun _ _ _ h k hs₂ h₂ => (h₂ : WP _ _ _ _ _ _) h k hs₂) he
theorem e_call {func : Expr} {args : List Expr} (H : WP P A (eval func env) (fun f kn₁ frs₁ => WP P A (callWith pos f [] (backTo pos (starEach args env)) []) Q kn₁ frs₁) kn frs)
    (he : eval (.Call func args [] pos) env = (do callWith pos (← eval func env) [] (backTo pos (starEach args env)) (backToKw pos (keywordEach [] env))) := by rfl) : WP P A (eval (.Call func args [] pos) env) Q kn frs :=
  fun _ _ hs => wpX_Call (H.use hs fun _ _ _ h k hs₂ h₂ => (h₂ : WP _ _ _ _ _ _) h k hs₂) he
theorem e_meth {o : Expr} {name : Str} {apos : Pos} {args : List Expr} {pl : Sem Bool} (H : WP P A (eval o env) (fun ov kn₁ frs₁ => WP P A (getMethod ov name pl) (fun fx kn₂ frs₂ => WP P A (callWith pos fx.1 fx.2 (backTo pos (starEach args env)) []) Q kn₂ frs₂) kn₁ frs₁) kn frs)
    (he : eval (.Call (.Attribute o name apos) args [] pos) env = (do
      let ov ← eval o env
      standAt apos.atName
      let (f, first) ← holding [ov] (getMethod ov name pl)
      callWith pos f first (backTo pos (starEach args env)) []) := by rfl) : WP P A (eval (.Call (.Attribute o name apos) args [] pos) env) Q kn frs :=
  fun _ _ hs => wpX_Meth (H.use hs fun _ _ _ _ _ hs₁ h₁ => h₁.use hs₁ fun _ _ _ h k hs₂ h₂ => (h₂ : WP _ _ _ _ _ _) h k hs₂) he
theorem w_any {f : Value} {first : List Value} {e : Expr} {rest : List Expr} (hk : ∀ kn frs h, St P kn frs h → ∃ k, Looks (model prg P.w) h (keeperOf f) k)
    (H : WP P A (spliced (backTo pos (starEach (e :: rest) env))) (fun vs kn₁ frs₁ => WP P A (call f (first ++ vs)) Q kn₁ frs₁) kn frs) (he : starEach (e :: rest) env = (false, eval e env) :: starEach rest env) :
    WP P A (callWith pos f first (backTo pos (starEach (e :: rest) env)) []) Q kn frs := fun _ _ hs => by
  rw [he] at H ⊢
  exact wpX_callWith (wpX_evalArgs (rest := backTo pos (starEach rest env)) (H.use hs fun _ _ _ h k hs₂ h₂ => ⟨hk _ _ h hs₂, (h₂ : WP _ _ _ _ _ _) h k hs₂⟩))
theorem w_any0 {f : Value} {first : List Value} (hk : ∀ kn frs h, St P kn frs h → ∃ k, Looks (model prg P.w) h (keeperOf f) k) (H : WP P A (call f first) Q kn frs) : WP P A (callWith pos f first (backTo pos (starEach [] env)) []) Q kn frs := fun h k hs => by
  refine wpX_callWith (wx (evalArgs_nil3 ⟨hk _ _ h hs, ?_⟩))
  show wpX _ _ (call f (first ++ [])) _ _ _
  rw [List.append_nil]
  exact H h k hs
theorem w_blt {id : String} {first : List Value} {e : Expr} {rest : List Expr} (H : WP P A (spliced (backTo pos (starEach (e :: rest) env))) (fun vs kn₁ frs₁ => WP P A (call (.builtin id) (first ++ vs)) Q kn₁ frs₁) kn frs)
    (he : starEach (e :: rest) env = (false, eval e env) :: starEach rest env := by rfl) : WP P A (callWith pos (.builtin id) first (backTo pos (starEach (e :: rest) env)) []) Q kn frs := w_any (fun _ _ _ _ => ⟨_, Looks.of_pure rfl⟩) H he
theorem w_blt0 {id : String} {first : List Value} (H : WP P A (call (.builtin id) first) Q kn frs) : WP P A (callWith pos (.builtin id) first (backTo pos (starEach [] env)) []) Q kn frs := w_any0 (fun _ _ _ _ => ⟨_, Looks.of_pure rfl⟩) H
theorem w_ty {T : String} {e : Expr} {rest : List Expr} (H : WP P A (spliced (backTo pos (starEach (e :: rest) env))) (fun vs kn₁ frs₁ => WP P A (call (.type T) vs) Q kn₁ frs₁) kn frs)
    (he : starEach (e :: rest) env = (false, eval e env) :: starEach rest env := by rfl) : WP P A (callWith pos (.type T) [] (backTo pos (starEach (e :: rest) env)) []) Q kn frs := w_any (fun _ _ _ _ => ⟨_, Looks.of_pure rfl⟩) H he
theorem w_ty0 {T : String} (H : WP P A (call (.type T) []) Q kn frs) : WP P A (callWith pos (.type T) [] (backTo pos (starEach [] env)) []) Q kn frs := w_any0 (fun _ _ _ _ => ⟨_, Looks.of_pure rfl⟩) H
theorem kpr {f : Value} (hk : keepIn (KK P.w.params) f = true) (kn : Kn) (frs : List Fm) (h : Heap) (hs : St P kn frs h) : ∃ k, Looks (model prg P.w) h (keeperOf f) k := by
  obtain ⟨k, _, L⟩ := looks_keep (M := model prg P.w) hk (fun a o e => hs.base a o (P.kin a o e))
  exact ⟨k, L⟩
theorem w_fn {f : Value} {first : List Value} {e : Expr} {rest : List Expr} (hk : keepIn (KK P.w.params) f = true) (H : WP P A (spliced (backTo pos (starEach (e :: rest) env))) (fun vs kn₁ frs₁ => WP P A (call f (first ++ vs)) Q kn₁ frs₁) kn frs)
    (he : starEach (e :: rest) env = (false, eval e env) :: starEach rest env := by rfl) : WP P A (callWith pos f first (backTo pos (starEach (e :: rest) env)) []) Q kn frs := w_any (kpr hk) H he
theorem w_fn0 {f : Value} {first : List Value} (hk : keepIn (KK P.w.params) f = true) (H : WP P A (call f first) Q kn frs) : WP P A (callWith pos f first (backTo pos (starEach [] env)) []) Q kn frs := w_any0 (kpr hk) H
/-- a call of a def of the text, its arguments by place -/
theorem c_posC {name qual : Str} {params : Arguments} {body : List Stmt} {scope : Scope} {dV kV doc pm cdv ct oc : Value} {an od : Option Addr} {osl : Array (Option Value)} {f : Addr} {args : List Value}
    (binds : List (Str × Value)) (cs : Addr → List (Str × Addr)) {n : Nat} (hA : Rm n A) (ho : (KK P.w.params).lookup f = some ⟨oc, od, .func (fnOf name qual params body scope dV kV doc pm an cdv ct), osl⟩) (hcd : codeIn (KK P.w.params) cdv qual = true)
    (hb : bindArgs (fnOf name qual params body scope dV kV doc pm an cdv ct) ⟨args, []⟩ = pure binds) (hok : BindOk scope binds = true) (hcs : ∀ L, cellsFrom (L + 1) scope.names [] = cs L)
    (H : ∀ L, WP P (A.deeper (envX qual scope L f cdv (cs L))) (execs body (envX qual scope L f cdv (cs L))) (Back Q) kn (⟨L, cs L, binds⟩ :: frs))
    (hco : scope.isCoroutine = false := by rfl) (hgen : scope.isGenerator = false := by rfl) (hk : scope.kind = .function := by rfl) : CP P A (.call (.ref f) ⟨args, []⟩) Q kn frs :=
  c_defC (args := ⟨args, []⟩) (Nat.lt_of_le_of_lt (Nat.le_add_right _ _) hA.depth) ho hcd (by rw [hb]; exact WP.ret ⟨hok, fun L => by rw [hcs L]; exact H L⟩) hco hgen hk
/-- a call of a def of the text, its arguments by place -/
theorem c_pos {name qual : Str} {params : Arguments} {body : List Stmt} {scope : Scope} {dV kV doc pm cdv ct oc : Value} {an od : Option Addr} {osl : Array (Option Value)} {f : Addr} {args : List Value}
    (binds : List (Str × Value)) (cs : Addr → List (Str × Addr)) {n : Nat} (hA : Rm n A) (ho : (KK P.w.params).lookup f = some ⟨oc, od, .func (fnOf name qual params body scope dV kV doc pm an cdv ct), osl⟩) (hcd : codeIn (KK P.w.params) cdv qual = true)
    (hb : bindArgs (fnOf name qual params body scope dV kV doc pm an cdv ct) ⟨args, []⟩ = pure binds) (hok : BindOk scope binds = true) (hcs : ∀ L, cellsFrom (L + 1) scope.names [] = cs L)
    (H : ∀ L, WP P (A.deeper (envX qual scope L f cdv (cs L))) (execs body (envX qual scope L f cdv (cs L))) (Back Q) kn (⟨L, cs L, binds⟩ :: frs))
    (hco : scope.isCoroutine = false := by rfl) (hgen : scope.isGenerator = false := by rfl) (hk : scope.kind = .function := by rfl) : WP P A (call (.ref f) args) Q kn frs :=
  c_def (args := ⟨args, []⟩) (Nat.lt_of_le_of_lt (Nat.le_add_right _ _) hA.depth) ho hcd (by rw [hb]; exact WP.ret ⟨hok, fun L => by rw [hcs L]; exact H L⟩) hco hgen hk
theorem th_next {rest : List Stmt} {Q : Flow → Kn → List Fm → Prop} (h : WP P A (execs rest env) Q kn frs) : Then P A env rest Q .next kn frs := h
theorem th_ret {rest : List Stmt} {Q : Flow → Kn → List Fm → Prop} {v : Value} (h : Q (.ret v) kn frs) : Then P A env rest Q (.ret v) kn frs := h
theorem th_brk {rest : List Stmt} {Q : Flow → Kn → List Fm → Prop} (h : Q .brk kn frs) : Then P A env rest Q .brk kn frs := h
theorem th_cont {rest : List Stmt} {Q : Flow → Kn → List Fm → Prop} (h : Q .cont kn frs) : Then P A env rest Q .cont kn frs := h
theorem bk_ret {v : Value} {f : Fm} (h : Q v kn frs) : Back Q (.ret v) kn (f :: frs) := h
theorem bk_next {f : Fm} (h : Q .none kn frs) : Back Q .next kn (f :: frs) := h
theorem tu_next {Q : Flow → Kn → List Fm → Prop} {I : Kn → List Fm → Prop} (h : I kn frs) : Turn Q I .next kn frs := h
theorem tu_cont {Q : Flow → Kn → List Fm → Prop} {I : Kn → List Fm → Prop} (h : I kn frs) : Turn Q I .cont kn frs := h
theorem tu_brk {Q : Flow → Kn → List Fm → Prop} {I : Kn → List Fm → Prop} (h : Q .next kn frs) : Turn Q I .brk kn frs := h
theorem tu_ret {Q : Flow → Kn → List Fm → Prop} {I : Kn → List Fm → Prop} {v : Value} (h : Q (.ret v) kn frs) : Turn Q I (.ret v) kn frs := h
theorem x_brk {Q : Flow → Kn → List Fm → Prop} (h : Q .brk kn frs) : WP P A (exec (.Break pos) env) Q kn frs := fun _ _ hs => wx (wpAny_Break (WP.fin hs h))
theorem x_cont {Q : Flow → Kn → List Fm → Prop} (h : Q .cont kn frs) : WP P A (exec (.Continue pos) env) Q kn frs := fun _ _ hs => wx (wpAny_Continue (WP.fin hs h))
theorem x_pass {Q : Flow → Kn → List Fm → Prop} (h : Q .next kn frs) : WP P A (exec (.Pass pos) env) Q kn frs := fun _ _ hs => wx (wpAny_Pass (WP.fin hs h))
/-! ## ints -/
variable {a b : Int} {t u : Tok}
theorem i_add (h : ∀ t, Q (.int (a + b) t) kn frs) : WP P A (binaryOp .Add (.int a t) (.int b u)) Q kn frs := fun _ _ hs => wx (add_int ⟨_, _, _, _, rfl, hs, h _⟩)
theorem i_sub (h : ∀ t, Q (.int (a - b) t) kn frs) : WP P A (binaryOp .Sub (.int a t) (.int b u)) Q kn frs := fun _ _ hs => wx (sub_int ⟨_, _, _, _, rfl, hs, h _⟩)
theorem i_mul (hb : (a.natAbs < 2 ^ 63 ∨ b.natAbs < 2 ^ 63)) (h : ∀ t, Q (.int (a * b) t) kn frs) : WP P A (binaryOp .Mult (.int a t) (.int b u)) Q kn frs := fun _ _ hs =>
  wx (mul_int ⟨_, _, _, _, rfl, hs, h _⟩ (hb.elim (fun q => .of_left (intBits_le_64 (by (first | lia | omega)) (by (first | lia | omega)))) fun q => .of_right (intBits_le_64 (by (first | lia | omega)) (by (first | lia | omega)))))
theorem i_fdiv (hb : 0 < b) (hb' : b < 1073741824) (h : ∀ t, Q (.int (a / b) t) kn frs) : WP P A (binaryOp .FloorDiv (.int a t) (.int b u)) Q kn frs := fun _ _ hs =>
  wx (floordiv_int (by (first | lia | omega)) ⟨_, _, _, _, rfl, hs, by rw [Int.fdiv_eq_ediv_of_nonneg _ (by (first | lia | omega))]; exact h _⟩ (.inl (PyProof.noPylong_small (by (first | lia | omega)))))
theorem i_mod (hb : 0 < b) (h : ∀ t, Q (.int (a % b) t) kn frs) : WP P A (binaryOp .Mod (.int a t) (.int b u)) Q kn frs := fun _ _ hs =>
  wx (mod_int' (by (first | lia | omega)) ⟨_, _, _, _, rfl, hs, by rw [Int.fmod_eq_emod_of_nonneg _ (by (first | lia | omega))]; exact h _⟩)
theorem i_iadd (h : ∀ t, Q (.int (a + b) t) kn frs) : WP P A (inplaceOp .Add (.int a t) (.int b u)) Q kn frs := fun _ _ hs => wx (iadd_int ⟨_, _, _, _, rfl, hs, h _⟩)
theorem i_isub (h : ∀ t, Q (.int (a - b) t) kn frs) : WP P A (inplaceOp .Sub (.int a t) (.int b u)) Q kn frs := fun _ _ hs => wx (isub_int ⟨_, _, _, _, rfl, hs, h _⟩)
theorem i_ifdiv (hb : 0 < b) (hb' : b < 1073741824) (h : ∀ t, Q (.int (a / b) t) kn frs) : WP P A (inplaceOp .FloorDiv (.int a t) (.int b u)) Q kn frs := fun _ _ hs =>
  wx (ifloordiv_int (by (first | lia | omega)) ⟨_, _, _, _, rfl, hs, by rw [Int.fdiv_eq_ediv_of_nonneg _ (by (first | lia | omega))]; exact h _⟩ (.inl (PyProof.noPylong_small (by (first | lia | omega)))))
theorem i_neg (h : ∀ t, Q (.int (-a) t) kn frs) : WP P A (unaryOp .USub (.int a t)) Q kn frs := fun _ _ hs => wx (PySem.P.neg_int ⟨_, _, _, _, rfl, hs, h _⟩)
theorem i_eq (h : Q (.bool (a == b)) kn frs) : WP P A (compareOp .Eq (.int a t) (.int b u)) Q kn frs := fun _ _ hs => wx (PySem.P.eq_int (WP.fin hs h))
theorem i_ne (h : Q (.bool (a != b)) kn frs) : WP P A (compareOp .NotEq (.int a t) (.int b u)) Q kn frs := fun _ _ hs => wx (PySem.P.ne_int (WP.fin hs h))
theorem i_lt (h : Q (.bool (decide (a < b))) kn frs) : WP P A (compareOp .Lt (.int a t) (.int b u)) Q kn frs := fun _ _ hs => wx (PySem.P.lt_int (WP.fin hs h))
theorem i_le (h : Q (.bool (decide (a ≤ b))) kn frs) : WP P A (compareOp .LtE (.int a t) (.int b u)) Q kn frs := fun _ _ hs => wx (PySem.P.le_int (WP.fin hs h))
theorem i_gt (h : Q (.bool (decide (a > b))) kn frs) : WP P A (compareOp .Gt (.int a t) (.int b u)) Q kn frs := fun _ _ hs => wx (PySem.P.gt_int (WP.fin hs h))
theorem i_ge (h : Q (.bool (decide (a ≥ b))) kn frs) : WP P A (compareOp .GtE (.int a t) (.int b u)) Q kn frs := fun _ _ hs => wx (PySem.P.ge_int (WP.fin hs h))
theorem tr_bool {c : Bool} (h : Qb c kn frs) : WP P A (truthy (.bool c)) Qb kn frs := fun _ _ hs => wx (wpAny_truthy_bool (WP.fin hs h))
theorem tr_int (h : Qb (a != 0) kn frs) : WP P A (truthy (.int a t)) Qb kn frs := fun _ _ hs => wx (PySem.P.truthy_int (WP.fin hs h))
theorem tr_none (h : Qb false kn frs) : WP P A (truthy .none) Qb kn frs := fun _ _ hs => wx (truthy_none (WP.fin hs h))
end
end
/-! # part X2 -/
section
open PySem PySem.W PyProof.Rows
open PySem.Sem (wp)
section
variable {w : World} {A : Around} {E : Value → Shared → Prop} {s : Shared}
theorem wpX_stackNo {f : Code × Pos → Bool} {M : Model} {Q : Bool → Shared → Prop} (hf : ∀ x : Code × Pos, Dec x.1 = false → f x = false) (h : Q false s) : wpX M A (do return (← stack).any f) Q E s := fun Γ p hΓ hd hc => by
  show Q (((Γ.code, p) :: Γ.below).any f) s
  have : ((Γ.code, p) :: Γ.below).any f = false := by
    rw [List.any_eq_false]
    intro x hx
    rw [Bool.not_eq_true]
    exact hf x (Cln.cons hd hc x hx)
  rw [this]; exact h
theorem wpX_exported {self : Value} {M : Model} {Q : Bool → Shared → Prop} (h : Q false s) : wpX M A (Builtin.Bytes.exported self) Q E s := by
  delta Builtin.Bytes.exported
  refine wpX_stackNo ?_ h
  rintro ⟨c, p⟩ h
  cases c with
  | builtin id args =>
    have h' : (["bytearray.__contains__", "bytearray.__mod__", "bytearray.__rmod__", "_struct.pack_into.held", "bytearray.find.held"].contains id || Builtin.Bytes.decodersThatHold.contains id) = false := h
    rw [Bool.or_eq_false_iff] at h'
    obtain ⟨h1, h2⟩ := h'
    simp only [List.contains_cons, List.contains_nil, Bool.or_false, Bool.or_eq_false_iff, beq_eq_false_iff_ne] at h1
    obtain ⟨e1, e2, e3, e4, e5⟩ := h1
    obtain ⟨a, b⟩ := args
    delta Builtin.Bytes.exported.match_1
    refine Eq.trans (dif_neg e1) ?_
    refine Eq.trans (dif_neg e2) ?_
    refine Eq.trans (dif_neg e3) ?_
    refine Eq.trans (dif_neg e4) ?_
    refine Eq.trans (dif_neg e5) ?_
    cases a with
    | nil => rfl
    | cons v r => show (_ && _) = false; rw [h2]; exact Bool.and_false _
  | _ => rfl
theorem callX_entry {T id : String} {name : Str} {b : Builtin} {self : Value} {rest : List Value} {Q : Value → Shared → Prop} (sl : Slot T name id) (hT : s.TypeIs self T) (hb : entryFor table id = some b)
    (h : wpX (model prg w) A.in1 (b ⟨self :: rest, []⟩) (fun fin s' => ∃ v, fin = .done (.ret v) ∧ Q v s') E s) (ha : argsOk id ⟨self :: rest, []⟩) (hd : Dec (.builtin id ⟨self :: rest, []⟩) = false) :
    wpX (model prg w) A (call (.builtin id) (self :: rest)) Q E s := by
  refine wpX_call (codeX_of_tree ?_)
  show wpX _ A.in1 (do checkBuiltinCall id ⟨self :: rest, []⟩; again (.builtin id ⟨self :: rest, []⟩)) _ _ s
  refine wpX_bind (wx (sl.check _ _ _ _ _ _ _ _ hT ha (wpX_pure (And.intro (plainId_quiet sl.plain _) (codeX_of_tree ?_ hd)))))
  show wpX _ (A.under (.builtin id ⟨self :: rest, []⟩)) (match entryFor table id with | some b => b ⟨self :: rest, []⟩ | none => unsupported ((withoutEnding? id "#data").getD id)) _ _ s
  rw [Around.under_plainId sl.plain _, hb]
  exact wpX_mono h (fun fin s' ⟨v, e, hq⟩ => by subst e; exact hq) fun _ _ e => e
theorem codeX_builtin {R : Result → Shared → Prop} {id : String} {args : Args} {b : Builtin} (hb : entryFor table id = some b)
    (h : wpX (model prg w) (A.under (.builtin id args)) (b args) (fun fin s' => match fin with | .done f => R (.ok f) s' | .again c' => c'.quiet = true ∧ codeX (model prg w) A c' R s') (fun e s' => R (.error e) s') s) (hd : Dec (.builtin id args) = false) :
    codeX (model prg w) A (.builtin id args) R s := by
  refine codeX_of_tree ?_ hd
  show wpX _ _ (match entryFor table id with | some b => b args | none => unsupported ((withoutEnding? id "#data").getD id)) _ _ s
  rw [hb]; exact h
theorem codeX_callb {R : Result → Shared → Prop} {id : String} {args : Args} (hc : ∀ (Q : Unit → Shared → Prop) (E : Value → Shared → Prop), Q () s → wpAny (model prg w) A.in1 (checkBuiltinCall id args) Q E s) (hq : (Code.builtin id args).quiet = true) (h : codeX (model prg w) A (.builtin id args) R s) :
    codeX (model prg w) A (.call (.builtin id) args) R s := by
  refine codeX_of_tree ?_
  show wpX _ A.in1 (do checkBuiltinCall id args; again (.builtin id args)) _ _ s
  exact wpX_bind (wx (hc _ _ (wpX_pure (And.intro hq h))))
end
end
/-! # part X3 -/
section
open PySem PySem.W PyProof.Rows PySem.Calls Builtin.ObjectAttr
open PySem.Sem (wp)
section
variable {w : World} {A : Around} {R : Result → Shared → Prop} {C : Addr} {h : Heap} {g : Array GenState} {d : Drawn} {t : Nat} {os : OsState}
theorem wpX_lk {α β : Type} {M : Model} {E : Value → Shared → Prop} {m : Sem α} {a : α} {f : α → Sem β} {Q : β → Shared → Prop} (L : Looks M h m a) (H : wpX M A (f a) Q E ⟨h, g, d, t, os⟩) : wpX M A (m >>= f) Q E ⟨h, g, d, t, os⟩ := wpX_bind (wx (L.at H))
/-- a class of the text is called: its object is made, then its __init__ runs -/
theorem codeX_make {rest : List Value} {kw : List (Str × Value)} {init : Value} (Y : Makes (model prg w) h C) (hi : Looks (model prg w) h (typeLookup (.ref C) "__init__") (some init))
    (hb : ∀ self, Looks (model prg w) h (bindSpecial init self) (init, [self])) (hne : (some init != some (Value.builtin "object.__init__")) = true)
    (hq : codeX (model prg w) (A.under (.builtin "type.__call__" ⟨.ref C :: rest, kw⟩)) (.call init ⟨.ref (h.objs.size + 1) :: rest, kw⟩) (InitBack (h.objs.size + 1) R) ⟨(h.push emptyDict).push (instObj C h.objs.size), g, d, t, os⟩) :
    codeX (model prg w) A (.call (.ref C) ⟨rest, kw⟩) R ⟨h, g, d, t, os⟩ := by
  have Y' := Y
  obtain ⟨⟨oc, od, cd, sl, hC, e1, e2, e4⟩, made, base, self, top, call, typ⟩ := Y
  refine codeX_of_tree ?_
  show wpX _ _ (callAny (.ref C) _) _ _ _
  simp only [callAny]
  refine wpX_bind (wx (wpAny_load hC ?_))
  show wpX _ _ (callAny.viaDunder (.ref C) _) _ _ _
  unfold callAny.viaDunder
  refine wpX_bind (wx (call.at ?_))
  dsimp only
  rw [tc_bind]
  refine wpX_bind (wpX_pure (wpX_bind (wpX_pure ?_)))
  refine wpX_pure (a := Fin.again (.call (.builtin "type.__call__") ⟨.ref C :: rest, kw⟩)) (And.intro rfl ?_)
  refine codeX_callb (fun Q E q => by with_reducible exact check_slot tc_kind tc_split typ (tc_args _ _ _) q) (Code.quiet_builtin _ (by decide +kernel)) (codeX_builtin entry_typeCall ?_ (by kernel_rfl))
  have hm : Looks (model prg w) h (mroOf (.ref C)) cd.mro := ((Looks.ld (part := none) hC).andThen .now).andThen .now
  show wpX _ _ (do
    if (← mroOf (.ref C)).isEmpty then rule "type.call.half-made"; raiseError "TypeError" s!"cannot create '{← typeName (.ref C)}' instances"
    let new ← match ← Bind.madeBy (.ref C) with
      | some id => pure (.builtin id)
      | none => getAttr (.ref C) "__new__"
    let obj ← holding [new] (PySem.call new (.ref C :: rest) kw)
    if !(← isInstance obj (.ref C)) then rule "type.call.new-gave-other-type"; return ← ret obj
    match ← holding [obj] (callSpecial? obj "__init__" rest kw) with
    | none => ret obj
    | some r =>
      if r != .none then
        rule "type.call.init-returned-value"
        raiseError "TypeError" s!"__init__() should return None, not '{← typeNameOf r}'"
      ret obj) _ _ _
  refine wpX_lk hm ?_
  rw [e4]
  simp only [Bool.false_eq_true, if_false]
  refine wpX_lk made ?_
  dsimp only
  refine wpX_bind (wpX_pure (wpX_bind (wpX_hold (wpX_call (cx (new_K Y' hi (.inl hne) ?_))))))
  have k : ∀ b o, h.get? b = some o → ((h.push emptyDict).push (instObj C h.objs.size)).get? b = some o := fun b o e => Heap.get?_push_of_some _ (Heap.get?_push_of_some _ e)
  have hx : ((h.push emptyDict).push (instObj C h.objs.size)).get? (h.objs.size + 1) = some (instObj C h.objs.size) := by heap_get
  have t1 : Looks (model prg w) ((h.push emptyDict).push (instObj C h.objs.size)) (typeOf (.ref (h.objs.size + 1))) (.ref C) := (Looks.ld hx).andThen .now
  have s1 : Looks (model prg w) ((h.push emptyDict).push (instObj C h.objs.size)) (isInstance (.ref (h.objs.size + 1)) (.ref C)) true := t1.andThen (self.keeps k)
  have i1 : Looks (model prg w) ((h.push emptyDict).push (instObj C h.objs.size)) (specialOf (.ref (h.objs.size + 1)) "__init__") (some init) := t1.andThen (hi.keeps k)
  have b1 := (hb (.ref (h.objs.size + 1))).keeps k
  show wpX _ _ _ _ _ _
  refine wpX_lk s1 ?_
  simp only [Bool.not_true, Bool.false_eq_true, if_false]
  refine wpX_bind (wpX_hold ?_)
  unfold callSpecial?
  refine wpX_lk i1 ?_
  dsimp only
  refine wpX_hold (wpX_lk b1 ?_)
  dsimp only
  refine wpX_bind (wpX_call (codeX_mono hq fun r s' z => ?_))
  rcases r with e | (v | _ | _ | _) <;> first | exact z | exact z.elim | skip
  obtain ⟨rfl, z⟩ := z
  exact wpX_pure (wpX_pure z)
end
end
/-! # part X4 -/
section
open PySem PySem.W PyProof.Rows
open PySem.Sem (wp)
/-! ## try, an exception caught -/
section
variable {w : World} {A : Around} {s : Shared} {env : Env}
theorem wpX_attempt2 {α : Type} {M : Model} {E : Value → Shared → Prop} {m : Sem α} {Q : Except Value α → Shared → Prop} (h : wpX M A m (fun a => Q (.ok a)) (fun e => Q (.error e)) s) : wpX M A m.attempt Q E s := fun Γ p hΓ hd hc => by
  rw [Sem.wp_attempt]
  exact Sem.wp_mono M Γ m (fun _ _ _ h' => h') (fun _ _ _ h' => h') p s (h Γ p hΓ hd hc)
theorem wpX_runOwnH {M : Model} {E : Value → Shared → Prop} {c : Code} {hv : Value} {Q : Flow → Shared → Prop} (hc : codeX M (A.mark (some hv)) c (okR Q) s) (hnb : hv ≠ byPass) : wpX M A (runOwn c env (some hv)) Q E s := by
  unfold runOwn
  exact wpX_onRaise (wpX_run (codeX_mono hc fun r s' h => by cases r <;> exact h) fun x => hnb (Option.some.inj x))
theorem codeX_handlers_test {e : Value} {t : Expr} {pos : Pos} {Q : Flow → Shared → Prop} (h : wpX (model prg w) A (eval t env) (fun c s₁ => wpX (model prg w) A (excMatches e c) (fun b s₂ => Q (if b then .brk else .next) s₂) NoE s₁) NoE s) :
    codeX (model prg w) A (.handlers e [.ExceptHandler (some t) none [] pos] env) (okR Q) s := by
  refine codeX_of_tree ?_
  show wpX _ A (do return Fin.done (← (handleWith e env [.ExceptHandler (some t) none [] pos]).onRaise (fun x => do noteFrame x env; theTreesLotGoes x))) _ _ s
  refine wpX_bind (wpX_onRaise ?_)
  unfold handleWith
  exact wpX_stand (wpX_then h fun c s₁ h₁ => wpX_stand (wpX_then h₁ fun b s₂ h₂ => wpX_pure (wpX_pure h₂)))
theorem codeX_handlers_suite {e : Value} {b₀ : Stmt} {body : List Stmt} {pos : Pos} {Q : Flow → Shared → Prop} (h : wpX (model prg w) A (setFlight e none) (fun _ s₁ => wpX (model prg w) A (execs (b₀ :: body) env) Q NoE s₁) NoE s) :
    codeX (model prg w) A (.handlers e [.ExceptHandler none none (b₀ :: body) pos] env) (okR Q) s := by
  refine codeX_of_tree ?_
  show wpX _ A (do return Fin.done (← (handleWith e env [.ExceptHandler none none (b₀ :: body) pos]).onRaise (fun x => do noteFrame x env; theTreesLotGoes x))) _ _ s
  refine wpX_bind (wpX_onRaise ?_)
  unfold handleWith
  exact wpX_stand (wpX_then h fun _ s₁ h₁ => wpX_mono h₁ (fun f s₂ h₂ => wpX_pure h₂) fun _ _ x => x)
/-- the one clause that names a built-in class, which is the exception's own -/
theorem wpX_TryHit {body orelse : List Stmt} {t : Expr} {b₀ : Stmt} {suite : List Stmt} {hpos pos : Pos} {T : String} {Q : Flow → Shared → Prop} {E : Value → Shared → Prop}
    (hexc : isSubtype (.type T) (.type "BaseException") = pure true) (hnt : isSubtype (.type ((Manifest.find? T).elim "type" fun x => x.metatype)) (.type "tuple") = pure false) (hsub : isSubtype (.type T) (.type T) = pure true)
    (h : wpX (model prg w) A (execs body env) (fun f s₁ => match f with | .next => wpX (model prg w) A (execs orelse env) Q E s₁ | f => Q f s₁)
      (fun e s₁ => ∃ ea, e = .ref ea ∧ wpX (model prg w) A (noteFrame (.ref ea) env) (fun _ s₂ => wpX (model prg w) A (setFlight (.ref ea) none) (fun _ s₃ =>
        wpX (model prg w) (A.mark (some (.ref ea))) (eval t env) (fun c s₄ => c = .type T ∧ s₄.TypeIs (.ref ea) T ∧
          wpX (model prg w) (A.mark (some (.ref ea))) (setFlight (.ref ea) none) (fun _ s₅ => wpX (model prg w) (A.mark (some (.ref ea))) (execs (b₀ :: suite) env) Q NoE s₅) NoE s₄) NoE s₃) E s₂) E s₁) s) :
    wpX (model prg w) A (exec (.Try body [.ExceptHandler (some t) none (b₀ :: suite) hpos] orelse [] pos) env) Q E s := by
  rw [arm_exec_Try]
  refine wpX_stand ?_
  unfold tryStmt
  simp only [List.isEmpty_nil, if_true, List.isEmpty_cons, Bool.false_and, Bool.false_eq_true, if_false]
  refine wpX_bind (wpX_attempt2 (wpX_mono h (fun f s₁ h₁ => ?_) fun e s₁ h₁ => ?_))
  · cases f <;> first | exact h₁ | exact wpX_pure h₁
  · obtain ⟨ea, rfl, h₁⟩ := h₁
    refine wpX_bind (wpX_mono h₁ (fun _ s₂ h₂ => wpX_bind (wpX_mono h₂ (fun _ s₃ h₃ => ?_) fun _ _ x => x)) fun _ _ x => x)
    rw [handleBy]
    have hnb : (Value.ref ea) ≠ byPass := by intro q; cases q
    refine wpX_bind (wpX_hold (wpX_runOwnH (codeX_handlers_test (wpX_mono h₃ (fun c s₄ h₄ => ?_) fun _ _ x => x)) hnb))
    obtain ⟨rfl, hX, hk⟩ := h₄
    refine wx (wpAny_excMatches_type hX hexc hnt hsub ?_)
    show wpX _ _ _ _ _ _
    refine wpX_bind (wpX_pure ?_)
    simp only [Bool.not_true, Bool.false_eq_true, if_false]
    exact wpX_bind (wpX_hold (wpX_runOwnH (codeX_handlers_suite (wpX_mono hk (fun _ s₅ h₅ => wpX_mono h₅ (fun f s₆ h₆ => wpX_pure h₆) fun _ _ x => x) fun _ _ x => x)) hnb))
end
end
/-! # part BA -/
section
open PySem PySem.W PyProof.Rows
open PySem.Sem (wp)
set_option linter.deprecated false
theorem own_ba : Manifest.owners.lookup (String.ofList ['y', 'a', 'r', 'r', 'a', 'e', 't', 'y', 'b'].reverse) = some Manifest.sig_bytearray := by kernel_rfl
theorem slot_ba_append : Slot "bytearray" "append" "bytearray.append" :=
  .of (owner := "bytearray") (n := "append") (by rw [typeLookup_type, builtinLookup_eq_fast]; kernel_rfl) (by decide +kernel) (by decide +kernel) (by decide +kernel)
    (by first | exact .inl (by decide +kernel) | exact .inr (by decide +kernel)) (by rw [isSubtype_type]; kernel_rfl)
theorem type_ba_append : typeOf (.builtin "bytearray.append") = pure (.type "method_descriptor") := by show builtinType _ = _; rw [builtinType_eq_fast]; kernel_rfl
theorem entry_ba_append : entryFor table "bytearray.append" = some Builtin.«bytearray.append» := entryFor_of_tree (by kernel_rfl)
theorem args_ba_append (a b : Value) : argsOk "bytearray.append" ⟨[a, b], []⟩ := by unfold argsOk; kernel_rfl
theorem slot_ba_extend : Slot "bytearray" "extend" "bytearray.extend" :=
  .of (owner := "bytearray") (n := "extend") (by rw [typeLookup_type, builtinLookup_eq_fast]; kernel_rfl) (by decide +kernel) (by decide +kernel) (by decide +kernel)
    (by first | exact .inl (by decide +kernel) | exact .inr (by decide +kernel)) (by rw [isSubtype_type]; kernel_rfl)
theorem type_ba_extend : typeOf (.builtin "bytearray.extend") = pure (.type "method_descriptor") := by show builtinType _ = _; rw [builtinType_eq_fast]; kernel_rfl
theorem entry_ba_extend : entryFor table "bytearray.extend" = some Builtin.«bytearray.extend» := entryFor_of_tree (by kernel_rfl)
theorem args_ba_extend (a b : Value) : argsOk "bytearray.extend" ⟨[a, b], []⟩ := by unfold argsOk; kernel_rfl
theorem plain_ba : PlainAttrs "bytearray" :=
  ⟨⟨"bytearray.__getattribute__", by rw [typeLookup_type, builtinLookup_eq_fast]; kernel_rfl, by decide +kernel⟩, by rw [typeLookup_type, builtinLookup_eq_fast]; kernel_rfl⟩
noncomputable abbrev bo (b : List UInt8) : Obj := { cls := .type "bytearray", data := .bytearray b.toArray 0 }
section
variable {w : World} {A : Around} {E : Value → Shared → Prop} {s : Shared}
theorem wx_resize {l : Addr} {b : List UInt8} {M : Model} {Q : Unit → Shared → Prop} (ho : s.heap.get? l = some (bo b)) (h : Q () s) : wpX M A (Builtin.Bytes.checkResize (.ref l)) Q E s := by
  unfold Builtin.Bytes.checkResize
  refine wpX_bind (wpX_bind (wpX_exported ?_))
  obtain ⟨hp, g, d, tk, os⟩ := s
  refine wx ?_
  unfold Builtin.Bytes.exportsOf
  simp only [toBool]
  repeat (any_goals (first | assumption | wp_step))
  exact wpX_pure h
theorem wx_write {l : Addr} {b : List UInt8} {f : Array UInt8 → Array UInt8} {M : Model} {Q : Unit → Shared → Prop} (ho : s.heap.get? l = some (bo b))
    (h : ∀ h', h'.get? l = some (bo (f b.toArray).toList) → Heap.SameBut l s.heap h' → Q () { s with heap := h' }) (hz : (f b.toArray).size ≤ sizeLine) : wpX M A (Builtin.Bytes.write (.ref l) f) Q E s := by
  refine wx ?_
  show wpAny _ _ (updateBytearray l f) _ _ _
  unfold updateBytearray
  refine wpAny_bind (wpAny_load ho ?_)
  refine wpAny_bind (wpAny_update ho ?_)
  have he : (s.heap.update l (Obj.mapBytearray f)).get? l = some (bo (f b.toArray).toList) := by
    rw [Heap.get?_update_self _ ho (by rfl)]; simp [Obj.mapBytearray]
  refine wpAny_lookBehind he ?_ (h _ he (Heap.SameBut.update ..))
  simp [Data.pastItsLine]
  (first | lia | omega)
theorem byteVal {M : Model} {i : Int} {t : Tok} {Q : UInt8 → Shared → Prop} (h0 : 0 ≤ i) (h1 : i < 256) (h : Q i.toNat.toUInt8 s) : wpAny M A (Builtin.Bytes.byteValue (.int i t)) Q E s := by
  unfold Builtin.Bytes.byteValue asIndex
  obtain ⟨hp, g, d, tk, os⟩ := s
  have hc : (decide (i < 0) || decide (i ≥ 256)) = false := by simp; (first | lia | omega)
  repeat (any_goals (first | assumption | wp_step))
theorem wx_ba_append {l : Addr} {b : List UInt8} {i : Int} {t : Tok} {Q : Value → Shared → Prop} (ho : s.heap.get? l = some (bo b)) (h0 : 0 ≤ i) (h1 : i < 256) (hz : b.length < sizeLine)
    (h : ∀ h', h'.get? l = some (bo (b ++ [i.toNat.toUInt8])) → Heap.SameBut l s.heap h' → Q .none { s with heap := h' }) : wpX (model prg w) A (call (.builtin "bytearray.append") [.ref l, .int i t]) Q E s := by
  refine callX_entry slot_ba_append ⟨_, ho, rfl⟩ entry_ba_append ?_ (args_ba_append _ _) (by kernel_rfl)
  unfold Builtin.«bytearray.append»
  refine wpX_bind (m := selfAndOne _ _) (wpX_pure (wpX_bind (wx (byteVal h0 h1 (wpX_bind (wx_resize ho (wpX_bind (wx_write ho (fun h' e hs => wpX_pure ⟨_, rfl, h h' (by simpa using e) hs⟩) ?_))))))))
  simp; (first | lia | omega)
theorem slotOwn {M : Model} {T id : String} {name : String} {v : Value} {Q : Bool → Shared → Prop} (hT : s.TypeIs v T) (hl : typeLookup (.type T) (name : Str) = pure (some (.builtin id))) (he : id.endsWith ("." ++ name) = true)
    (hs : isSubtype (.type T) (.type (id.dropRight (name.length + 1))) = pure true) (h : Q true s) : wpAny M A (Builtin.Bytes.slotIsOwn v name) Q E s := by
  unfold Builtin.Bytes.slotIsOwn
  refine wpAny_bind (wpAny_specialOf hT hl ?_)
  simp only [he, Bool.not_true, Bool.false_eq_true, if_false]
  exact wpAny_isInstance hT hs h
theorem slotOwn0 {M : Model} {T : String} {name : String} {v : Value} {Q : Bool → Shared → Prop} (hT : s.TypeIs v T) (hl : typeLookup (.type T) (name : Str) = pure none) (h : Q true s) : wpAny M A (Builtin.Bytes.slotIsOwn v name) Q E s := by
  unfold Builtin.Bytes.slotIsOwn
  exact wpAny_bind (wpAny_specialOf hT hl (wpAny_pure h))
theorem lk_bytes_buffer : typeLookup (.type "bytes") "__buffer__" = pure (some (.builtin "bytes.__buffer__")) := by rw [typeLookup_type, builtinLookup_eq_fast]; kernel_rfl
theorem lk_bytes_release : typeLookup (.type "bytes") "__release_buffer__" = pure none := by rw [typeLookup_type, builtinLookup_eq_fast]; kernel_rfl
theorem lk_ba_buffer : typeLookup (.type "bytearray") "__buffer__" = pure (some (.builtin "bytearray.__buffer__")) := by rw [typeLookup_type, builtinLookup_eq_fast]; kernel_rfl
theorem lk_ba_release : typeLookup (.type "bytearray") "__release_buffer__" = pure (some (.builtin "bytearray.__release_buffer__")) := by rw [typeLookup_type, builtinLookup_eq_fast]; kernel_rfl
theorem ends1 : "bytes.__buffer__".endsWith ("." ++ "__buffer__") = true := by decide +kernel
theorem ends2 : "bytearray.__buffer__".endsWith ("." ++ "__buffer__") = true := by decide +kernel
theorem ends3 : "bytearray.__release_buffer__".endsWith ("." ++ "__release_buffer__") = true := by decide +kernel
theorem drop1 : "bytes.__buffer__".dropRight ("__buffer__".length + 1) = "bytes" := by decide +kernel
theorem drop2 : "bytearray.__buffer__".dropRight ("__buffer__".length + 1) = "bytearray" := by decide +kernel
theorem drop3 : "bytearray.__release_buffer__".dropRight ("__release_buffer__".length + 1) = "bytearray" := by decide +kernel
theorem sub_bytes : isSubtype (.type "bytes") (.type "bytes") = pure true := by rw [isSubtype_type]; kernel_rfl
theorem sub_ba : isSubtype (.type "bytearray") (.type "bytearray") = pure true := by rw [isSubtype_type]; kernel_rfl
theorem own_bytes_buffer {M : Model} {b : Array UInt8} {t : Tok} {Q : Bool → Shared → Prop} (h : Q true s) : wpAny M A (Builtin.Bytes.slotIsOwn (.bytes b t) "__buffer__") Q E s :=
  slotOwn (typeIs_bytes _ _ _) lk_bytes_buffer ends1 (by rw [drop1]; exact sub_bytes) h
theorem own_ba_buffer {M : Model} {l : Addr} {b : List UInt8} {Q : Bool → Shared → Prop} (ho : s.heap.get? l = some (bo b)) (h : Q true s) : wpAny M A (Builtin.Bytes.slotIsOwn (.ref l) "__buffer__") Q E s :=
  slotOwn (T := "bytearray") ⟨_, ho, rfl⟩ lk_ba_buffer ends2 (by rw [drop2]; exact sub_ba) h
theorem own_bytes_rel {M : Model} {b : Array UInt8} {t : Tok} {Q : Bool → Shared → Prop} (h : Q false s) : wpAny M A (Builtin.Bytes.ownRelease (.bytes b t)) Q E s := by
  unfold Builtin.Bytes.ownRelease
  with_reducible refine wpAny_bind ?_
  with_reducible refine slotOwn0 (typeIs_bytes _ _ _) lk_bytes_release ?_
  exact wpAny_pure h
theorem own_ba_rel {M : Model} {l : Addr} {b : List UInt8} {Q : Bool → Shared → Prop} (ho : s.heap.get? l = some (bo b)) (h : Q false s) : wpAny M A (Builtin.Bytes.ownRelease (.ref l)) Q E s :=
  wpAny_bind (slotOwn (T := "bytearray") ⟨_, ho, rfl⟩ lk_ba_release ends3 (by rw [drop3]; exact sub_ba) (wpAny_pure h))
theorem buf_bytes {M : Model} {id : String} {full : Bool} {b : Array UInt8} {t : Tok} {Q : Option (Array UInt8) → Shared → Prop} (h : Q (some b) s) : wpAny M A (Builtin.Bytes.buffer? id (.bytes b t) full) Q E s := by
  unfold Builtin.Bytes.buffer?
  refine wpAny_bind (wpAny_specialOf (typeIs_bytes _ _ _) lk_bytes_buffer ?_)
  refine wpAny_bind (own_bytes_buffer (wpAny_bind (wpAny_specialOf (typeIs_bytes _ _ _) lk_bytes_buffer ?_)))
  exact wpAny_bind (own_bytes_rel (wpAny_bind (m := Builtin.Bytes.payload _) (wpAny_pure (wpAny_pure h))))
theorem buf_ba {M : Model} {id : String} {full : Bool} {l : Addr} {b : List UInt8} {Q : Option (Array UInt8) → Shared → Prop} (ho : s.heap.get? l = some (bo b)) (h : Q (some b.toArray) s) : wpAny M A (Builtin.Bytes.buffer? id (.ref l) full) Q E s := by
  have hT : s.TypeIs (.ref l) "bytearray" := ⟨_, ho, rfl⟩
  unfold Builtin.Bytes.buffer?
  refine wpAny_bind (wpAny_specialOf hT lk_ba_buffer ?_)
  refine wpAny_bind (own_ba_buffer ho (wpAny_bind (wpAny_specialOf hT lk_ba_buffer ?_)))
  refine wpAny_bind (own_ba_rel ho ?_)
  unfold Builtin.Bytes.payload Builtin.Bytes.payload?
  refine wpAny_bind (wpAny_bind (wpAny_bind (wpAny_load ho ?_)))
  exact wpAny_pure (wpAny_pure (wpAny_pure h))
theorem wx_ba_extend {l : Addr} {b c : List UInt8} {t : Tok} {Q : Value → Shared → Prop} (ho : s.heap.get? l = some (bo b)) (hz : b.length + c.length ≤ sizeLine)
    (h : ∀ h', h'.get? l = some (bo (b ++ c)) → Heap.SameBut l s.heap h' → Q .none { s with heap := h' }) : wpX (model prg w) A (call (.builtin "bytearray.extend") [.ref l, .bytes c.toArray t]) Q E s := by
  refine callX_entry slot_ba_extend ⟨_, ho, rfl⟩ entry_ba_extend ?_ (args_ba_extend _ _) (by kernel_rfl)
  unfold Builtin.«bytearray.extend»
  refine wpX_bind (m := selfAndOne _ _) (wpX_pure (wpX_bind (wx (wpAny_specialOf (typeIs_bytes _ _ _) lk_bytes_buffer ?_))))
  refine wpX_bind (wx (wpAny_rule (wpX_bind (wx ?_))))
  unfold Builtin.Bytes.payload Builtin.Bytes.payload?
  refine wpAny_bind (wpAny_bind (wpAny_load ho (wpAny_pure (wpAny_pure ?_))))
  refine wpX_bind (wx ?_)
  unfold Builtin.Bytes.takeBufferQuiet?
  refine wpAny_bind (wpAny_attempt ?_)
  unfold Builtin.Bytes.takeBuffer?
  refine wpAny_bind (wpAny_specialOf (typeIs_bytes _ _ _) lk_bytes_buffer ?_)
  refine wpAny_bind (own_bytes_buffer (wpAny_bind (wpAny_specialOf (typeIs_bytes _ _ _) lk_bytes_buffer ?_)))
  refine wpAny_bind (buf_bytes (wpAny_pure (wpAny_pure ?_)))
  show wpX _ _ (do
    if !c.toArray.isEmpty then Builtin.Bytes.checkResize (.ref l)
    Builtin.Bytes.write (.ref l) (· ++ c.toArray)
    ret .none) _ _ _
  have fin : wpX (model prg w) A.in1 (do
    Builtin.Bytes.write (.ref l) (· ++ c.toArray)
    ret .none) (fun fin s' => ∃ v, fin = .done (.ret v) ∧ Q v s') E s := by
    refine wpX_bind (wx_write ho (fun h' e hs => wpX_pure ⟨_, rfl, h h' (by simpa using e) hs⟩) ?_)
    simpa using hz
  split
  · exact wpX_bind (wx_resize ho fin)
  · exact fin
/-! ### bytearray() -/
theorem mro_ba : mroOf (.type "bytearray") = pure [.type "bytearray", .type "object"] := by rw [mroOf_type]; kernel_rfl
theorem lookup_ba_new : typeLookup (.type "bytearray") "__new__" = pure (some (.builtin "bytearray.__new__")) := by rw [typeLookup_type, builtinLookup_eq_fast]; kernel_rfl
theorem slot_ba_init : Slot "bytearray" "__init__" "bytearray.__init__" :=
  .of (owner := "bytearray") (n := "__init__") (by rw [typeLookup_type, builtinLookup_eq_fast]; kernel_rfl) (by decide +kernel) (by decide +kernel) (by decide +kernel)
    (by first | exact .inl (by decide +kernel) | exact .inr (by decide +kernel)) (by rw [isSubtype_type]; kernel_rfl)
theorem called_ba : TypeCalled "bytearray" "bytearray.__new__" "bytearray.__init__" :=
  ⟨by decide +kernel, by decide +kernel, ⟨_, _, mro_ba⟩, madeBy_type mro_ba lookup_ba_new (by decide +kernel), by decide +kernel, by rw [isSubtype_type]; kernel_rfl, slot_ba_init⟩
theorem typeCall_ba : checkTypeCall "bytearray" ⟨[], []⟩ = pure () := by kernel_rfl
theorem newCall_ba : checkBuiltinCall "bytearray.__new__" ⟨[.type "bytearray"], []⟩ = pure () := by kernel_rfl
theorem entry_ba_new : entryFor table "bytearray.__new__" = some Builtin.«list.__new__» := entryFor_alias (id' := "list.__new__") (by kernel_rfl) (by decide +kernel) (by decide +kernel) (by kernel_rfl)
theorem plain_ba_new : plainId "bytearray.__new__" = true := by decide +kernel
theorem entry_ba_init : entryFor table "bytearray.__init__" = some Builtin.«bytearray.__init__» := entryFor_of_tree (by kernel_rfl)
theorem args_ba_init (a : Value) : argsOk "bytearray.__init__" ⟨[a], []⟩ := by unfold argsOk; kernel_rfl
set_option maxRecDepth 1000000 in
set_option maxHeartbeats 4000000 in
theorem owner_ba_new : ("bytearray.__new__".splitOn ".__new__").headD "" = "bytearray" := by simp +decide [String.splitOn, String.splitOnAux]
theorem code_ba_new {Q₁ : Value → Shared → Prop} (h : Q₁ (.ref s.heap.objs.size) { s with heap := s.heap.push (bo []) }) :
    codeAny (model prg w) A (.call (.builtin "bytearray.__new__") ⟨[.type "bytearray"], []⟩) (wants Q₁ E) s := by
  refine codeAny_of_tree ?_
  show wpAny _ A.in1 (do checkBuiltinCall "bytearray.__new__" ⟨[.type "bytearray"], []⟩; again (.builtin "bytearray.__new__" ⟨[.type "bytearray"], []⟩)) _ _ s
  refine wpAny_bind (wpAny_of_eq newCall_ba (wpAny_pure ⟨plainId_quiet plain_ba_new _, codeAny_builtin_stack entry_ba_new rfl fun p st => ?_⟩))
  rw [Around.under_plainId plain_ba_new _]
  have hsub := sub_ba
  have hown := owner_ba_new
  obtain ⟨hp, g, d, tk, os⟩ := s
  simp only [hown]
  wp_walk
  exact h
theorem wx_ba_init {l : Addr} {Q : Value → Shared → Prop} (ho : s.heap.get? l = some (bo [])) (h : ∀ h', h'.get? l = some (bo []) → Heap.SameBut l s.heap h' → Q .none { s with heap := h' }) :
    wpX (model prg w) A (call (.builtin "bytearray.__init__") [.ref l]) Q E s := by
  refine callX_entry slot_ba_init ⟨_, ho, rfl⟩ entry_ba_init ?_ (args_ba_init _) (by kernel_rfl)
  unfold Builtin.«bytearray.__init__»
  refine wpX_bind (wx (own_ba_rel ho ?_))
  refine wpX_bind (m := Builtin.Bytes.bindOptional _ _ _ _ _) (wpX_eq (t' := pure [none, none, none]) (by rfl) (wpX_pure ?_))
  refine wpX_bind (m := Builtin.Bytes.checkCodecArg _ _ _ none) (wpX_pure ?_)
  refine wpX_bind (m := Builtin.Bytes.checkCodecArg _ _ _ none) (wpX_pure ?_)
  refine wpX_bind (wpX_bind (wpX_exported ?_))
  refine wx ?_
  unfold Builtin.Bytes.exportsOf
  refine wpAny_bind (wpAny_bind (wpAny_load ho (wpAny_pure (wpAny_pure ?_))))
  refine wpX_bind (wx_write ho (fun h' e hs => ?_) (Nat.zero_le _))
  exact wpX_pure ⟨_, rfl, h h' e hs⟩
theorem wx_ba0 {Q : Value → Shared → Prop} (h : ∀ h', h'.get? s.heap.objs.size = some (bo []) → (∀ a o, s.heap.get? a = some o → h'.get? a = some o) → Q (.ref s.heap.objs.size) { s with heap := h' }) :
    wpX (model prg w) A (call (.type "bytearray") []) Q E s := by
  refine wpX_call (codeX_of_tree ?_)
  show wpX _ _ (callAny (.type "bytearray") _) _ _ _
  refine wpX_pure (And.intro (Code.quiet_builtin _ (by decide +kernel)) (codeX_builtin F.entry_type_call ?_ (by kernel_rfl)))
  rw [Around.under_plain (weight_type_call_type "bytearray" [] []) rfl]
  show wpX _ A.in1 (Builtin.«type.__call__» ⟨[.type "bytearray"], []⟩) _ _ s
  unfold Builtin.«type.__call__»
  refine wpX_bind (wpX_eq typeCall_ba (wpX_pure (wpX_bind (wpX_eq mro_ba (wpX_pure ?_)))))
  refine wpX_bind (m := Bind.madeBy _) (wpX_eq called_ba.made (wpX_pure (wpX_bind (wpX_pure ?_))))
  refine wpX_bind (wpX_hold (wpX_call (cx (codeAny_mono (code_ba_new (E := NoE) (Q₁ := fun v s' => v = .ref s.heap.objs.size ∧ s' = { s with heap := s.heap.push (bo []) }) ⟨rfl, rfl⟩) fun r s' hr => ?_))))
  cases r with
  | error e => exact hr.elim
  | ok fl =>
    cases fl with
    | ret v =>
      obtain ⟨rfl, rfl⟩ := hr
      have ho : (s.heap.push (bo [])).get? s.heap.objs.size = some (bo []) := Heap.get?_push_size _ rfl
      refine wpX_bind (wx (wpAny_isInstance (T := "bytearray") ⟨_, ho, rfl⟩ sub_ba ?_))
      refine wpX_bind (wpX_hold ?_)
      simp only [callSpecial?]
      refine wpX_bind (wx (wpAny_specialOf (T := "bytearray") ⟨_, ho, rfl⟩ slot_ba_init.lookup ?_))
      simp only [slot_ba_init.bind]
      refine wpX_hold (wpX_bind (wpX_pure (wpX_bind (wx_ba_init ho fun h' e hs => wpX_pure ?_))))
      exact wpX_pure (h h' e fun a o e' => (hs.2 a (Nat.ne_of_lt (Heap.lt_size e'))).trans (Heap.get?_push_of_some _ e'))
    | _ => exact hr.elim
/-! ### bytes(bytearray) -/
theorem no_ba_bytes : typeLookup (.type "bytearray") "__bytes__" = pure none := by rw [typeLookup_type, builtinLookup_eq_fast]; kernel_rfl
theorem no_ba_index : typeLookup (.type "bytearray") "__index__" = pure none := by rw [typeLookup_type, builtinLookup_eq_fast]; kernel_rfl
theorem code_bytes_ba {l : Addr} {b : List UInt8} {Q : Value → Shared → Prop} (ho : s.heap.get? l = some (bo b)) (hz : b.length ≤ sizeLine)
    (hQ : ∀ t k, Q (.bytes b.toArray t) { s with toks := k }) : codeAny (model prg w) A (.call (.builtin "bytes.__new__") ⟨[.type "bytes", .ref l], []⟩) (wants Q E) s := by
  refine codeAny_of_tree ?_
  show wpAny _ A.in1 (do checkBuiltinCall "bytes.__new__" ⟨[.type "bytes", .ref l], []⟩; again (.builtin "bytes.__new__" ⟨[.type "bytes", .ref l], []⟩)) _ _ s
  refine wpAny_bind (wpAny_of_eq (F.bm_newCall _) (wpAny_pure ⟨plainId_quiet F.bm_plain _, codeAny_builtin F.bm_entry ?_⟩))
  rw [Around.under_plainId F.bm_plain _]
  have hT : s.TypeIs (.ref l) "bytearray" := ⟨_, ho, rfl⟩
  unfold Builtin.«bytes.__new__»
  refine wpAny_bind (wpAny_of_eq (a := true) rfl ?_)
  refine bm_if_false rfl ?_
  refine wpAny_bind (wpAny_of_eq F.bm_sub ?_)
  refine bm_if_false rfl ?_
  refine wpAny_bind (wpAny_of_eq (F.bm_bind _) ?_)
  refine wpAny_bind (wpAny_of_eq (a := ()) rfl ?_)
  refine wpAny_bind (wpAny_of_eq (a := ()) rfl ?_)
  refine bm_if_false rfl ?_
  refine wpAny_bind (wpAny_specialOf hT no_ba_bytes ?_)
  refine wpAny_bind (wpAny_bind ?_)
  show wpAny _ _ (load l >>= _) _ _ _
  refine wpAny_bind (wpAny_load ho ?_)
  refine wpAny_pure (wpAny_pure ?_)
  refine bm_if_false rfl ?_
  refine wpAny_bind (wpAny_specialOf hT no_ba_index ?_)
  refine bm_if_true rfl ?_
  first
    | show wpAny _ _ (Builtin.Bytes.buffer? "bytes.__new__" (.ref l) true >>= _) _ _ _
    | (refine wpAny_bind ?_; show wpAny _ _ (Builtin.Bytes.buffer? "bytes.__new__" (.ref l) true >>= _) _ _ _)
  refine wpAny_bind (buf_ba ho ?_)
  refine wpAny_bind (wpAny_rule ?_)
  refine wpAny_bind (wpAny_mkBytes ?_ (by simpa using hz))
  show wpAny _ _ (if (Value.type "bytes" == Value.type "bytes") = true then _ else _) _ _ _
  refine bm_if_true (by decide) ?_
  first
    | exact wpAny_pure (hQ _ _)
    | exact wpAny_bind (wpAny_pure (wpAny_pure (hQ _ _)))
    | exact wpAny_bind (wpAny_pure (hQ _ _))
theorem call_bytes_ba {l : Addr} {b : List UInt8} {Q : Value → Shared → Prop} (ho : s.heap.get? l = some (bo b)) (hz : b.length ≤ sizeLine)
    (hQ : ∀ t k, Q (.bytes b.toArray t) { s with toks := k }) : wpAny (model prg w) A (call (.type "bytes") [.ref l]) Q E s := by
  refine callType_codes (Q₁ := fun obj s₁ => s₁.TypeIs obj "bytes" ∧ Q obj s₁) F.bm_called (F.bm_typeCall _) F.entry_object_init
    (code_bytes_ba ho hz fun t k => ⟨PySem.W.typeIs_bytes _ _ _, hQ t k⟩) fun obj s₁ h₁ => ?_
  exact ⟨h₁.1, F.args_object_init_2 obj _, object_init_meets F.bm_called.init.lookup F.bm_called.made (by decide) prg w A.in1 _ s₁ ⟨h₁.1, rfl, h₁.2⟩⟩
end
/-! ### the rules -/
section
variable {P : Pk} {A : Around} {kn : Kn} {frs : List Fm} {Q : Value → Kn → List Fm → Prop}
theorem k_ba0 (h : ∀ a, kn a = none → Q (.ref a) (kn.set a (bo [])) frs) : WP P A (call (.type "bytearray") []) Q kn frs := fun hp _ hs =>
  wx_ba0 fun h' e hk => WP.fin (hs.add (get_size hp) e hk) (h _ (hs.free (get_size hp)).kn)
theorem St.sameBut {h h' : Heap} {l : Addr} {o o' : Obj} (hs : St P kn frs h) (hl : kn l = some o) (e : h'.get? l = some o') (hb : Heap.SameBut l h h') : St P (kn.set l o') frs h' :=
  hs.turn hl e fun b _ hbl eb => (hb.2 b hbl).trans eb
theorem k_ba_append {l : Addr} {b : List UInt8} {i : Int} {t : Tok} (hl : kn l = some (bo b)) (h0 : 0 ≤ i) (h1 : i < 256) (hz : b.length < sizeLine) (h : Q .none (kn.set l (bo (b ++ [i.toNat.toUInt8]))) frs) :
    WP P A (call (.builtin "bytearray.append") [.ref l, .int i t]) Q kn frs := fun _ _ hs =>
  wx_ba_append (hs.know _ _ hl).1 h0 h1 hz fun _ e hb => WP.fin (hs.sameBut hl e hb) h
theorem k_ba_extend {l : Addr} {b c : List UInt8} {t : Tok} (hl : kn l = some (bo b)) (hz : b.length + c.length ≤ sizeLine) (h : Q .none (kn.set l (bo (b ++ c))) frs) :
    WP P A (call (.builtin "bytearray.extend") [.ref l, .bytes c.toArray t]) Q kn frs := fun _ _ hs =>
  wx_ba_extend (hs.know _ _ hl).1 hz fun _ e hb => WP.fin (hs.sameBut hl e hb) h
theorem k_bytes_ba {l : Addr} {b : List UInt8} (hl : kn l = some (bo b)) (hz : b.length ≤ sizeLine) (h : ∀ t, Q (.bytes b.toArray t) kn frs) : WP P A (call (.type "bytes") [.ref l]) Q kn frs := fun _ _ hs =>
  wx (call_bytes_ba (hs.know _ _ hl).1 hz fun t k => ⟨_, _, _, _, rfl, hs, h t⟩)
theorem m_ba_append {l : Addr} {b : List UInt8} {pl : Sem Bool} {Q : Value × List Value → Kn → List Fm → Prop} (hl : kn l = some (bo b)) (h : Q (.builtin "bytearray.append", [.ref l]) kn frs) : WP P A (getMethod (.ref l) "append" pl) Q kn frs := fun _ _ hs =>
  wx (getMethod_builtin (T := "bytearray") ⟨_, (hs.know _ _ hl).1, rfl⟩ plain_ba slot_ba_append type_ba_append (fun a e => by cases e; exact ⟨_, (hs.know _ _ hl).1, rfl⟩) (WP.fin hs h))
theorem m_ba_extend {l : Addr} {b : List UInt8} {pl : Sem Bool} {Q : Value × List Value → Kn → List Fm → Prop} (hl : kn l = some (bo b)) (h : Q (.builtin "bytearray.extend", [.ref l]) kn frs) : WP P A (getMethod (.ref l) "extend" pl) Q kn frs := fun _ _ hs =>
  wx (getMethod_builtin (T := "bytearray") ⟨_, (hs.know _ _ hl).1, rfl⟩ plain_ba slot_ba_extend type_ba_extend (fun a e => by cases e; exact ⟨_, (hs.know _ _ hl).1, rfl⟩) (WP.fin hs h))
end
end
/-! # part B8 -/
section
open PySem PySem.W PyProof.Rows
section
variable {P : Pk} {A : Around} {kn : Kn} {frs : List Fm} {env : Env} {Q : Value → Kn → List Fm → Prop} {Qb : Bool → Kn → List Fm → Prop} {pos : Pos}
theorem x_expr {e : Expr} {Q : Flow → Kn → List Fm → Prop} (H : WP P A (eval e env) (fun _ => Q .next) kn frs) (hi : interactive env = false := by rfl) (hs : swapsWith e none pos.line env = pure false := by rfl) :
    WP P A (exec (.Expr e pos) env) Q kn frs := fun _ _ hst => by
  rw [exec_Expr env e pos hi hs]
  exact wpX_stand (wpX_bind (H.use hst fun _ _ _ _ _ hst' hq => wx (wpAny_dropValue (WP.fin hst' hq))))
theorem k_bsub {value slice : Expr} {l : List UInt8} {i : Int} {t u : Tok} (hfit : l.length ≤ 1099511627776) (h0 : 0 ≤ i) (h1 : i < l.length) (h : ∀ k, Q (.int (l.getD i.toNat 0).toNat k) kn frs)
    (hs : subscripted slice false (.bytes l.toArray t) (.int i u) = operate [.bytes l.toArray t, .int i u] (getItem (.bytes l.toArray t) (.int i u)) := by with_unfolding_all rfl)
    (ht : ∀ r, letTemporaryGo value (.bytes l.toArray t) r = pure () := by intro _; with_unfolding_all rfl) : WP P A (subscriptTail value slice (.bytes l.toArray t) (.int i u)) Q kn frs := fun _ _ hst =>
  wx (subscriptTail_builtin (typeIs_bytes _ _ _) FB.slot_bytes_getitem.lookup (getItem_bytes hfit h0 h1 ⟨_, _, _, _, rfl, hst, h _⟩) hs ht)
theorem k_blen {b : Array UInt8} {t : Tok} (hfit : b.size ≤ 1099511627776) (h : ∀ k, Q (.int b.size k) kn frs) : WP P A (call (.builtin "len") [.bytes b t]) Q kn frs := fun _ _ hst =>
  wx (len_bytes hfit ⟨_, _, _, _, rfl, hst, h _⟩)
theorem k_beq {b c : Array UInt8} {t u : Tok} (h : Q (.bool (b.toList == c.toList)) kn frs) : WP P A (compareOp .Eq (.bytes b t) (.bytes c u)) Q kn frs := fun _ _ hst => wx (eq_bytes (WP.fin hst h))
theorem k_bne {b c : Array UInt8} {t u : Tok} (h : Q (.bool (b.toList != c.toList)) kn frs) : WP P A (compareOp .NotEq (.bytes b t) (.bytes c u)) Q kn frs := fun _ _ hst => wx (ne_bytes (WP.fin hst h))
end
theorem WP.drop {P : Pk} {A : Around} {α : Type} {t : Sem α} {Q : α → Kn → List Fm → Prop} {kn : Kn} {frs : List Fm} (H : WP P A t (fun v kn' frs' => ∃ kn'' : Kn, (∀ a o, kn'' a = some o → kn' a = some o) ∧ Q v kn'' frs') kn frs) : WP P A t Q kn frs := fun _ _ hs =>
  H.use hs fun _ _ _ _ _ hs' ⟨_, hk, hq⟩ => WP.fin (hs'.less hk) hq
theorem Kn.set_set (kn : Kn) (a : Addr) (o o' : Obj) : (kn.set a o).set a o' = kn.set a o' := funext fun b => by unfold Kn.set; split <;> rfl
theorem Kn.le_set {kn kn' : Kn} {a : Addr} {o : Obj} (ha : kn a = none) (h : ∀ b x, kn b = some x → kn' b = some x) : ∀ b x, kn b = some x → kn'.set a o b = some x := fun b x e => by
  by_cases hb : b = a
  · subst hb; rw [ha] at e; cases e
  · rw [Kn.set_ne hb]; exact h b x e
theorem u8_back (b : UInt8) : ((b.toNat : Int)).toNat.toUInt8 = b := by simp
/-! ## forgetting names -/
/-- the digit's byte -/
noncomputable def dg (d : Int) : UInt8 := (if d < 26 then 97 + d else 22 + d).toNat.toUInt8
noncomputable def digL : List UInt8 := [97, 98, 99, 100, 101, 102, 103, 104, 105, 106, 107, 108, 109, 110, 111, 112, 113, 114, 115, 116, 117, 118, 119, 120, 121, 122, 48, 49, 50, 51, 52, 53, 54, 55, 56, 57]
theorem digL_get0 : ∀ n < 36, digL.getD (n : Nat) 0 = dg (n : Int) := by decide +kernel
theorem digL_get (i : Int) (h0 : 0 ≤ i) (h1 : i < 36) : digL.getD i.toNat 0 = dg i := by
  have := digL_get0 i.toNat (by (first | lia | omega))
  rwa [Int.toNat_of_nonneg h0] at this
theorem dg_nat (d : Int) (h0 : 0 ≤ d) (h1 : d < 36) : ((dg d).toNat : Int) = if d < 26 then 97 + d else 22 + d := by
  have h : ∀ n < 36, ((dg ((n : Nat) : Int)).toNat : Int) = if (n : Int) < 26 then 97 + (n : Int) else 22 + n := by decide +kernel
  have := h d.toNat (by (first | lia | omega))
  rwa [Int.toNat_of_nonneg h0] at this
end
/-! # part B9 -/
section
open PySem PySem.W PyProof.Rows
/-! ## try, where nothing is raised -/
theorem x_try {P : Pk} {A : Around} {kn : Kn} {frs : List Fm} {env : Env} {pos : Pos} {body orelse : List Stmt} {handlers : List ExceptHandler} {Q : Flow → Kn → List Fm → Prop} (H : WP P A (execs body env) (Then P A env orelse Q) kn frs) :
    WP P A (exec (.Try body handlers orelse [] pos) env) Q kn frs := fun _ _ hs => by
  rw [arm_exec_Try]
  refine wpX_stand ?_
  unfold tryStmt
  refine wpX_bind (wpX_attempt (H.use hs fun fl _ _ h k hs' hq => ?_))
  cases fl with
  | next => exact (show WP P A _ _ _ _ from hq).use hs' fun _ _ _ _ _ hs'' hq' => (WP.fin hs'' hq')
  | _ => exact wpX_pure (WP.fin hs' hq)
/-! ## enumerate -/
noncomputable abbrev eo (it : Addr) (i : Int) (old : Value) : Obj := { cls := .type "enumerate", dict := none, data := .fields #[.none, .bool false, .ref it, rawInt i, .none, old], slots := #[] }
section
variable {P : Pk} {A : Around} {kn : Kn} {frs : List Fm} {env : Env} {pos : Pos}
theorem Kw.isList {kn : Kn} {l : Addr} {items : List Value} {ep : Nat} {h : Heap} (hl : Kw P kn l (lo items ep)) (hs : St P kn frs h) : h.IsList l items.toArray := ⟨_, hl.get hs, rfl, _, rfl⟩
theorem Kw.old {kn : Kn} {l : Addr} {o : Obj} {h : Heap} (hl : Kw P kn l o) (hs : St P kn frs h) {a : Addr} (ha : h.get? a = none) : l ≠ a := fun e => by rw [← e, hl.get hs] at ha; cases ha
theorem wx_pair {h : Heap} {k : Nat} {t : Addr} {u v : Value} {x y : Str} {p1 p2 : Pos} {x1 : Nat} {Q : Unit → Kn → List Fm → Prop} {Q2 : Unit → Shared → Prop} (hA : A.handled = none) (hs : St P kn frs h) (ht : h.IsTuple t #[u, v])
    (H : WP P A (storeName env x u) (fun _ kn' frs' => WP P A (storeName env y v) Q kn' frs') kn frs) (hq : ∀ kn' frs' h' k', St P kn' frs' h' → Q () kn' frs' → Q2 () (P.st h' k')) :
    wpX (model prg P.w) A (assign (.Tuple [.Name x p1, .Name y p2] x1 pos) env (.ref t)) Q2 NoE (P.st h k) := by
  rw [arm_assign_Tuple]
  refine wpX_stand ?_
  have hn : (assignEach [.Name x p1, .Name y p2] env).length = (#[u, v] : Array Value).size := rfl
  have hstar : (assignEach [.Name x p1, .Name y p2] env).findIdx? (·.1) = none := rfl
  unfold unpack
  rw [hn, hstar]
  refine wpX_bind (wpX_hold (wx (wpAny_unpackItems_tuple hA ht fun h' he => ?_)))
  show wpX _ A (do holding [v] (assign (.Name x p1) env u); do holding [] (assign (.Name y p2) env v); pure ()) _ _ (P.st h' k)
  have hs' : St P kn frs h' := hs.grow fun a o e => he a o (Nat.ne_of_lt (Heap.lt_size e)) e
  refine wpX_bind (wpX_hold (wpX_assign_Name (H.use hs' fun _ _ _ h₁ k₁ hs₁ H₁ => ?_)))
  refine wpX_bind (wpX_hold (wpX_assign_Name (H₁.use hs₁ fun _ _ _ h₂ k₂ hs₂ H₂ => wpX_pure (hq _ _ _ _ hs₂ H₂))))
theorem a_pair {t : Addr} {u v : Value} {x y : Str} {p1 p2 : Pos} {x1 : Nat} {Q : Unit → Kn → List Fm → Prop} (hA : A.handled = none) (ht : Kw P kn t (to [u, v]))
    (H : WP P A (storeName env x u) (fun _ kn' frs' => WP P A (storeName env y v) Q kn' frs') kn frs) : WP P A (assign (.Tuple [.Name x p1, .Name y p2] x1 pos) env (.ref t)) Q kn frs := fun _ _ hs =>
  wx_pair hA hs ⟨_, ht.get hs, rfl, _, rfl⟩ H fun _ _ _ _ hs' hq => WP.fin hs' hq
noncomputable def LI (o : Obj) (l : Addr) (i : Nat) : Prop := o.cls = .type "list_iterator" ∧ o.data = .fields #[.ref l, .int i 0]
theorem k_enum {l : Addr} {items : List Value} {ep : Nat} {Q : Value → Kn → List Fm → Prop} (hl : Kw P kn l (lo items ep)) (h : ∀ e it o, e ≠ it → kn e = none → kn it = none → LI o l 0 → Q (.ref e) ((kn.set it o).set e (eo it 0 .none)) frs) :
    WP P A (call (.type "enumerate") [.ref l]) Q kn frs := fun hp k hs => by
  refine wx (call_enumerate_1 (hl.get hs) fun h' he hit hz hk => ?_)
  obtain ⟨o, hit', hli⟩ := hit
  have hn : hp.get? (hp.objs.size + 1) = none := by
    cases e : hp.get? (hp.objs.size + 1) with
    | none => rfl
    | some o => exact absurd (Heap.lt_size e) (Nat.not_lt.mpr (Nat.le_succ _))
  have h1 : St P (kn.set hp.objs.size o) frs h' := hs.add (get_size hp) hit' hk
  have hne : hp.objs.size + 1 ≠ hp.objs.size := Nat.succ_ne_self _
  have f1 := hs.free (get_size hp)
  have f2 := hs.free hn
  refine WP.fin (kn := (kn.set hp.objs.size o).set (hp.objs.size + 1) (eo hp.objs.size 0 .none)) ⟨h1.base, fun a x e => ?_, h1.fms, h1.nodup, fun a ha => ⟨(h1.apart a ha).1, ?_⟩⟩ (h _ _ o hne f2.kn f1.kn hli)
  · unfold Kn.set at e
    split at e
    · rename_i q; subst q; cases e; exact ⟨he, f2.b⟩
    · exact h1.know a x e
  · rw [Kn.set_ne (show a ≠ hp.objs.size + 1 by intro q; subst q; exact f2.fm ha)]; exact (h1.apart a ha).2
inductive EnOk (P : Pk) (A : Around) (env : Env) (xi xv : Str) (body orelse : List Stmt) (Q : Flow → Kn → List Fm → Prop) (x : Value) (kn : Kn) (frs : List Fm) : Prop
  | mk (e it l : Addr) (items : List Value) (J : Nat → Kn → List Fm → Prop) (hx : x = .ref e) (hei : e ≠ it) (h0 : J 0 kn frs)
    (hR : ∀ i kn frs, J i kn frs → An3 (∃ old, kn e = some (eo it i old)) (∃ o, kn it = some o ∧ LI o l i) (∃ ep, Kw P kn l (lo items ep)))
    (turn : ∀ i v k o kn frs (K : Kn → List Fm → Prop), items[i]? = some v → (∀ kn' frs', Wkn (J (i + 1)) kn' frs' → K kn' frs') → J i kn frs → LI o l (i + 1) → WP P A (storeName env xi (.int i k)) (fun _ kn' frs' => WP P A (storeName env xv v) (fun _ kn' frs' => WP P A (execs body env) (Turn Q K) kn' frs') kn' frs')
        ((kn.set it o).set e (eo it ((i : Int) + 1) v)) frs)
    (fin : ∀ kn frs, J items.length kn frs → WP P A (execs orelse env) (fun fl kn' frs' => Q fl kn' frs') (fun a => if a = it then none else kn a) frs) : EnOk P A env xi xv body orelse Q x kn frs
theorem x_for_enum {iter : Expr} {xi xv : Str} {pi pv pt : Pos} {x1 : Nat} {body orelse : List Stmt} {Q : Flow → Kn → List Fm → Prop} (hA : A.handled = none)
    (H : WP P A (eval iter env) (EnOk P A env xi xv body orelse Q) kn frs)
    (hs : ∀ x, foldedSetIterable iter env x = pure x := by intro _; rfl) :
    WP P A (exec (.For (.Tuple [.Name xi pi, .Name xv pv] x1 pt) iter body orelse pos) env) Q kn frs := fun h k hst => by
  refine wpX_For (H.use hst fun x kn₁ frs₁ h₁ k₁ hst₁ hx => ?_) hs
  obtain ⟨e, it, l, items, J, rfl, hei, hJ, hR, hturn, hfin⟩ := hx
  obtain ⟨⟨old, he⟩, ⟨o, hit, hli⟩, ep, hl⟩ := hR _ _ _ hJ
  refine wx (wpAny_pyIter_enum (hst₁.know _ _ he).1 ?_)
  refine codeX_for (fun m s' => Ex5 fun i kn frs h k => An5 (s' = P.st h k) (m = items.length - i) (i ≤ items.length) (St P kn frs h) (J i kn frs)) ?_ items.length ⟨0, _, _, _, _, rfl, rfl, Nat.zero_le _, hst₁, hJ⟩
  rintro m s' ⟨i, kn, frs, h, k, rfl, rfl, hi, hs', hJ⟩
  obtain ⟨⟨old, he⟩, ⟨o, hit, hli⟩, ep, hl⟩ := hR _ _ _ hJ
  have he' := (hs'.know _ _ he).1
  have hit' : h.IsListIter it l i := ⟨_, (hs'.know _ _ hit).1, hli.1, hli.2⟩
  by_cases hlt : i < items.length
  · refine wx (wpAny_pyNext_enum_item he' hit' (hl.isList hs') (x := items[i]) (by simp [hlt]) hei fun h₁ heo hit₁ ht₁ hz₁ hk₁ => ?_)
    refine wx (wpAny_letOwnedTupleGo_enum heo fun h₂ he₂ hs₂ => ?_)
    replace hs₂ : Heap.SameBut e h₁ h₂ := hs₂
    have heH : @LT.lt Nat _ e h.objs.size := Heap.lt_size he'
    obtain ⟨o₁, hit₁, hli₁⟩ := hit₁
    have hit₂ : h₂.get? it = some o₁ := (hs₂.2 it (Ne.symm hei)).trans hit₁
    have hst₂ : St P ((kn.set it o₁).set e (eo it ((i : Int) + 1) items[i])) frs h₂ := by
      have hall : ∀ b ob, b ≠ e → b ≠ it → h.get? b = some ob → h₂.get? b = some ob := fun b ob h1 h2 e1 => (hs₂.2 b h1).trans (hk₁ b ob h1 h2 e1)
      have hbe := (hs'.know _ _ he).2
      have hbi := (hs'.know _ _ hit).2
      have hfe : ∀ a ∈ frs.flatMap Fm.as, a ≠ e ∧ a ≠ it := fun a ha => ⟨fun q => by (have := (hs'.apart a ha).2; rw [q, he] at this; cases this), fun q => by (have := (hs'.apart a ha).2; rw [q, hit] at this; cases this)⟩
      refine ⟨fun b ob e1 => hall b ob (fun q => by rw [q, hbe] at e1; cases e1) (fun q => by rw [q, hbi] at e1; cases e1) (hs'.base b ob e1), fun a x e1 => ?_, fun f hf => (hs'.fms f hf).keeps fun a ha ob e1 => ?_, hs'.nodup, fun a ha => ⟨(hs'.apart a ha).1, ?_⟩⟩
      · unfold Kn.set at e1
        split at e1
        · rename_i q; subst q; cases e1; exact ⟨he₂, hbe⟩
        · rename_i q1
          split at e1
          · rename_i q; subst q; cases e1; exact ⟨hit₂, hbi⟩
          · rename_i q2; exact ⟨hall a x q1 q2 (hs'.know a x e1).1, (hs'.know a x e1).2⟩
      · have := hfe a (List.mem_flatMap.mpr ⟨f, hf, ha⟩); exact hall a ob this.1 this.2 e1
      · rw [Kn.set_ne (hfe a ha).1, Kn.set_ne (hfe a ha).2]; exact (hs'.apart a ha).2
    have ht₂ : h₂.IsTuple h.objs.size #[.int i k, items[i]] := ⟨_, (hs₂.2 _ (Nat.ne_of_gt heH)).trans ht₁, rfl, _, rfl⟩
    refine wx_pair (P := P) (k := k + 1) hA hst₂ ht₂ (hturn i items[i] k o₁ kn frs (Wkn (J (i + 1))) (by simp [hlt]) (fun _ _ h => h) hJ hli₁) fun kn₃ frs₃ h₃ k₃ hst₃ H₃ => ?_
    refine (show WP P A _ _ kn₃ frs₃ from H₃).use hst₃ fun fl kn₄ frs₄ h₄ k₄ hst₄ H₄ => ?_
    cases fl with
    | next => obtain ⟨_, _, hk0, hf0, hj0⟩ := H₄; exact ⟨_, by (first | lia | omega), i + 1, _, _, _, _, rfl, rfl, hlt, hst₄.weak hk0 hf0, hj0⟩
    | cont => obtain ⟨_, _, hk0, hf0, hj0⟩ := H₄; exact ⟨_, by (first | lia | omega), i + 1, _, _, _, _, rfl, rfl, hlt, hst₄.weak hk0 hf0, hj0⟩
    | brk => exact WP.fin hst₄ H₄
    | ret v => exact WP.fin hst₄ H₄
  · have hin : i = items.length := by (first | lia | omega)
    subst hin
    refine wx (wpAny_pyNext_enum_end hA he' hit' (hl.isList hs') (by simp) fun h₁ he₁ => ?_)
    have hst₁ : St P (fun a => if a = it then none else kn a) frs h₁ := by
      have h2 : St P (fun a => if a = it then none else kn a) frs h := hs'.less fun a o e => by split at e; cases e; exact e
      refine h2.off (I := it) ⟨if_pos rfl, fun ha => ?_, (hs'.know _ _ hit).2⟩ he₁
      have := (hs'.apart it ha).2; rw [hit] at this; cases this
    exact (hfin kn frs hJ).use hst₁ fun _ _ _ _ _ hs3 hq => WP.fin hs3 hq
end
end
/-! # part B10 -/
section
open PySem PySem.W PyProof.Rows
/-! ## subscripts -/
section
variable {w : World} {A : Around} {E : Value → Shared → Prop} {s : Shared}
theorem ltg {value : Expr} {o r : Value} {Q : Unit → Shared → Prop} (h : Q () s) : wpAny (model prg w) A (letTemporaryGo value o r) Q E s := by
  have k2 : wpAny (model prg w) A (do let _ ← holding [r] (runValue (.builtin "proto.let_go" {}))) Q E s :=
    wpAny_bind (wpAny_holding (wpAny_runValue (codeAny_builtin entry_let_go (show wpAny _ _ (ret .none) _ _ s from wpAny_pure (wpAny_pure h)))))
  have k1 : wpAny (model prg w) A (pure () : Sem Unit) Q E s := wpAny_pure h
  cases o <;> cases value <;> first | exact k1 | exact k2
theorem subd (slice : Expr) (o i : Value) : ∃ vs, subscripted slice false o i = operate vs (getItem o i) := by
  cases slice with
  | Slice _ _ st _ => cases st <;> exact ⟨_, rfl⟩
  | _ => exact ⟨_, rfl⟩
theorem sub_any {value slice : Expr} {o i : Value} {T id : String} {Q : Value → Shared → Prop} (hT : s.TypeIs o T) (hl : typeLookup (.type T) "__getitem__" = pure (some (.builtin id))) (h : wpAny (model prg w) A (getItem o i) Q E s) :
    wpAny (model prg w) A (subscriptTail value slice o i) Q E s := by
  unfold subscriptTail
  refine wpAny_bind ?_
  rw [getitemInPython_of_ne hT.not_modules]
  refine wpAny_bind (wpAny_specialOf hT hl ?_)
  obtain ⟨vs, hs⟩ := subd slice o i
  have fin : wpAny (model prg w) A (subscripted slice false o i) (fun r s₃ => wpAny (model prg w) A (letTemporaryGo value o r >>= fun _ => pure r) Q E s₃) E s := by
    rw [hs]
    exact wpAny_operating (wpAny_mono h (fun r s₃ h₃ => wpAny_bind (ltg (wpAny_pure h₃))) fun _ _ x => x)
  first
    | exact wpAny_pure (wpAny_bind fin)
    | exact wpAny_bind (wpAny_pure (wpAny_bind fin))
    | exact wpAny_bind fin
end
noncomputable abbrev slo (l u s : Value) : Obj := { cls := .type "slice", data := .fields #[l, u, s] }
noncomputable def sx (l : List Nat) : Str := ⟨l.toArray⟩
section
variable {P : Pk} {A : Around} {kn : Kn} {frs : List Fm} {env : Env} {Q : Value → Kn → List Fm → Prop} {pos : Pos}
theorem e_slice {lo up st : Option Expr} (H : WP P A (valueOrNone (evalOpt lo env)) (fun l kn frs => WP P A (valueOrNone (evalOpt up env)) (fun u kn frs => WP P A (valueOrNone (evalOpt st env)) (fun s kn frs => ∀ a, kn a = none → Q (.ref a) (kn.set a (slo l u s)) frs) kn frs) kn frs) kn frs) :
    WP P A (eval (.Slice lo up st pos) env) Q kn frs := fun _ _ hs => by
  rw [arm_eval_Slice]
  refine wpX_bind (H.use hs fun l _ _ _ _ hs₁ H₁ => wpX_bind (wpX_hold (H₁.use hs₁ fun u _ _ _ _ hs₂ H₂ => wpX_bind (wpX_hold (H₂.use hs₂ fun v _ _ hp k hs₃ H₃ => wx ?_)))))
  exact wpAny_newObj_type ⟨_, _, _, _, rfl, hs₃.push _, H₃ _ (hs₃.free (get_size hp)).kn⟩ (by size_fits)
theorem v_none (h : Q .none kn frs) : WP P A (valueOrNone (evalOpt none env)) Q kn frs := fun _ _ hs => wx (wpAny_pure (WP.fin hs h))
theorem v_some {e : Expr} (H : WP P A (eval e env) Q kn frs) : WP P A (valueOrNone (evalOpt (some e) env)) Q kn frs := fun h k hs => H h k hs
theorem sx_len (l : List Nat) : (sx l).length = l.length := by show l.toArray.size = _; simp
theorem sl_take {l : List Nat} {j : Int} (h0 : 0 ≤ j) (h1 : j ≤ l.length) : Txt.slice (sx l) none (some j) = sx (l.take j.toNat) := by
  obtain ⟨n, rfl⟩ := Int.eq_ofNat_of_zero_le h0
  have hn : n ≤ (sx l).length := by rw [sx_len]; (first | lia | omega)
  have e1 := StrLaws.sliceIdx_none_lo (some (n : Int)) (sx l).length
  have e2 := StrLaws.strSliceIndices_plain (a := 0) (b := n) (len := (sx l).length) (Nat.zero_le _) hn
  have e3 := StrLaws.sliced_plain (sx l) (a := 0) (b := n) (Nat.zero_le _) hn
  unfold Txt.slice
  split
  · rename_i hc
    rw [e1] at hc
    simp only [Int.natCast_zero] at e2
    rw [e2] at hc
    simp only [List.length_map, List.length_range, Nat.sub_zero, Bool.and_eq_true, beq_iff_eq] at hc
    rw [Int.toNat_natCast, List.take_of_length_le (by have := hc.2; rw [sx_len] at this; (first | lia | omega))]
  · simp only [Int.natCast_zero] at e3
    rw [e1, e3, Int.toNat_natCast]
    simp [sx]
theorem sl_drop {l : List Nat} {j : Int} (h0 : 0 ≤ j) (h1 : j ≤ l.length) : Txt.slice (sx l) (some j) none = sx (l.drop j.toNat) := by
  obtain ⟨n, rfl⟩ := Int.eq_ofNat_of_zero_le h0
  have hn : n ≤ (sx l).length := by rw [sx_len]; (first | lia | omega)
  have e1 := StrLaws.sliceIdx_none_hi (some (n : Int)) (sx l).length
  have e2 := StrLaws.strSliceIndices_plain (a := n) (b := (sx l).length) (len := (sx l).length) hn (Nat.le_refl _)
  have e3 := StrLaws.sliced_plain (sx l) (a := n) (b := (sx l).length) hn (Nat.le_refl _)
  unfold Txt.slice
  split
  · rename_i hc
    rw [e1, e2] at hc
    simp only [List.length_map, List.length_range, Bool.and_eq_true, beq_iff_eq] at hc
    have h2 := hc.2
    rw [sx_len] at h2 hn
    have : n = 0 ∨ l.length = 0 := by (first | lia | omega)
    rcases this with h | h
    · subst h; rfl
    · have : l = [] := List.length_eq_zero_iff.mp h
      subst this; simp
  · rw [e1, e3, Int.toNat_natCast, sx_len]
    simp [sx, List.take_of_length_le]
theorem k_s_take {value slice : Expr} {l : List Nat} {t u : Tok} {j : Int} {a : Addr} (ha : kn a = some (slo .none (.int j u) .none)) (h0 : 0 ≤ j) (h1 : j ≤ l.length) (hz : l.length ≤ sizeLine) (h : ∀ t, Q (.str (sx (l.take j.toNat)) t) kn frs) :
    WP P A (subscriptTail value slice (.str (sx l) t) (.ref a)) Q kn frs := fun _ _ hs =>
  wx (sub_any (typeIs_str _ _ _) F.slot_str_getitem.lookup (wpAny_getItem_str_slice (l := none) (u := some (j, u)) (st := none) ⟨_, (hs.know _ _ ha).1, rfl, rfl⟩ rfl
    (post_val_or_str ⟨Nat.le_trans (Txt.slice_le (sx l) none (some j)) (by show l.toArray.size ≤ _; simpa using hz), fun t' k => ⟨_, _, _, _, rfl, hs, by have := h t'; rw [← sl_take h0 h1] at this; exact this⟩⟩)))
theorem k_s_drop {value slice : Expr} {l : List Nat} {t u : Tok} {j : Int} {a : Addr} (ha : kn a = some (slo (.int j u) .none .none)) (h0 : 0 ≤ j) (h1 : j ≤ l.length) (hz : l.length ≤ sizeLine) (h : ∀ t, Q (.str (sx (l.drop j.toNat)) t) kn frs) :
    WP P A (subscriptTail value slice (.str (sx l) t) (.ref a)) Q kn frs := fun _ _ hs =>
  wx (sub_any (typeIs_str _ _ _) F.slot_str_getitem.lookup (wpAny_getItem_str_slice (l := some (j, u)) (u := none) (st := none) ⟨_, (hs.know _ _ ha).1, rfl, rfl⟩ rfl
    (post_val_or_str ⟨Nat.le_trans (Txt.slice_le (sx l) (some j) none) (by show l.toArray.size ≤ _; simpa using hz), fun t' k => ⟨_, _, _, _, rfl, hs, by have := h t'; rw [← sl_drop h0 h1] at this; exact this⟩⟩)))
theorem k_s_add {x y : List Nat} {t u : Tok} (hz : x.length + y.length ≤ sizeLine) (h : ∀ t, Q (.str (sx (x ++ y)) t) kn frs) : WP P A (binaryOp .Add (.str (sx x) t) (.str (sx y) u)) Q kn frs := fun hp k hs => by
  refine wx (PySem.P.add_str ?_)
  have hxy : sx x ++ sx y = sx (x ++ y) := by
    show Str.mk ((sx x).cps ++ (sx y).cps) = _
    simp [sx]
  split
  · rename_i hc
    rw [sx_len, beq_iff_eq] at hc
    have : x = [] := List.length_eq_zero_iff.mp hc
    subst this
    exact ⟨_, _, _, _, rfl, hs, h _⟩
  · split
    · rename_i hc
      rw [sx_len, beq_iff_eq] at hc
      have : y = [] := List.length_eq_zero_iff.mp hc
      subst this
      rw [List.append_nil] at h
      exact ⟨_, _, _, _, rfl, hs, h _⟩
    · rw [hxy]
      exact ⟨by rw [sx_len, List.length_append]; exact hz, _, _, _, _, rfl, hs, h _⟩
theorem k_s_len {x : List Nat} {t : Tok} (hz : x.length ≤ sizeLine) (h : ∀ t, Q (.int x.length t) kn frs) : WP P A (call (.builtin "len") [.str (sx x) t]) Q kn frs := fun hp k hs =>
  wx (PySem.P.len_str (by rw [sx_len]; rw [sizeLine_eq] at hz; (first | lia | omega)) ⟨_, _, _, _, rfl, hs, by rw [sx_len]; exact h _⟩)
theorem k_chr {i : Int} {t : Tok} (h0 : 0 ≤ i) (h1 : i ≤ 1114111) (h : ∀ t, Q (.str (sx [i.toNat]) t) kn frs) : WP P A (call (.builtin "chr") [.int i t]) Q kn frs := fun hp k hs =>
  wx (PySem.P.chr_of_int (by simp; (first | lia | omega)) ⟨_, _, _, _, rfl, hs, h _⟩)
theorem k_ord {c : Nat} {t : Tok} (h : ∀ t, Q (.int c t) kn frs) : WP P A (call (.builtin "ord") [.str (sx [c]) t]) Q kn frs := fun hp k hs =>
  wx (PySem.P.ord_of_char ⟨_, _, _, _, rfl, hs, h _⟩)
theorem k_is {a b : Value} (hp : plainIs a b = true) (h : Q (.bool (a == b)) kn frs) : WP P A (compareOp .Is a b) Q kn frs := fun _ _ hs => wx (wpAny_is_plain hp (WP.fin hs h))
theorem k_isnot {a b : Value} (hp : plainIs a b = true) (h : Q (.bool (!(a == b))) kn frs) : WP P A (compareOp .IsNot a b) Q kn frs := fun _ _ hs => wx (wpAny_isNot_plain hp (WP.fin hs h))
theorem x_apair {x y : Str} {p1 p2 tpos : Pos} {k : Nat} {value : Expr} {Q : Flow → Kn → List Fm → Prop} (hA : A.handled = none)
    (H : WP P A (eval value env) (fun v kn frs => Ex3 fun t u w => An3 (v = .ref t) (Kw P kn t (to [u, w])) (WP P A (storeName env x u) (fun _ kn' frs' => WP P A (storeName env y w) (fun _ => Q .next) kn' frs') kn frs)) kn frs)
    (hs : swapsWithSole [.Tuple [.Name x p1, .Name y p2] k tpos] value pos.line env = pure false := by rfl)
    (hw : swappedStores [.Tuple [.Name x p1, .Name y p2] k tpos] value env = pure none := by rfl) :
    WP P A (exec (.Assign [.Tuple [.Name x p1, .Name y p2] k tpos] value pos) env) Q kn frs := fun _ _ hst => by
  rw [exec_Assign]
  refine wpX_stand ?_
  rw [hs]
  refine wpX_bind (wpX_pure ?_)
  rw [if_neg (by decide)]
  refine wpX_bind (H.use hst fun v _ _ h₁ k₁ hst₁ H₁ => ?_)
  obtain ⟨t, u, w, rfl, ht, H₂⟩ := H₁
  rw [hw]
  refine wpX_bind (wpX_pure ?_)
  show wpX _ A (do assignAll (.ref t) [assign (.Tuple [.Name x p1, .Name y p2] k tpos) env]; pure Flow.next) _ _ _
  exact wpX_bind (wx_pair hA hst₁ ⟨_, ht.get hst₁, rfl, _, rfl⟩ H₂ fun _ _ _ _ hs' hq => wpX_pure (WP.fin hs' hq))
end
end
/-! # part B11 -/
section
open PySem PySem.W PyProof.Rows
theorem slot_b_rfind : Slot "bytes" "rfind" "bytes.rfind" :=
  .of (owner := "bytes") (n := "rfind") (by rw [typeLookup_type, builtinLookup_eq_fast]; kernel_rfl) (by decide +kernel) (by decide +kernel) (by decide +kernel)
    (by first | exact .inl (by decide +kernel) | exact .inr (by decide +kernel)) (by rw [isSubtype_type]; kernel_rfl)
theorem type_b_rfind : typeOf (.builtin "bytes.rfind") = pure (.type "method_descriptor") := by show builtinType _ = _; rw [builtinType_eq_fast]; kernel_rfl
theorem entry_b_rfind : entryFor table "bytes.rfind" = some Builtin.«bytes.rfind» := entryFor_of_tree (by kernel_rfl)
theorem args_b_rfind (a b : Value) : argsOk "bytes.rfind" ⟨[a, b], []⟩ := by unfold argsOk; kernel_rfl
theorem slot_b_upper : Slot "bytes" "upper" "bytes.upper" :=
  .of (owner := "bytes") (n := "upper") (by rw [typeLookup_type, builtinLookup_eq_fast]; kernel_rfl) (by decide +kernel) (by decide +kernel) (by decide +kernel)
    (by first | exact .inl (by decide +kernel) | exact .inr (by decide +kernel)) (by rw [isSubtype_type]; kernel_rfl)
theorem type_b_upper : typeOf (.builtin "bytes.upper") = pure (.type "method_descriptor") := by show builtinType _ = _; rw [builtinType_eq_fast]; kernel_rfl
theorem entry_b_upper : entryFor table "bytes.upper" = some Builtin.«bytes.upper» := entryFor_of_tree (by kernel_rfl)
theorem args_b_upper (a : Value) : argsOk "bytes.upper" ⟨[a], []⟩ := by unfold argsOk; kernel_rfl
section
variable {w : World} {A A₂ : Around} {E : Value → Shared → Prop} {s : Shared}
theorem rfind_none {b : List UInt8} (h : 45 ∉ b) : Builtin.Bytes.rfind? b.toArray #[45] 0 b.length = none := by
  unfold Builtin.Bytes.rfind?
  rw [List.find?_eq_none]
  intro i hi
  simp only [List.mem_reverse, List.mem_map, List.mem_range] at hi
  obtain ⟨a, ha, rfl⟩ := hi
  simp only [beq_iff_eq]
  intro e
  have ha' : a < b.length := by simp at ha; (first | lia | omega)
  have := congrArg Array.toList e
  simp at this
  rw [List.take_one] at this
  simp [ha'] at this
  exact h (this ▸ List.getElem_mem ha')
theorem find_rev (p : Nat → Bool) (k : Nat) (hp : p k = true) : ∀ n, k < n → (∀ j, k < j → j < n → p j = false) → (List.range n).reverse.find? p = some k
  | 0, h, _ => absurd h (Nat.not_lt_zero _)
  | n + 1, h, hn => by
    rw [List.range_succ, List.reverse_append, List.reverse_singleton, List.singleton_append, List.find?_cons]
    by_cases e : k = n
    · subst e; rw [hp]
    · rw [hn n (by (first | lia | omega)) (by (first | lia | omega))]
      exact find_rev p k hp n (by (first | lia | omega)) fun j h1 h2 => hn j h1 (by (first | lia | omega))
theorem rfind_some {x y : List UInt8} (h : 45 ∉ y) : Builtin.Bytes.rfind? (x ++ 45 :: y).toArray #[45] 0 (x ++ 45 :: y).length = some x.length := by
  unfold Builtin.Bytes.rfind?
  have e0 : (List.range ((x ++ 45 :: y).length + 1 - (0 + (#[45] : Array UInt8).size))).map (· + 0) = List.range (x.length + 1 + y.length) := by
    rw [show (x ++ 45 :: y).length + 1 - (0 + (#[45] : Array UInt8).size) = x.length + 1 + y.length by (show (x ++ 45 :: y).length + 1 - (0 + 1) = _; simp; (first | lia | omega))]
    simp
  rw [e0]
  refine find_rev _ _ ?_ _ (by (first | lia | omega)) fun j h1 h2 => ?_
  · simp only [beq_iff_eq]
    apply Array.toList_inj.mp
    simp
  · rw [beq_eq_false_iff_ne]
    intro e
    have := congrArg Array.toList e
    obtain ⟨m, rfl⟩ : ∃ m, j = x.length + 1 + m := ⟨j - x.length - 1, by (first | lia | omega)⟩
    have hm : m < y.length := by (first | lia | omega)
    have e2 : (x ++ 45 :: y).drop (x.length + 1 + m) = y.drop m := by
      rw [List.drop_append, List.drop_eq_nil_of_le (by (first | lia | omega)), show x.length + 1 + m - x.length = m + 1 by (first | lia | omega)]; simp
    simp [e2] at this
    rw [List.take_one] at this
    simp [hm] at this
    exact h (this ▸ List.getElem_mem hm)
theorem rfind_ok {b : List UInt8} {t u : Tok} {r : Int} {Q : Value → Shared → Prop} (hr : (match (if (b.length : Int) < 1 then none else Builtin.Bytes.rfind? b.toArray #[45] 0 b.length) with | some i => ((i : Nat) : Int) | none => -1) = r)
    (h : ∀ t k, Q (.int r t) { s with toks := k }) : wpAny (model prg w) A (call (.builtin "bytes.rfind") [.bytes b.toArray t, .bytes #[45] u]) Q E s := by
  refine wpAny_call_entry slot_b_rfind (typeIs_bytes _ _ _) entry_b_rfind ?_ (args_b_rfind _ _)
  unfold Builtin.«bytes.rfind» Builtin.Bytes.searchM
  refine wpAny_bind (m := Builtin.Bytes.searchArgs _ _ _) ?_
  unfold Builtin.Bytes.searchArgs
  refine wpAny_bind (wpAny_of_eq (a := (.bytes b.toArray t, [.bytes #[45] u])) rfl ?_)
  refine wpAny_bind (m := Builtin.Bytes.bound? none) (wpAny_pure ?_)
  refine wpAny_bind (m := Builtin.Bytes.bound? none) (wpAny_pure ?_)
  refine wpAny_bind (wpAny_of_eq KBy.buffer_eq ?_)
  refine wpAny_bind (wpAny_pure (wpAny_bind (m := Builtin.Bytes.payload _) (wpAny_pure (wpAny_pure ?_))))
  have key : ∀ X : Option Nat, (match X with | some i => ((i : Nat) : Int) | none => -1) = r → wpAny (model prg w) A.in1 (match X with
    | some i => retInt i
    | none => do
      rule (toString Builtin.Bytes.Kind.bytes.name ++ toString "." ++ toString "rfind" ++ toString ".not-found")
      if false = true then raiseErrorWords "ValueError" "subsection not found" else retInt (-1)) (fun fin s' => ∃ v, fin = Fin.done (Flow.ret v) ∧ Q v s') E s := by
    intro X hX
    cases X with
    | some i =>
      dsimp only at hX ⊢
      rw [hX]
      exact wpAny_bind (wpAny_mkInt (wpAny_pure ⟨_, rfl, h _ _⟩))
    | none =>
      dsimp only at hX ⊢
      rw [if_neg Bool.false_ne_true, hX]
      exact wpAny_bind (wpAny_rule (wpAny_bind (wpAny_mkInt (wpAny_pure ⟨_, rfl, h _ _⟩))))
  refine key _ ?_
  rw [← hr]
  have hsz : (b.toArray.size : Int) = b.length := by simp
  have h0 : ¬ (b.length : Int) < 0 := by (first | lia | omega)
  simp only [Builtin.Bytes.window, Option.getD_none, hsz, h0, if_false, Int.lt_irrefl, Int.min_self, Int.sub_zero]
  have h1 : ((#[45] : Array UInt8).size : Int) = 1 := rfl
  simp only [h1]
  by_cases hc : (b.length : Int) < 1
  · simp [hc]
  · simp [hc]
theorem upper_ok {b : List UInt8} {t : Tok} {Q : Value → Shared → Prop} (hz : b.length ≤ sizeLine) (h : ∀ t k, Q (.bytes (b.map Builtin.Bytes.toUpper).toArray t) { s with toks := k }) : wpAny (model prg w) A (call (.builtin "bytes.upper") [.bytes b.toArray t]) Q E s := by
  refine wpAny_call_entry slot_b_upper (typeIs_bytes _ _ _) entry_b_upper ?_ (args_b_upper _)
  show wpAny _ _ (do ret (← Builtin.Bytes.Kind.new .bytes (b.toArray.toList.map Builtin.Bytes.toUpper).toArray)) _ _ _
  refine wpAny_bind ?_
  refine wpAny_mkBytes ?_ (by simpa using hz)
  exact wpAny_pure ⟨_, rfl, h _ _⟩
/-! ### slices of bytes -/
theorem sliced_run {b : List UInt8} {m n : Nat} (hm : m ≤ n) (hn : n ≤ b.length) : Builtin.Bytes.sliced b.toArray m n 1 = ((b.drop m).take (n - m)).toArray := by
  unfold Builtin.Bytes.sliced sliceRange
  have hp := StrLaws.picks b (n - m) m (by (first | lia | omega))
  rw [← hp]
  by_cases h : (m : Int) < n
  · have e : (((n : Int) - m + 1 - 1) / 1).toNat = n - m := by rw [Int.ediv_one]; (first | lia | omega)
    simp only [h, if_true, show ((1 : Int) > 0) = True from by simp, e]
    have em : (List.range (n - m)).map (fun k : Nat => ((m : Int) + 1 * (k : Int)).toNat) = (List.range (n - m)).map (fun k => m + k) := List.map_congr_left fun k _ => by (first | lia | omega)
    rw [em]
    simp
  · have : n - m = 0 := by (first | lia | omega)
    simp [h, this]
theorem si_take {j : Int} {n : Nat} (h0 : 0 ≤ j) (h1 : j ≤ n) : sliceIndices .none (rawInt j) .none n = pure (0, j, 1) := by
  have e : sliceIndices .none (rawInt j) .none n = pure (0, max 0 (min (if j < 0 then j + n else j) n), 1) := by rfl
  rw [e, if_neg (by (first | lia | omega)), show max 0 (min j (n : Int)) = j by (first | lia | omega)]
theorem si_drop {j : Int} {n : Nat} (h0 : 0 ≤ j) (h1 : j ≤ n) : sliceIndices (rawInt j) .none .none n = pure (j, (n : Int), 1) := by
  have e : sliceIndices (rawInt j) .none .none n = pure (max 0 (min (if j < 0 then j + n else j) n), (n : Int), 1) := by rfl
  rw [e, if_neg (by (first | lia | omega)), show max 0 (min j (n : Int)) = j by (first | lia | omega)]
theorem b_fin {b : List UInt8} {t : Tok} {m n : Nat} {Q : Value → Shared → Prop} (hm : m ≤ n) (hn : n ≤ b.length) (hz : b.length ≤ sizeLine) (h : ∀ t k, Q (.bytes ((b.drop m).take (n - m)).toArray t) { s with toks := k }) :
    wpAny (model prg w) A (if ((m : Int) == 0 && (1 : Int) == 1 && (n : Int) == ((b.toArray.size : Nat) : Int) && !b.toArray.isEmpty) = true then do
      let __do_lift ← typeOf (Value.bytes b.toArray t)
      if (__do_lift == Value.type "bytes") = true then do
          rule "bytes.__getitem__.whole"
          ret (Value.bytes b.toArray t)
        else do
          let __do_lift ← mkBytes (Builtin.Bytes.sliced b.toArray m n 1)
          ret __do_lift
    else do
      let __do_lift ← mkBytes (Builtin.Bytes.sliced b.toArray m n 1)
      ret __do_lift) (fun fin s' => ∃ v, fin = Fin.done (Flow.ret v) ∧ wpAny (model prg w) A₂ (pure v) Q E s') E s := by
  have fin : wpAny (model prg w) A (do
      let __do_lift ← mkBytes (Builtin.Bytes.sliced b.toArray m n 1)
      ret __do_lift) (fun fin s' => ∃ v, fin = Fin.done (Flow.ret v) ∧ wpAny (model prg w) A₂ (pure v) Q E s') E s := by
    rw [sliced_run hm hn]
    exact wpAny_bind (wpAny_mkBytes (wpAny_pure ⟨_, rfl, wpAny_pure (h _ _)⟩) (by simp; (first | lia | omega)))
  split
  · rename_i hc
    simp only [Bool.and_eq_true, beq_iff_eq] at hc
    obtain ⟨⟨⟨h1, _⟩, h2⟩, _⟩ := hc
    have hm0 : m = 0 := by (first | lia | omega)
    have hnl : n = b.length := by simp at h2; (first | lia | omega)
    subst hm0; subst hnl
    refine wpAny_bind (wpAny_typeOf (typeIs_bytes _ _ _) ?_)
    refine bm_if_true (by decide) ?_
    have := h t s.toks
    simp at this
    exact wpAny_bind (wpAny_rule (wpAny_pure ⟨_, rfl, wpAny_pure this⟩))
  · exact fin
theorem lk_int_index : typeLookup (.type "int") "__index__" = pure (some (.builtin "int.__index__")) := by rw [typeLookup_type, builtinLookup_eq_fast]; kernel_rfl
theorem lk_slice_index : typeLookup (.type "slice") "__index__" = pure none := by rw [typeLookup_type, builtinLookup_eq_fast]; kernel_rfl
theorem b_take {b : List UInt8} {t u : Tok} {j : Int} {a : Addr} {Q : Value → Shared → Prop} (ha : s.heap.get? a = some (slo .none (.int j u) .none)) (h0 : 0 ≤ j) (h1 : j ≤ b.length) (hz : b.length ≤ sizeLine) (h : ∀ t k, Q (.bytes (b.take j.toNat).toArray t) { s with toks := k }) :
    wpAny (model prg w) A (getItem (.bytes b.toArray t) (.ref a)) Q E s := by
  have hT : s.TypeIs (.ref a) "slice" := ⟨_, ha, rfl⟩
  unfold getItem
  refine wpAny_holding (wpAny_bind ?_)
  refine (wpAny_sequenceKey (typeIs_bytes _ _ _) (by decide) ?_)
  refine wpAny_bind (wpAny_callSpecial?_slot (name := Str.ofString "__getitem__") (typeIs_bytes _ _ _) FB.slot_bytes_getitem
    (wpAny_call_entry FB.slot_bytes_getitem (typeIs_bytes _ _ _) FB.entry_bytes_getitem ?_ (FB.args_bytes_getitem_2 _ _)))
  unfold Builtin.«bytes.__getitem__»
  refine wpAny_bind (wpAny_of_eq (a := (.bytes b.toArray t, [.ref a])) rfl ?_)
  refine wpAny_bind (m := Builtin.Bytes.payload _) (wpAny_pure ?_)
  refine wpAny_bind (m := Builtin.Bytes.subscript? _) ?_
  unfold Builtin.Bytes.subscript?
  refine wpAny_bind (wpAny_specialOf hT lk_slice_index (wpAny_pure ?_))
  refine wpAny_bind (wpAny_typeOf hT ?_)
  refine bm_if_false (by decide) ?_
  refine wpAny_bind (m := Builtin.Bytes.sliceParts _) ?_
  unfold Builtin.Bytes.sliceParts
  refine wpAny_bind (wpAny_field ha rfl (x := .none) rfl (wpAny_bind (wpAny_pure ?_)))
  refine bm_if_false (by decide) ?_
  refine wpAny_bind (wpAny_field ha rfl (x := .none) rfl (wpAny_bind (wpAny_pure ?_)))
  refine wpAny_bind (wpAny_field ha rfl (x := .int j u) rfl ?_)
  refine wpAny_bind ?_
  refine bm_if_false rfl ?_
  refine wpAny_bind (wpAny_specialOf (typeIs_int _ _ _) lk_int_index ?_)
  refine bm_if_false rfl ?_
  refine wpAny_bind (wpAny_of_eq (a := j) rfl (wpAny_pure (wpAny_pure ?_)))
  refine wpAny_bind (wpAny_of_eq (si_take (n := b.toArray.size) h0 (by simpa using h1)) ?_)
  obtain ⟨n, rfl⟩ := Int.eq_ofNat_of_zero_le h0
  rw [Int.toNat_natCast] at h
  exact b_fin (m := 0) (n := n) (Nat.zero_le _) (by (first | lia | omega)) hz (by simpa using h)
theorem b_drop {b : List UInt8} {t u : Tok} {j : Int} {a : Addr} {Q : Value → Shared → Prop} (ha : s.heap.get? a = some (slo (.int j u) .none .none)) (h0 : 0 ≤ j) (h1 : j ≤ b.length) (hz : b.length ≤ sizeLine) (h : ∀ t k, Q (.bytes (b.drop j.toNat).toArray t) { s with toks := k }) :
    wpAny (model prg w) A (getItem (.bytes b.toArray t) (.ref a)) Q E s := by
  have hT : s.TypeIs (.ref a) "slice" := ⟨_, ha, rfl⟩
  unfold getItem
  refine wpAny_holding (wpAny_bind ?_)
  refine (wpAny_sequenceKey (typeIs_bytes _ _ _) (by decide) ?_)
  refine wpAny_bind (wpAny_callSpecial?_slot (name := Str.ofString "__getitem__") (typeIs_bytes _ _ _) FB.slot_bytes_getitem
    (wpAny_call_entry FB.slot_bytes_getitem (typeIs_bytes _ _ _) FB.entry_bytes_getitem ?_ (FB.args_bytes_getitem_2 _ _)))
  unfold Builtin.«bytes.__getitem__»
  refine wpAny_bind (wpAny_of_eq (a := (.bytes b.toArray t, [.ref a])) rfl ?_)
  refine wpAny_bind (m := Builtin.Bytes.payload _) (wpAny_pure ?_)
  refine wpAny_bind (m := Builtin.Bytes.subscript? _) ?_
  unfold Builtin.Bytes.subscript?
  refine wpAny_bind (wpAny_specialOf hT lk_slice_index (wpAny_pure ?_))
  refine wpAny_bind (wpAny_typeOf hT ?_)
  refine bm_if_false (by decide) ?_
  refine wpAny_bind (m := Builtin.Bytes.sliceParts _) ?_
  unfold Builtin.Bytes.sliceParts
  refine wpAny_bind (wpAny_field ha rfl (x := .none) rfl (wpAny_bind (wpAny_pure ?_)))
  refine bm_if_false (by decide) ?_
  refine wpAny_bind (wpAny_field ha rfl (x := .int j u) rfl ?_)
  refine wpAny_bind ?_
  refine bm_if_false rfl ?_
  refine wpAny_bind (wpAny_specialOf (typeIs_int _ _ _) lk_int_index ?_)
  refine bm_if_false rfl ?_
  refine wpAny_bind (wpAny_of_eq (a := j) rfl (wpAny_pure ?_))
  refine wpAny_bind (wpAny_field ha rfl (x := .none) rfl (wpAny_bind (wpAny_pure (wpAny_pure ?_))))
  refine wpAny_bind (wpAny_of_eq (si_drop (n := b.toArray.size) h0 (by simpa using h1)) ?_)
  obtain ⟨n, rfl⟩ := Int.eq_ofNat_of_zero_le h0
  rw [Int.toNat_natCast] at h
  have hbl : ((b.toArray.size : Nat) : Int) = (b.length : Nat) := by simp
  have := b_fin (w := w) (A := A.in1) (A₂ := A) (E := E) (s := s) (t := t) (Q := Q) (m := n) (n := b.length) (by (first | lia | omega)) (Nat.le_refl _) hz (by simpa [List.take_of_length_le] using h)
  rw [← hbl] at this
  exact this
end
section
variable {P : Pk} {A : Around} {kn : Kn} {frs : List Fm} {env : Env} {Q : Value → Kn → List Fm → Prop} {pos : Pos}
theorem m_b {name : Str} {id : String} {b : Array UInt8} {t : Tok} {pl : Sem Bool} {Q : Value × List Value → Kn → List Fm → Prop} (slot : Slot "bytes" name id) (ty : typeOf (.builtin id) = pure (.type "method_descriptor")) (h : Q (.builtin id, [.bytes b t]) kn frs) : WP P A (getMethod (.bytes b t) name pl) Q kn frs := fun _ _ hs =>
  wx (by with_reducible exact KBd.method_of (.bytes b t) (typeIs_bytes _ _ _) slot ty (fun _ e => nomatch e) (WP.fin hs h))
theorem m_rfind {b : Array UInt8} {t : Tok} {pl : Sem Bool} {Q : Value × List Value → Kn → List Fm → Prop} (h : Q (.builtin "bytes.rfind", [.bytes b t]) kn frs) : WP P A (getMethod (.bytes b t) "rfind" pl) Q kn frs := by with_reducible exact m_b slot_b_rfind type_b_rfind h
theorem m_upper {b : Array UInt8} {t : Tok} {pl : Sem Bool} {Q : Value × List Value → Kn → List Fm → Prop} (h : Q (.builtin "bytes.upper", [.bytes b t]) kn frs) : WP P A (getMethod (.bytes b t) "upper" pl) Q kn frs := by with_reducible exact m_b slot_b_upper type_b_upper h
theorem k_rfind_no {b : List UInt8} {t u : Tok} (hb : 45 ∉ b) (h : ∀ t, Q (.int (-1) t) kn frs) : WP P A (call (.builtin "bytes.rfind") [.bytes b.toArray t, .bytes #[45] u]) Q kn frs := fun _ _ hs =>
  wx (rfind_ok (r := -1) (by rw [rfind_none hb, ite_self]) fun t k => ⟨_, _, _, _, rfl, hs, h t⟩)
theorem k_rfind {x y : List UInt8} {t u : Tok} (hb : 45 ∉ y) (h : ∀ t, Q (.int x.length t) kn frs) : WP P A (call (.builtin "bytes.rfind") [.bytes (x ++ 45 :: y).toArray t, .bytes #[45] u]) Q kn frs := fun _ _ hs =>
  wx (rfind_ok (r := x.length) (by rw [rfind_some hb, if_neg (by simp; (first | lia | omega))]) fun t k => ⟨_, _, _, _, rfl, hs, h t⟩)
theorem k_upper {b : List UInt8} {t : Tok} (hz : b.length ≤ sizeLine) (h : ∀ t, Q (.bytes (b.map Builtin.Bytes.toUpper).toArray t) kn frs) : WP P A (call (.builtin "bytes.upper") [.bytes b.toArray t]) Q kn frs := fun _ _ hs =>
  wx (upper_ok hz fun t k => ⟨_, _, _, _, rfl, hs, h t⟩)
theorem k_b_take {value slice : Expr} {b : List UInt8} {t u : Tok} {j : Int} {a : Addr} (ha : kn a = some (slo .none (.int j u) .none)) (h0 : 0 ≤ j) (h1 : j ≤ b.length) (hz : b.length ≤ sizeLine) (h : ∀ t, Q (.bytes (b.take j.toNat).toArray t) kn frs) :
    WP P A (subscriptTail value slice (.bytes b.toArray t) (.ref a)) Q kn frs := fun _ _ hs =>
  wx (sub_any (typeIs_bytes _ _ _) FB.slot_bytes_getitem.lookup (b_take (hs.know _ _ ha).1 h0 h1 hz fun t k => ⟨_, _, _, _, rfl, hs, h t⟩))
theorem k_b_drop {value slice : Expr} {b : List UInt8} {t u : Tok} {j : Int} {a : Addr} (ha : kn a = some (slo (.int j u) .none .none)) (h0 : 0 ≤ j) (h1 : j ≤ b.length) (hz : b.length ≤ sizeLine) (h : ∀ t, Q (.bytes (b.drop j.toNat).toArray t) kn frs) :
    WP P A (subscriptTail value slice (.bytes b.toArray t) (.ref a)) Q kn frs := fun _ _ hs =>
  wx (sub_any (typeIs_bytes _ _ _) FB.slot_bytes_getitem.lookup (b_drop (hs.know _ _ ha).1 h0 h1 hz fun t k => ⟨_, _, _, _, rfl, hs, h t⟩))
end
end
/-! # part B12 -/
section
open PySem PySem.W PyProof.Rows
theorem ty_ty (T : String) : typeOf (.type T) = typeOf (.type T) := rfl
theorem sub_b_str : isSubtype (.type "bytes") (.type "str") = pure false := by rw [isSubtype_type]; kernel_rfl
theorem sub_b_mv : isSubtype (.type "bytes") (.type "memoryview") = pure false := by rw [isSubtype_type]; kernel_rfl
theorem tt_str : typeOf (.type "str") = pure (.type "type") := by kernel_rfl
theorem tt_mv : typeOf (.type "memoryview") = pure (.type "type") := by kernel_rfl
theorem tt_bytes : typeOf (.type "bytes") = pure (.type "type") := by kernel_rfl
section
variable {P : Pk} {A : Around} {kn : Kn} {frs : List Fm} {env : Env} {Q : Value → Kn → List Fm → Prop} {pos : Pos}
theorem k_isi_str {b : Array UInt8} {t : Tok} (h : Q (.bool false) kn frs) : WP P A (call (.builtin "isinstance") [.bytes b t, .type "str"]) Q kn frs := fun _ _ hs =>
  wx (call_isinstance_of (isinstance_nested_false_bytes (by decide) tt_str sub_b_str ⟨_, _, _, _, rfl, hs, h⟩) (by intro e; cases e))
theorem k_isi_mv {b : Array UInt8} {t : Tok} (h : Q (.bool false) kn frs) : WP P A (call (.builtin "isinstance") [.bytes b t, .type "memoryview"]) Q kn frs := fun _ _ hs =>
  wx (call_isinstance_of (isinstance_nested_false_bytes (by decide) tt_mv sub_b_mv ⟨_, _, _, _, rfl, hs, h⟩) (by intro e; cases e))
theorem k_isi_bytes {b : Array UInt8} {t : Tok} (h : Q (.bool true) kn frs) : WP P A (call (.builtin "isinstance") [.bytes b t, .type "bytes"]) Q kn frs := fun _ _ hs =>
  wx (call_isinstance_yes (typeIs_bytes _ _ _) tt_bytes sub_bytes (WP.fin hs h))
end
end
/-! # part B13 -/
section
open PySem PySem.W PyProof.Rows
theorem forIn_steps {σ : Type} (f : Nat → σ → Sem (ForInStep σ)) (st : Nat → σ) : ∀ (n k : Nat), (∀ i, k ≤ i → i < k + n → ∀ x, f x (st i) = pure (.yield (st (i + 1)))) → forIn (List.range' k n) (st k) f = pure (st (k + n))
  | 0, k, _ => rfl
  | n + 1, k, h => by
    rw [List.range'_succ, List.forIn_cons, h k (Nat.le_refl _) (by (first | lia | omega))]
    show (forIn (List.range' (k + 1) n) (st (k + 1)) f) = _
    rw [forIn_steps f st n (k + 1) fun i h1 h2 => h i (by (first | lia | omega)) (by (first | lia | omega)), show k + 1 + n = k + (n + 1) by (first | lia | omega)]
open Builtin in
theorem ascii_run {id : String} {er : Option Str} (b : List UInt8) (hb : ∀ x ∈ b, x.toNat < 128) (hz : b.length ≤ sizeLine) : _codecs.runDecoder id _codecs.asciiDecoder er true b.toArray 0 [] = pure ((b.map (·.toNat)).toArray, b.length) := by
  unfold _codecs.runDecoder
  simp only [Std.Legacy.Range.forIn_eq_forIn_range']
  have hsz : ([:b.toArray.size] : Std.Legacy.Range).size = b.length := by simp [Std.Legacy.Range.size]
  rw [hsz]
  refine Eq.trans (congrArg (fun z => z >>= _) (forIn_steps (σ := Nat × Array Nat × _codecs.Faults) _ (fun i => (i, ((b.take i).map (·.toNat)).toArray, {})) b.length 0 ?_)) ?_
  · intro i _ hi x
    have hi' : i < b.length := by (first | lia | omega)
    have h1 : ¬ ((b.take i).map (·.toNat)).toArray.size > sizeLine := by simp; (first | lia | omega)
    have h2 : ¬ i ≥ b.toArray.size := by simpa using hi'
    have hc : (b.toArray.getD i 0).toNat < 128 := by
      have : b.toArray.getD i 0 = b[i] := by simp [hi']
      rw [this]; exact hb _ (List.getElem_mem hi')
    have h3 : _codecs.asciiDecoder.find true b.toArray i = .text [(b.toArray.getD i 0).toNat] (i + 1) := by
      show (if (b.toArray.getD i 0).toNat < 128 then _codecs.Found.char (b.toArray.getD i 0).toNat (i + 1) else _) = _
      rw [if_pos hc]; rfl
    dsimp only
    rw [if_neg h1, if_neg h2, h3]
    dsimp only
    have e1 : b.toArray.getD i 0 = b[i] := by simp [hi']
    have e2 : (b.take (i + 1)).map (·.toNat) = (b.take i).map (·.toNat) ++ [b[i].toNat] := by
      rw [List.take_add_one, List.getElem?_eq_getElem hi', List.map_append]; rfl
    rw [e1, e2, List.append_toArray]
  · rw [Nat.zero_add, List.take_length]
    rfl
section
open Builtin
variable {w : World} {A : Around} {E : Value → Shared → Prop} {s : Shared} {b : List UInt8} {t : Tok}
theorem road_ascii {id : String} {x : Array UInt8} : _codecs.decodeRoad id x (PySem.Str.ofString "ascii") (some (PySem.Str.ofString "strict")) [] = (_codecs.runDecoder id _codecs.asciiDecoder (some (PySem.Str.ofString "strict")) true x 0 [] >>= fun r => mkStr ⟨r.1⟩) := by kernel_rfl
theorem text_ascii {t1 t2 t3 : Tok} {d : PySem.Str} {Q : Fin → Shared → Prop} (hb : ∀ x ∈ b, x.toNat < 128) (hz : b.length ≤ sizeLine) (h : ∀ t k, Q (.done (.ret (.str (sx (b.map (·.toNat))) t))) { s with toks := k }) :
    wpAny (model prg w) A («_codecs.decode.text» ⟨[.bytes b.toArray t, .str (PySem.Str.ofString "ascii") t1, .str (PySem.Str.ofString "strict") t2, .str d t3], []⟩) Q E s := by
  show wpAny _ _ (Bytes.bytesLike _ (.bytes b.toArray t) >>= fun r => _) _ _ s
  refine wpAny_bind (wpAny_of_eq KBd.like_eq ?_)
  refine wpAny_bind (wpAny_of_eq KBd.held_eq ?_)
  show wpAny _ _ (_codecs.decodeRoad _ b.toArray (PySem.Str.ofString "ascii") (some (PySem.Str.ofString "strict")) [] >>= fun v => _) _ _ s
  rw [road_ascii, ascii_run b hb hz]
  refine wpAny_bind (wpAny_bind (wpAny_pure ?_))
  exact wpAny_mkStr (wpAny_pure (h _ _)) (by show (b.map (·.toNat)).toArray.size ≤ _; simpa using hz)
theorem decode_eq {c : UInt8} {cs : List UInt8} {t1 t2 : Tok} : «bytes.decode» ⟨[.bytes (c :: cs).toArray t], [("encoding", .str (PySem.Str.ofString "ascii") t1), ("errors", .str (PySem.Str.ofString "strict") t2)]⟩ = (mkStr (PySem.Str.ofString "utf-8") >>= fun _ => mkStr (PySem.Str.ofString "ascii") >>= fun e => mkStr (PySem.Str.ofString "strict") >>= fun er => mkStr (PySem.Str.ofString "bytes.decode") >>= fun d =>
    call (.builtin "_codecs.decode.text") [.bytes (c :: cs).toArray t, e, er, d] >>= fun v => ret v) := by kernel_rfl
theorem strnew_eq {x : Array UInt8} {t1 t2 : Tok} : «str.__new__» ⟨[.type "str", .bytes x t, .str (PySem.Str.ofString "ascii") t1, .str (PySem.Str.ofString "strict") t2], []⟩ = (mkStr (PySem.Str.ofString "ascii") >>= fun e => mkStr (PySem.Str.ofString "strict") >>= fun er =>
    rule "str.__new__.decode-bytes" >>= fun _ => call (.builtin "bytes.decode") [.bytes x t] [("encoding", e), ("errors", er)] >>= fun v => ret v) := by kernel_rfl
theorem args_dec {c : Value} {t1 t2 : Tok} : argsOk "bytes.decode" ⟨[c], [("encoding", .str (PySem.Str.ofString "ascii") t1), ("errors", .str (PySem.Str.ofString "strict") t2)]⟩ := by unfold argsOk; kernel_rfl
theorem call_decode {c : UInt8} {cs : List UInt8} {t1 t2 : Tok} {Q : Value → Shared → Prop} (hb : ∀ x ∈ c :: cs, x.toNat < 128) (hz : (c :: cs).length ≤ sizeLine) (h : ∀ t k, Q (.str (sx ((c :: cs).map (·.toNat))) t) { s with toks := k }) :
    wpAny (model prg w) A (call (.builtin "bytes.decode") [.bytes (c :: cs).toArray t] [("encoding", .str (PySem.Str.ofString "ascii") t1), ("errors", .str (PySem.Str.ofString "strict") t2)]) Q E s := by
  refine wpAny_call (codeAny_call_builtin FB.slot_bytes_decode.plain FB.entry_bytes_decode (FB.slot_bytes_decode.check _ _ _ _ _ _ _ _ (typeIs_bytes _ _ _) args_dec ?_))
  rw [decode_eq]
  refine wpAny_bind (wpAny_mkStr ?_ (by decide))
  refine wpAny_bind (wpAny_mkStr ?_ (by decide))
  refine wpAny_bind (wpAny_mkStr ?_ (by decide))
  refine wpAny_bind (wpAny_mkStr ?_ (by decide))
  refine wpAny_bind (call_function_any KBd.kind_text KBd.plain_text KBd.entry_text (KBd.args_text _ _ _ _) (text_ascii hb hz fun t k => ?_))
  exact wpAny_pure (h t k)
theorem typeCall_str_3 (a b c : Value) : checkTypeCall "str" ⟨[a, b, c], []⟩ = pure () := by kernel_rfl
theorem newCall_str_3 (a b c : Value) : checkBuiltinCall "str.__new__" ⟨[.type "str", a, b, c], []⟩ = pure () := by kernel_rfl
theorem args_init_4 (a b c d : Value) : argsOk "object.__init__" ⟨[a, b, c, d], []⟩ := by unfold argsOk; kernel_rfl
theorem plain_str_new : plainId "str.__new__" = true := by decide +kernel
theorem call_str_ascii {c : UInt8} {cs : List UInt8} {t1 t2 : Tok} {Q : Value → Shared → Prop} (hb : ∀ x ∈ c :: cs, x.toNat < 128) (hz : (c :: cs).length ≤ sizeLine) (h : ∀ t k, Q (.str (sx ((c :: cs).map (·.toNat))) t) { s with toks := k }) :
    wpAny (model prg w) A (call (.type "str") [.bytes (c :: cs).toArray t, .str (PySem.Str.ofString "ascii") t1, .str (PySem.Str.ofString "strict") t2]) Q E s := by
  refine callType_codes (Q₁ := fun obj s₁ => s₁.TypeIs obj "str" ∧ Q obj s₁) F.called_str (typeCall_str_3 _ _ _) F.entry_object_init ?_ fun obj s₁ h₁ => ?_
  · refine codeAny_call_builtin plain_str_new F.entry_str_new (wpAny_of_eq (newCall_str_3 _ _ _) ?_)
    rw [strnew_eq]
    refine wpAny_bind (wpAny_mkStr ?_ (by decide))
    refine wpAny_bind (wpAny_mkStr ?_ (by decide))
    refine wpAny_bind (wpAny_rule ?_)
    exact wpAny_bind (call_decode hb hz fun t k => wpAny_pure ⟨typeIs_str _ _ _, h t k⟩)
  · exact ⟨h₁.1, args_init_4 obj _ _ _, object_init_meets F.called_str.init.lookup F.called_str.made (by decide) prg w A.in1 _ s₁ ⟨h₁.1, rfl, h₁.2⟩⟩
end
section
variable {P : Pk} {A : Around} {kn : Kn} {frs : List Fm} {Q : Value → Kn → List Fm → Prop}
theorem k_str_ascii {b : List UInt8} {t t1 t2 : Tok} (hne : b ≠ []) (hb : ∀ x ∈ b, x.toNat < 128) (hz : b.length ≤ sizeLine) (h : ∀ t, Q (.str (sx (b.map (·.toNat))) t) kn frs) :
    WP P A (call (.type "str") [.bytes b.toArray t, .str (PySem.Str.ofString "ascii") t1, .str (PySem.Str.ofString "strict") t2]) Q kn frs := fun _ _ hs => by
  cases b with
  | nil => exact absurd rfl hne
  | cons c cs => exact wx (call_str_ascii hb hz fun t k => ⟨_, _, _, _, rfl, hs, h t⟩)
end
end
/-! # part B14 -/
section
open PySem PySem.W PyProof.Rows
section
variable {P : Pk} {A : Around} {kn : Kn} {frs : List Fm} {env : Env} {x : Str} {pos : Pos} {v : Value} {Q : Value → Kn → List Fm → Prop} {f g : Fm} {c : Addr}
/-- a name of the frame below, kept in a cell -/
theorem e_outc (hv : Lk x v f.vs) (h : Q v kn (g :: f :: frs)) (hC : env.cells.lookup x = some c) (hc : f.cs.lookup x = some c) (hk : env.scope.kind = .function) (hl : env.kindOf x = some .cell)
    (hd : (x == ("__debug__" : Str)) = false) : WP P A (eval (.Name x pos) env) Q kn (g :: f :: frs) := fun _ _ hs => by
  obtain ⟨u, hm, hp⟩ := (hs.fms f (.tail _ (.head _))).cell x c hc
  have := hp v hv.mem
  subst this
  exact wx (wpAny_Name (wpAny_loadName_cell hk hl hC hm (WP.fin hs h)) hd)
theorem e_outf (hv : Lk x v f.vs) (h : Q v kn (g :: f :: frs)) (hC : env.cells.lookup x = some c) (hc : f.cs.lookup x = some c) (hk : env.scope.kind = .function) (hl : env.kindOf x = some .free)
    (hd : (x == ("__debug__" : Str)) = false) (hn : (x == ("__classdict__" : Str)) = false) : WP P A (eval (.Name x pos) env) Q kn (g :: f :: frs) := fun _ _ hs => by
  obtain ⟨u, hm, hp⟩ := (hs.fms f (.tail _ (.head _))).cell x c hc
  have := hp v hv.mem
  subst this
  exact wx (wpAny_Name (wpAny_loadName_free hk hl hC hm (WP.fin hs h) hn) hd)
end
noncomputable abbrev ro (a b c : Value) : Obj := { cls := .type "range", data := .fields #[a, b, c] }
section
variable {P : Pk} {A : Around} {kn : Kn} {frs : List Fm}
theorem k_range {n : Int} {t : Tok} {Q : Value → Kn → List Fm → Prop} (h : ∀ a t1 t2, kn a = none → Q (.ref a) (kn.set a (ro (.int 0 t1) (.int n t) (.int 1 t2))) frs) : WP P A (call (.type "range") [.int n t]) Q kn frs := fun hp k hs =>
  wx (call_range_1 ⟨_, _, _, _, rfl, hs.push _, h _ _ _ (hs.free (get_size hp)).kn⟩)
theorem src_range (hA : A.handled = none) (r : Addr) (n : Nat) (hn : n ≤ 1000000) : Src P A (.ref r) n (fun i v => ∃ t, v = .int i t) (fun kn => Ex3 fun t1 t2 t3 => Kw P kn r (ro (.int 0 t1) (.int n t2) (.int 1 t3))) := by
  intro kn frs h k E Q hs ⟨t1, t2, t3, hr⟩ hQ
  have hrs : Builtin.Range.rangeSize 0 n 1 = n := by rw [rangeSize_one]; split <;> (first | lia | omega)
  refine wpAny_pyIter_range (hr.get hs) (by unfold Builtin.Range.small Builtin.Range.rangeFitsLong; rw [hrs]; simp; (first | lia | omega)) ?_
  rw [hrs]
  refine hQ h.objs.size (fun i h' => IsRangeIter h' h.objs.size i ((n : Int) - i) 1) _ k ⟨?_, ?_, ?_, ?_, ?_, ?_⟩ (get_size h) ?_ fun a o e => Heap.get?_push_of_some _ e
  · intro i kn frs h k E Q hi hs hR hG hQ
    refine wpAny_pyNext_range_item hG (by (first | lia | omega)) fun h' hG' hsb => ?_
    exact hQ _ h' (k + 1) ⟨_, rfl⟩ (by rw [show (((i + 1 : Nat) : Int)) = i + 1 by (first | lia | omega), show (n : Int) - (i + 1) = n - i - 1 by (first | lia | omega)]; exact hG') hsb
  · intro kn frs h k E Q hs hR hG hQ
    exact wpAny_pyNext_range_end hA hG (by (first | lia | omega)) fun h' he => hQ h' k he
  · intro i h h' hG hk
    exact hk _ hG
  · intro i h hG
    exact ⟨_, hG⟩
  · intro i h k target v E Q hG hq
    exact own_plain hG rfl hq
  · intro i h k E Q hG hq
    exact wpAny_pyIter_rangeiter hG hq
  · have : IsRangeIter (h.push { cls := .type "range_iterator", data := .fields #[rawInt 0, rawInt n, rawInt 1] }) h.objs.size 0 n 1 := Heap.get?_push_size _ rfl
    simpa [Pk.st_heap] using this
end
end
/-! # part B15 -/
section
open PySem PySem.W PyProof.Rows
section
variable {P : Pk} {A : Around} {kn : Kn} {frs : List Fm} {Q : Value → Kn → List Fm → Prop} {l : Addr} {items : List Value} {ep : Nat}
theorem k_lsub {value slice : Expr} {i : Int} {u : Tok} {v : Value} (hl : Kw P kn l (lo items ep)) (h0 : 0 ≤ i) (h1 : i < 2 ^ 63) (hv : items[i.toNat]? = some v) (h : Q v kn frs) : WP P A (subscriptTail value slice (.ref l) (.int i u)) Q kn frs := fun _ _ hs =>
  wx (sub_any (hl.isList hs).typeIs slot_list_getitem.lookup (wpAny_getItem_list (hl.isList hs) h0 h1 (by simpa using hv) (WP.fin hs h)))
theorem k_tsub {value slice : Expr} {i : Int} {u : Tok} {v : Value} (hl : Kw P kn l (to items)) (h0 : 0 ≤ i) (h1 : i < 2 ^ 63) (hv : items[i.toNat]? = some v) (h : Q v kn frs) : WP P A (subscriptTail value slice (.ref l) (.int i u)) Q kn frs := fun _ _ hs => by
  have hi : i.toNat < items.length := by
    rcases Nat.lt_or_ge i.toNat items.length with q | q
    · exact q
    · rw [List.getElem?_eq_none q] at hv; cases hv
  refine wx (sub_any (T := "tuple") ⟨_, hl.get hs, rfl⟩ slot_tuple_getitem.lookup (getItem_tuple (items := items.toArray) (j := i.toNat) (x := v) ⟨_, hl.get hs, rfl, _, rfl⟩ (by (first | lia | omega)) h1 ?_ (by simpa using hv) (WP.fin hs h)))
  have hn : ¬ i < 0 := by (first | lia | omega)
  simp [seqIndex?, hn]; (first | lia | omega)
theorem k_llen (hl : Kw P kn l (lo items ep)) (hz : items.length ≤ sizeLine) (h : ∀ t, Q (.int items.length t) kn frs) : WP P A (call (.builtin "len") [.ref l]) Q kn frs := fun _ _ hs =>
  wx (Calls.call_len_list (hl.isList hs) (by rw [sizeLine_eq] at hz; simp; (first | lia | omega)) ⟨_, _, _, _, rfl, hs, by have := h; simp; exact this _⟩)
theorem m_lappend {pl : Sem Bool} {Q : Value × List Value → Kn → List Fm → Prop} (hl : Kw P kn l (lo items ep)) (h : Q (.builtin "list.append", [.ref l]) kn frs) : WP P A (getMethod (.ref l) "append" pl) Q kn frs := fun _ _ hs =>
  wx (Calls.getMethod_list_append (hl.get hs) rfl rfl (WP.fin hs h))
theorem k_lappend {x : Value} (hl : kn l = some (lo items ep)) (hz : items.length ≤ sizeLine) (h : ∀ ep, Q .none (kn.set l (lo (items ++ [x]) ep)) frs) : WP P A (call (.builtin "list.append") [.ref l, x]) Q kn frs := fun _ _ hs =>
  wx (wpAny_list_append_plain (items := items.toArray) ⟨ep, (hs.know _ _ hl).1⟩ (fun h' hp hb => by
    obtain ⟨ep', hp⟩ := hp
    exact WP.fin (hs.sameBut hl (o' := lo (items ++ [x]) ep') (by rw [hp]; simp) hb) (h ep')) (by simpa using hz))
theorem k_max2 {a b : Int} {t u : Tok} (hA : A.handled = none) (h : ∀ t, Q (.int (max a b) t) kn frs) : WP P A (call (.builtin "max") [.int a t, .int b u]) Q kn frs := fun _ _ hs => by
  refine wx (max_two_ints hA fun h' tk hk => ?_)
  by_cases hc : b > a
  · rw [if_pos hc]; exact ⟨_, _, _, _, rfl, hs.grow hk, by have := h u; rwa [show max a b = b by (first | lia | omega)] at this⟩
  · rw [if_neg hc]; exact ⟨_, _, _, _, rfl, hs.grow hk, by have := h t; rwa [show max a b = a by (first | lia | omega)] at this⟩
theorem k_min2 {a b : Int} {t u : Tok} (hA : A.handled = none) (h : ∀ t, Q (.int (min a b) t) kn frs) : WP P A (call (.builtin "min") [.int a t, .int b u]) Q kn frs := fun _ _ hs => by
  refine wx (min_two_ints hA fun h' tk hk => ?_)
  by_cases hc : b < a
  · rw [if_pos hc]; exact ⟨_, _, _, _, rfl, hs.grow hk, by have := h u; rwa [show min a b = b by (first | lia | omega)] at this⟩
  · rw [if_neg hc]; exact ⟨_, _, _, _, rfl, hs.grow hk, by have := h t; rwa [show min a b = a by (first | lia | omega)] at this⟩
end
end
/-! # part B16 -/
section
open PySem PySem.W PyProof.Rows
section
variable {P : Pk} {A : Around} {kn : Kn} {frs : List Fm} {Q : Value → Kn → List Fm → Prop} {l b : Addr} {items items2 : List Value} {ep ep2 : Nat}
theorem St.upd {h : Heap} {f : Array Value → Array Value} {ys : List Value} (hs : St P kn frs h) (hl : kn l = some (lo items ep)) (hq : f items.toArray = ys.toArray) : ∃ e', St P (kn.set l (lo ys e')) frs (h.update l (Obj.mapSeq f)) := by
  have hm : ∃ e', Obj.mapSeq f (lo items ep) = lo ys e' := by
    have : ∃ e', Obj.mapSeq f (lo items ep) = { cls := .type "list", data := .seq (f items.toArray) e' } := ⟨_, rfl⟩
    obtain ⟨e', this⟩ := this
    exact ⟨e', by rw [this, hq]⟩
  obtain ⟨e', hm⟩ := hm
  have hg := (hs.know _ _ hl).1
  have he := Heap.get?_update_self (Obj.mapSeq f) hg (by rw [hm]; rfl)
  rw [hm] at he
  exact ⟨e', hs.sameBut hl he (Heap.SameBut.update ..)⟩
theorem k_l_take {value slice : Expr} {u : Tok} {j : Int} {a : Addr} (hl : Kw P kn l (lo items ep)) (ha : kn a = some (slo .none (.int j u) .none)) (h0 : 0 ≤ j) (hz : items.length ≤ sizeLine) (h : ∀ c, kn c = none → Q (.ref c) (kn.set c (lo (items.take j.toNat) 0)) frs) :
    WP P A (subscriptTail value slice (.ref l) (.ref a)) Q kn frs := fun hp _ hs => by
  obtain ⟨n, rfl⟩ := Int.eq_ofNat_of_zero_le h0
  refine wx (sub_any (hl.isList hs).typeIs slot_list_getitem.lookup (wpAny_getItem_list_slice (hl.isList hs) ⟨_, (hs.know _ _ ha).1, rfl, rfl⟩ .none (.int _ _) .none (by simp) ?_ (by simpa using hz)))
  rw [slicePick_upto']
  exact ⟨_, _, _, _, rfl, hs.push _, by have := h _ (hs.free (get_size hp)).kn; simpa [Pk.st_heap] using this⟩
theorem k_l_drop {value slice : Expr} {u : Tok} {j : Int} {a : Addr} (hl : Kw P kn l (lo items ep)) (ha : kn a = some (slo (.int j u) .none .none)) (h0 : 0 ≤ j) (hz : items.length ≤ sizeLine) (h : ∀ c, kn c = none → Q (.ref c) (kn.set c (lo (items.drop j.toNat) 0)) frs) :
    WP P A (subscriptTail value slice (.ref l) (.ref a)) Q kn frs := fun hp _ hs => by
  obtain ⟨n, rfl⟩ := Int.eq_ofNat_of_zero_le h0
  refine wx (sub_any (hl.isList hs).typeIs slot_list_getitem.lookup (wpAny_getItem_list_slice (hl.isList hs) ⟨_, (hs.know _ _ ha).1, rfl, rfl⟩ (.int _ _) .none .none (by simp) ?_ (by simpa using hz)))
  rw [slicePick_from']
  exact ⟨_, _, _, _, rfl, hs.push _, by have := h _ (hs.free (get_size hp)).kn; simpa [Pk.st_heap] using this⟩
theorem k_l_add (hl : Kw P kn l (lo items ep)) (hb : Kw P kn b (lo items2 ep2)) (hz : items.length + items2.length ≤ sizeLine) (h : ∀ c, kn c = none → Q (.ref c) (kn.set c (lo (items ++ items2) 0)) frs) : WP P A (binaryOp .Add (.ref l) (.ref b)) Q kn frs := fun hp _ hs =>
  wx (PySem.P.add_list (items := items.toArray) (items2 := items2.toArray) (hl.get hs) (hb.get hs) ⟨_, _, _, _, rfl, hs.push _, by have := h _ (hs.free (get_size hp)).kn; simpa [Pk.st_heap] using this⟩ (by simpa using hz))
theorem k_tuple (hl : Kw P kn l (lo items ep)) (hz : items.length ≤ sizeLine) (h : ∀ c, kn c = none → Q (.ref c) (kn.set c (to items)) frs) : WP P A (call (.type "tuple") [.ref l]) Q kn frs := fun hp _ hs =>
  wx (call_tuple_list (hl.isList hs) (fun h' hk => ⟨_, _, _, _, rfl, (hs.grow hk).push _, h _ ((hs.grow hk).free (get_size h')).kn⟩) (by simpa using hz))
theorem m_lextend {pl : Sem Bool} {Q : Value × List Value → Kn → List Fm → Prop} (hl : Kw P kn l (lo items ep)) (h : Q (.builtin "list.extend", [.ref l]) kn frs) : WP P A (getMethod (.ref l) "extend" pl) Q kn frs := fun _ _ hs =>
  wx (getMethod_builtin (T := "list") ⟨_, hl.get hs, rfl⟩ F.plainAttrs_list F.slot_list_extend F.type_list_extend (fun a e => by cases e; exact ⟨_, hl.get hs, rfl⟩) (WP.fin hs h))
theorem m_linsert {pl : Sem Bool} {Q : Value × List Value → Kn → List Fm → Prop} (hl : Kw P kn l (lo items ep)) (h : Q (.builtin "list.insert", [.ref l]) kn frs) : WP P A (getMethod (.ref l) "insert" pl) Q kn frs := fun _ _ hs =>
  wx (getMethod_builtin (T := "list") ⟨_, hl.get hs, rfl⟩ F.plainAttrs_list F.slot_list_insert F.type_list_insert (fun a e => by cases e; exact ⟨_, hl.get hs, rfl⟩) (WP.fin hs h))
theorem k_lextend (hl : kn l = some (lo items ep)) (hb : Kw P kn b (lo items2 ep2)) (hz : items.length + items2.length ≤ sizeLine) (h : ∀ ep, Q .none (kn.set l (lo (items ++ items2) ep)) frs) : WP P A (call (.builtin "list.extend") [.ref l, .ref b]) Q kn frs := fun _ _ hs => by
  have h1 := (hs.know _ _ hl).1
  refine wx (call_meets F.slot_list_extend ⟨_, h1, rfl⟩ F.entry_list_extend (F.args_list_extend_2 _ _) (AutoSeq1.list_extend_list_list_0 l items.toArray ep b items2.toArray ep2 ?_ ?_ ?_) ⟨h1, hb.get hs, ?_⟩)
  · simp [Builtin.List.listTooLong]; (first | lia | omega)
  · simp; (first | lia | omega)
  · simp; (first | lia | omega)
  · have he : ∃ e', (Heap.update _ l (Obj.mapSeq fun x => x ++ items2.toArray)).get? l = some (lo (items ++ items2) e') := ⟨_, by rw [Heap.get?_update_self _ h1 (by simp [Obj.mapSeq]; rfl)]; simp [Obj.mapSeq]; rfl⟩
    obtain ⟨e', he⟩ := he
    exact WP.fin (hs.sameBut hl he (Heap.SameBut.update ..)) (h e')
theorem k_linsert {x : Value} {i : Int} {u : Tok} (hl : kn l = some (lo items ep)) (h0 : 0 ≤ i) (h1 : i ≤ items.length) (hz : items.length ≤ sizeLine) (h : ∀ ep, Q .none (kn.set l (lo (items.take i.toNat ++ x :: items.drop i.toNat) ep)) frs) : WP P A (call (.builtin "list.insert") [.ref l, .int i u, x]) Q kn frs := fun hp _ hs => by
  have hg := (hs.know _ _ hl).1
  rw [sizeLine_eq] at hz
  refine wx (call_meets F.slot_list_insert ⟨_, hg, rfl⟩ F.entry_list_insert (F.args_list_insert_3 _ _ _) (AutoSeq1.list_insert_list_int_val_1 l items.toArray ep i u x ?_ ?_) ⟨hg, ?_⟩)
  · simp [Builtin.List.listFitsIndex]; (first | lia | omega)
  · rw [sizeLine_eq]; simpa using hz
  · refine (fun ⟨e', hst⟩ => ⟨_, _, _, _, rfl, hst, h e'⟩) (hs.upd hl ?_)
    have hi : ¬ i < 0 := by (first | lia | omega)
    have hmn : min i.toNat items.length = i.toNat := by (first | lia | omega)
    apply Array.toList_inj.mp
    simp [hi, hmn, List.take_of_length_le]
end
end
/-! # part B17 -/
section
open PySem PySem.W PyProof.Rows
/-! ## list comprehensions that leave what was known as it was -/
noncomputable def Same (kn : Kn) (frs : List Fm) (C : Addr) (kn' : Kn) (frs' : List Fm) : Prop := (∀ a o, kn a = some o → kn' a = some o) ∧ ∃ vs, frs' = ⟨C, [], vs⟩ :: frs
theorem Same.of {kn kn' : Kn} {frs : List Fm} {C : Addr} {vs : List (Str × Value)} (h : ∀ a o, kn a = some o → kn' a = some o) : Same kn frs C kn' (⟨C, [], vs⟩ :: frs) := ⟨h, vs, rfl⟩
theorem Same.eq {kn : Kn} {frs : List Fm} {C : Addr} {vs : List (Str × Value)} : Same kn frs C kn (⟨C, [], vs⟩ :: frs) := ⟨fun _ _ e => e, vs, rfl⟩
section
variable {P : Pk} {A : Around} {kn : Kn} {frs : List Fm} {env : Env}
noncomputable def LcPure (P : Pk) (A : Around) (env : Env) (elt target : Expr) (ifs : List Expr) (scope : Scope) (cl : List (Str × Addr)) (n : Nat) (V : Nat → Value → Prop) (F : Nat → List Value → Prop) (kn : Kn) (frs : List Fm) : Prop :=
  ∀ i ys v P' C, Le P P' → i < n → V i v → F i ys → WP P' A (assign target (compEnvC scope cl C env) v) (fun _ kn' frs' =>
      WP P' A (forIn ifs true fun c r => if r = true then do let ok ← isTrue c (compEnvC scope cl C env) (eval c (compEnvC scope cl C env)); pure (ForInStep.yield ok) else pure (ForInStep.yield r)) (fun ok kn' frs' =>
        if ok = true then WP P' A (eval elt (compEnvC scope cl C env)) (fun y kn' frs' => F (i + 1) (ys ++ [y]) ∧ Same kn frs C kn' frs') kn' frs'
        else F (i + 1) ys ∧ Same kn frs C kn' frs') kn' frs') kn (⟨C, [], []⟩ :: frs)
theorem LcPure.turn {elt target : Expr} {ifs : List Expr} {scope : Scope} {cl : List (Str × Addr)} {n : Nat} {V : Nat → Value → Prop} {F : Nat → List Value → Prop} (H : LcPure P A env elt target ifs scope cl n V F kn frs) :
    LcTurn P A env elt target ifs scope cl n V (fun i ys kn' frs' => kn' = kn ∧ frs' = frs ∧ F i ys) := by
  rintro i ys v P' C _ _ hle hi hV ⟨rfl, rfl, hF⟩
  refine (H i ys v P' C hle hi hV hF).mono fun _ kn₁ frs₁ h₁ => ?_
  refine WP.drop (h₁.mono fun ok kn₂ frs₂ h₂ => ?_)
  cases ok with
  | true =>
    refine ⟨kn₂, fun _ _ e => e, ?_⟩
    show WP _ _ _ _ _ _
    refine WP.drop ((show WP P' A _ _ kn₂ frs₂ from h₂).mono fun y kn₃ frs₃ ⟨hF, hk, vs, hf⟩ => ?_)
    subst hf
    exact ⟨_, hk, ⟨rfl, rfl, hF⟩, _, rfl, rfl, rfl⟩
  | false =>
    obtain ⟨hF, hk, vs, hf⟩ := (show F (i + 1) ys ∧ Same _ _ C kn₂ frs₂ from h₂)
    subst hf
    exact ⟨_, hk, (show _ ∧ _ from ⟨⟨rfl, rfl, hF⟩, _, rfl, rfl, rfl⟩)⟩
inductive LcE (P : Pk) (A : Around) (env : Env) (elt target : Expr) (ifs : List Expr) (scope : Scope) (cl : List (Str × Addr)) (Q : Value → Kn → List Fm → Prop) (xv : Value) (kn : Kn) (frs : List Fm) : Prop
  | mk (n : Nat) (V : Nat → Value → Prop) (R : Kn → Prop) (F : Nat → List Value → Prop) (hn : n ≤ sizeLine) (src : Src P A xv n V R) (hR : R kn) (h0 : F 0 [])
    (turn : LcPure P A env elt target ifs scope cl n V F kn frs) (fin : ∀ ys D ep, F n ys → kn D = none → ys.length ≤ n → Q (.ref D) (kn.set D (lo ys ep)) frs) : LcE P A env elt target ifs scope cl Q xv kn frs
inductive LcX (P : Pk) (A : Around) (env : Env) (elt target : Expr) (ifs : List Expr) (scope : Scope) (cl : List (Str × Addr)) (y : Str) (Q : Flow → Kn → List Fm → Prop) (xv : Value) (kn : Kn) (frs : List Fm) : Prop
  | mk (n : Nat) (V : Nat → Value → Prop) (R : Kn → Prop) (F : Nat → List Value → Prop) (hn : n ≤ sizeLine) (src : Src P A xv n V R) (hR : R kn) (h0 : F 0 [])
    (turn : LcPure P A env elt target ifs scope cl n V F kn frs) (fin : ∀ ys D ep P', Le P P' → F n ys → kn D = none → ys.length ≤ n → WP P' A (storeName env y (.ref D)) (fun _ => Q .next) (kn.set D (lo ys ep)) frs) : LcX P A env elt target ifs scope cl y Q xv kn frs
theorem e_lcp {elt iter target : Expr} {ifs : List Expr} {scope : Scope} {cl : List (Str × Addr)} {pos : Pos} {Q : Value → Kn → List Fm → Prop}
    (H : WP P A (eval iter env) (LcE P A env elt target ifs scope cl Q) kn frs)
    (hclos : closureFor scope env = pure cl) (hcell : ∀ y ∈ scope.names, y.2 ≠ .cell) (hkind : scope.kind = .function) (hnames : ∀ x ∈ scope.names, x.2 = .local → scope.names.lookup x.1 = some .local)
    (hs : ∀ x, foldedSetIterable iter env x = pure x := by intro _; rfl) :
    WP P A (eval (.ListComp elt [⟨target, iter, ifs, 0⟩] scope pos) env) Q kn frs := by
  refine e_lc (H.mono fun xv kn₁ frs₁ h => ?_) hclos hcell hkind hnames hs
  obtain ⟨n, V, R, F, hn, hsrc, hR, hF, hturn, hfin⟩ := h
  exact ⟨n, V, R, fun i ys kn' frs' => kn' = kn₁ ∧ frs' = frs₁ ∧ F i ys, hn, hsrc, ⟨rfl, rfl, hF⟩, fun i ys kn' frs' h => h.1 ▸ hR, hturn.turn, fun ys kn' frs' D ep ⟨e1, e2, hF⟩ hD hl => by subst e1; subst e2; exact hfin ys D ep hF hD hl⟩
theorem x_lcp {elt iter target : Expr} {ifs : List Expr} {scope : Scope} {cl : List (Str × Addr)} {pos py spos : Pos} {y : Str} {Q : Flow → Kn → List Fm → Prop}
    (H : WP P A (eval iter env) (LcX P A env elt target ifs scope cl y Q) kn frs)
    (hsw : swapsWith (.ListComp elt [⟨target, iter, ifs, 0⟩] scope pos) (some (.Name y py)) spos.line env = pure true)
    (hclos : closureFor scope env = pure cl) (hcell : ∀ y ∈ scope.names, y.2 ≠ .cell) (hkind : scope.kind = .function) (hnames : ∀ x ∈ scope.names, x.2 = .local → scope.names.lookup x.1 = some .local)
    (hs : ∀ x, foldedSetIterable iter env x = pure x := by intro _; rfl) :
    WP P A (exec (.Assign [.Name y py] (.ListComp elt [⟨target, iter, ifs, 0⟩] scope pos) spos) env) Q kn frs := by
  refine x_lc (H.mono fun xv kn₁ frs₁ h => ?_) hsw hclos hcell hkind hnames hs
  obtain ⟨n, V, R, F, hn, hsrc, hR, hF, hturn, hfin⟩ := h
  exact ⟨n, V, R, fun i ys kn' frs' => kn' = kn₁ ∧ frs' = frs₁ ∧ F i ys, hn, hsrc, ⟨rfl, rfl, hF⟩, fun i ys kn' frs' h => h.1 ▸ hR, hturn.turn, fun ys kn' frs' D ep P' hle ⟨e1, e2, hF⟩ hD hl => by subst e1; subst e2; exact hfin ys D ep P' hle hF hD hl⟩
end
theorem ia_app : ∀ {vs ws : List Value} {ns ms : List Int}, IntsAre vs ns → IntsAre ws ms → IntsAre (vs ++ ws) (ns ++ ms) := by
  intro vs ws ns ms h1 h2
  induction h1 with
  | nil => exact h2
  | cons n t _ ih => exact .cons n t ih
theorem ia_at {vs : List Value} {ns : List Int} (h : IntsAre vs ns) (i : Nat) (v : Value) (hv : vs[i]? = some v) : Ex2 fun n t => An2 (v = .int n t) (ns[i]? = some n) := by
  obtain ⟨n, t, e, hn⟩ := h.at i v hv
  exact ⟨n, t, e, hn⟩
theorem ia_one (n : Int) (t : Tok) : IntsAre [.int n t] [n] := .cons n t .nil
theorem ia_get : ∀ {vs : List Value} {ns : List Int}, IntsAre vs ns → ∀ (i : Nat), i < ns.length → ∃ t, vs[i]? = some (.int (ns.getD i 0) t) := by
  intro vs ns h
  induction h with
  | nil => intro i hi; exact absurd hi (Nat.not_lt_zero _)
  | cons n t _ ih =>
    intro i hi
    cases i with
    | zero => exact ⟨t, rfl⟩
    | succ i => obtain ⟨t, ht⟩ := ih i (by simpa using hi); exact ⟨t, by simpa using ht⟩
theorem range_filter_succ (p : Nat → Bool) (f : Nat → Int) (i : Nat) : ((List.range (i + 1)).filter p).map f = ((List.range i).filter p).map f ++ if p i = true then [f i] else [] := by
  rw [List.range_succ, List.filter_append, List.map_append]
  by_cases h : p i = true <;> simp [h]
end
/-! # part B18 -/
section
open PySem PySem.W PyProof.Rows
/-! ## max of a list; rows of triples -/
noncomputable def mx (l : List Int) : Int := l.foldl max (-1)
theorem foldl_max_spec : ∀ (l : List Int) (z : Int), (l.foldl max z = z ∨ l.foldl max z ∈ l) ∧ z ≤ l.foldl max z ∧ ∀ a ∈ l, a ≤ l.foldl max z
  | [], z => ⟨.inl rfl, Int.le_refl _, fun a ha => nomatch ha⟩
  | b :: l, z => by
    obtain ⟨h1, h2, h3⟩ := foldl_max_spec l (max z b)
    rw [List.foldl_cons]
    refine ⟨?_, by (first | lia | omega), fun a ha => ?_⟩
    · rcases h1 with h1 | h1
      · by_cases hb : z ≤ b
        · exact .inr (by rw [h1, show max z b = b by (first | lia | omega)]; exact .head _)
        · exact .inl (by rw [h1]; (first | lia | omega))
      · exact .inr (.tail _ h1)
    · rcases List.mem_cons.mp ha with e | ha
      · subst e; (first | lia | omega)
      · exact h3 a ha
theorem mx_of {l : List Int} {M : Int} (h1 : M ∈ -1 :: l) (h2 : ∀ a ∈ -1 :: l, a ≤ M) : M = mx l := by
  obtain ⟨g1, g2, g3⟩ := foldl_max_spec l (-1)
  have h3 : mx l ≤ M := by
    rcases g1 with g | g
    · have := h2 (-1) (.head _); unfold mx; (first | lia | omega)
    · exact h2 _ (.tail _ g)
  have h4 : M ≤ mx l := by
    rcases List.mem_cons.mp h1 with e | h
    · subst e; exact g2
    · exact g3 M h
  (first | lia | omega)
section
variable {P : Pk} {A : Around} {kn : Kn} {frs : List Fm} {Q : Value → Kn → List Fm → Prop} {l : Addr} {items : List Value} {ep : Nat}
theorem k_maxl {ns : List Int} (hA : A.handled = none) (hl : Kw P kn l (lo items ep)) (hi : IntsAre items ns) (hne : 0 < ns.length) (h : ∀ M t, M ∈ ns → (∀ a ∈ ns, a ≤ M) → Q (.int M t) kn frs) : WP P A (call (.builtin "max") [.ref l]) Q kn frs := fun _ _ hs => by
  have hL := hl.isList hs
  obtain ⟨xs, e⟩ := hi.allInts.items
  have hns : ns = xs.toList.map (·.1) := by rw [← hi.numsOf, ← nums_intItems, ← e]
  have hsz : 0 < xs.size := by have h3 := hne; rw [hns, List.length_map, Array.length_toList] at h3; exact h3
  rw [e] at hL
  refine wx (max_intList hA hL hsz fun v h' tk hv hk => ?_)
  obtain ⟨t, rfl⟩ := intItems_at hv
  obtain ⟨h1, h2⟩ := argBest_gt (numAt xs) (xs.size - 1)
  refine ⟨_, _, _, _, rfl, hs.grow hk, h _ t ?_ fun a ha => ?_⟩
  · rw [hns, numAt_eq]; exact getD_mem (by rw [List.length_map, Array.length_toList]; (first | lia | omega))
  · rw [hns] at ha
    obtain ⟨j, hj, rfl⟩ := mem_getD ha
    rw [List.length_map, Array.length_toList] at hj
    rw [← numAt_eq]; exact h2 j (by (first | lia | omega))
end
theorem WP.gen {P : Pk} {A : Around} {α : Type} {t : Sem α} {Q : α → Kn → List Fm → Prop} {kn : Kn} {frs : List Fm} (p : Kn → Prop) (hp : p kn) (H : ∀ K, p K → WP P A t Q K frs) : WP P A t Q kn frs := H kn hp
theorem Kn.new {kn : Kn} {c : Addr} {o : Obj} (hc : kn c = none) : ∀ a x, kn a = some x → kn.set c o a = some x := Kn.le_set hc fun _ _ e => e
theorem to_ne {kn : Kn} {a G : Addr} {vs gi : List Value} {ep : Nat} (h : kn a = some (to vs)) (hg : kn G = some (lo gi ep)) : a ≠ G := fun e => by
  subst e
  rw [h] at hg
  have := congrArg Obj.cls (Option.some.inj hg)
  injection this with this
  exact absurd this (by decide)
theorem Kn.set_to {kn : Kn} {G : Addr} {gi : List Value} {ep : Nat} {x : Obj} (hg : kn G = some (lo gi ep)) : ∀ a vs, kn a = some (to vs) → kn.set G x a = some (to vs) := fun a vs e => by
  rw [Kn.set_ne (to_ne e hg)]; exact e
theorem Kn.ne_of {kn : Kn} {a b : Addr} {o : Obj} (h : kn a = some o) (hb : kn b = none) : a ≠ b := fun e => by rw [e, hb] at h; cases h
theorem k_bytesl {P : Pk} {A : Around} {kn : Kn} {frs : List Fm} {Q : Value → Kn → List Fm → Prop} {l : Addr} {items : List Value} {ep : Nat} {ns : List Int} (hA : A.handled = none) (hl : Kw P kn l (lo items ep)) (hi : IntsAre items ns) (hr : ∀ n ∈ ns, 0 ≤ n ∧ n < 256) (hz : items.length ≤ sizeLine)
    (h : ∀ t, Q (.bytes (ns.map fun n => n.toNat.toUInt8).toArray t) kn frs) : WP P A (call (.type "bytes") [.ref l]) Q kn frs := fun _ _ hs =>
  wx (call_bytes_ints (hl.isList hs) hi hr hz hA fun h' t k hk => ⟨_, _, _, _, rfl, hs.grow hk, h t⟩)
theorem k_badd {P : Pk} {A : Around} {kn : Kn} {frs : List Fm} {Q : Value → Kn → List Fm → Prop} {b c : List UInt8} {t u : Tok} (hz : b.length + c.length ≤ 16777216) (h : ∀ t, Q (.bytes (b ++ c).toArray t) kn frs) : WP P A (binaryOp .Add (.bytes b.toArray t) (.bytes c.toArray u)) Q kn frs := fun _ _ hs =>
  wx (KBy.add_bytes (by simpa using hz) fun t' k => ⟨_, _, _, _, rfl, hs, by have := h t'; simpa using this⟩)
noncomputable abbrev R3 := Int × Int × Int
inductive RowIs (kn : Kn) : List Value → List R3 → Prop
  | nil : RowIs kn [] []
  | cons {a : Addr} {t1 t2 t3 : Tok} {r : R3} {vs : List Value} {rs : List R3} (ha : kn a = some (to [.int r.1 t1, .int r.2.1 t2, .int r.2.2 t3])) (h : RowIs kn vs rs) : RowIs kn (.ref a :: vs) (r :: rs)
theorem RowIs.le {kn kn' : Kn} {vs : List Value} {rs : List R3} (h : RowIs kn vs rs) (hk : ∀ a vs, kn a = some (to vs) → kn' a = some (to vs)) : RowIs kn' vs rs := by
  induction h with
  | nil => exact .nil
  | cons ha _ ih => exact .cons (hk _ _ ha) ih
theorem RowIs.len {kn : Kn} {vs : List Value} {rs : List R3} (h : RowIs kn vs rs) : vs.length = rs.length := by
  induction h with
  | nil => rfl
  | cons _ _ ih => simp [ih]
theorem RowIs.app {kn : Kn} {vs ws : List Value} {rs ss : List R3} (h : RowIs kn vs rs) (h' : RowIs kn ws ss) : RowIs kn (vs ++ ws) (rs ++ ss) := by
  induction h with
  | nil => exact h'
  | cons ha _ ih => exact .cons ha ih
theorem RowIs.take {kn : Kn} {vs : List Value} {rs : List R3} (h : RowIs kn vs rs) (n : Nat) : RowIs kn (vs.take n) (rs.take n) := by
  induction h generalizing n with
  | nil => simp; exact .nil
  | cons ha _ ih =>
    cases n with
    | zero => exact .nil
    | succ n => exact .cons ha (ih n)
theorem RowIs.drop {kn : Kn} {vs : List Value} {rs : List R3} (h : RowIs kn vs rs) (n : Nat) : RowIs kn (vs.drop n) (rs.drop n) := by
  induction h generalizing n with
  | nil => simp; exact .nil
  | cons ha h ih =>
    cases n with
    | zero => exact .cons ha h
    | succ n => exact ih n
theorem RowIs.get {kn : Kn} {vs : List Value} {rs : List R3} (h : RowIs kn vs rs) : ∀ {i : Nat} {v : Value}, vs[i]? = some v → Ex5 fun a t1 t2 t3 r => An3 (v = .ref a) (rs[i]? = some r) (kn a = some (to [.int r.1 t1, .int r.2.1 t2, .int r.2.2 t3])) := by
  induction h with
  | nil => intro i v hv; simp at hv
  | @cons a t1 t2 t3 r _ _ ha _ ih =>
    intro i v hv
    cases i with
    | zero => simp at hv; exact ⟨a, t1, t2, t3, r, hv.symm, rfl, ha⟩
    | succ i => exact ih (by simpa using hv)
theorem fm_succ {α β : Type} (p : α → Bool) (f : α → β) {l : List α} {i : Nat} {r : α} (h : l[i]? = some r) : ((l.take (i + 1)).filter p).map f = ((l.take i).filter p).map f ++ if p r = true then [f r] else [] := by
  rw [List.take_add_one, h, List.filter_append, List.map_append]
  by_cases hp : p r = true <;> simp [hp]
end
/-! # part B19 -/
section
open PySem PySem.W PyProof.Rows Builtin.ObjectAttr
section
variable {P : Pk} {A : Around} {kn : Kn} {frs : List Fm} {env : Env} {Q : Value → Kn → List Fm → Prop} {pos : Pos} {h : Heap}
theorem St.K (hs : St P kn frs h) : (KK P.w.params).In h := fun a o e => hs.base a o (P.kin a o e)
/-! ## attributes, in the text -/
theorem e_attr {o : Expr} {attr : Str} (H : WP P A (eval o env) (fun ov kn frs => WP P A (getAttr ov attr true) Q kn frs) kn frs)
    (he : eval (.Attribute o attr pos) env = (do
      let ov ← eval o env
      standAt pos.atName
      let r ← holding [ov] (getAttr ov attr true)
      letTemporaryGo o ov r
      pure r) := by with_unfolding_all rfl) : WP P A (eval (.Attribute o attr pos) env) Q kn frs := fun _ _ hs => by
  rw [he]
  exact wpX_bind (H.use hs fun _ _ _ _ _ hs₁ h₁ => wpX_stand (wpX_bind (wpX_hold (h₁.use hs₁ fun _ _ _ _ _ hs₂ h₂ => wpX_bind (wx (wpAny_letTemporaryGo (wpX_pure (WP.fin hs₂ h₂))))))))
theorem x_assignT {t value : Expr} {Q : Flow → Kn → List Fm → Prop} (H : WP P A (eval value env) (fun v kn frs => WP P A (assign t env v) (fun _ => Q .next) kn frs) kn frs)
    (hs : swapsWithSole [t] value pos.line env = pure false := by rfl) (hw : swappedStores [t] value env = pure none := by rfl) (he : (assignEach [t] env).map (·.2) = [assign t env] := by rfl) :
    WP P A (exec (.Assign [t] value pos) env) Q kn frs := fun _ _ hst => by
  rw [exec_Assign_arm]
  refine wpX_stand ?_
  rw [hs]
  refine wpX_bind (wpX_pure ?_)
  rw [if_neg (by decide)]
  refine wpX_bind (H.use hst fun v _ _ h₁ k₁ hst₁ H₁ => ?_)
  rw [hw, he]
  refine wpX_bind (wpX_pure ?_)
  show wpX _ A (do assign t env v; pure Flow.next) _ _ _
  exact wpX_bind ((show WP P A _ _ _ _ from H₁).use hst₁ fun _ _ _ _ _ hs' hq => wpX_pure (WP.fin hs' hq))
theorem x_assignTT {t₁ t₂ value : Expr} {Q : Flow → Kn → List Fm → Prop} (H : WP P A (eval value env) (fun v kn frs => WP P A (assign t₁ env v) (fun _ kn frs => WP P A (assign t₂ env v) (fun _ => Q .next) kn frs) kn frs) kn frs)
    (hw : swappedStores [t₁, t₂] value env = pure none := by rfl) (he : (assignEach [t₁, t₂] env).map (·.2) = [assign t₁ env, assign t₂ env] := by rfl) :
    WP P A (exec (.Assign [t₁, t₂] value pos) env) Q kn frs := fun _ _ hst => by
  rw [exec_Assign_arm]
  refine wpX_stand ?_
  refine wpX_bind (wpX_eq (show swapsWithSole [t₁, t₂] value pos.line env = pure false from rfl) (wpX_pure ?_))
  rw [if_neg (by decide)]
  refine wpX_bind (H.use hst fun v _ _ h₁ k₁ hst₁ H₁ => ?_)
  rw [hw, he]
  refine wpX_bind (wpX_pure ?_)
  show wpX _ A (do (do holding [v] (assign t₁ env v); assign t₂ env v); pure Flow.next) _ _ _
  exact wpX_bind (wpX_bind (wpX_hold ((show WP P A _ _ _ _ from H₁).use hst₁ fun _ _ _ _ _ hs' hq => (show WP P A _ _ _ _ from hq).use hs' fun _ _ _ _ _ hs'' hq => wpX_pure (WP.fin hs'' hq))))
theorem a_attr {o : Expr} {attr : Str} {v : Value} {Q : Unit → Kn → List Fm → Prop} (H : WP P A (eval o env) (fun ov kn frs => WP P A (setAttr ov attr v) Q kn frs) kn frs) : WP P A (assign (.Attribute o attr pos) env v) Q kn frs := fun _ _ hs => by
  rw [arm_assign_Attribute]
  exact wpX_bind (wpX_hold (H.use hs fun _ _ _ _ _ hs₁ h₁ => wpX_stand (wpX_bind (wpX_hold (h₁.use hs₁ fun _ _ _ _ _ hs₂ h₂ => wx (wpAny_release (WP.fin hs₂ h₂)))))))
theorem a_sub {o i : Expr} {v : Value} {Q : Unit → Kn → List Fm → Prop} (H : WP P A (eval o env) (fun ov kn frs => WP P A (eval i env) (fun iv kn frs => WP P A (setItem ov iv v) Q kn frs) kn frs) kn frs) : WP P A (assign (.Subscript o i pos) env v) Q kn frs := fun _ _ hs => by
  rw [arm_assign_Subscript]
  exact wpX_bind (wpX_hold (H.use hs fun _ _ _ _ _ hs₁ h₁ => wpX_bind (wpX_hold (h₁.use hs₁ fun _ _ _ _ _ hs₂ h₂ => wpX_stand (wpX_bind (wpX_hold (h₂.use hs₂ fun _ _ _ _ _ hs₃ h₃ => wx (wpAny_release (WP.fin hs₃ h₃)))))))))
theorem x_aug_attr {o value : Expr} {attr : Str} {tpos : Pos} {op : Operator} {Q : Flow → Kn → List Fm → Prop} (H : WP P A (eval o env) (fun ov kn frs => WP P A (getAttr ov attr true) (fun old kn frs => WP P A (eval value env) (fun v kn frs => WP P A (inplaceOp op old v) (fun new kn frs =>
      WP P A (setAttr ov attr new) (fun _ => Q .next) kn frs) kn frs) kn frs) kn frs) kn frs) : WP P A (exec (.AugAssign (.Attribute o attr tpos) op value pos) env) Q kn frs := fun _ _ hs => by
  rw [arm_exec_AugAssign_2]
  refine wpX_stand (wpX_bind (H.use hs fun ov _ _ _ _ hs₁ h₁ => wpX_bind (wpX_hold (wpX_stand (wpX_bind (h₁.use hs₁ fun old _ _ _ _ hs₂ h₂ => wpX_bind (wpX_hold (h₂.use hs₂ fun v _ _ _ _ hs₃ h₃ => wpX_stand (wpX_oper (h₃.use hs₃ fun new _ _ _ _ hs₄ h₄ => ?_))))))))))
  exact wpX_stand (wpX_bind (wpX_hold ((show WP P A _ _ _ _ from h₄).use hs₄ fun _ _ _ _ _ hs₅ h₅ => wpX_bind (wx (wpAny_release (wpX_pure (WP.fin hs₅ h₅)))))))
theorem e_named {target value : Expr} (H : WP P A (eval value env) (fun v kn frs => WP P A (assign target env v) (fun _ => Q v) kn frs) kn frs) : WP P A (eval (.NamedExpr target value pos) env) Q kn frs := fun _ _ hs => by
  rw [arm_eval_NamedExpr]
  exact wpX_bind (H.use hs fun v _ _ _ _ hs₁ h₁ => wpX_bind (wpX_hold ((show WP P A _ _ _ _ from h₁).use hs₁ fun _ _ _ _ _ hs₂ h₂ => wpX_pure (WP.fin hs₂ h₂))))
theorem x_del {o i : Expr} {p2 : Pos} {Q : Flow → Kn → List Fm → Prop} (H : WP P A (eval o env) (fun ov kn frs => WP P A (eval i env) (fun iv kn frs => WP P A (delItem ov iv) (fun _ => Q .next) kn frs) kn frs) kn frs) : WP P A (exec (.Delete [.Subscript o i p2] pos) env) Q kn frs := fun _ _ hs => by
  rw [arm_exec_Delete, arm_deleteEach_cons, arm_deleteEach_nil, arm_delete_Subscript]
  refine wpX_stand (wpX_bind (wpX_bind (wpX_bind (H.use hs fun _ _ _ _ _ hs₁ h₁ => wpX_bind (wpX_hold (h₁.use hs₁ fun _ _ _ _ _ hs₂ h₂ => wpX_stand (wpX_bind (wpX_hold (h₂.use hs₂ fun _ _ _ _ _ hs₃ h₃ => ?_)))))))))
  exact wx (wpAny_release (wpX_pure (wpX_pure (WP.fin hs₃ h₃))))
/-! ## objects of the text's classes -/
variable {x dx C : Addr}
theorem inst_at {od ox : Obj} (hs : St P kn frs h) (hx : kn x = some ox) (hd : kn dx = some od) (hc : ox.cls = .ref C) (hn : notCls ox = true) (he : ox.dict = some dx) : InstAt h x ox C (some od) := ⟨(hs.know _ _ hx).1, hc, hn, by rw [he]; exact (hs.know _ _ hd).1⟩
/-- a class of the text is called -/
theorem c_make {fI : Addr} {args : List Value} (hm : makesIn (KK P.w.params) C = true) (hi : findIn (KK P.w.params) (.ref C) "__init__" = some (some (.ref fI))) (hf : typeIn (KK P.w.params) (.ref fI) = some (.type "function"))
    (H : ∀ x dx, x ≠ dx → kn x = none → kn dx = none → CP P (A.under (.builtin "type.__call__" ⟨.ref C :: args, []⟩)) (.call (.ref fI) ⟨.ref x :: args, []⟩) (fun v kn' frs' => v = .none ∧ Q (.ref x) kn' frs') ((kn.set dx emptyDict).set x (instObj C dx)) frs) :
    WP P A (call (.ref C) args) Q kn frs := fun hp k hs => by
  refine wpX_call (codeX_make (makes_of hs.K hm) (looks_findIn hs.K hi) (fun self => bind_fn hs.K self hf) rfl ?_)
  have f1 := hs.free (get_size hp)
  have hs1 := hs.push emptyDict
  have f2 := hs1.free (get_size _)
  have hs2 := hs1.push (instObj C hp.objs.size)
  have hsz : (hp.push emptyDict).objs.size = hp.objs.size + 1 := Heap.size_push ..
  rw [hsz] at f2 hs2
  have hne : hp.objs.size + 1 ≠ hp.objs.size := Nat.succ_ne_self _
  refine codeX_mono (H (hp.objs.size + 1) hp.objs.size hne (by have := f2.kn; rwa [Kn.set_ne hne] at this) f1.kn _ _ hs2) fun r s' hr => ?_
  rcases r with e | (v | _ | _ | _) <;> first | exact hr.elim | exact hr | skip
  obtain ⟨kn', frs', h', k', rfl, hs', rfl, hq⟩ := hr
  exact ⟨rfl, WP.fin hs' hq⟩
/-- a method of a def of the class -/
theorem m_fn {name : Str} {f : Addr} {ox od : Obj} {pl : Sem Bool} {Q : Value × List Value → Kn → List Fm → Prop} (hx : kn x = some ox) (hd : kn dx = some od) (hc : ox.cls = .ref C) (hn : notCls ox = true) (he : ox.dict = some dx)
    (hga : findIn (KK P.w.params) (.ref C) "__getattribute__" = some (some (.builtin "object.__getattribute__"))) (hk : findIn (KK P.w.params) (.ref C) "__getattr__" = some none) (hf : findIn (KK P.w.params) (.ref C) name = some (some (.ref f)))
    (ht : typeIn (KK P.w.params) (.ref f) = some (.type "function")) (hl : lookIn name od = some none) (hq : Q (.ref f, [.ref x]) kn frs) : WP P A (getMethod (.ref x) name pl) Q kn frs := fun _ _ hs =>
  wx (method_fn hs.K (inst_at hs hx hd hc hn he) hga hk hf ht (by show (lookIn name od).map _ = _; rw [hl]; rfl) (WP.fin hs hq))
theorem findObj_own {K : Frag} {od : Obj} {name : Str} {v : Value} {cd : ClassData} (hc : clsIn K C = some cd) (hh : cd.hasDict = true) (hf : findIn K (.ref C) name = some none) (hl : lookIn name od = some (some v)) : findObj K C (some od) name = some (.value v) := by
  unfold findObj
  simp [hc, hf, PySem.W.ownOf, hh, hl]
/-- a value in the object's own dict -/
theorem g_own {name : Str} {ox od : Obj} {v : Value} {expr : Bool} {cd : ClassData} (hx : kn x = some ox) (hd : kn dx = some od) (hc : ox.cls = .ref C) (hn : notCls ox = true) (he : ox.dict = some dx)
    (hga : findIn (KK P.w.params) (.ref C) "__getattribute__" = some (some (.builtin "object.__getattribute__"))) (hcd : clsIn (KK P.w.params) C = some cd) (hh : cd.hasDict = true) (hf : findIn (KK P.w.params) (.ref C) name = some none)
    (hl : lookIn name od = some (some v)) (hv : handedIn v = true) (hq : Q v kn frs) : WP P A (getAttr (.ref x) name expr) Q kn frs := fun _ _ hs =>
  wx (get_value hs.K (inst_at hs hx hd hc hn he) hga (findObj_own hcd hh hf hl) hv ⟨_, _, _, _, rfl, hs, hq⟩)
/-- a slot of the object -/
theorem g_slot {name : Str} {ox od : Obj} {v : Value} {expr : Bool} {p : Addr} {i : Nat} (hx : kn x = some ox) (hd : kn dx = some od) (hc : ox.cls = .ref C) (hn : notCls ox = true) (he : ox.dict = some dx)
    (hga : findIn (KK P.w.params) (.ref C) "__getattribute__" = some (some (.builtin "object.__getattribute__"))) (hk : findIn (KK P.w.params) (.ref C) "__getattr__" = some none)
    (hf : findObj (KK P.w.params) C (some od) name = some (.bind (.builtin "member_descriptor.__get__") (.ref p))) (hp : slotIn (KK P.w.params) p C = some i) (hv : (ox.slots[i]?).join = some v) (hh : handedIn v = true) (hq : Q v kn frs) :
    WP P A (getAttr (.ref x) name expr) Q kn frs := fun _ _ hs => by
  refine wx (get_bind hs.K (inst_at hs hx hd hc hn he) hga hf hk (wpAny_call (slot_get (s := P.st _ _) hs.K (inst_at hs hx hd hc hn he) hp hv ?_)))
  show wpAny _ _ (handedOut v) _ _ _
  rw [handedOut_of hh]
  exact wpAny_pure ⟨_, _, _, _, rfl, hs, hq⟩
/-- a store into the object's own dict -/
theorem s_own {name : Str} {ox od : Obj} {v : Value} {Q : Unit → Kn → List Fm → Prop} (hx : kn x = some ox) (hd : kn dx = some od) (hc : ox.cls = .ref C) (hn : notCls ox = true) (he : ox.dict = some dx)
    (hsa : findIn (KK P.w.params) (.ref C) "__setattr__" = some (some (.builtin "object.__setattr__"))) (hp : plainOver (KK P.w.params) C = true) (ht : takerIn (KK P.w.params) C name = some none) (hh : (clsIn (KK P.w.params) C).any (·.hasDict) = true)
    (hl : (lookIn name od).isSome = true) (hz : ∀ t, ∃ es n, (Obj.putName name (PyData.keyHash P.w.params name) (.str name t) v od).data = .dict es n ∧ es.size ≤ 1000)
    (hq : ∀ t, Q () (kn.set dx (Obj.putName name (PyData.keyHash P.w.params name) (.str name t) v od)) frs) : WP P A (setAttr (.ref x) name v) Q kn frs := fun hp0 k hs => by
  have I := inst_at hs hx hd hc hn he
  refine wx (set_plain hs.K I hsa (osa_open (s := P.st hp0 (k + 1)) hs.K I hp ht fun b => ?_))
  obtain ⟨cd, hcd, hd'⟩ := any_some hh
  have D := (hs.know _ _ hd).1
  obtain ⟨hx', hcl, hnn, -⟩ := I
  obtain ⟨oc, odi, oda, osl⟩ := ox
  dsimp only at hcl he
  subst hcl he
  refine wpAny_bind (wpAny_pure (wpAny_bind (wpAny_bind (wpAny_loadPart hx' (wpAny_bind ((looks_clsIn hs.K hcd).here ?_))))))
  rw [hd']
  refine wpAny_pure (a := some dx) (wpAny_bind (wpAny_pure (wpAny_bind ?_)))
  unfold nsSet
  refine wpAny_bind (wpAny_bind (wpAny_askSetting (wpAny_pure (wpAny_bind (wpAny_mkText (wpAny_bind (wpAny_loadPart D ?_)))))))
  unfold lookIn at hl
  split at hl
  · rename_i es₀ n₀ q
    rw [q]
    dsimp only
    have c : (!es₀.any (·.key.isStr name) && es₀.any (·.refKey)) = false := by
      rw [← Array.any_toList, ← Array.any_toList]
      split at hl
      · rename_i en hen
        rw [List.any_eq_true.mpr ⟨en, List.mem_of_find?_eq_some hen, List.find?_some hen⟩]; rfl
      · split at hl
        · cases hl
        · rename_i z; rw [Bool.not_eq_true] at z; rw [z, Bool.and_false]
    rw [aRefKeyMayBeTheName_at, c]
    refine wpAny_updatePart D ?_
    obtain ⟨es, n, hdat, hsz⟩ := hz (k + 1)
    have hf : (Obj.putName name (PyData.keyHash P.w.params name) (.str name (k + 1)) v od).isFreed = false := by
      generalize Obj.putName name (PyData.keyHash P.w.params name) (.str name (k + 1)) v od = od' at hdat ⊢
      obtain ⟨_, _, dd, _⟩ := od'; cases hdat; rfl
    have D' := Heap.get?_update_self (Obj.putName name (PyData.keyHash P.w.params name) (.str name (k + 1)) v) D hf
    refine wpAny_bind (wpAny_lookBehind D' (by rw [hdat]; exact pastItsLine_dict (by rw [sizeLine_eq]; (first | lia | omega))) ?_)
    exact wpAny_pure ⟨_, _, _, _, rfl, hs.sameBut hd D' (Heap.SameBut.update ..), hq _⟩
  · cases hl
theorem slot_put {w : World} {s : Shared} {K : Frag} {p x C : Addr} {R : Result → Shared → Prop} {ox : Obj} {od : Option Obj} {v : Value} {i : Nat} (X : K.In s.heap) (I : InstAt s.heap x ox C od) (hp : slotIn K p C = some i) (hi : i < 1000)
    (h : R (.ok (.ret .none)) { s with heap := s.heap.update x fun o => { o with slots := (o.slots ++ Array.replicate (i + 1 - o.slots.size) none).setIfInBounds i (some v) } }) :
    codeAny (model prg w) A (.call (.builtin "member_descriptor.__set__") ⟨[.ref p, .ref x, v], []⟩) R s := by
  obtain ⟨n, tn, owner, behind, tb, d, sl, cd, ho, hcd, hm, hb, rfl⟩ := slot_of X hp
  obtain ⟨hh, g, dr, t, os⟩ := s
  have L0 := I.type (M := model prg w)
  have L1 := looks_mroIn (M := model prg w) X hm
  have L2 : Looks (model prg w) hh (Builtin.Slots.slotNamesOf (.ref C)) cd.slotNames := (looks_clsIn X hcd).andThen .now
  have hx := I.at_
  dsimp only at ho hx L0 L1
  have f0 := looks_field (M := model prg w) ho 0 (v := .str n tn) rfl
  have f1 := looks_field (M := model prg w) ho 1 (v := owner) rfl
  have f3 := looks_field (M := model prg w) ho 3 (v := .builtin "proto.slot#set") rfl
  have f4 := looks_field (M := model prg w) ho 4 (v := .int behind tb) rfl
  refine codeAny_call_builtin KF.slot_mset.plain KF.entry_mset (KF.slot_mset.check _ _ _ _ _ _ _ _ ⟨_, ho, rfl⟩ (KF.args_mset _ _ _) ?_)
  unfold Builtin.«member_descriptor.__set__» Builtin.Getset_descriptor.descrSet Builtin.Getset_descriptor.descrStoreThrough Builtin.Getset_descriptor.descrCheckInstance Builtin.Getset_descriptor.descrNameAndClass isInstance
  have f5 : Looks (model prg w) hh (Builtin.Getset_descriptor.descrItself (.ref p)) [.ref p] := ((Looks.ld (part := none) ho).andThen .now).andThen (Looks.of_pure (by kernel_rfl))
  repeat lk
  refine ⟨Code.quiet_builtin _ (by decide +kernel), codeAny_builtin KF.entry_slotset ?_⟩
  unfold Builtin.«proto.slot#set» Builtin.Slots.target
  repeat lk
  rw [if_neg hb]
  refine wpAny_pure (wpAny_bind ?_)
  unfold setSlotAt
  dsimp only
  rw [if_neg (by rw [sizeLine_eq]; (first | lia | omega))]
  exact wpAny_updatePart hx (wpAny_pure h)
/-- a store into a slot of the object -/
theorem s_slot {name : Str} {ox od : Obj} {v : Value} {p : Addr} {i : Nat} {Q : Unit → Kn → List Fm → Prop} (hx : kn x = some ox) (hd : kn dx = some od) (hc : ox.cls = .ref C) (hn : notCls ox = true) (he : ox.dict = some dx)
    (hsa : findIn (KK P.w.params) (.ref C) "__setattr__" = some (some (.builtin "object.__setattr__"))) (hpo : plainOver (KK P.w.params) C = true) (ht : takerIn (KK P.w.params) C name = some (some (.ref p)))
    (hT : typeIn (KK P.w.params) (.ref p) = some (.type "member_descriptor")) (hp : slotIn (KK P.w.params) p C = some i) (hi : i < 1000) (hfr : ox.isFreed = false)
    (hq : Q () (kn.set x { ox with slots := (ox.slots ++ Array.replicate (i + 1 - ox.slots.size) none).setIfInBounds i (some v) }) frs) : WP P A (setAttr (.ref x) name v) Q kn frs := fun hp0 k hs => by
  have I := inst_at hs hx hd hc hn he
  refine wx (set_plain hs.K I hsa (osa_descr (s := P.st hp0 (k + 1)) KF.slot_mset hs.K I hpo ht hT ?_))
  refine slot_put hs.K I hp hi ?_
  refine ⟨_, _, _, _, rfl, hs.sameBut hx (Heap.get?_update_self _ (hs.know _ _ hx).1 ?_) (Heap.SameBut.update ..), hq⟩
  obtain ⟨c, d, dt, sl⟩ := ox
  cases dt <;> first | exact hfr | rfl
end
end
/-! # part B20 -/
section
open PySem PySem.W PyProof.Rows Builtin.ObjectAttr
/-! ## dicts by ints -/
noncomputable def IntD (o : Obj) (kvs : List (Int × Value)) : Prop := ∀ w : World, o.IsDictOf (intKind prg w) kvs
theorem pairs_any {w w' : World} {es : List DictEntry} {kvs : List (Int × Value)} (h : Pairs (intKind prg w) es kvs) : Pairs (intKind prg w') es kvs := by
  induction h with
  | nil => exact .nil
  | cons h1 h2 _ ih => exact .cons h1 h2 ih
theorem IntD.of {w : World} {o : Obj} {kvs : List (Int × Value)} (h : o.IsDictOf (intKind prg w) kvs) : IntD o kvs := fun w' => by
  obtain ⟨es, ep, hx, hd, hk, hp, hn⟩ := h
  exact ⟨es, ep, hx, hd, fun e he => hk e he, pairs_any hp, hn⟩
theorem IntD.nil : IntD emptyDict [] := fun w => ⟨#[], 0, ⟨rfl, rfl, rfl⟩, rfl, fun _ he => by simp at he, .nil, List.nodup_nil⟩
theorem IntD.nodup {o : Obj} {kvs : List (Int × Value)} (h : IntD o kvs) (w : World) : (kvs.map (·.1)).Nodup := by obtain ⟨_, _, _, _, _, _, hn⟩ := h w; exact hn
theorem isInt_int (k : Int) (t : Tok) (w : World) : (intKind prg w).is k (.int k t) = true := by simp [intKind, Value.isInt]
section
variable {P : Pk} {A : Around} {kn : Kn} {frs : List Fm} {env : Env} {Q : Value → Kn → List Fm → Prop} {pos : Pos} {d : Addr} {o : Obj} {kvs : List (Int × Value)} {k : Int} {t : Tok}
theorem Kw.dictOf {h : Heap} (hd : Kw P kn d o) (ho : IntD o kvs) (hs : St P kn frs h) : h.DictOf (intKind prg P.w) d kvs := Heap.dictOf_iff.mpr ⟨o, hd.get hs, ho P.w⟩
theorem big {h : Heap} (hs : St P kn frs h) : 225 < h.objs.size := by
  have e : ∃ o, (KK P.w.params).lookup 225 = some o := ⟨_, rfl⟩
  obtain ⟨o, e⟩ := e
  exact Heap.lt_size (hs.base _ _ (P.kin _ _ e))
theorem e_dict0 (h : ∀ a, kn a = none → (a == sysModules) = false → Q (.ref a) (kn.set a emptyDict) frs) : WP P A (eval (.Dict [] [] pos) env) Q kn frs := fun hp _ hs =>
  wx (wpAny_Dict_empty ⟨_, _, _, _, rfl, hs.push _, h _ (hs.free (get_size hp)).kn (by
    have := big hs
    rw [beq_eq_false_iff_ne]
    intro e
    have e' : hp.objs.size = 1 := e
    (first | lia | omega))⟩)
theorem m_dget {pl : Sem Bool} {Q : Value × List Value → Kn → List Fm → Prop} (hd : Kw P kn d o) (ho : IntD o kvs) (h : Q (.builtin "dict.get", [.ref d]) kn frs) : WP P A (getMethod (.ref d) "get" pl) Q kn frs := fun _ _ hs =>
  wx (getMethod_builtin (T := "dict") (hd.dictOf ho hs).typeIs F.plainAttrs_dict F.slot_dict_get F.type_dict_get (hd.dictOf ho hs).mapOf.noDict (WP.fin hs h))
theorem m_dvalues {pl : Sem Bool} {Q : Value × List Value → Kn → List Fm → Prop} (hd : Kw P kn d o) (ho : IntD o kvs) (h : Q (.builtin "dict.values", [.ref d]) kn frs) : WP P A (getMethod (.ref d) "values" pl) Q kn frs := fun _ _ hs =>
  wx (getMethod_builtin (T := "dict") (hd.dictOf ho hs).typeIs F.plainAttrs_dict F.slot_dict_values F.type_dict_values (hd.dictOf ho hs).mapOf.noDict (WP.fin hs h))
theorem k_dget (hd : Kw P kn d o) (ho : IntD o kvs) (hm : (d == sysModules) = false) (h : Q ((valueAt kvs k).getD .none) kn frs) : WP P A (call (.builtin "dict.get") [.ref d, .int k t]) Q kn frs := fun _ _ hs =>
  wx (call_meetsIn F.slot_dict_get (hd.dictOf ho hs).typeIs F.entry_dict_get (F.args_dict_get_2 _ _) (meets_dict_get (intKind prg P.w) d (isInt_int k t P.w) hm) ⟨_, (hd.dictOf ho hs).mapOf, ⟨_, _, _, _, rfl, hs, h⟩⟩)
theorem k_dsub {value slice : Expr} {v : Value} (hd : Kw P kn d o) (ho : IntD o kvs) (hv : valueAt kvs k = some v) (h : Q v kn frs) : WP P A (subscriptTail value slice (.ref d) (.int k t)) Q kn frs := fun _ _ hs =>
  wx (sub_any (hd.dictOf ho hs).typeIs slot_dict_getitem.lookup (wpAny_getItem_of (isInt_int k t P.w) (hd.dictOf ho hs).mapOf hv ⟨_, _, _, _, rfl, hs, h⟩))
theorem k_din (hd : Kw P kn d o) (ho : IntD o kvs) (hm : (d == sysModules) = false) (h : Q (.bool (valueAt kvs k).isSome) kn frs) : WP P A (compareOp .In (.int k t) (.ref d)) Q kn frs := fun _ _ hs =>
  wx (wpAny_in_of (isInt_int k t P.w) hm (hd.dictOf ho hs).mapOf ⟨_, _, _, _, rfl, hs, h⟩)
theorem k_dset {v : Value} {Q : Unit → Kn → List Fm → Prop} (hd : kn d = some o) (ho : IntD o kvs) (hz : kvs.length ≤ 1000) (h : ∀ o', IntD o' (stored kvs k v) → Q () (kn.set d o') frs) : WP P A (setItem (.ref d) (.int k t) v) Q kn frs := fun _ _ hs =>
  wx (wpAny_setItem_pairs (isInt_int k t P.w) (Kw.dictOf (.inl hd) ho hs) (fun h' hm' hsb => by
    obtain ⟨o', e', hd'⟩ := Heap.dictOf_iff.mp hm'
    exact ⟨_, _, _, _, rfl, hs.sameBut hd e' hsb, h o' (.of hd')⟩) (by rw [sizeLine_eq]; (first | lia | omega)))
theorem k_ddel {Q : Unit → Kn → List Fm → Prop} (hd : kn d = some o) (ho : IntD o kvs) (hz : kvs.length ≤ 1000) (hv : (valueAt kvs k).isSome = true) (h : ∀ o', IntD o' (without kvs k) → Q () (kn.set d o') frs) : WP P A (delItem (.ref d) (.int k t)) Q kn frs := fun _ _ hs =>
  wx (wpAny_delItem_slot (Kw.dictOf (.inl hd) ho hs).typeIs (by decide) F.slot_dict_delitem (call_meetsIn F.slot_dict_delitem (Kw.dictOf (.inl hd) ho hs).typeIs F.entry_dict_delitem (F.args_dict_delitem_2 _ _) (meets_dict_delitem_pairs (intKind prg P.w) d (isInt_int k t P.w))
    ⟨kvs, Kw.dictOf (.inl hd) ho hs, by rw [sizeLine_eq]; (first | lia | omega), hv, fun h' hm' hsb => by
      obtain ⟨o', e', hd'⟩ := Heap.dictOf_iff.mp hm'
      exact ⟨_, _, _, _, rfl, hs.sameBut hd e' hsb, h o' (.of hd')⟩⟩))
theorem Kw.dictAt {h : Heap} (hd : Kw P kn d o) (ho : IntD o kvs) (hs : St P kn frs h) : Ex2 fun es ep => An2 (o.data = .dict es ep) (h.DictAt (intKind prg P.w) d kvs ep) := by
  obtain ⟨es, ep, hx, hdd, hk, hp, hn⟩ := ho P.w
  exact ⟨es, ep, hdd, o, es, hd.get hs, hx, hdd, hk, hp, hn⟩
theorem src_dict (hA : A.handled = none) (hm : (d == sysModules) = false) (ho : IntD o kvs) : Src P A (.ref d) kvs.length (fun i v => Ex3 fun k t x => An2 (v = .int k t) (kvs[i]? = some (k, x))) (fun kn => Kw P kn d o) := by
  intro kn frs h k E Q hs hR hQ
  obtain ⟨es, ep, hed, hat⟩ := hR.dictAt ho hs
  have at' : ∀ {kn frs h}, St P kn frs h → Kw P kn d o → h.DictAt (intKind prg P.w) d kvs ep := fun hs hR => by
    obtain ⟨es', ep', hed', hat'⟩ := hR.dictAt ho hs
    rw [hed] at hed'
    cases hed'
    exact hat'
  refine wpAny_pyIter_dict hm hat ?_
  refine hQ h.objs.size (fun i h => h.IsKeyIter _ d i kvs.length ep) _ k ⟨?_, ?_, ?_, ?_, ?_, ?_⟩ (get_size h) ⟨_, Heap.get?_push_size _ rfl, rfl, rfl⟩ fun a o e => Heap.get?_push_of_some _ e
  · intro i kn frs h k E Q hi hs hR hG hQ
    refine wpAny_pyNext_dict_item hG (at' hs hR) (k := kvs[i].1) (v := kvs[i].2) (by simp [hi]) fun key h' hkey hG' hsb => ?_
    obtain ⟨t, rfl⟩ := Value.isInt_shape hkey
    exact hQ _ h' k ⟨kvs[i].1, t, kvs[i].2, rfl, by simp [hi]⟩ hG' hsb
  · intro kn frs h k E Q hs hR hG hQ
    exact wpAny_pyNext_dict_end hA hG (at' hs hR) (by simp) fun h' he => hQ h' k he
  · intro i h h' ⟨o, ho, r⟩ hk
    exact ⟨o, hk o ho, r⟩
  · intro i h ⟨o, ho, _⟩
    exact ⟨o, ho⟩
  · intro i h k target v E Q ⟨o, ho, hc, _⟩ hq
    exact own_plain ho hc hq
  · intro i h k E Q hG hq
    exact wpAny_pyIter_keyiter hG hq
noncomputable abbrev vo (d : Addr) : Obj := { cls := .type "dict_values", data := .fields #[.ref d] }
theorem k_dvalues (hd : Kw P kn d o) (ho : IntD o kvs) (hm : (d == sysModules) = false) (h : ∀ a, kn a = none → Q (.ref a) (kn.set a (vo d)) frs) : WP P A (call (.builtin "dict.values") [.ref d]) Q kn frs := fun hp _ hs =>
  wx (call_meetsIn F.slot_dict_values (hd.dictOf ho hs).typeIs F.entry_dict_values (F.args_dict_values_1 _) (meets_dict_values (intKind prg P.w) d hm) ⟨⟨_, hd.dictOf ho hs⟩, ⟨_, _, _, _, rfl, hs.push _, h _ (hs.free (get_size hp)).kn⟩⟩)
theorem src_values {v : Addr} (hA : A.handled = none) (ho : IntD o kvs) : Src P A (.ref v) kvs.length (fun i x => ∃ k, kvs[i]? = some (k, x)) (fun kn => Kw P kn v (vo d) ∧ Kw P kn d o) := by
  intro kn frs h k E Q hs hR hQ
  obtain ⟨es, ep, hed, hat⟩ := hR.2.dictAt ho hs
  have at' : ∀ {kn frs h}, St P kn frs h → Kw P kn d o → h.DictAt (intKind prg P.w) d kvs ep := fun hs hR => by
    obtain ⟨es', ep', hed', hat'⟩ := hR.dictAt ho hs
    rw [hed] at hed'
    cases hed'
    exact hat'
  refine wpAny_pyIter_values ⟨_, hR.1.get hs, rfl, rfl⟩ hat ?_
  refine hQ h.objs.size (fun i h => h.IsValIter _ d i kvs.length ep) _ k ⟨?_, ?_, ?_, ?_, ?_, ?_⟩ (get_size h) ⟨_, Heap.get?_push_size _ rfl, rfl, rfl⟩ fun a o e => Heap.get?_push_of_some _ e
  · intro i kn frs h k E Q hi hs hR hG hQ
    exact wpAny_pyNext_values_item hG (at' hs hR.2) (k := kvs[i].1) (v := kvs[i].2) (by simp [hi]) fun h' hG' hsb => hQ _ h' k ⟨_, by simp [hi]; rfl⟩ hG' hsb
  · intro kn frs h k E Q hs hR hG hQ
    exact wpAny_pyNext_values_end hA hG (at' hs hR.2) (by simp) fun h' he => hQ h' k he
  · intro i h h' ⟨o, ho, r⟩ hk
    exact ⟨o, hk o ho, r⟩
  · intro i h ⟨o, ho, _⟩
    exact ⟨o, ho⟩
  · intro i h k target v E Q ⟨o, ho, hc, _⟩ hq
    exact own_plain ho hc hq
  · intro i h k E Q hG hq
    exact wpAny_pyIter_valiter hG hq
/-! ## sets of ints -/
variable {S : Int → Bool} {n : Nat}
theorem k_set0 (h : ∀ a o, kn a = none → o.IntSetOf (fun _ => false) 0 → Q (.ref a) (kn.set a o) frs) : WP P A (call (.type "set") []) Q kn frs := fun hp _ hs =>
  wx (call_set_0 fun led => ⟨_, _, _, _, rfl, hs.push _, h _ _ (hs.free (get_size hp)).kn fun prog w => setObjOf_fresh led⟩)
theorem m_sadd {pl : Sem Bool} {Q : Value × List Value → Kn → List Fm → Prop} (hd : kn d = some o) (ho : o.IntSetOf S n) (hn : n < 1000) (h : Q (.builtin "set.add", [.ref d]) kn frs) : WP P A (getMethod (.ref d) "add" pl) Q kn frs := fun _ _ hs =>
  wx (getMethod_set_add ((ho prg P.w).setOf (hs.know _ _ hd).1 (by show n < 4096; (first | lia | omega))) (WP.fin hs h))
theorem k_sadd (hd : kn d = some o) (ho : o.IntSetOf S n) (hn : n < 1000) (h : ∀ o', o'.IntSetOf (fun k' => S k' || decide (k' = k)) (if S k then n else n + 1) → Q .none (kn.set d o') frs) : WP P A (call (.builtin "set.add") [.ref d, .int k t]) Q kn frs := fun _ _ hs =>
  wx (call_set_add (isInt_int k t P.w) rfl ((ho prg P.w).setOf (hs.know _ _ hd).1 (by show n < 4096; (first | lia | omega))) (by show n + 1 < 4096; (first | lia | omega)) fun h' hsb hS' => by
    obtain ⟨o', e', hd'⟩ := hS'.objOf
    exact ⟨_, _, _, _, rfl, hs.sameBut hd e' hsb, h o' fun prog w => hd'.transport rfl rfl⟩)
theorem k_sin (hd : kn d = some o) (ho : o.IntSetOf S n) (hn : n < 1000) (h : Q (.bool (S k)) kn frs) : WP P A (compareOp .In (.int k t) (.ref d)) Q kn frs := fun _ _ hs =>
  wx (wpAny_inSet_of (isInt_int k t P.w) rfl ((ho prg P.w).setOf (hs.know _ _ hd).1 (by show n < 4096; (first | lia | omega))) ⟨_, _, _, _, rfl, hs, h⟩)
/-! ## lists, more -/
variable {l : Addr} {items : List Value} {ep : Nat}
theorem k_l_last {value slice : Expr} {v : Value} {u : Tok} (hl : Kw P kn l (lo (items ++ [v]) ep)) (h : Q v kn frs) : WP P A (subscriptTail value slice (.ref l) (.int (-1) u)) Q kn frs := fun _ _ hs =>
  wx (sub_any (hl.isList hs).typeIs slot_list_getitem.lookup (wpAny_getItem_list_neg (hl.isList hs) (by decide) (by simp; (first | lia | omega)) (by decide) (by rw [show ((-1 : Int) + ((items ++ [v]).toArray.size : Nat)).toNat = items.length by simp; (first | lia | omega)]; simp) (WP.fin hs h)))
theorem m_lpop {pl : Sem Bool} {Q : Value × List Value → Kn → List Fm → Prop} (hl : Kw P kn l (lo items ep)) (h : Q (.builtin "list.pop", [.ref l]) kn frs) : WP P A (getMethod (.ref l) "pop" pl) Q kn frs := fun _ _ hs =>
  wx (getMethod_builtin (T := "list") ⟨_, hl.get hs, rfl⟩ F.plainAttrs_list F.slot_list_pop F.type_list_pop (fun a e => by cases e; exact ⟨_, hl.get hs, rfl⟩) (WP.fin hs h))
theorem m_lclear {pl : Sem Bool} {Q : Value × List Value → Kn → List Fm → Prop} (hl : Kw P kn l (lo items ep)) (h : Q (.builtin "list.clear", [.ref l]) kn frs) : WP P A (getMethod (.ref l) "clear" pl) Q kn frs := fun _ _ hs =>
  wx (getMethod_builtin (T := "list") ⟨_, hl.get hs, rfl⟩ F.plainAttrs_list F.slot_list_clear F.type_list_clear (fun a e => by cases e; exact ⟨_, hl.get hs, rfl⟩) (WP.fin hs h))
theorem k_lpop {v : Value} (hl : kn l = some (lo (items ++ [v]) ep)) (hz : items.length ≤ 1000) (h : ∀ ep, Q v (kn.set l (lo items ep)) frs) : WP P A (call (.builtin "list.pop") [.ref l]) Q kn frs := fun _ _ hs => by
  have hg := (hs.know _ _ hl).1
  have hk : (items ++ [v]).toArray.size - 1 = items.length := by simp
  refine wx (call_meets F.slot_list_pop ⟨_, hg, rfl⟩ F.entry_list_pop (F.args_list_pop_1 _) (MeetsSeq.list_pop_last l _ ep v (by rw [hk]; simp) (by rw [sizeLine_eq]; simp; (first | lia | omega))) ⟨hg, ?_⟩)
  refine (fun ⟨e', hst⟩ => ⟨_, _, _, _, rfl, hst, h e'⟩) (hs.upd hl (ys := items) ?_)
  rw [hk, kl_erase, List.append_nil]
theorem k_lclear (hl : kn l = some (lo items ep)) (hz : items.length ≤ 1000) (h : ∀ ep, Q .none (kn.set l (lo [] ep)) frs) : WP P A (call (.builtin "list.clear") [.ref l]) Q kn frs := fun _ _ hs => by
  have hg := (hs.know _ _ hl).1
  refine wx (call_meets F.slot_list_clear ⟨_, hg, rfl⟩ F.entry_list_clear (F.args_list_clear_1 _) (AutoSeq1.list_clear_list_0 l items.toArray ep (by rw [sizeLine_eq]; simp; (first | lia | omega))) ⟨hg, ?_⟩)
  exact (fun ⟨e', hst⟩ => ⟨_, _, _, _, rfl, hst, h e'⟩) (hs.upd hl (ys := []) rfl)
theorem tr_list {Qb : Bool → Kn → List Fm → Prop} (hl : Kw P kn l (lo items ep)) (hz : items.length ≤ 1000) (h : Qb (!items.isEmpty) kn frs) : WP P A (truthy (.ref l)) Qb kn frs := fun _ _ hs =>
  wx (wpAny_truthy_list (hl.isList hs) (by simp; (first | lia | omega)) ⟨_, _, _, _, rfl, hs, by simpa using h⟩)
end
theorem meets_bool_list (l : Addr) (items : Array Value) (hfit : (items.size : Int) < 2 ^ 63) :
    Meets (Builtin.«bool.__new__» ⟨[.type "bool", .ref l], []⟩) (fun _ R s => s.heap.IsList l items ∧ R (.ok (.ret (.bool (!items.isEmpty)))) { s with toks := s.toks + 1 + 1 }) :=
  Meets.of_wp fun prog w A R s hs => by
    obtain ⟨hl, hs⟩ := hs
    obtain ⟨hp, g, d, tk, os⟩ := s
    have f1 := F.conv_sub_bool
    repeat (any_goals (first | assumption | (with_reducible refine wpAny_truthy_list hl hfit ?_) | wp_step))
    all_goals first | exact ⟨_, rfl, hs⟩ | exact hs | skip
theorem k_booll {P : Pk} {A : Around} {kn : Kn} {frs : List Fm} {Q : Value → Kn → List Fm → Prop} {l : Addr} {items : List Value} {ep : Nat} (hl : Kw P kn l (lo items ep)) (hz : items.length ≤ 1000) (h : Q (.bool (!items.isEmpty)) kn frs) : WP P A (call (.type "bool") [.ref l]) Q kn frs := fun _ _ hs =>
  wx (call_bool_1 (meets_bool_list l items.toArray (by simp; (first | lia | omega))) ⟨hl.isList hs, rfl, ⟨_, _, _, _, rfl, hs, by simpa using h⟩⟩)
end
/-! # part B21 -/
section
open PySem PySem.W PyProof.Rows Builtin.ObjectAttr
section
variable {P : Pk} {A : Around} {kn : Kn} {frs : List Fm} {env : Env} {pos p : Pos} {e : Expr} {rest : List Expr}
/-! ## star arguments -/
noncomputable def SeqAt (P : Pk) (kn : Kn) (a : Addr) (vs : List Value) : Prop := (∃ ep, Kw P kn a (lo vs ep)) ∨ Kw P kn a (to vs)
theorem star_of {a : Addr} {vs : List Value} {h : Heap} {k : Nat} {E : Value → Shared → Prop} {Q : List Value → Shared → Prop} (hs : St P kn frs h) (ha : SeqAt P kn a vs) (hz : vs.length ≤ 1000) (hq : ∀ h', St P kn frs h' → Q vs (P.st h' k)) : StarOf (model prg P.w) A E (.ref a) Q (P.st h k) := by
  have hz' : vs.toArray.size ≤ sizeLine := by rw [sizeLine_eq]; simp; (first | lia | omega)
  unfold StarOf notIterableAtAll
  rcases ha with ⟨ep, ha⟩ | ha
  · exact wpAny_bind (wpAny_specialOf (T := "list") ⟨_, ha.get hs, rfl⟩ PySem.F.slot_list_iter.lookup (wpAny_pure ⟨rfl, wpAny_collect_seq (T := "list") a (.inl rfl) (ha.get hs) rfl rfl (fun h' hk => hq h' (hs.grow hk)) hz'⟩))
  · exact wpAny_bind (wpAny_specialOf (T := "tuple") ⟨_, ha.get hs, rfl⟩ PySem.F.slot_tuple_iter.lookup (wpAny_pure ⟨rfl, wpAny_collect_seq (T := "tuple") a (.inr rfl) (ha.get hs) rfl rfl (fun h' hk => hq h' (hs.grow hk)) hz'⟩))
theorem wpX_splicedStar {M : Model} {E : Value → Shared → Prop} {s : Shared} {x : Sem Value} {rest : List (Bool × Sem Value)} {Q : List Value → Shared → Prop}
    (h : wpX M A x (fun v s₁ => StarOf M A E v (fun here s₂ => wpX M A (spliced rest) (fun vs s₃ => Q (here ++ vs) s₃) E s₂) s₁) E s) : wpX M A (spliced ((true, (do let v ← x; standAt pos; pure v)) :: rest)) Q E s := by
  rw [spliced]
  refine wpX_bind (wpX_bind (wpX_mono h (fun v s₁ h₁ => wpX_stand (wpX_pure ?_)) fun _ _ x => x))
  unfold StarOf at h₁
  simp only [if_true]
  refine wpX_bind (wx (wpAny_mono h₁ (fun b s₂ h₂ => ?_) fun _ _ x => x))
  obtain ⟨rfl, h₂⟩ := h₂
  have z := fun here s₃ (h₃ : wpX M A (spliced rest) (fun vs s₃ => Q (here ++ vs) s₃) E s₃) => (show wpX M A (holding here (spliced rest) >>= fun r => pure (here ++ r)) Q E s₃ from wpX_bind (wpX_hold (wpX_mono h₃ (fun vs s₄ h₄ => wpX_pure h₄) fun _ _ x => x)))
  try simp only [Bool.false_eq_true, if_false]
  first
    | exact wpX_bind (wx (wpAny_mono h₂ z fun _ _ x => x))
    | exact wx (wpAny_mono h₂ z fun _ _ x => x)
    | exact wpX_bind (wpX_pure (wx (wpAny_mono h₂ z fun _ _ x => x)))
    | exact wpX_bind (wpX_pure (wpX_bind (wx (wpAny_mono h₂ z fun _ _ x => x))))
theorem a_star {Q : List Value → Kn → List Fm → Prop} (H : WP P A (eval e env) (fun v kn₁ frs₁ => Ex2 fun a here => An4 (v = .ref a) (SeqAt P kn₁ a here) (here.length ≤ 1000) (WP P A (spliced (backTo pos (starEach rest env))) (fun vs => Q (here ++ vs)) kn₁ frs₁)) kn frs)
    (he : starEach (.Starred e p :: rest) env = (true, eval e env) :: starEach rest env := by rfl) : WP P A (spliced (backTo pos (starEach (.Starred e p :: rest) env))) Q kn frs := fun _ _ hs => by
  rw [he]
  refine wpX_splicedStar (H.use hs fun v kn₁ frs₁ h₁ k₁ hs₁ hq => ?_)
  obtain ⟨a, here, rfl, ha, hz, hq⟩ := hq
  exact star_of hs₁ ha hz fun h' hs' => (hq : WP _ _ _ _ _ _) h' k₁ hs'
theorem wpX_lone {M : Model} {E : Value → Shared → Prop} {s : Shared} {f : Value} {x : Sem Value} {Q : Args → Shared → Prop}
    (h : wpX M A x (fun v s₁ => StarOf M A E v (fun vs s₂ => Q ⟨vs, []⟩ s₂) s₁) E s) : wpX M A (evalArgs f true [(true, (do let v ← x; standAt pos; pure v))] []) Q E s := by
  unfold evalArgs
  first
    | refine wpX_bind (wpX_bind (wpX_bind (wpX_mono h (fun v s₁ h₁ => wpX_stand (wpX_pure (wpX_pure ?_))) fun _ _ x => x)))
    | refine wpX_bind (wpX_bind (wpX_mono h (fun v s₁ h₁ => wpX_stand (wpX_pure ?_)) fun _ _ x => x))
  refine wpX_hold ?_
  refine wpX_bind (wpX_pure ?_)
  unfold StarOf at h₁
  refine wx (wpAny_bind (wpAny_bind (wpAny_mono h₁ (fun b s₂ h₂ => ?_) fun _ _ x => x)))
  obtain ⟨rfl, h₂⟩ := h₂
  have z := wpAny_holding (vs := []) (wpAny_mono h₂ (fun vs s₃ h₃ => (wpAny_pure h₃ : wpAny M A (pure (⟨vs, []⟩ : Args)) Q E s₃)) fun _ _ x => x)
  try simp only [Bool.false_eq_true, if_false]
  first
    | exact z
    | exact wpAny_bind (wpAny_pure z)
theorem w_lone {f : Value} {first : List Value} {Q : Value → Kn → List Fm → Prop} (hk : keepIn (KK P.w.params) f = true)
    (H : WP P A (eval e env) (fun v kn₁ frs₁ => Ex2 fun a here => An4 (v = .ref a) (SeqAt P kn₁ a here) (here.length ≤ 1000) (WP P A (call f (first ++ here)) Q kn₁ frs₁)) kn frs)
    (he : starEach [.Starred e p] env = [(true, eval e env)] := by rfl) : WP P A (callWith pos f first (backTo pos (starEach [.Starred e p] env)) []) Q kn frs := fun _ _ hs => by
  rw [he]
  refine wpX_callWith (wpX_lone (H.use hs fun v kn₁ frs₁ h₁ k₁ hs₁ hq => ?_))
  obtain ⟨a, here, rfl, ha, hz, hq⟩ := hq
  exact star_of hs₁ ha hz fun h' hs' => ⟨kpr hk _ _ h' hs', (hq : WP _ _ _ _ _ _) h' k₁ hs'⟩
end
end
/-! # part B22 -/
section
open PySem PySem.W PyProof.Rows Builtin.ObjectAttr
/-! ## the sorter in the heap -/
/-- a node's record -/
noncomputable abbrev nio (dx : Addr) (nd np sc : Value) : Obj := { cls := .ref 89, dict := some dx, data := .plain, slots := #[some nd, some np, some sc] }
structure NI where
  node : Int
  np : Int
  succ : List Int
structure NA where
  a : Addr
  dx : Addr
  sl : Addr
noncomputable def NA.all (x : NA) : List Addr := [x.a, x.dx, x.sl]
noncomputable def NiAt (kn : Kn) (x : NA) (g : NI) : Prop := Ex4 fun t u items ep => An4 (kn x.a = some (nio x.dx (.int g.node t) (.int g.np u) (.ref x.sl))) (kn x.dx = some emptyDict) (kn x.sl = some (lo items ep)) (IntsAre items g.succ)
theorem NiAt.le {kn kn' : Kn} {x : NA} {g : NI} (h : NiAt kn x g) (hk : ∀ c ∈ x.all, ∀ o, kn c = some o → kn' c = some o) : NiAt kn' x g := by
  obtain ⟨t, u, items, ep, h1, h2, h3, h4⟩ := h
  exact ⟨t, u, items, ep, hk _ (by simp [NA.all]) _ h1, hk _ (by simp [NA.all]) _ h2, hk _ (by simp [NA.all]) _ h3, h4⟩
theorem NiAt.known {kn : Kn} {x : NA} {g : NI} (h : NiAt kn x g) : ∀ c ∈ x.all, ∃ o, kn c = some o := by
  obtain ⟨t, u, items, ep, h1, h2, h3, h4⟩ := h
  intro c hc
  simp only [NA.all, List.mem_cons, List.not_mem_nil, or_false] at hc
  rcases hc with rfl | rfl | rfl
  · exact ⟨_, h1⟩
  · exact ⟨_, h2⟩
  · exact ⟨_, h3⟩
theorem NiAt.ne {kn : Kn} {x : NA} {g : NI} (h : NiAt kn x g) : x.a ≠ x.dx ∧ x.a ≠ x.sl ∧ x.dx ≠ x.sl := by
  obtain ⟨t, u, items, ep, h1, h2, h3, h4⟩ := h
  refine ⟨fun e => ?_, fun e => ?_, fun e => ?_⟩
  · rw [e, h2] at h1; have := congrArg Obj.cls (Option.some.inj h1); cases this
  · rw [e, h3] at h1; have := congrArg Obj.cls (Option.some.inj h1); cases this
  · rw [e, h3] at h2; have := congrArg Obj.cls (Option.some.inj h2); injection this with this; exact absurd this (by decide)
structure Nds (kn : Kn) (as : List NA) (gs : List NI) : Prop where
  len : as.length = gs.length
  at_ : ∀ (i : Nat) (a : NA) (g : NI), as[i]? = some a → gs[i]? = some g → NiAt kn a g
  dj : ∀ (i j : Nat) (a b : NA), i ≠ j → as[i]? = some a → as[j]? = some b → ∀ c ∈ a.all, c ∉ b.all
noncomputable def Own (as : List NA) (c : Addr) : Prop := Ex2 fun (i : Nat) (a : NA) => An2 (as[i]? = some a) (c ∈ a.all)
theorem Nds.get {kn : Kn} {as : List NA} {gs : List NI} (h : Nds kn as gs) {i : Nat} {g : NI} (hg : gs[i]? = some g) : ∃ a, An2 (as[i]? = some a) (NiAt kn a g) := by
  have hi : i < gs.length := (List.getElem?_eq_some_iff.mp hg).1
  have : as[i]? = some (as[i]'(by rw [h.len]; exact hi)) := List.getElem?_eq_getElem _
  exact ⟨_, this, h.at_ i _ g this hg⟩
theorem Nds.known {kn : Kn} {as : List NA} {gs : List NI} (h : Nds kn as gs) {c : Addr} (hc : Own as c) : ∃ o, kn c = some o := by
  obtain ⟨i, a, ha, hc⟩ := hc
  have hi : i < as.length := (List.getElem?_eq_some_iff.mp ha).1
  have : gs[i]? = some (gs[i]'(by rw [← h.len]; exact hi)) := List.getElem?_eq_getElem _
  exact (h.at_ i a _ ha this).known c hc
theorem Nds.le {kn kn' : Kn} {as : List NA} {gs : List NI} (h : Nds kn as gs) (hk : ∀ c, Own as c → ∀ o, kn c = some o → kn' c = some o) : Nds kn' as gs :=
  ⟨h.len, fun i a g ha hg => (h.at_ i a g ha hg).le fun c hc o e => hk c ⟨i, a, ha, hc⟩ o e, h.dj⟩
theorem Nds.sup {kn kn' : Kn} {as : List NA} {gs : List NI} (h : Nds kn as gs) (hk : ∀ c o, kn c = some o → kn' c = some o) : Nds kn' as gs := h.le fun c _ o e => hk c o e
theorem Nds.off {kn : Kn} {as : List NA} {gs : List NI} {b : Addr} {o : Obj} (h : Nds kn as gs) (hb : ¬ Own as b) : Nds (kn.set b o) as gs := h.le fun c hc x e => by
  rw [Kn.set_ne (show c ≠ b from fun q => hb (q ▸ hc))]; exact e
theorem Nds.upd {kn : Kn} {as : List NA} {gs : List NI} {i : Nat} {a : NA} {g' : NI} {b : Addr} {o : Obj} (h : Nds kn as gs) (ha : as[i]? = some a) (hb : b ∈ a.all) (hn : NiAt (kn.set b o) a g') : Nds (kn.set b o) as (gs.set i g') := by
  refine ⟨by rw [List.length_set]; exact h.len, fun j c g hc hg => ?_, h.dj⟩
  by_cases q : i = j
  · subst q
    rw [ha] at hc; cases hc
    have hi : i < gs.length := by rw [← h.len]; exact (List.getElem?_eq_some_iff.mp ha).1
    rw [List.getElem?_set_self hi] at hg; cases hg
    exact hn
  · rw [List.getElem?_set_ne q] at hg
    refine (h.at_ j c g hc hg).le fun x hx ox e => ?_
    rw [Kn.set_ne (show x ≠ b from fun z => h.dj i j a c q ha hc b hb (z ▸ hx))]; exact e
theorem Nds.snoc {kn : Kn} {as : List NA} {gs : List NI} {a : NA} {g : NI} (h : Nds kn as gs) (ha : NiAt kn a g) (hf : ∀ c ∈ a.all, ¬ Own as c) : Nds kn (as ++ [a]) (gs ++ [g]) := by
  have key : ∀ {i : Nat} {x : NA}, (as ++ [a])[i]? = some x → as[i]? = some x ∨ (i = as.length ∧ x = a) := fun {i x} hx => by
    rcases Nat.lt_trichotomy i as.length with q | q | q
    · rw [List.getElem?_append_left q] at hx; exact .inl hx
    · subst q; simp at hx; exact .inr ⟨rfl, hx.symm⟩
    · rw [List.getElem?_eq_none (by simp; (first | lia | omega))] at hx; cases hx
  refine ⟨by simp [h.len], fun i x y hx hy => ?_, fun i j x y hij hx hy c hc => ?_⟩
  · rcases key hx with q | ⟨rfl, rfl⟩
    · have hi : i < gs.length := by rw [← h.len]; exact (List.getElem?_eq_some_iff.mp q).1
      rw [List.getElem?_append_left hi] at hy
      exact h.at_ i x y q hy
    · rw [h.len] at hy; simp at hy; subst hy; exact ha
  · rcases key hx with q | ⟨rfl, rfl⟩ <;> rcases key hy with q' | ⟨rfl, rfl⟩
    · exact h.dj i j x y hij q q' c hc
    · exact fun z => hf c z ⟨i, x, q, hc⟩
    · exact fun z => hf c hc ⟨j, y, q', z⟩
    · exact absurd rfl hij
/-- the pairs of the sorter's table -/
noncomputable def tab (as : List NA) (gs : List NI) : List (Int × Value) := (as.zip gs).map fun p => (p.2.node, .ref p.1.a)
theorem tab_get {as : List NA} {gs : List NI} {i : Nat} {a : NA} {g : NI} (ha : as[i]? = some a) (hg : gs[i]? = some g) : (tab as gs)[i]? = some (g.node, .ref a.a) := by
  unfold tab
  rw [List.getElem?_map, (List.getElem?_zip_eq_some (z := (a, g))).mpr ⟨ha, hg⟩]; rfl
theorem tab_len {kn : Kn} {as : List NA} {gs : List NI} (h : Nds kn as gs) : (tab as gs).length = gs.length := by unfold tab; simp [h.len]
theorem tab_keys {kn : Kn} {as : List NA} {gs : List NI} (h : Nds kn as gs) : (tab as gs).map (·.1) = gs.map (·.node) := by
  have : ∀ (as : List NA) (gs : List NI), as.length = gs.length → (tab as gs).map (·.1) = gs.map (·.node) := by
    intro as
    induction as with
    | nil => intro gs e; cases gs with
      | nil => rfl
      | cons _ _ => simp at e
    | cons a as ih => intro gs e; cases gs with
      | nil => simp at e
      | cons g gs => have := ih gs (by simpa using e); simp only [tab, List.zip_cons_cons, List.map_cons] at this ⊢; rw [this]
  exact this as gs h.len
theorem tab_set {as : List NA} : ∀ {gs : List NI} {i : Nat} {g g' : NI}, gs[i]? = some g → g'.node = g.node → tab as (gs.set i g') = tab as gs := by
  induction as with
  | nil => intros; simp [tab]
  | cons a as ih =>
    intro gs i g g' hg hn
    cases gs with
    | nil => simp at hg
    | cons h gs =>
      cases i with
      | zero => simp at hg; subst hg; simp [tab, hn]
      | succ i =>
        have := ih (gs := gs) (i := i) (g' := g') (by simpa using hg) hn
        simp only [tab, List.set_cons_succ, List.zip_cons_cons, List.map_cons] at this ⊢
        rw [this]
theorem tab_snoc {kn : Kn} {as : List NA} {gs : List NI} (h : Nds kn as gs) (a : NA) (g : NI) : tab (as ++ [a]) (gs ++ [g]) = tab as gs ++ [(g.node, .ref a.a)] := by
  unfold tab
  rw [List.zip_append h.len]; simp
/-- the sorter's own names -/
noncomputable def sod (p : Params) (n : Nat) (t1 t2 t3 t4 : Tok) (v1 v2 v3 v4 : Value) : Obj := { cls := .type "dict", data := .dict #[kv p "_node2info" t1 v1, kv p "_ready_nodes" t2 v2, kv p "_npassedout" t3 v3, kv p "_nfinished" t4 v4] n }
noncomputable def SD (o : Obj) (v1 v2 v3 v4 : Value) : Prop := Ex6 fun p n t1 t2 t3 t4 => o = sod p n t1 t2 t3 t4 v1 v2 v3 v4
section
variable {o : Obj} {v1 v2 v3 v4 v : Value}
theorem SD.g1 (h : SD o v1 v2 v3 v4) : lookIn "_node2info" o = some (some v1) := by obtain ⟨p, n, t1, t2, t3, t4, rfl⟩ := h; rfl
theorem SD.g2 (h : SD o v1 v2 v3 v4) : lookIn "_ready_nodes" o = some (some v2) := by obtain ⟨p, n, t1, t2, t3, t4, rfl⟩ := h; rfl
theorem SD.g3 (h : SD o v1 v2 v3 v4) : lookIn "_npassedout" o = some (some v3) := by obtain ⟨p, n, t1, t2, t3, t4, rfl⟩ := h; rfl
theorem SD.g4 (h : SD o v1 v2 v3 v4) : lookIn "_nfinished" o = some (some v4) := by obtain ⟨p, n, t1, t2, t3, t4, rfl⟩ := h; rfl
theorem SD.m1 (h : SD o v1 v2 v3 v4) : lookIn "_get_nodeinfo" o = some none := by obtain ⟨p, n, t1, t2, t3, t4, rfl⟩ := h; rfl
theorem SD.m2 (h : SD o v1 v2 v3 v4) : lookIn "add" o = some none := by obtain ⟨p, n, t1, t2, t3, t4, rfl⟩ := h; rfl
theorem SD.m3 (h : SD o v1 v2 v3 v4) : lookIn "prepare" o = some none := by obtain ⟨p, n, t1, t2, t3, t4, rfl⟩ := h; rfl
theorem SD.m4 (h : SD o v1 v2 v3 v4) : lookIn "get_ready" o = some none := by obtain ⟨p, n, t1, t2, t3, t4, rfl⟩ := h; rfl
theorem SD.m5 (h : SD o v1 v2 v3 v4) : lookIn "is_active" o = some none := by obtain ⟨p, n, t1, t2, t3, t4, rfl⟩ := h; rfl
theorem SD.m6 (h : SD o v1 v2 v3 v4) : lookIn "done" o = some none := by obtain ⟨p, n, t1, t2, t3, t4, rfl⟩ := h; rfl
theorem SD.m7 (h : SD o v1 v2 v3 v4) : lookIn "_find_cycle" o = some none := by obtain ⟨p, n, t1, t2, t3, t4, rfl⟩ := h; rfl
theorem SD.s2 (h : SD o v1 v2 v3 v4) (i : Int) (t : Tok) : SD (Obj.putName "_ready_nodes" i (.str "_ready_nodes" t) v o) v1 v v3 v4 := by obtain ⟨p, n, t1, t2, t3, t4, rfl⟩ := h; exact ⟨p, n, t1, t2, t3, t4, by kernel_rfl⟩
theorem SD.s3 (h : SD o v1 v2 v3 v4) (i : Int) (t : Tok) : SD (Obj.putName "_npassedout" i (.str "_npassedout" t) v o) v1 v2 v v4 := by obtain ⟨p, n, t1, t2, t3, t4, rfl⟩ := h; exact ⟨p, n, t1, t2, t3, t4, by kernel_rfl⟩
theorem SD.s4 (h : SD o v1 v2 v3 v4) (i : Int) (t : Tok) : SD (Obj.putName "_nfinished" i (.str "_nfinished" t) v o) v1 v2 v3 v := by obtain ⟨p, n, t1, t2, t3, t4, rfl⟩ := h; exact ⟨p, n, t1, t2, t3, t4, by kernel_rfl⟩
theorem SD.z (h : SD o v1 v2 v3 v4) : ∃ es n, o.data = .dict es n ∧ es.size ≤ 1000 := by obtain ⟨p, n, t1, t2, t3, t4, rfl⟩ := h; exact ⟨_, _, rfl, Nat.le_of_ble_eq_true rfl⟩
end
end
/-! # part B23 -/
section
open PySem PySem.W PyProof.Rows Builtin.ObjectAttr
/-! ## a list's iterator, its __next__ kept -/
theorem ga_li : typeLookup (.type "list_iterator") "__getattribute__" = pure (some (.builtin "object.__getattribute__")) := by rw [typeLookup_type, builtinLookup_eq_fast]; kernel_rfl
theorem nx_li : typeLookup (.type "list_iterator") "__next__" = pure (some (.builtin "list_iterator.__next__")) := by rw [typeLookup_type, builtinLookup_eq_fast]; kernel_rfl
theorem ty_nx : typeOf (.builtin "list_iterator.__next__") = pure (.type "wrapper_descriptor") := by show builtinType _ = _; rw [builtinType_eq_fast]; kernel_rfl
theorem gt_nx : specialOf (.builtin "list_iterator.__next__") "__get__" = pure (some (.builtin "wrapper_descriptor.__get__")) := by
  unfold specialOf; rw [ty_nx]; show typeLookup (.type "wrapper_descriptor") "__get__" = _; rw [typeLookup_type, builtinLookup_eq_fast]; kernel_rfl
theorem slot_ga : Slot "list_iterator" "__getattribute__" "object.__getattribute__" :=
  .of (owner := "object") (n := "__getattribute__") ga_li (by decide +kernel) (by decide +kernel) (by decide +kernel) (by first | exact .inl (by decide +kernel) | exact .inr (by decide +kernel)) (by rw [isSubtype_type]; kernel_rfl)
theorem entry_ga : entryFor table "object.__getattribute__" = some Builtin.«object.__getattribute__» := entryFor_of_tree (by kernel_rfl)
theorem args_ga (a b : Value) : argsOk "object.__getattribute__" ⟨[a, b], []⟩ := by unfold argsOk; kernel_rfl
theorem slot_wg : Slot "wrapper_descriptor" "__get__" "wrapper_descriptor.__get__" :=
  .of (owner := "wrapper_descriptor") (n := "__get__") (by rw [typeLookup_type, builtinLookup_eq_fast]; kernel_rfl) (by decide +kernel) (by decide +kernel) (by decide +kernel) (by first | exact .inl (by decide +kernel) | exact .inr (by decide +kernel)) (by rw [isSubtype_type]; kernel_rfl)
theorem entry_wg : entryFor table "wrapper_descriptor.__get__" = some Builtin.«wrapper_descriptor.__get__» := entryFor_of_tree (by kernel_rfl)
theorem args_wg (a b c : Value) : argsOk "wrapper_descriptor.__get__" ⟨[a, b, c], []⟩ := by unfold argsOk; kernel_rfl
theorem sub_li : isSubtype (.type "list_iterator") (.type "list_iterator") = pure true := by rw [isSubtype_type]; kernel_rfl
section
variable {w : World} {A : Around} {E : Value → Shared → Prop} {h : Heap} {g : Array GenState} {d : Drawn} {t : Nat} {os : OsState} {Q : Value → Shared → Prop} {I : Addr}
noncomputable abbrev mw (I : Addr) : Obj := { cls := .type "method-wrapper", data := .fields #[.builtin "list_iterator.__next__", .ref I] }
theorem getattr_next {vs : Array Value} {sl : Array (Option Value)} (hI : h.get? I = some ⟨.type "list_iterator", none, .fields vs, sl⟩) (hq : ∀ k, Q (.ref h.objs.size) ⟨h.push (mw I), g, d, k, os⟩) :
    wpAny (model prg w) A (getAttr (.ref I) "__next__" true) Q E ⟨h, g, d, t, os⟩ := by
  have T : Looks (model prg w) h (typeOf (.ref I)) (.type "list_iterator") := (Looks.ld hI).andThen .now
  have L1 : Looks (model prg w) h (typeLookup (.type "list_iterator") "__getattribute__") (some (.builtin "object.__getattribute__")) := by with_reducible exact Looks.of_pure ga_li
  have L2 : Looks (model prg w) h (typeLookup (.type "list_iterator") "__next__") (some (.builtin "list_iterator.__next__")) := by with_reducible exact Looks.of_pure nx_li
  have L3 : Looks (model prg w) h (specialOf (.builtin "list_iterator.__next__") "__get__") (some (.builtin "wrapper_descriptor.__get__")) := by with_reducible exact Looks.of_pure gt_nx
  have L4 : Looks (model prg w) h (takesStores (.builtin "list_iterator.__next__")) false := looks_takesIn (K := []) (fun _ _ e => nomatch e) (by kernel_rfl)
  unfold getAttr getAttrBy
  refine wpAny_bind (wpAny_mkText (wpAny_holding (wpAny_bind (T.at (wpAny_bind (L1.at ?_))))))
  show wpAny _ _ (getAttrByItsOwn _ _ _ _ _ _) _ _ _
  unfold getAttrByItsOwn
  refine wpAny_bind (wpAny_pure (wpAny_bind (wpAny_attempt (wpAny_holding ?_))))
  show wpAny _ _ (boundAndCalled (.builtin "object.__getattribute__") (.ref I) _) _ _ _
  unfold boundAndCalled
  rw [slot_ga.bind]
  refine wpAny_bind (wpAny_pure (wpAny_call (codeAny_call_builtin slot_ga.plain entry_ga (slot_ga.check _ _ _ _ _ _ _ _ ⟨_, hI, rfl⟩ (args_ga _ _) ?_))))
  unfold Builtin.«object.__getattribute__»
  refine wpAny_bind (wpAny_pure ?_)
  refine wpAny_bind (wpAny_pure ?_)
  refine wpAny_bind (T.at ?_)
  unfold find getOf dataDescriptor? ownThenClass
  refine wpAny_bind (wpAny_bind (L2.at (wpAny_bind (L3.at (wpAny_bind (wpAny_bind (L4.at ?_)))))))
  refine wpAny_pure ?_
  have L5 : Looks (model prg w) h (inOwnDict "__next__" (.ref I)) none := by
    intro A Q E s k q
    unfold inOwnDict
    refine wpAny_bind (wpAny_bind (wpAny_loadPart (k _ _ hI) ?_))
    show wpAny _ _ (instanceDict I false) _ _ _
    unfold instanceDict
    refine wpAny_bind (wpAny_loadPart (k _ _ hI) ?_)
    exact wpAny_pure (wpAny_pure q)
  refine wpAny_bind (L5.at ?_)
  refine wpAny_bind (wpAny_pure ?_)
  refine wpAny_bind (wpAny_rule (wpAny_pure ?_))
  show wpAny _ _ (bindTo _ _ _ _) _ _ _
  unfold bindTo
  refine wpAny_bind (wpAny_holding (wpAny_call (codeAny_call_builtin slot_wg.plain entry_wg (slot_wg.check _ _ _ _ _ _ _ _ ty_nx (args_wg _ _ _) ?_))))
  have S : Looks (model prg w) h (isInstance (.ref I) (.type "list_iterator")) true := T.andThen (Looks.of_pure sub_li)
  unfold Builtin.«wrapper_descriptor.__get__»
  repeat lk
  exact hq _
end
end
/-! # part B24 -/
section
open PySem PySem.W PyProof.Rows Builtin.ObjectAttr
theorem check_nx (I : Addr) : checkBoundCall "list_iterator.__next__" ⟨[.ref I], []⟩ = pure () := by kernel_rfl
section
variable {w : World} {A : Around} {E : Value → Shared → Prop} {s : Shared} {Q : Value → Shared → Prop} {m I l : Addr} {i : Nat} {items : Array Value}
/-- the kept __next__ is called -/
theorem call_mw (hm : s.heap.get? m = some (mw I)) (h : wpAny (model prg w) A.in1 (Builtin.«list_iterator.__next__» ⟨[.ref I], []⟩) (fun fin s' => ∃ v, fin = .done (.ret v) ∧ Q v s') E s) : wpAny (model prg w) A (call (.ref m) []) Q E s := by
  refine wpAny_call (codeAny_of_tree ?_)
  show wpAny _ A.in1 (callAny (.ref m) ⟨[], []⟩) _ _ _
  simp only [callAny]
  refine wpAny_bind (wpAny_load hm ?_)
  show wpAny _ _ (do checkBoundCall "list_iterator.__next__" ⟨[.ref I], []⟩; again (.builtin "list_iterator.__next__" ⟨[.ref I], []⟩)) _ _ _
  rw [check_nx]
  refine wpAny_bind (wpAny_pure (wpAny_pure (And.intro (plainId_quiet slot_listiter_next.plain _) (codeAny_builtin entry_listiter_next ?_))))
  rw [Around.under_plainId slot_listiter_next.plain _]
  exact wpAny_mono h (fun fin s' ⟨v, e, hq⟩ => by subst e; exact hq) fun _ _ e => e
theorem mw_item {x : Value} (hm : s.heap.get? m = some (mw I)) (hit : s.heap.IsListIter I l i) (hl : s.heap.IsList l items) (hx : items[i]? = some x)
    (hQ : ∀ h', h'.IsListIter I l (i + 1) → Heap.SameBut I s.heap h' → Q x { s with heap := h' }) : wpAny (model prg w) A (call (.ref m) []) Q E s := by
  obtain ⟨o, ho, hc, hd⟩ := id hit
  obtain ⟨ol, hol, _, nl, hdl⟩ := hl
  refine call_mw hm ?_
  show wpAny _ _ (field (.ref I) 0 >>= _) _ _ s
  refine wpAny_bind (wpAny_field ho hd (x := .ref l) rfl ?_)
  show wpAny _ _ (if (Value.ref l == Value.none) = true then _ else _) _ _ s
  rw [if_neg (show ¬ ((Value.ref l == Value.none) = true) from Bool.false_ne_true)]
  show wpAny _ _ (field (.ref I) 1 >>= _) _ _ s
  refine wpAny_bind (wpAny_field ho hd (x := .int i 0) rfl ?_)
  show wpAny _ _ (seqItems? (.ref l) >>= _) _ _ s
  refine wpAny_bind (wpAny_seqItems hol hdl ?_)
  simp only [Int.toNat_natCast, hx]
  refine wpAny_bind (wpAny_setField ho hd (by simp) (wpAny_pure ⟨x, rfl, hQ _ ?_ (Heap.SameBut.update ..)⟩))
  exact ⟨_, Heap.get?_update_self _ ho (Obj.isFreed_of_fields (Obj.data_mapFields hd _)), (Obj.cls_mapFields ..).trans hc, by
    rw [Obj.data_mapFields hd]; simp [rawInt]⟩
/-- a new StopIteration, which no frame has seen -/
noncomputable def Stop (h : Heap) (e : Addr) : Prop := Ex2 fun (vs : Array Value) (a0 : Value) => An3 (h.get? e = some { cls := .type "StopIteration", data := .fields vs }) (vs[0]? = some a0) (vs[1]? = some .none)
theorem mw_end (hh : A.handled = none) (hm : s.heap.get? m = some (mw I)) (hit : s.heap.IsListIter I l i) (hl : s.heap.IsList l items) (hx : items[i]? = none)
    (hE : ∀ h' e, Stop h' e → s.heap.get? e = none → Heap.ExtBut I s.heap h' → E (.ref e) { s with heap := h' }) : wpAny (model prg w) A (call (.ref m) []) Q E s := by
  obtain ⟨o, ho, hc, hd⟩ := id hit
  obtain ⟨ol, hol, _, nl, hdl⟩ := hl
  refine call_mw hm ?_
  show wpAny _ _ (field (.ref I) 0 >>= _) _ _ s
  refine wpAny_bind (wpAny_field ho hd (x := .ref l) rfl ?_)
  show wpAny _ _ (if (Value.ref l == Value.none) = true then _ else _) _ _ s
  rw [if_neg (show ¬ ((Value.ref l == Value.none) = true) from Bool.false_ne_true)]
  show wpAny _ _ (field (.ref I) 1 >>= _) _ _ s
  refine wpAny_bind (wpAny_field ho hd (x := .int i 0) rfl ?_)
  show wpAny _ _ (seqItems? (.ref l) >>= _) _ _ s
  refine wpAny_bind (wpAny_seqItems hol hdl ?_)
  simp only [Int.toNat_natCast, hx]
  refine wpAny_bind (wpAny_rule (wpAny_bind (wpAny_setField ho hd (by simp) ?_)))
  show wpAny _ _ (newExc (.type "StopIteration") [] >>= _) _ _ _
  refine wpAny_bind ?_
  simp only [newExc, newTuple]
  refine wpAny_bind (wpAny_newObj_type ?_ (by size_fits))
  refine wpAny_bind (m := firstArgMember _ _) (wpAny_of_eq (a := Value.none) (by first | rfl | (simp only [firstArgMember]; rfl)) ?_)
  refine wpAny_newObj_type ?_ (by size_fits)
  simp only [raiseNew]
  refine wpAny_bind (wpAny_handled ?_)
  rw [show A.in1.handled = none from hh]
  refine wpAny_bind (wpAny_pure (wpAny_throw ?_))
  refine hE _ _ ⟨_, _, Heap.get?_push_size _ rfl, by rw [Array.getElem?_append_left (by simp)]; rfl, by rw [Array.getElem?_append_left (by simp)]; rfl⟩ ?_ (((Heap.SameBut.update ..).extBut.push _).push _)
  refine Heap.get?_none_of_le ?_
  rw [Heap.size_push, (Heap.SameBut.update (h := s.heap) (a := I) ..).1]
  exact Nat.le_succ _
theorem iter_list {k : Nat} (hl : s.heap.IsList l items) (hq : Q (.ref s.heap.objs.size) { s with heap := s.heap.push { cls := .type "list_iterator", data := .fields #[.ref l, .int 0 0] } }) : wpAny (model prg w) A (call (.builtin "iter") [.ref l]) Q E s := by
  refine Calls.call_function_entry (by decide +kernel) (by decide +kernel) kdk_entry_iter (kdk_args_iter _) ?_
  unfold Builtin.«iter»
  refine wpAny_bind (m := someArgs "iter" 1 2 _) (wpAny_of_eq (a := [Value.ref l]) (by first | rfl | kernel_rfl) ?_)
  show wpAny _ _ (pyIter (.ref l) >>= _) _ _ _
  exact wpAny_bind (wpAny_pyIter_list hl (wpAny_pure ⟨_, rfl, hq⟩))
end
/-! ## the frames around -/
inductive FrE : List Env → List Fm → Prop
  | nil : FrE [] []
  | cons {e : Env} {f : Fm} {es : List Env} {fs : List Fm} (hk : e.scope.kind ≠ .module) (hf : e.frame = some f.L) (h : FrE es fs) : FrE (e :: es) (f :: fs)
noncomputable def FrA (A : Around) (frs : List Fm) : Prop := ∃ es, A.frames = some es ∧ FrE es frs
theorem FrA.deep {A : Around} {frs : List Fm} {env : Env} {f : Fm} (h : FrA A frs) (hk : env.scope.kind ≠ .module) (hf : env.frame = some f.L) : FrA (A.deeper env) (f :: frs) := by
  obtain ⟨es, h1, h2⟩ := h
  exact ⟨env :: es, Around.frames_deeper h1, .cons hk hf h2⟩
theorem FrE.names {es : List Env} {frs frs' : List Fm} (h : FrE es frs) (he : frs.map (·.L) = frs'.map (·.L)) : FrE es frs' := by
  induction h generalizing frs' with
  | nil => cases frs' with
    | nil => exact .nil
    | cons _ _ => simp at he
  | cons hk hf _ ih => cases frs' with
    | nil => simp at he
    | cons f' fs' =>
      rw [List.map_cons, List.map_cons] at he
      injection he with h1 h2
      exact .cons hk (by rw [hf, h1]) (ih h2)
theorem mem_as {frs : List Fm} {f : Fm} (hf : f ∈ frs) {a : Addr} (ha : a ∈ f.as) : a ∈ frs.flatMap Fm.as := List.mem_flatMap.mpr ⟨f, hf, ha⟩
/-- a cell is no frame's place -/
theorem cell_not_L {frs : List Fm} (hn : (frs.flatMap Fm.as).Nodup) {f : Fm} (hf : f ∈ frs) {c : Addr} (hc : c ∈ f.cs.map (·.2)) : c ∉ frs.map (·.L) := by
  induction frs with
  | nil => cases hf
  | cons g frs ih =>
    rw [List.flatMap_cons, List.nodup_append] at hn
    obtain ⟨h1, h2, h3⟩ := hn
    intro hm
    rw [List.map_cons] at hm
    rcases List.mem_cons.mp hf with e | hf'
    · subst e
      rcases List.mem_cons.mp hm with e | hm
      · subst e; exact (List.nodup_cons.mp h1).1 hc
      · obtain ⟨g, hg, rfl⟩ := List.mem_map.mp hm
        exact h3 _ (List.mem_cons_of_mem _ hc) _ (mem_as hg (List.mem_cons_self)) rfl
    · rcases List.mem_cons.mp hm with e | hm
      · subst e
        exact h3 _ (List.mem_cons_self) _ (mem_as hf' (List.mem_cons_of_mem _ hc)) rfl
      · exact ih h2 hf' hm
section
variable {P : Pk} {kn : Kn} {frs : List Fm} {h h' : Heap} {e : Addr}
open Classical in
noncomputable def offB (h : Heap) (e : Addr) (frs : List Fm) : Heap := cut h fun a => decide (a = e ∨ a ∈ frs.map (·.L))
open Classical in
theorem offB_get {a : Addr} {o : Obj} (ho : h.get? a = some o) (h1 : a ≠ e) (h2 : a ∉ frs.map (·.L)) : (offB h e frs).get? a = some o := by
  unfold offB
  rw [cut_get, if_neg, ho]
  rw [decide_eq_true_eq]
  rintro (q | q)
  · exact h1 q
  · exact h2 q
open Classical in
theorem offB_none {a : Addr} (h1 : a = e ∨ a ∈ frs.map (·.L)) : (offB h e frs).get? a = none := by
  unfold offB
  rw [cut_get, if_pos]
  rw [decide_eq_true_eq]; exact h1
open Classical in
theorem offB_stays : (offB h e frs).StaysIn h := fun a o ho => by
  unfold offB at ho
  rw [cut_get] at ho
  split at ho
  · cases ho
  · exact ho
theorem St.slots (hs : St P kn frs h) (hf : Free P kn frs e) (hb : (offB h e frs).StaysIn h') (hu : h.UpToSlots h') : St P kn frs h' := by
  have key : ∀ a o, h.get? a = some o → a ≠ e → a ∉ frs.map (·.L) → h'.get? a = some o := fun a o ho h1 h2 => hb a o (offB_get ho h1 h2)
  have hL : ∀ a, a ∈ frs.map (·.L) → a ∈ frs.flatMap Fm.as := fun a ha => by
    obtain ⟨f, hf, rfl⟩ := List.mem_map.mp ha
    exact mem_as hf (List.mem_cons_self)
  refine ⟨fun a o ho => ?_, fun a o ho => ⟨?_, (hs.know a o ho).2⟩, fun f hf' => ?_, hs.nodup, hs.apart⟩
  · refine key a o (hs.base a o ho) (fun q => by rw [q, hf.b] at ho; cases ho) fun q => ?_
    rw [(hs.apart a (hL a q)).1] at ho; cases ho
  · refine key a o (hs.know a o ho).1 (fun q => by rw [q, hf.kn] at ho; cases ho) fun q => ?_
    rw [(hs.apart a (hL a q)).2] at ho; cases ho
  · have F := hs.fms f hf'
    obtain ⟨m, hm, hp⟩ := F.loc
    have cel : ∀ c, c ∈ f.cs.map (·.2) → ∀ o, h.get? c = some o → h'.get? c = some o := fun c hc o ho =>
      key c o ho (fun q => hf.fm (q ▸ mem_as hf' (List.mem_cons_of_mem _ hc))) (cell_not_L hs.nodup hf' hc)
    refine ⟨⟨m, hu.ns hm, hp⟩, fun x c hc => ?_, fun a ha => ?_⟩
    · obtain ⟨v, ⟨o, ho, hd⟩, hy⟩ := F.cell x c hc
      exact ⟨v, ⟨o, cel c (List.mem_map_of_mem (f := (·.2)) (mem_of_lookup hc)) o ho, hd⟩, hy⟩
    · rcases List.mem_cons.mp ha with q | q
      · subst q; obtain ⟨o, _, _, ho, _⟩ := hu.ns hm; exact ⟨o, ho⟩
      · obtain ⟨o, ho⟩ := F.live a ha; exact ⟨o, cel a q o ho⟩
theorem St.funFrames (hs : St P kn frs h) {es : List Env} (he : FrE es frs) : h.FunFrames (offB h e frs) es := by
  have : ∀ (es : List Env) (fs : List Fm), FrE es fs → (∀ f ∈ fs, f ∈ frs) → h.FunFrames (offB h e frs) es := by
    intro es fs hfe
    induction hfe with
    | nil => intro _; trivial
    | @cons env f es fs hk hf _ ih =>
      intro hsub
      obtain ⟨m, hm, _⟩ := (hs.fms f (hsub f (List.mem_cons_self))).loc
      exact Heap.FunFrames.cons hk hf hm (offB_none (.inr (List.mem_map_of_mem (f := (·.L)) (hsub f (List.mem_cons_self))))) (ih fun g hg => hsub g (List.mem_cons_of_mem _ hg))
  exact this es frs he fun _ hf => hf
end
end
/-! # part B25 -/
section
open PySem PySem.W PyProof.Rows Builtin.ObjectAttr
theorem st_exc : isSubtype (.type "StopIteration") (.type "BaseException") = pure true := by rw [isSubtype_type]; kernel_rfl
theorem st_self : isSubtype (.type "StopIteration") (.type "StopIteration") = pure true := by rw [isSubtype_type]; kernel_rfl
theorem st_meta : isSubtype (.type ((Manifest.find? "StopIteration").elim "type" fun x => x.metatype)) (.type "tuple") = pure false := by rw [isSubtype_type]; kernel_rfl
noncomputable def Kn.drop (kn : Kn) (I : Addr) : Kn := fun a => if a = I then none else kn a
theorem Kn.drop_ne {kn : Kn} {I a : Addr} (h : a ≠ I) : kn.drop I a = kn a := if_neg h
theorem LI.iter {o : Obj} {l I : Addr} {i : Nat} {h : Heap} (x : LI o l i) (ho : h.get? I = some o) : h.IsListIter I l i := ⟨o, ho, x.1, x.2⟩
section
variable {P : Pk} {A : Around} {kn : Kn} {frs : List Fm} {env : Env} {outer : List Env}
theorem looks_mw {M : Model} {h : Heap} {m I : Addr} (hm : h.get? m = some (mw I)) : ∃ k, Looks M h (keeperOf (.ref m)) k := by
  refine ⟨.machine, ?_⟩
  unfold keeperOf
  exact (Looks.ld (part := none) hm).andThen .now
theorem x_tryNext {f : Expr} {x : Str} {px cp ap bp tp hp pos : Pos} {b₀ : Stmt} {suite : List Stmt} {Q : Flow → Kn → List Fm → Prop} {L : Addr} (hh : A.handled = none) (hfr : A.frames = some (env :: outer)) (hfL : env.frame = some L)
    (hg : env.globals = mainGlobals) (hb : env.builtins = builtinsNs) (hk : env.scope.kind = .function) (hl : env.kindOf "StopIteration" = some .globalImplicit) (hsw : swapsWith (.Call f [] [] cp) (some (.Name x px)) ap.line env = pure false)
    (hc : eval (.Call f [] [] cp) env = (do callWith cp (← eval f env) [] (backTo cp (starEach [] env)) (backToKw cp (keywordEach [] env))))
    (H : WP P A (eval f env) (fun fv kn frs => Ex7 fun m I l i items ep o => An9 (fv = .ref m) (kn m = some (mw I)) (kn I = some o) (LI o l i) (Kw P kn l (lo items ep)) (I ≠ l) (FrE (env :: outer) frs)
      (∀ v, items[i]? = some v → ∀ o', LI o' l (i + 1) → WP P A (storeName env x v) (fun _ => Q .brk) (kn.set I o') frs)
      (items[i]? = none → ∀ e, WP P (A.mark (some (.ref e))) (execs (b₀ :: suite) env) Q (kn.drop I) frs)) kn frs) :
    WP P A (exec (.Try [.Assign [.Name x px] (.Call f [] [] cp) ap, .Break bp] [.ExceptHandler (some (.Name "StopIteration" tp)) none (b₀ :: suite) hp] [] [] pos) env) Q kn frs := fun h k hs => by
  refine wpX_TryHit st_exc st_meta st_self ?_
  refine wpX_execs_cons (wpX_Assign_Name (wpX_Call (H.use hs fun fv kn₁ frs₁ h₁ k₁ hs₁ hq => ?_) hc) hsw)
  obtain ⟨m, I, l, i, items, ep, o, rfl, hm, hI, hli, hL, hIl, hfe, hok, hno⟩ := hq
  have hm' := (hs₁.know _ _ hm).1
  have hI' := (hs₁.know _ _ hI).1
  refine wpX_callWith (wx (evalArgs_nil3 ⟨looks_mw hm', ?_⟩))
  show wpX _ _ (call (.ref m) []) _ _ _
  cases hx : items[i]? with
  | some v =>
    refine wx (mw_item hm' (hli.iter hI') (hL.isList hs₁) (by simpa using hx) fun h' hit' hsb => ?_)
    obtain ⟨o', ho', hc', hd'⟩ := hit'
    refine (hok v hx o' ⟨hc', hd'⟩).use (hs₁.sameBut hI ho' hsb) fun _ kn₂ frs₂ h₂ k₂ hs₂ hq₂ => ?_
    show wpX _ _ (execs [.Break bp] env) _ _ _
    exact wpX_execs_cons (wx (wpAny_Break (WP.fin hs₂ hq₂)))
  | none =>
    refine wx (mw_end hh hm' (hli.iter hI') (hL.isList hs₁) (by simpa using hx) fun h' e hS hen hext => ?_)
    refine ⟨e, rfl, ?_⟩
    have hs₂ : St P (kn₁.drop I) frs₁ h' := by
      have h2 : St P (kn₁.drop I) frs₁ h₁ := hs₁.less fun a o e => by unfold Kn.drop at e; split at e; cases e; exact e
      refine h2.off (I := I) ⟨if_pos rfl, fun ha => ?_, (hs₁.know _ _ hI).2⟩ hext
      have := (hs₁.apart I ha).2; rw [hI] at this; cases this
    have hfree : Free P (kn₁.drop I) frs₁ e := by
      have h2 : St P (kn₁.drop I) frs₁ h₁ := hs₁.less fun a o e => by unfold Kn.drop at e; split at e; cases e; exact e
      exact h2.free hen
    obtain ⟨vs, a0, he, hv0, hv1⟩ := hS
    have hsz : 1 < vs.size := (Array.getElem?_eq_some_iff.mp hv1).1
    refine wx ?_
    unfold noteFrame
    simp only [hfL]
    refine wpAny_bind (wpAny_field (s := P.st h' k₁) he rfl hv1 ?_)
    rw [if_neg (show ¬ ((Value.none != Value.none) = true) from by simp)]
    refine wpAny_entryW (s := P.st h' k₁) (base := offB h' e frs₁) (head := .none) hfr (hs₂.funFrames hfe) hfL he offB_stays (offB_none (.inl rfl)) rfl hsz hv0 fun h₃ hN => ?_
    obtain ⟨n1, n2, n3, n4⟩ := hN
    refine wx (wpAny_setFlight_noneW (s := P.st h₃ k₁) (base := offB h' e frs₁) n1 n2 n3 fun h₄ m1 m2 m3 m4 => ?_)
    have hu4 : h'.UpToSlots h₄ := Heap.UpToSlots.trans n4 fun b o hb hn => ⟨o.slots, m4 b o hb hn⟩
    have hs₄ : St P (kn₁.drop I) frs₁ h₄ := hs₂.slots hfree m1 hu4
    refine wx (Calls.Name_function_global hk hl (Calls.loadGlobal_builtin (hg ▸ P.g.keeps hs₄.base) (mg_none_of P.kin P.g (by kernel_rfl)) (hb ▸ P.bl.keeps hs₄.base) ((P.hmb _ (by decide +kernel)).trans (by boot_by_name)) ?_) (by kernel_rfl))
    refine ⟨rfl, ?_, ?_⟩
    · obtain ⟨oe, he', hce⟩ := m3.at.there
      exact ⟨oe, he', hce⟩
    · refine wx (wpAny_setFlight_noneW (s := P.st h₄ k₁) (base := offB h' e frs₁) m1 m2 m3.at fun h₅ q1 q2 q3 q4 => ?_)
      have hs₅ : St P (kn₁.drop I) frs₁ h₅ := hs₂.slots hfree q1 (Heap.UpToSlots.trans hu4 fun b o hb hn => ⟨o.slots, q4 b o hb hn⟩)
      exact (hno hx e) h₅ k₁ hs₅
end
end
/-! # part B26 -/
section
open PySem PySem.W PyProof.Rows Builtin.ObjectAttr
section
variable {P : Pk} {A : Around} {kn : Kn} {frs : List Fm} {Q : Value → Kn → List Fm → Prop}
theorem k_iter {l : Addr} {items : List Value} {ep : Nat} (hl : Kw P kn l (lo items ep)) (h : ∀ I o, kn I = none → LI o l 0 → o.dict = none → Q (.ref I) (kn.set I o) frs) : WP P A (call (.builtin "iter") [.ref l]) Q kn frs := fun hp k hs =>
  wx (iter_list (k := k) (hl.isList hs) ⟨_, _, _, _, rfl, hs.push _, h _ _ (hs.free (get_size hp)).kn ⟨rfl, rfl⟩ rfl⟩)
theorem k_next {I l : Addr} {i : Nat} {o : Obj} (hI : kn I = some o) (ho : LI o l i) (hd : o.dict = none) (h : ∀ m, kn m = none → Q (.ref m) (kn.set m (mw I)) frs) : WP P A (getAttr (.ref I) "__next__" true) Q kn frs := fun hp k hs => by
  obtain ⟨c, dd, dt, sl⟩ := o
  obtain ⟨h1, h2⟩ := ho
  dsimp only at h1 h2 hd
  subst h1 h2 hd
  exact wx (getattr_next (hs.know _ _ hI).1 fun k' => ⟨_, _, _, _, rfl, hs.push _, h _ (hs.free (get_size hp)).kn⟩)
end
/-! ## the depth-first walk's state -/
structure PE where
  g : NI
  a : NA
  m : Addr
  I : Addr
  i : Nat
noncomputable def ownP (S IT SE NS : Addr) (path : List PE) : List Addr := S :: IT :: SE :: NS :: path.flatMap fun p => [p.m, p.I]
structure Dfs (kn0 kn : Kn) (S IT SE NS : Addr) (as : List NA) (gs : List NI) (path : List PE) (seen : List Int) : Prop where
  up : ∀ a o, kn0 a = some o → kn a = some o
  fr : ∀ a ∈ ownP S IT SE NS path, kn0 a = none
  nd : (ownP S IT SE NS path).Nodup
  stk : Ex2 fun items ep => An2 (kn S = some (lo items ep)) (IntsAre items (path.map (·.g.node)))
  its : ∃ ep, kn IT = some (lo (path.map fun p => .ref p.m) ep)
  sen : ∃ o, An2 (kn SE = some o) (o.IntSetOf (fun k => decide (k ∈ seen)) seen.length)
  n2s : Ex2 fun o kvs => An3 (kn NS = some o) (IntD o kvs) (kvs.map (·.1) = path.map (·.g.node))
  nsm : (NS == sysModules) = false
  pth : ∀ p ∈ path, kn p.m = some (mw p.I) ∧ (∃ o, An2 (kn p.I = some o) (LI o p.a.sl p.i)) ∧ (∃ (j : Nat), An2 (as[j]? = some p.a) (gs[j]? = some p.g)) ∧ p.i ≤ p.g.succ.length
  dec : (path.map (·.g.node)).Pairwise (· > ·)
  sub : ∀ p ∈ path, p.g.node ∈ seen
  snd : seen.Nodup
  sin : ∀ k ∈ seen, k ∈ gs.map (·.node)
noncomputable def remP (path : List PE) : Nat := (path.map fun p => p.g.succ.length - p.i).sum
noncomputable def meas (D : Nat) (gs : List NI) (path : List PE) (seen : List Int) : Nat := (gs.length - seen.length) * (D + 1) + remP path
section
variable {kn0 kn : Kn} {S IT SE NS : Addr} {as : List NA} {gs : List NI} {path : List PE} {seen : List Int}
theorem ownP_snoc (p : PE) : ownP S IT SE NS (path ++ [p]) = ownP S IT SE NS path ++ [p.m, p.I] := by unfold ownP; simp
theorem Dfs.known (h : Dfs kn0 kn S IT SE NS as gs path seen) : ∀ a ∈ ownP S IT SE NS path, ∃ o, kn a = some o := by
  intro a ha
  unfold ownP at ha
  simp only [List.mem_cons, List.mem_flatMap] at ha
  rcases ha with rfl | rfl | rfl | rfl | ⟨p, hp, hm⟩
  · obtain ⟨items, ep, h1, _⟩ := h.stk; exact ⟨_, h1⟩
  · obtain ⟨ep, h1⟩ := h.its; exact ⟨_, h1⟩
  · obtain ⟨o, h1, _⟩ := h.sen; exact ⟨_, h1⟩
  · obtain ⟨o, _, h1, _⟩ := h.n2s; exact ⟨_, h1⟩
  · obtain ⟨h1, ⟨o, h2, _⟩, _⟩ := h.pth p hp
    simp only [List.mem_cons, List.not_mem_nil, or_false] at hm
    rcases hm with rfl | rfl
    · exact ⟨_, h1⟩
    · exact ⟨_, h2⟩
theorem own_m {p : PE} (hp : p ∈ path) : p.m ∈ ownP S IT SE NS path := by unfold ownP; simp only [List.mem_cons, List.mem_flatMap]; exact .inr (.inr (.inr (.inr ⟨p, hp, .inl rfl⟩)))
theorem own_I {p : PE} (hp : p ∈ path) : p.I ∈ ownP S IT SE NS path := by unfold ownP; simp only [List.mem_cons, List.mem_flatMap]; exact .inr (.inr (.inr (.inr ⟨p, hp, .inr (.inl rfl)⟩)))
theorem own4 (h : (ownP S IT SE NS path).Nodup) : S ≠ IT ∧ S ≠ SE ∧ S ≠ NS ∧ IT ≠ SE ∧ IT ≠ NS ∧ SE ≠ NS ∧ ∀ p ∈ path, (p.m ≠ S ∧ p.m ≠ IT ∧ p.m ≠ SE ∧ p.m ≠ NS) ∧ (p.I ≠ S ∧ p.I ≠ IT ∧ p.I ≠ SE ∧ p.I ≠ NS) := by
  unfold ownP at h
  simp only [List.nodup_cons, List.mem_cons, List.mem_flatMap, not_or, not_exists, not_and] at h
  obtain ⟨⟨h1, h2, h3, h4⟩, ⟨h5, h6, h7⟩, ⟨h8, h9⟩, h10, _⟩ := h
  refine ⟨h1, h2, h3, h5, h6, h8, fun p hp => ⟨⟨?_, ?_, ?_, ?_⟩, ?_, ?_, ?_, ?_⟩⟩
  · exact fun e => (h4 p hp).1 e.symm
  · exact fun e => (h7 p hp).1 e.symm
  · exact fun e => (h9 p hp).1 e.symm
  · exact fun e => (h10 p hp).1 e.symm
  · exact fun e => (h4 p hp).2.1 e.symm
  · exact fun e => (h7 p hp).2.1 e.symm
  · exact fun e => (h9 p hp).2.1 e.symm
  · exact fun e => (h10 p hp).2.1 e.symm
/-- new things beside -/
theorem Dfs.sup {kn' : Kn} (h : Dfs kn0 kn S IT SE NS as gs path seen) (hk : ∀ a o, kn a = some o → kn' a = some o) : Dfs kn0 kn' S IT SE NS as gs path seen := by
  obtain ⟨items, ep, h1, h2⟩ := h.stk
  obtain ⟨ep2, h3⟩ := h.its
  obtain ⟨o, h4, h5⟩ := h.sen
  obtain ⟨o2, kvs, h6, h7, h8⟩ := h.n2s
  exact ⟨fun a o e => hk a o (h.up a o e), h.fr, h.nd, ⟨items, ep, hk _ _ h1, h2⟩, ⟨ep2, hk _ _ h3⟩, ⟨o, hk _ _ h4, h5⟩, ⟨o2, kvs, hk _ _ h6, h7, h8⟩, h.nsm,
    fun p hp => let ⟨a, ⟨o, b1, b2⟩, c⟩ := h.pth p hp; ⟨hk _ _ a, ⟨o, hk _ _ b1, b2⟩, c⟩, h.dec, h.sub, h.snd, h.sin⟩
theorem remP_snoc (p : PE) : remP (path ++ [p]) = remP path + (p.g.succ.length - p.i) := by unfold remP; simp
/-- the topmost iterator goes on -/
theorem Dfs.step {p : PE} {o' : Obj} (h : Dfs kn0 kn S IT SE NS as gs (path ++ [p]) seen) (hl : LI o' p.a.sl (p.i + 1)) (hi : p.i < p.g.succ.length) : Dfs kn0 (kn.set p.I o') S IT SE NS as gs (path ++ [{ p with i := p.i + 1 }]) seen := by
  obtain ⟨items, ep, h1, h2⟩ := h.stk
  obtain ⟨ep2, h3⟩ := h.its
  obtain ⟨o, h4, h5⟩ := h.sen
  obtain ⟨o2, kvs, h6, h7, h8⟩ := h.n2s
  have hp : p ∈ path ++ [p] := List.mem_append_right _ (List.mem_singleton.mpr rfl)
  have o4 := (own4 h.nd).2.2.2.2.2.2 p hp
  have hnd := h.nd
  rw [ownP_snoc, List.nodup_append] at hnd
  have hmI : p.m ≠ p.I := by have := hnd.2.1; simp at this; exact this
  have how : ∀ q : List PE, ownP S IT SE NS (path ++ [{ p with i := p.i + 1 }]) = ownP S IT SE NS (path ++ [p]) := fun _ => by rw [ownP_snoc, ownP_snoc]
  refine ⟨fun a ob e => ?_, fun a ha => h.fr a (by rw [← how []]; exact ha), by rw [how []]; exact h.nd, ⟨items, ep, by rw [Kn.set_ne (Ne.symm o4.2.1)]; exact h1, by simpa using h2⟩, ⟨ep2, by rw [Kn.set_ne (Ne.symm o4.2.2.1)]; simpa using h3⟩,
    ⟨o, by rw [Kn.set_ne (Ne.symm o4.2.2.2.1)]; exact h4, h5⟩, ⟨o2, kvs, by rw [Kn.set_ne (Ne.symm o4.2.2.2.2)]; exact h6, h7, by simpa using h8⟩, h.nsm, fun q hq => ?_, by simpa using h.dec, fun q hq => ?_, h.snd, h.sin⟩
  · rw [Kn.set_ne (Kn.ne_of e (h.fr _ (own_I hp)))]; exact h.up a ob e
  · rcases List.mem_append.mp hq with hq | hq
    · obtain ⟨a, ⟨ob, b1, b2⟩, c⟩ := h.pth q (List.mem_append_left _ hq)
      have e1 : q.m ≠ p.I := fun e => hnd.2.2 _ (own_m hq) _ (by simp) e
      have e2 : q.I ≠ p.I := fun e => hnd.2.2 _ (own_I hq) _ (by simp) e
      exact ⟨by rw [Kn.set_ne e1]; exact a, ⟨ob, by rw [Kn.set_ne e2]; exact b1, b2⟩, c⟩
    · rw [List.mem_singleton] at hq; subst hq
      obtain ⟨a, ⟨ob, b1, b2⟩, c, d⟩ := h.pth p hp
      exact ⟨by rw [Kn.set_ne hmI]; exact a, ⟨o', Kn.set_self, hl⟩, c, hi⟩
  · rcases List.mem_append.mp hq with hq | hq
    · exact h.sub q (List.mem_append_left _ hq)
    · rw [List.mem_singleton] at hq; subst hq; exact h.sub p hp
theorem Dfs.pop {p : PE} {kn' : Kn} (h : Dfs kn0 kn S IT SE NS as gs (path ++ [p]) seen) (hS : Ex2 fun items ep => An2 (kn' S = some (lo items ep)) (IntsAre items (path.map (·.g.node)))) (hIT : ∃ ep, kn' IT = some (lo (path.map fun p => .ref p.m) ep))
    (hNS : Ex2 fun o kvs => An3 (kn' NS = some o) (IntD o kvs) (kvs.map (·.1) = path.map (·.g.node))) (hk : ∀ a, a ≠ S → a ≠ IT → a ≠ NS → a ≠ p.I → ∀ o, kn a = some o → kn' a = some o) : Dfs kn0 kn' S IT SE NS as gs path seen := by
  have hp : p ∈ path ++ [p] := List.mem_append_right _ (List.mem_singleton.mpr rfl)
  obtain ⟨o, h4, h5⟩ := h.sen
  have o6 := own4 h.nd
  have o4 := o6.2.2.2.2.2.2
  have hnd := h.nd
  rw [ownP_snoc, List.nodup_append] at hnd
  refine ⟨fun a ob e => ?_, fun a ha => h.fr a (by rw [ownP_snoc]; exact List.mem_append_left _ ha), hnd.1, hS, hIT, ⟨o, hk _ (Ne.symm o6.2.1) (Ne.symm o6.2.2.2.1) o6.2.2.2.2.2.1 (Ne.symm (o4 p hp).2.2.2.1) _ h4, h5⟩, hNS, h.nsm, fun q hq => ?_, ?_, fun q hq => h.sub q (List.mem_append_left _ hq), h.snd, h.sin⟩
  · have key : ∀ b ∈ ownP S IT SE NS (path ++ [p]), a ≠ b := fun b hb q => by rw [q, h.fr b hb] at e; cases e
    exact hk a (key _ (by simp [ownP])) (key _ (by simp [ownP])) (key _ (by simp [ownP])) (key _ (own_I hp)) ob (h.up a ob e)
  · have hq' := List.mem_append_left [p] hq
    obtain ⟨a, ⟨ob, b1, b2⟩, c⟩ := h.pth q hq'
    have x := o4 q hq'
    have e1 : q.m ≠ p.I := fun e => hnd.2.2 _ (own_m hq) _ (by simp) e
    have e2 : q.I ≠ p.I := fun e => hnd.2.2 _ (own_I hq) _ (by simp) e
    exact ⟨hk _ x.1.1 x.1.2.1 x.1.2.2.2 e1 _ a, ⟨ob, hk _ x.2.1 x.2.2.1 x.2.2.2.2 e2 _ b1, b2⟩, c⟩
  · have := h.dec; rw [List.map_append, List.pairwise_append] at this; exact this.1
theorem Dfs.push {p : PE} {kn' : Kn} (h : Dfs kn0 kn S IT SE NS as gs path seen) (hS : Ex2 fun items ep => An2 (kn' S = some (lo items ep)) (IntsAre items ((path ++ [p]).map (·.g.node)))) (hIT : ∃ ep, kn' IT = some (lo ((path ++ [p]).map fun p => .ref p.m) ep))
    (hNS : Ex2 fun o kvs => An3 (kn' NS = some o) (IntD o kvs) (kvs.map (·.1) = (path ++ [p]).map (·.g.node))) (hSE : ∃ o, An2 (kn' SE = some o) (o.IntSetOf (fun k => decide (k ∈ seen ++ [p.g.node])) (seen ++ [p.g.node]).length))
    (hm : kn' p.m = some (mw p.I)) (hI : ∃ o, An2 (kn' p.I = some o) (LI o p.a.sl p.i)) (hj : ∃ (j : Nat), An2 (as[j]? = some p.a) (gs[j]? = some p.g)) (hi : p.i ≤ p.g.succ.length) (hf : kn p.m = none ∧ kn p.I = none ∧ p.m ≠ p.I)
    (hk : ∀ a, a ≠ S → a ≠ IT → a ≠ SE → a ≠ NS → ∀ o, kn a = some o → kn' a = some o) (hlt : ∀ q ∈ path, p.g.node < q.g.node) (hns : p.g.node ∉ seen) (hin : p.g.node ∈ gs.map (·.node)) :
    Dfs kn0 kn' S IT SE NS as gs (path ++ [p]) (seen ++ [p.g.node]) := by
  have o4 := (own4 h.nd).2.2.2.2.2.2
  have hne : ∀ b, kn b = none → ∀ a ∈ ownP S IT SE NS path, a ≠ b := fun b hb a ha e => by
    obtain ⟨o, e'⟩ := h.known a ha; rw [e, hb] at e'; cases e'
  have h0 : ∀ b, kn b = none → kn0 b = none := fun b hb => by
    cases e : kn0 b with
    | none => rfl
    | some o => rw [h.up b o e] at hb; cases hb
  refine ⟨fun a ob e => ?_, fun a ha => ?_, ?_, hS, hIT, hSE, hNS, h.nsm, fun q hq => ?_, ?_, fun q hq => ?_, ?_, fun k hk' => ?_⟩
  · have key : ∀ b ∈ ownP S IT SE NS path, a ≠ b := fun b hb q => by rw [q, h.fr b hb] at e; cases e
    exact hk a (key _ (by simp [ownP])) (key _ (by simp [ownP])) (key _ (by simp [ownP])) (key _ (by simp [ownP])) ob (h.up a ob e)
  · rw [ownP_snoc] at ha
    rcases List.mem_append.mp ha with ha | ha
    · exact h.fr a ha
    · simp at ha
      rcases ha with rfl | rfl
      · exact h0 _ hf.1
      · exact h0 _ hf.2.1
  · rw [ownP_snoc, List.nodup_append]
    refine ⟨h.nd, by simp [hf.2.2], fun a ha b hb e => ?_⟩
    simp at hb
    rcases hb with rfl | rfl
    · exact hne _ hf.1 a ha e
    · exact hne _ hf.2.1 a ha e
  · rcases List.mem_append.mp hq with hq | hq
    · obtain ⟨a, ⟨ob, b1, b2⟩, c⟩ := h.pth q hq
      have x := o4 q hq
      exact ⟨hk _ x.1.1 x.1.2.1 x.1.2.2.1 x.1.2.2.2 _ a, ⟨ob, hk _ x.2.1 x.2.2.1 x.2.2.2.1 x.2.2.2.2 _ b1, b2⟩, c⟩
    · rw [List.mem_singleton] at hq; subst hq
      exact ⟨hm, hI, hj, hi⟩
  · rw [List.map_append, List.pairwise_append]
    refine ⟨h.dec, by simp, fun a ha b hb => ?_⟩
    obtain ⟨q, hq, rfl⟩ := List.mem_map.mp ha
    simp at hb; subst hb
    exact hlt q hq
  · rcases List.mem_append.mp hq with hq | hq
    · exact List.mem_append_left _ (h.sub q hq)
    · rw [List.mem_singleton] at hq; subst hq; exact List.mem_append_right _ (List.mem_singleton.mpr rfl)
  · rw [List.nodup_append]
    refine ⟨h.snd, by simp, fun a ha b hb e => ?_⟩
    simp at hb; subst hb; subst e; exact hns ha
  · rcases List.mem_append.mp hk' with q | q
    · exact h.sin k q
    · rw [List.mem_singleton] at q; subst q; exact hin
theorem seen_le (h : Dfs kn0 kn S IT SE NS as gs path seen) : seen.length ≤ gs.length := by
  have : ∀ (l l' : List Int), l.Nodup → (∀ k ∈ l, k ∈ l') → l.length ≤ l'.length := by
    intro l
    induction l with
    | nil => intro l' _ _; simp
    | cons a l ih =>
      intro l' hn hs
      rw [List.nodup_cons] at hn
      have ha := hs a (List.mem_cons_self)
      have h2 := ih (l'.erase a) hn.2 fun k hk => by
        refine (List.mem_erase_of_ne ?_).mpr (hs k (List.mem_cons_of_mem _ hk))
        intro e; subst e; exact hn.1 hk
      rw [List.length_erase_of_mem ha] at h2
      have : 0 < l'.length := List.length_pos_of_mem ha
      simp; (first | lia | omega)
  have := this seen (gs.map (·.node)) h.snd h.sin
  simpa using this
theorem nodup_le : ∀ (l l' : List Int), l.Nodup → (∀ k ∈ l, k ∈ l') → l.length ≤ l'.length := by
  intro l
  induction l with
  | nil => intro l' _ _; simp
  | cons a l ih =>
    intro l' hn hs
    rw [List.nodup_cons] at hn
    have ha := hs a (List.mem_cons_self)
    have h2 := ih (l'.erase a) hn.2 fun k hk => by
      refine (List.mem_erase_of_ne ?_).mpr (hs k (List.mem_cons_of_mem _ hk))
      intro e; subst e; exact hn.1 hk
    rw [List.length_erase_of_mem ha] at h2
    have : 0 < l'.length := List.length_pos_of_mem ha
    simp; (first | lia | omega)
theorem path_le (h : Dfs kn0 kn S IT SE NS as gs path seen) : path.length ≤ gs.length := by
  have h3 : (path.map (·.g.node)).Nodup := h.dec.imp fun {a b} (hab : a > b) => by intro e; (first | lia | omega)
  have h4 := nodup_le _ seen h3 fun k hk => by
    obtain ⟨p, hp, rfl⟩ := List.mem_map.mp hk
    exact h.sub p hp
  have := seen_le h
  simp at h4; (first | lia | omega)
theorem ia_snoc_inv : ∀ {l : List Int} {si : List Value} {k : Int}, IntsAre si (l ++ [k]) → Ex2 fun si' t => An2 (si = si' ++ [.int k t]) (IntsAre si' l)
  | [], si, k, h => by
    obtain ⟨t, vs', rfl, h2⟩ := h.cons_inv
    exact ⟨[], t, by rw [h2.nil_inv]; rfl, .nil⟩
  | a :: l, si, k, h => by
    obtain ⟨t, vs', rfl, h2⟩ := h.cons_inv
    obtain ⟨si', t', rfl, h3⟩ := ia_snoc_inv h2
    exact ⟨.int a t :: si', t', rfl, .cons _ _ h3⟩
theorem notmod {env : Env} (h : env.scope.kind = .function) : env.scope.kind ≠ .module := by rw [h]; decide
theorem set_snoc {o : Obj} {seen : List Int} {k : Int} (hk : k ∉ seen) (h : o.IntSetOf (fun k' => decide (k' ∈ seen) || decide (k' = k)) (if decide (k ∈ seen) = true then seen.length else seen.length + 1)) : o.IntSetOf (fun k' => decide (k' ∈ seen ++ [k])) (seen ++ [k]).length := by
  have e1 : (fun k' => decide (k' ∈ seen) || decide (k' = k)) = fun k' => decide (k' ∈ seen ++ [k]) := funext fun k' => by simp [List.mem_append, Bool.decide_or]
  have e2 : (if decide (k ∈ seen) = true then seen.length else seen.length + 1) = (seen ++ [k]).length := by simp [hk]
  rw [e1, e2] at h; exact h
end
end
/-! # part B27 -/
section
open PySem PySem.W PyProof.Rows Builtin.ObjectAttr
/-! ## bound methods, called with a star -/
theorem codeX_method {w : World} {A : Around} {R : Result → Shared → Prop} {p : Addr} {f : Addr} {self : Value} {pos : List Value} {kw : List (Str × Value)} {s : Shared} (ho : s.heap.get? p = some (methodObj (.ref f) self))
    (h : codeX (model prg w) A (.call (.ref f) ⟨self :: pos, kw⟩) R s) : codeX (model prg w) A (.call (.ref p) ⟨pos, kw⟩) R s := by
  refine codeX_of_tree ?_
  show wpX _ _ (callAny (.ref p) _) _ _ _
  simp only [callAny]
  refine wpX_bind (wx (wpAny_load ho ?_))
  exact wpX_pure (a := Fin.again (.call (.ref f) ⟨self :: pos, kw⟩)) (And.intro rfl h)
section
variable {P : Pk} {A : Around} {kn : Kn} {frs : List Fm} {env : Env} {pos p : Pos} {x dx m f C : Addr} {e : Expr} {rest : List Expr} {Q : Value → Kn → List Fm → Prop}
theorem g_meth {name : Str} {ox od : Obj} {expr : Bool} (hx : kn x = some ox) (hd : kn dx = some od) (hc : ox.cls = .ref C) (hn : notCls ox = true) (he : ox.dict = some dx)
    (hga : findIn (KK P.w.params) (.ref C) "__getattribute__" = some (some (.builtin "object.__getattribute__"))) (hk : findIn (KK P.w.params) (.ref C) "__getattr__" = some none) (hh : hasDictIn (KK P.w.params) C = true)
    (ha : findIn (KK P.w.params) (.ref C) name = some (some (.ref f))) (hg : specialIn (KK P.w.params) (.ref f) "__get__" = some (some (.builtin "function.__get__"))) (ht : takesIn (KK P.w.params) (.ref f) = some false) (hcn : copiedNames.contains name = false)
    (hty : typeIn (KK P.w.params) (.ref f) = some (.type "function")) (hl : lookIn name od = some none) (hq : ∀ m, kn m = none → Q (.ref m) (kn.set m (methodObj (.ref f) (.ref x))) frs) : WP P A (getAttr (.ref x) name expr) Q kn frs := fun hp k hs => by
  refine wx (get_bind hs.K (inst_at hs hx hd hc hn he) hga (findObj_fn hh ha hg ht hcn hl) hk (wpAny_call (fn_get (s := P.st hp (k + 1)) hs.K hty ?_)))
  show wpAny _ _ (handedOut (.ref _)) _ _ _
  rw [handedOut_of rfl]
  exact wpAny_pure ⟨_, _, _, _, rfl, hs.push _, hq _ (hs.free (get_size hp)).kn⟩
theorem looks_meth {h : Heap} {o : Obj} {fd : FuncData} (hs : St P kn frs h) (hm : kn m = some (methodObj (.ref f) (.ref x))) (hf : (KK P.w.params).lookup f = some o) (hd : o.data = .func fd) : ∃ k, Looks (model prg P.w) h (keeperOf (.ref m)) k := by
  refine ⟨.boundFrame, ?_⟩
  unfold keeperOf
  refine (Looks.ld (part := none) (hs.know _ _ hm).1).andThen ?_
  show Looks _ _ (load f >>= _) _
  refine (Looks.ld (part := none) (hs.K _ _ hf)).andThen ?_
  rw [hd]; exact .now
theorem w_meth {o : Obj} {fd : FuncData} (hf : (KK P.w.params).lookup f = some o) (hd : o.data = .func fd)
    (H : WP P A (spliced (backTo pos (starEach (e :: rest) env))) (fun vs kn₁ frs₁ => kn₁ m = some (methodObj (.ref f) (.ref x)) ∧ CP P A (.call (.ref f) ⟨.ref x :: vs, []⟩) Q kn₁ frs₁) kn frs)
    (he : starEach (e :: rest) env = (false, eval e env) :: starEach rest env := by rfl) : WP P A (callWith pos (.ref m) [] (backTo pos (starEach (e :: rest) env)) []) Q kn frs := fun _ _ hs => by
  rw [he] at H ⊢
  exact wpX_callWith (wpX_evalArgs (rest := backTo pos (starEach rest env)) (H.use hs fun vs _ _ h k hs₂ h₂ => ⟨looks_meth hs₂ h₂.1 hf hd, wpX_call (codeX_method (hs₂.know _ _ h₂.1).1 (h₂.2 h k hs₂))⟩))
theorem w_mlone {o : Obj} {fd : FuncData} (hf : (KK P.w.params).lookup f = some o) (hd : o.data = .func fd)
    (H : WP P A (eval e env) (fun v kn₁ frs₁ => Ex2 fun a here => An5 (v = .ref a) (SeqAt P kn₁ a here) (here.length ≤ 1000) (kn₁ m = some (methodObj (.ref f) (.ref x))) (CP P A (.call (.ref f) ⟨.ref x :: here, []⟩) Q kn₁ frs₁)) kn frs)
    (he : starEach [.Starred e p] env = [(true, eval e env)] := by rfl) : WP P A (callWith pos (.ref m) [] (backTo pos (starEach [.Starred e p] env)) []) Q kn frs := fun _ _ hs => by
  rw [he]
  refine wpX_callWith (wpX_lone (H.use hs fun v kn₁ frs₁ h₁ k₁ hs₁ hq => ?_))
  obtain ⟨a, here, rfl, ha, hz, hm, hq⟩ := hq
  exact star_of hs₁ ha hz fun h' hs' => ⟨looks_meth hs' hm hf hd, wpX_call (codeX_method (hs'.know _ _ hm).1 (hq h' k₁ hs'))⟩
theorem e_smeth {o : Expr} {name : Str} {apos : Pos} {args : List Expr} (H : WP P A (eval o env) (fun ov kn frs => WP P A (getAttr ov name true) (fun f kn frs => WP P A (callWith pos f [] (backTo pos (starEach args env)) []) Q kn frs) kn frs) kn frs)
    (he : eval (.Call (.Attribute o name apos) args [] pos) env = (do
      let ov ← eval o env
      standAt apos.atName
      let (f, first) ← holding [ov] (do pure (← getAttr ov name true, []))
      callWith pos f first (backTo pos (starEach args env)) []) := by rfl) : WP P A (eval (.Call (.Attribute o name apos) args [] pos) env) Q kn frs := fun _ _ hs => by
  rw [he]
  exact wpX_bind (H.use hs fun ov _ _ _ _ hs₁ h₁ => wpX_stand (wpX_bind (wpX_hold (wpX_bind (h₁.use hs₁ fun f _ _ _ _ hs₂ h₂ => wpX_pure ((show WP P A _ _ _ _ from h₂) _ _ hs₂))))))
end
end
local macro_rules | `(tactic| walk_at "sub") => `(tactic| first | with_reducible exact Sub.nil | ((with_reducible refine' Sub.keep ?q); (case q => walk_at "sub")) | ((with_reducible refine' Sub.skip ?q); (case q => walk_at "sub")))
local macro_rules | `(tactic| walk_at "mem") => `(tactic| first | with_reducible exact Lk.head | ((with_reducible refine' Lk.tail ?q); (case q => walk_at "mem")))
local macro_rules | `(tactic| walk_at "pv") => `(tactic| first | with_reducible exact Pv.nil | ((with_reducible refine Pv.hit ?q); kernel_rfl) | ((with_reducible refine' Pv.miss ?h ?q); (case h => kernel_rfl); (case q => walk_at "pv")))
local macro_rules | `(tactic| walk_at "name") => `(tactic| first
  | ((with_reducible refine' e_outc ?hv ?_ ?a ?b ?c ?d ?e); (case a => rfl); (case b => rfl); (case d => kernel_rfl); (case c => kernel_rfl); (case e => kernel_rfl); (case hv => walk_at "mem"))
  | ((with_reducible refine' e_outf ?hv ?_ ?a ?b ?c ?d ?e ?f); (case a => rfl); (case b => rfl); (case d => kernel_rfl); (case c => kernel_rfl); (case e => kernel_rfl); (case f => kernel_rfl); (case hv => walk_at "mem"))
  | ((with_reducible refine' e_cell ?hv ?_ ?a ?b ?c ?d ?e); (case b => rfl); (case d => kernel_rfl); (case a => rfl); (case c => kernel_rfl); (case e => kernel_rfl); (case hv => walk_at "mem"))
  | ((with_reducible refine' e_loc ?hv ?_ ?a ?b ?c ?d ?e); (case d => kernel_rfl); (case a => rfl); (case b => kernel_rfl); (case c => kernel_rfl); (case e => kernel_rfl); (case hv => walk_at "mem"))
  | ((with_reducible refine' e_glob ?hv ?_ ?a ?c ?d ?e); (case d => kernel_rfl); (case hv => rfl); (case a => rfl); (case c => kernel_rfl); (case e => kernel_rfl))
  | ((with_reducible refine' e_blt ?hv ?b ?_ ?n ?g ?bb ?c ?d ?e); (case d => kernel_rfl); (case hv => kernel_rfl); (case b => boot_by_name); (case n => decide +kernel); (case g => rfl); (case bb => rfl); (case c => kernel_rfl); (case e => kernel_rfl)))
local macro_rules | `(tactic| walk_at "s") => `(tactic| first
  | ((fail_if_success (fail_if_success (with_reducible show WP _ _ (eval _ _) _ _ _))); (first | ((fail_if_success (fail_if_success (with_reducible show WP _ _ (eval (Expr.Name _ _) _) _ _ _))); walk_at "name") | (with_reducible (first | refine e_named ?_ | refine e_bin ?_)) | ((with_reducible refine e_int ?_); intro _) | (with_reducible (first | refine e_none ?_ | refine e_bool ?_)) | ((with_reducible refine e_str ?_); intro _) | ((with_reducible refine e_bytes ?_); intro _) | ((with_reducible refine e_cmp ?_ ?m); (case m => with_unfolding_all rfl)) | (with_reducible (first | refine e_ifexp ?_ | refine e_un ?_ | refine e_sub ?_ | refine e_slice ?_ | refine e_tuple ?_ | refine e_list ?_)) | ((with_reducible refine' e_meth ?_ ?m); (case m => rfl)) | ((with_reducible refine e_attr ?_ ?m); (case m => with_unfolding_all rfl)) | ((with_reducible refine e_call ?_ ?m); (case m => rfl))))
  | (with_reducible (first | refine th_next ?_ | refine th_ret ?_ | refine th_brk ?_ | refine th_cont ?_ | refine bk_ret ?_ | refine bk_next ?_ | refine tu_next ?_ | refine tu_cont ?_ | refine tu_brk ?_ | refine tu_ret ?_ | refine if_tt ?_ | refine if_ff ?_))
  | ((fail_if_success (fail_if_success (with_reducible show WP _ _ (execs _ _) _ _ _))); (first | (with_reducible (first | refine x_cons ?_ | refine x_nil ?_))))
  | ((fail_if_success (fail_if_success (with_reducible show WP _ _ (exec _ _) _ _ _))); (first | (with_reducible (first | refine x_aug_attr ?_ | refine x_del ?_ | refine x_brk ?_ | refine x_cont ?_ | refine x_pass ?_)) | ((with_reducible refine x_assign ?_ ?sw); (case sw => rfl)) | ((with_reducible refine x_assignT ?_ ?sw ?sx ?sy); (case sw => rfl); (case sx => rfl); (case sy => rfl)) | ((with_reducible refine x_assignTT ?_ ?sx ?sy); (case sx => rfl); (case sy => rfl)) | (with_reducible (first | refine x_aug ?_ | refine x_if ?_ | refine x_ret ?_ | refine x_try ?_)) | ((with_reducible refine x_expr ?_ ?i ?m); (case i => rfl); (case m => rfl))))
  | ((fail_if_success (fail_if_success (with_reducible show WP _ _ (spliced _) _ _ _))); (first | ((with_reducible refine a_cons ?_ ?m); (case m => rfl)) | (with_reducible refine a_nil ?_)))
  | ((fail_if_success (fail_if_success (with_reducible show WP _ _ (callWith _ _ _ _ _) _ _ _))); (first | ((with_reducible refine w_blt ?_ ?a); (case a => rfl)) | (with_reducible refine w_blt0 ?_) | ((with_reducible refine w_ty ?_ ?a); (case a => rfl)) | (with_reducible refine w_ty0 ?_) | ((with_reducible refine w_fn ?k ?_ ?a); (case a => rfl); (case k => kernel_rfl)) | ((with_reducible refine w_fn0 ?k ?_); (case k => kernel_rfl))))
  | ((fail_if_success (fail_if_success (with_reducible show WP _ _ (binaryOp _ _ _) _ _ _))); (first | ((with_reducible refine i_add ?_); intro _) | ((with_reducible refine i_sub ?_); intro _) | ((with_reducible refine i_mul (.inl (by decide)) ?_); intro _) | ((with_reducible refine i_mul (.inr (by decide)) ?_); intro _) | ((with_reducible refine i_fdiv (by decide) (by decide) ?_); intro _) | ((with_reducible refine i_mod (by decide) ?_); intro _)))
  | ((fail_if_success (fail_if_success (with_reducible show WP _ _ (isTrue _ _ _) _ _ _))); (first | ((with_reducible refine t_cmp ?_ ?m); (case m => with_unfolding_all rfl)) | ((with_reducible refine t_chain ?_ ?m); (case m => with_unfolding_all rfl)) | (with_reducible (first | refine t_not ?_ | refine t_or ?_ | refine t_or0 ?_)) | ((with_reducible refine t_val ?_ ?m); (case m => rfl))))
  | ((fail_if_success (fail_if_success (with_reducible show WP _ _ (assign _ _ _) _ _ _))); (first | (with_reducible (first | refine a_name ?_ | refine a_attr ?_ | refine a_sub ?_))))
  | ((fail_if_success (fail_if_success (with_reducible show WP _ _ (compareOp _ _ _) _ _ _))); (first | (with_reducible (first | refine i_lt ?_ | refine i_gt ?_ | refine i_le ?_ | refine i_ge ?_ | refine i_eq ?_ | refine i_ne ?_))))
  | ((fail_if_success (fail_if_success (with_reducible show WP _ _ (inplaceOp _ _ _) _ _ _))); (first | ((with_reducible refine i_iadd ?_); intro _) | ((with_reducible refine i_isub ?_); intro _) | ((with_reducible refine i_ifdiv (by decide) (by decide) ?_); intro _)))
  | (with_reducible (first | refine t_none ?_ | refine t_one ?_))
  | ((with_reducible refine' l_loc ?hv ?_ ?a ?b ?c ?d); (case d => kernel_rfl); (case a => rfl); (case b => kernel_rfl); (case c => kernel_rfl); (case hv => walk_at "mem"))
  | ((with_reducible refine' s_cell ?r ?_ ?a ?b ?c ?d ?e); (case b => rfl); (case d => kernel_rfl); (case a => rfl); (case c => kernel_rfl); (case e => (simp only [List.map_cons, List.map_nil]; decide +kernel)); (case r => walk_at "pv"))
  | ((with_reducible refine' s_loc ?r ?_ ?a ?b ?c ?d); (case d => kernel_rfl); (case a => rfl); (case b => kernel_rfl); (case c => kernel_rfl); (case r => walk_at "pv"))
  | (with_reducible (first | refine v_none ?_ | refine v_some ?_))
  | ((with_reducible refine i_neg ?_); intro _)
  | (with_reducible (first | refine tr_bool ?_ | refine tr_int ?_ | refine tr_none ?_)))
local macro_rules | `(tactic| walk_at "n") => `(tactic| ((fail_if_success (with_reducible show WP _ _ (execs (Stmt.If _ _ _ _ :: _) _) _ _ _)); walk_at "s"))
/-! # part F1 -/
section
open PySem PySem.W PyProof.Rows
noncomputable abbrev aT : Addr := 28
noncomputable def Tf (j bias : Int) : Int := if 36 * (j + 1) - bias < 1 then 1 else if 36 * (j + 1) - bias > 26 then 26 else 36 * (j + 1) - bias
theorem T_ok {P : Pk} {A : Around} {kn : Kn} {frs : List Fm} {Q : Value → Kn → List Fm → Prop} (hA : Rm 1 A) {j bias : Int} {tj tb : Tok} (h : ∀ t, Q (.int (Tf j bias) t) kn frs) :
    WP P A (call (.ref aT) [.int j tj, .int bias tb]) Q kn frs := by
  refine c_pos [("j", .int j tj), ("bias", .int bias tb)] (fun _ => []) hA (by rfl) (by kernel_rfl) (by kernel_rfl) (by kernel_rfl) (fun _ => by kernel_rfl) (fun L => ?_) (by kernel_rfl) (by kernel_rfl) (by kernel_rfl)
  refine x_cons ?_
  repeat (walk_at "s")
  refine if_dec (fun h1 => ?_) (fun h1 => ?_)
  · repeat (walk_at "s")
    simp only [Tf, h1, if_true] at h; exact h _
  · repeat (walk_at "s")
    refine if_dec (fun h2 => ?_) (fun h2 => ?_)
    · repeat (walk_at "s")
      simp only [Tf, h1, h2, if_true, if_false] at h; exact h _
    · repeat (walk_at "s")
      simp only [Tf, h1, h2, if_false] at h; exact h _
end
/-! # part F2 -/
section
open PySem PySem.W PyProof.Rows
/-! ## adapt -/
noncomputable def adL (d b : Int) : Int × Int := if d > 455 then adL (d / 35) (b + 36) else (d, b)
termination_by d.toNat
decreasing_by (first | lia | omega)
theorem adL_eq (d b : Int) : adL d b = if d > 455 then adL (d / 35) (b + 36) else (d, b) := by rw [adL]
theorem adL_nonneg (d b : Int) (hd : 0 ≤ d) : 0 ≤ (adL d b).1 ∧ (adL d b).1 ≤ 455 := by
  fun_induction adL d b with
  | case1 d b h ih => exact ih (by (first | lia | omega))
  | case2 d b h => exact ⟨hd, by (first | lia | omega)⟩
noncomputable def adF (d : Int) (first : Bool) (n : Int) : Int :=
  let d1 := if first then d / 700 else d / 2
  let r := adL (d1 + d1 / n) 0
  r.2 + 36 * r.1 / (r.1 + 38)
theorem adapt_ok {P : Pk} {A : Around} {kn : Kn} {frs : List Fm} {Q : Value → Kn → List Fm → Prop} (hA : Rm 1 A) {d n : Int} {first : Bool} {td tn : Tok} (hd : 0 ≤ d) (hn : 0 < n) (hn' : n < 1000000) (h : ∀ t, Q (.int (adF d first n) t) kn frs) :
    WP P A (call (.ref 42) [.int d td, .bool first, .int n tn]) Q kn frs := by
  refine c_pos [("delta", .int d td), ("first", .bool first), ("numchars", .int n tn)] (fun _ => []) hA (by rfl) (by kernel_rfl) (by kernel_rfl) (by kernel_rfl) (fun _ => by kernel_rfl) (fun L => ?_) (by kernel_rfl) (by kernel_rfl) (by kernel_rfl)
  refine x_cons (WP.mono (Q := fun fl kn' frs' => An3 (fl = .next) (kn = kn') (∃ t, frs' = ⟨L, [], [("delta", .int (if first then d / 700 else d / 2) t), ("first", .bool first), ("numchars", .int n tn)]⟩ :: frs)) ?_ ?_)
  · walk_at "s"
    refine t_val ?_ (by rfl)
    repeat (walk_at "s")
    cases first
    · repeat (walk_at "s")
      exact ⟨rfl, rfl, _, rfl⟩
    · repeat (walk_at "s")
      exact ⟨rfl, rfl, _, rfl⟩
  rintro _ _ _ ⟨rfl, rfl, t0, rfl⟩
  unfold adF at h
  have hd1 : 0 ≤ (if first then d / 700 else d / 2) := by split <;> (first | lia | omega)
  generalize (if first then d / 700 else d / 2) = d1 at *
  repeat (walk_at "s")
  refine i_fdiv hn (by (first | lia | omega)) ?_; intro _
  repeat (walk_at "s")
  have hd2 : 0 ≤ d1 + d1 / n := Int.add_nonneg hd1 (Int.ediv_nonneg hd1 (by (first | lia | omega)))
  dsimp only at h
  generalize hg : d1 + d1 / n = d2 at *
  refine x_while (fun m kn' frs' => An2 (kn = kn') (Ex4 fun dl dv t1 t2 => An4 (m = dl.toNat) (frs' = ⟨L, [], [("delta", .int dl t1), ("first", .bool first), ("numchars", .int n tn), ("divisions", .int dv t2)]⟩ :: frs) (0 ≤ dl) (adL dl dv = adL d2 0))) d2.toNat ⟨rfl, d2, 0, _, _, rfl, rfl, hd2, rfl⟩ ?_
  rintro m kn' frs' Ka hKa ⟨rfl, dl, dv, t1, t2, rfl, rfl, h0, he⟩
  repeat (walk_at "s")
  refine if_dec (fun h1 => ?_) (fun h1 => ?_)
  · repeat (walk_at "s")
    exact hKa (dl / 35).toNat _ _ (by (first | lia | omega)) (.of ⟨rfl, dl / 35, dv + 36, _, _, rfl, rfl, by (first | lia | omega), by rw [← he, adL_eq dl, if_pos h1]⟩)
  · rw [adL_eq, if_neg h1] at he
    repeat (walk_at "s")
    refine i_fdiv (by (first | lia | omega)) (by (first | lia | omega)) ?_; intro _
    repeat (walk_at "s")
    rw [← he] at h
    exact h _
end
/-! # part F3 -/
section
open PySem PySem.W PyProof.Rows
theorem Tf_bd (j b : Int) : 1 ≤ Tf j b ∧ Tf j b ≤ 26 := by unfold Tf; split; (first | lia | omega); split <;> (first | lia | omega)
/-- the figures of a generalized integer -/
noncomputable def ggL (b : Int) (j N : Int) : List Int := if h : N < Tf j b then [N] else (Tf j b + (N - Tf j b) % (36 - Tf j b)) :: ggL b (j + 1) ((N - Tf j b) / (36 - Tf j b))
termination_by N.toNat
decreasing_by
  have hb := Tf_bd j b
  generalize Tf j b = t at *
  have h1 : (N - t) / (36 - t) < N := by
    rw [Int.ediv_lt_iff_lt_mul (by (first | lia | omega))]
    have : N * 10 ≤ N * (36 - t) := Int.mul_le_mul_of_nonneg_left (by (first | lia | omega)) (by (first | lia | omega))
    (first | lia | omega)
  (first | lia | omega)
theorem ggL_eq (b j N : Int) : ggL b j N = if N < Tf j b then [N] else (Tf j b + (N - Tf j b) % (36 - Tf j b)) :: ggL b (j + 1) ((N - Tf j b) / (36 - Tf j b)) := by
  rw [ggL]; split <;> rfl
theorem ggL_len (b : Int) : ∀ (n : Nat) (j N : Int), 0 ≤ N → N < 2 ^ n → ((ggL b j N).length : Int) ≤ n + 1
  | 0, j, N, h0, h1 => by
    have hN : N = 0 := by (first | lia | omega)
    have hb := Tf_bd j b
    rw [ggL_eq, if_pos (by (first | lia | omega))]; simp
  | n + 1, j, N, h0, h1 => by
    have hb := Tf_bd j b
    rw [ggL_eq]
    split
    · simp; (first | lia | omega)
    · generalize Tf j b = t at *
      have h2 : (N - t) / (36 - t) < 2 ^ n := by
        rw [Int.ediv_lt_iff_lt_mul (by (first | lia | omega))]
        have : 2 ^ n * 10 ≤ (2 : Int) ^ n * (36 - t) := Int.mul_le_mul_of_nonneg_left (by (first | lia | omega)) (Int.pow_nonneg (by decide))
        rw [Int.pow_succ] at h1
        (first | lia | omega)
      have := ggL_len b n (j + 1) ((N - t) / (36 - t)) (Int.ediv_nonneg (by (first | lia | omega)) (by (first | lia | omega))) h2
      simp; (first | lia | omega)
theorem ggi_ok {P : Pk} {A : Around} {kn : Kn} {frs : List Fm} {Q : Value → Kn → List Fm → Prop} (hA : Rm 2 A) {N bias : Int} {tn tb : Tok} (h0 : 0 ≤ N) (hN : N < 2 ^ 64)
    (h : ∀ t, Q (.bytes ((ggL bias 0 N).map dg).toArray t) kn frs) : WP P A (call (.ref 35) [.int N tn, .int bias tb]) Q kn frs := by
  refine WP.drop ?_
  refine c_pos [("N", .int N tn), ("bias", .int bias tb)] (fun _ => []) hA (by rfl) (by kernel_rfl) (by kernel_rfl) (by kernel_rfl) (fun _ => by kernel_rfl) (fun L => ?_) (by kernel_rfl) (by kernel_rfl) (by kernel_rfl)
  refine x_cons ?_
  repeat (walk_at "s")
  refine k_ba0 fun R hR => ?_
  repeat (walk_at "s")
  refine x_while (fun m kn' frs' => Ex5 fun j N' b t1 t2 => An5 (m = N'.toNat) (kn.set R (bo b) = kn') (frs' = ⟨L, [], [("N", .int N' t1), ("bias", .int bias tb), ("result", .ref R), ("j", .int j t2)]⟩ :: frs) (0 ≤ N') ((b : List UInt8) ++ (ggL bias j N').map dg = (ggL bias 0 N).map dg)) N.toNat ⟨0, N, [], _, _, rfl, rfl, rfl, h0, rfl⟩ ?_
  rintro m kn' frs' Ka hKa ⟨j, N', b, t1, t2, rfl, rfl, rfl, h0', hb⟩
  repeat (walk_at "s")
  refine if_tt ?_
  repeat (walk_at "s")
  refine T_ok hA.deep ?_
  intro t3
  have hT := Tf_bd j bias
  rw [ggL_eq] at hb
  generalize Tf j bias = tt at *
  repeat (walk_at "s")
  have hlen : (ggL bias 0 N).length ≤ 65 := by have := ggL_len bias 64 0 N h0 (by exact_mod_cast hN); (first | lia | omega)
  have hb2 := congrArg List.length hb
  rw [List.length_append, List.length_map, List.length_map] at hb2
  have hsl := sizeLine_eq
  refine if_dec (fun h1 => ?_) (fun h1 => ?_)
  · rw [if_pos h1] at hb hb2
    repeat (walk_at "s")
    refine m_ba_append Kn.set_self ?_
    repeat (walk_at "s")
    refine k_bsub (l := digL) (by decide) (by (first | lia | omega)) (by show _ < (36 : Int); (first | lia | omega)) fun k => ?_
    repeat (walk_at "s")
    rw [digL_get _ h0' (by (first | lia | omega))]
    refine k_ba_append Kn.set_self (by (first | lia | omega)) (by have := (dg N').toNat_lt; (first | lia | omega)) (by (first | lia | omega)) ?_
    rw [Kn.set_set, u8_back]
    repeat (walk_at "s")
    refine k_bytes_ba Kn.set_self (by simp; (first | lia | omega)) fun t4 => ?_
    repeat (walk_at "s")
    rw [← hb] at h
    exact ⟨kn, Kn.le_set hR fun _ _ e => e, h _⟩
  · rw [if_neg h1] at hb hb2
    have h36 : 0 < 36 - tt := by (first | lia | omega)
    have hmod := Int.emod_nonneg (N' - tt) (show (36 - tt) ≠ 0 by (first | lia | omega))
    have hmod' := Int.emod_lt_of_pos (N' - tt) h36
    repeat (walk_at "s")
    refine m_ba_append Kn.set_self ?_
    repeat (walk_at "s")
    refine i_mod (by (first | lia | omega)) ?_; intro _
    repeat (walk_at "s")
    refine k_bsub (l := digL) (by decide) (by (first | lia | omega)) (by show _ < (36 : Int); (first | lia | omega)) fun k => ?_
    repeat (walk_at "s")
    rw [digL_get _ (by (first | lia | omega)) (by (first | lia | omega))]
    refine k_ba_append Kn.set_self (by (first | lia | omega)) (by have := (dg (tt + (N' - tt) % (36 - tt))).toNat_lt; (first | lia | omega)) (by simp at hb2; (first | lia | omega)) ?_
    rw [Kn.set_set, u8_back]
    repeat (walk_at "s")
    refine i_fdiv (by (first | lia | omega)) (by (first | lia | omega)) ?_; intro _
    repeat (walk_at "s")
    refine hKa _ _ _ ?_ ⟨_, _, fun _ _ e => e, .top (vs := [("N", .int ((N' - tt) / (36 - tt)) _), ("bias", .int bias tb), ("result", .ref R), ("j", .int (j + 1) _)]) (by walk_at "sub"), j + 1, _, _, _, _, rfl, rfl, rfl, Int.ediv_nonneg (by (first | lia | omega)) (by (first | lia | omega)), by rw [← hb]; simp⟩
    have h1 : (N' - tt) / (36 - tt) < N' := by
      rw [Int.ediv_lt_iff_lt_mul (by (first | lia | omega))]
      have : N' * 10 ≤ N' * (36 - tt) := Int.mul_le_mul_of_nonneg_left (by (first | lia | omega)) (by (first | lia | omega))
      (first | lia | omega)
    (first | lia | omega)
end
/-! # part M1 -/
section
open PySem PySem.W PyProof.Rows
/-! ## the law's own figures are those of ggL -/
theorem Tf_mm (j b : Int) : max 1 (min 26 (36 * (j + 1) - b)) = Tf j b := by unfold Tf; split <;> (try split) <;> (first | lia | omega)
noncomputable def wor (b : Int) : Nat → Int
  | 0 => 1
  | k + 1 => wor b k * (36 - Tf k b)
noncomputable def lwr (b : Int) : Nat → Int
  | 0 => 0
  | k + 1 => lwr b k + Tf k b * wor b k
theorem wor_pos (b : Int) : ∀ k, 1 ≤ wor b k
  | 0 => Int.le_refl _
  | k + 1 => by
    have h := Tf_bd k b
    have ih := wor_pos b k
    have : 1 * (36 - Tf k b) ≤ wor b k * (36 - Tf k b) := Int.mul_le_mul_of_nonneg_right ih (by (first | lia | omega))
    show 1 ≤ wor b k * (36 - Tf k b)
    (first | lia | omega)
theorem lwr_ge (b : Int) : ∀ (k : Nat), (k : Int) ≤ lwr b k
  | 0 => Int.le_refl _
  | k + 1 => by
    have h := Tf_bd k b
    have hw := wor_pos b k
    have ih := lwr_ge b k
    have : 1 * 1 ≤ Tf k b * wor b k := Int.mul_le_mul h.1 hw (by (first | lia | omega)) (by (first | lia | omega))
    show ((k + 1 : Nat) : Int) ≤ lwr b k + Tf k b * wor b k
    (first | lia | omega)
theorem lwr_mul (b : Int) (k : Nat) : ∀ d, ∃ c, lwr b (k + d) = lwr b k + wor b k * c
  | 0 => ⟨0, by simp⟩
  | d + 1 => by
    obtain ⟨c, hc⟩ := lwr_mul b k d
    obtain ⟨e, he⟩ : ∃ e, wor b (k + d) = wor b k * e := by
      clear hc
      induction d with
      | zero => exact ⟨1, by simp⟩
      | succ d ih =>
        obtain ⟨e, he⟩ := ih
        exact ⟨e * (36 - Tf ((k + d : Nat) : Int) b), by show wor b (k + d) * _ = _; rw [he, Int.mul_assoc]; rfl⟩
    refine ⟨c + Tf ((k + d : Nat) : Int) b * e, ?_⟩
    show lwr b (k + d) + Tf ((k + d : Nat) : Int) b * wor b (k + d) = _
    rw [hc, he, Int.mul_add, ← Int.mul_assoc, ← Int.mul_assoc, Int.mul_comm (Tf _ _) (wor b k), Int.add_assoc]
theorem ltr_eq (b gap : Int) (K : Nat) (hlo : ∀ i < K, Tf i b * wor b i ≤ gap - lwr b i) (hhi : gap - lwr b K < Tf K b * wor b K) : ∀ (d k : Nat), k + d = K →
    ggL b k ((gap - lwr b k) / wor b k) = (List.range' k d).map (fun (i : Nat) => Tf i b + (gap - lwr b K) / wor b i % (36 - Tf i b)) ++ [(gap - lwr b K) / wor b K]
  | 0, k, hk => by
    have : k = K := by (first | lia | omega)
    subst this
    have hw := wor_pos b k
    rw [ggL_eq, if_pos]
    · rfl
    · exact (Int.ediv_lt_iff_lt_mul (by (first | lia | omega))).mpr hhi
  | d + 1, k, hk => by
    have hw := wor_pos b k
    have ht := Tf_bd k b
    have ih := ltr_eq b gap K hlo hhi d (k + 1) (by (first | lia | omega))
    have hge : Tf k b ≤ (gap - lwr b k) / wor b k := (Int.le_ediv_iff_mul_le (by (first | lia | omega))).mpr (hlo k (by (first | lia | omega)))
    rw [ggL_eq, if_neg (by (first | lia | omega)), List.range'_succ, List.map_cons, List.cons_append]
    have h1 : (gap - lwr b (k + 1)) / wor b k = (gap - lwr b k) / wor b k - Tf k b := by
      show (gap - (lwr b k + Tf k b * wor b k)) / wor b k = _
      rw [show gap - (lwr b k + Tf k b * wor b k) = (gap - lwr b k) + (-Tf k b) * wor b k by rw [Int.neg_mul]; (first | lia | omega), Int.add_mul_ediv_right _ _ (by (first | lia | omega))]; (first | lia | omega)
    have h2 : ((gap - lwr b k) / wor b k - Tf k b) / (36 - Tf k b) = (gap - lwr b (k + 1)) / wor b (k + 1) := by
      rw [← h1]
      show _ = _ / (wor b k * (36 - Tf k b))
      rw [Int.ediv_ediv_of_nonneg (by (first | lia | omega))]
    obtain ⟨c, hc⟩ := lwr_mul b (k + 1) d
    rw [show k + 1 + d = K by (first | lia | omega)] at hc
    have h3 : (gap - lwr b K) / wor b k % (36 - Tf k b) = ((gap - lwr b k) / wor b k - Tf k b) % (36 - Tf k b) := by
      rw [hc, ← h1, show wor b (k + 1) = wor b k * (36 - Tf k b) from rfl]
      rw [show gap - (lwr b (k + 1) + wor b k * (36 - Tf k b) * c) = gap - lwr b (k + 1) + (-((36 - Tf k b) * c)) * wor b k by rw [Int.neg_mul, Int.mul_comm _ (wor b k), ← Int.mul_assoc]; (first | lia | omega),
        Int.add_mul_ediv_right _ _ (by (first | lia | omega)), ← Int.mul_neg, Int.add_mul_emod_self_left]
    rw [h3, h2]
    have := ih
    rw [show (((k + 1 : Nat) : Int)) = (k : Int) + 1 by (first | lia | omega)] at this
    rw [this]
theorem ltr0 (b gap : Int) (K : Nat) (hlo : ∀ i < K, Tf i b * wor b i ≤ gap - lwr b i) (hhi : gap - lwr b K < Tf K b * wor b K) :
    (List.range K).map (fun (i : Nat) => Tf i b + (gap - lwr b K) / wor b i % (36 - Tf i b)) ++ [(gap - lwr b K) / wor b K] = ggL b 0 gap := by
  have := ltr_eq b gap K hlo hhi K 0 (by (first | lia | omega))
  rw [show wor b 0 = 1 from rfl, show lwr b 0 = 0 from rfl, Int.ediv_one, Int.sub_zero] at this
  rw [List.range_eq_range', ← this]; rfl
/-- the law's bias -/
theorem bias_eq (d : Int) (h : 0 ≤ d) : 36 - (d + 1405) / (d + 38) = 36 * d / (d + 38) := by
  have h1 : 36 * d = (d + 38) * 36 + (-1368) := by (first | lia | omega)
  rw [h1, Int.add_comm ((d + 38) * 36), Int.mul_comm, Int.add_mul_ediv_right _ _ (by (first | lia | omega))]
  have h2 : (-1368) / (d + 38) = -((d + 1405) / (d + 38)) := by
    have a := Int.emod_add_mul_ediv (d + 1405) (d + 38)
    have b1 := Int.emod_nonneg (d + 1405) (show d + 38 ≠ 0 by (first | lia | omega))
    have b2 := Int.emod_lt_of_pos (d + 1405) (show 0 < d + 38 by (first | lia | omega))
    generalize (d + 1405) / (d + 38) = q at *
    rw [show (-1368 : Int) = (d + 37 - (d + 1405) % (d + 38)) + (-q) * (d + 38) by rw [Int.neg_mul, Int.mul_comm q]; (first | lia | omega), Int.add_mul_ediv_right _ _ (by (first | lia | omega)), Int.ediv_eq_zero_of_lt (by (first | lia | omega)) (by (first | lia | omega))]
    (first | lia | omega)
  (first | lia | omega)
end
/-! # part F4 -/
section
open PySem PySem.W PyProof.Rows
theorem Kw.set {P : Pk} {kn : Kn} {l R : Addr} {o x : Obj} (h : Kw P kn l o) (hR : kn R = none) : Kw P (kn.set R x) l o := by
  rcases h with h | h
  · exact .inl (by rw [Kn.set_ne fun e => by rw [e, hR] at h; cases h]; exact h)
  · exact .inr h
theorem Kw.reset {P : Pk} {kn : Kn} {l R : Addr} {o x y : Obj} (h : Kw P (kn.set R x) l o) (hne : l ≠ R) : Kw P (kn.set R y) l o := by
  rcases h with h | h
  · exact .inl (by rw [Kn.set_ne hne] at h ⊢; exact h)
  · exact .inr h
theorem kn_a {kn : Kn} {R it e : Addr} {x x' o y : Obj} (h1 : R ≠ it) (h2 : R ≠ e) : (((kn.set R x).set it o).set e y).set R x' = ((kn.set R x').set it o).set e y := funext fun a => by
  unfold Kn.set
  by_cases a1 : a = R
  · subst a1; simp [h1, h2]
  · simp [a1]
theorem kn_b {kn : Kn} {it e : Addr} {o o' y y' : Obj} (h : e ≠ it) : ((((kn.set it o).set e y).set it o').set e y') = (kn.set it o').set e y' := funext fun a => by
  unfold Kn.set
  by_cases a1 : a = e
  · simp [a1]
  · by_cases a2 : a = it
    · subst a2; simp [a1]
    · simp [a1, a2]
/-- the figures of a list of numbers -/
noncomputable def giF (n : Int) : List Int → Nat → Int → List Int
  | [], _, _ => []
  | d :: r, i, bias => ggL bias 0 d ++ giF n r (i + 1) (adF d (i == 0) (n + i + 1))
theorem giF_len (n : Int) : ∀ (ds : List Int) (i : Nat) (b : Int), (∀ d ∈ ds, 0 ≤ d ∧ d < 2 ^ 64) → (giF n ds i b).length ≤ 65 * ds.length
  | [], _, _, _ => Nat.le_refl _
  | d :: r, i, b, h => by
    have := ggL_len b 64 0 d (h d (.head _)).1 (by exact_mod_cast (h d (.head _)).2)
    have h2 := giF_len n r (i + 1) (adF d (i == 0) (n + i + 1)) fun x hx => h x (.tail _ hx)
    rw [giF, List.length_append, List.length_cons]; (first | lia | omega)
theorem beq_nat (i : Nat) : ((i : Int) == 0) = (i == 0) := by cases i <;> simp; (first | lia | omega)
theorem gi_ok {P : Pk} {A : Around} {kn : Kn} {frs : List Fm} {Q : Value → Kn → List Fm → Prop} (hA : Rm 3 A) {n : Int} {tn : Tok} {l : Addr} {items : List Value} {ds : List Int} {ep : Nat} (hn0 : 0 ≤ n) (hn1 : n ≤ 1000) (hl : Kw P kn l (lo items ep)) (hi : IntsAre items ds)
    (hd : ∀ d ∈ ds, 0 ≤ d ∧ d < 2 ^ 64) (hlen : ds.length ≤ 1000) (h : ∀ t, Q (.bytes ((giF n ds 0 72).map dg).toArray t) kn frs) : WP P A (call (.ref 49) [.int n tn, .ref l]) Q kn frs := by
  refine WP.drop ?_
  refine c_pos [("baselen", .int n tn), ("deltas", .ref l)] (fun _ => []) hA (by rfl) (by kernel_rfl) (by kernel_rfl) (by kernel_rfl) (fun _ => by kernel_rfl) (fun L => ?_) (by kernel_rfl) (by kernel_rfl) (by kernel_rfl)
  refine x_cons ?_
  repeat (walk_at "s")
  refine k_ba0 fun R hR => ?_
  repeat (walk_at "s")
  rename_i t72
  refine x_for_enum (hA.deep (env := _)).handled ?_
  repeat (walk_at "s")
  refine k_enum (hl.set hR) fun e it o hei he hit hli => ?_
  have hRe : R ≠ e := fun q => by rw [← q, Kn.set_self] at he; cases he
  have hRi : R ≠ it := fun q => by rw [← q, Kn.set_self] at hit; cases hit
  have hke : kn e = none := by rw [Kn.set_ne (Ne.symm hRe)] at he; exact he
  have hki : kn it = none := by rw [Kn.set_ne (Ne.symm hRi)] at hit; exact hit
  have hRl : ∀ ep, Kw P kn l (lo items ep) → ∀ b o y, ∃ ep, Kw P (((kn.set R (bo b)).set it o).set e y) l (lo items ep) := fun ep hl b o y =>
    ⟨ep, Kw.set (Kw.set (hl.set hR) (by rw [Kn.set_ne (Ne.symm hRi)]; exact hki)) (by rw [Kn.set_ne hei, Kn.set_ne (Ne.symm hRe)]; exact hke)⟩
  refine ⟨e, it, l, items, fun i kn' frs' => Ex5 fun b o bias t1 old => An4 (((kn.set R (bo b)).set it o).set e (eo it i old) = kn') (LI o l i) (frs' = ⟨L, [], [("baselen", .int n tn), ("deltas", .ref l), ("result", .ref R), ("bias", .int bias t1)]⟩ :: frs) ((b : List UInt8) ++ (giF n (ds.drop i) i bias).map dg = (giF n ds 0 72).map dg), rfl, hei, ⟨[], o, 72, t72, .none, rfl, hli, rfl, rfl⟩, ?_, ?_, ?_⟩
  · rintro i _ _ ⟨b, o, bias, t1, old, rfl, hli, rfl, hb⟩
    exact ⟨⟨old, Kn.set_self⟩, ⟨o, by rw [Kn.set_ne (Ne.symm hei), Kn.set_self], hli⟩, hRl ep hl b o _⟩
  · rintro i v k o' _ _ Ka hv hKa ⟨b, o, bias, t1, old, rfl, hli, rfl, hb⟩ hli'
    rw [kn_b hei]
    obtain ⟨d, td, rfl, hdi⟩ := ia_at hi i v hv
    have hdd := hd d (List.mem_of_getElem? hdi)
    have hilt : i < ds.length := (List.getElem?_eq_some_iff.mp hdi).1
    have hdrop : ds.drop i = d :: ds.drop (i + 1) := by rw [List.drop_eq_getElem_cons hilt]; congr 1; exact (List.getElem?_eq_some_iff.mp hdi).2
    rw [hdrop, giF, List.map_append] at hb
    have hbl := congrArg List.length hb
    have hgl := giF_len n ds 0 72 hd
    simp only [List.length_append, List.length_map] at hbl
    have hsl := sizeLine_eq
    iterate 2 (walk_at "s")
    repeat (walk_at "s")
    refine ggi_ok (hA.deep.le (by decide)) hdd.1 hdd.2 ?_
    intro t2
    repeat (walk_at "s")
    refine m_ba_extend (b := b) (by rw [Kn.set_ne hRe, Kn.set_ne hRi, Kn.set_self]) ?_
    repeat (walk_at "s")
    refine k_ba_extend (b := b) (by rw [Kn.set_ne hRe, Kn.set_ne hRi, Kn.set_self]) (by simp only [List.length_map]; (first | lia | omega)) ?_
    rw [kn_a hRi hRe]
    repeat (walk_at "s")
    refine adapt_ok (hA.deep.le (by decide)) hdd.1 (by (first | lia | omega)) (by (first | lia | omega)) ?_
    intro t3
    rw [beq_nat]
    repeat (walk_at "s")
    refine hKa _ _ ⟨_, _, fun _ _ e => e, .top (vs := [("baselen", .int n tn), ("deltas", .ref l), ("result", .ref R), ("bias", .int (adF d (i == 0) (n + i + 1)) _)]) (by walk_at "sub"), _, _, _, _, _, rfl, hli', rfl, ?_⟩
    rw [← hb]; simp
  · rintro _ _ ⟨b, o, bias, t1, old, rfl, hli, rfl, hb⟩
    have hb' : b = (giF n ds 0 72).map dg := by
      rw [← hb, hi.length, List.drop_length]; simp [giF]
    have hgl := giF_len n ds 0 72 hd
    have hsl := sizeLine_eq
    subst hb'
    repeat (walk_at "s")
    refine k_bytes_ba (b := (giF n ds 0 72).map dg) (by rw [if_neg hRi, Kn.set_ne hRe, Kn.set_ne hRi, Kn.set_self]) (by simp; (first | lia | omega)) fun t4 => ?_
    repeat (walk_at "s")
    refine ⟨kn, fun a x hx => ?_, h _⟩
    have h1 : a ≠ it := fun q => by rw [q, hki] at hx; cases hx
    have h2 : a ≠ e := fun q => by rw [q, hke] at hx; cases hx
    have h3 : a ≠ R := fun q => by rw [q, hR] at hx; cases hx
    show (if a = it then none else _) = some x
    rw [if_neg h1, Kn.set_ne h2, Kn.set_ne h1, Kn.set_ne h3]; exact hx
end
/-! # part F5 -/
section
open PySem PySem.W PyProof.Rows
/-- the figure's capital -/
noncomputable def up (d : Int) : UInt8 := (if d < 26 then 65 + d else 22 + d).toNat.toUInt8
theorem up_nat (d : Int) (h0 : 0 ≤ d) (h1 : d < 36) : ((up d).toNat : Int) = if d < 26 then 65 + d else 22 + d := by
  have h : ∀ n < 36, ((up ((n : Nat) : Int)).toNat : Int) = if (n : Int) < 26 then 65 + (n : Int) else 22 + n := by decide +kernel
  have := h d.toNat (by (first | lia | omega))
  rwa [Int.toNat_of_nonneg h0] at this
theorem drop_head {α : Type} {l r : List α} {p : Nat} {a z : α} (h : l.drop p = a :: r) : p < l.length ∧ l.getD p z = a ∧ l.drop (p + 1) = r := by
  have hp : p < l.length := by
    rcases Nat.lt_or_ge p l.length with q | q
    · exact q
    · rw [List.drop_eq_nil_of_le q] at h; cases h
  rw [List.drop_eq_getElem_cons hp] at h
  injection h with h1 h2
  exact ⟨hp, by rw [List.getD_eq_getElem?_getD, List.getElem?_eq_getElem hp]; exact h1, h2⟩
theorem dgn_ok {P : Pk} {A : Around} {kn : Kn} {frs : List Fm} {Q : Value → Kn → List Fm → Prop} (hA : Rm 2 A) {ext rest : List UInt8} {p : Nat} {bias N : Int} {te tp tb : Tok} {er : Value} (hN : 0 ≤ N) (hext : ext.length ≤ 1099511627776)
    (hd : ext.drop p = (ggL bias 0 N).map up ++ rest) (h : ∀ a t1 t2, kn a = none → Q (.ref a) (kn.set a (to [.int ((p + (ggL bias 0 N).length : Nat) : Int) t1, .int N t2])) frs) :
    WP P A (call (.ref 56) [.bytes ext.toArray te, .int p tp, .int bias tb, er]) Q kn frs := by
  refine c_pos [("extended", .bytes ext.toArray te), ("extpos", .int p tp), ("bias", .int bias tb), ("errors", er)] (fun _ => []) hA (by rfl) (by kernel_rfl) (by kernel_rfl) (by kernel_rfl) (fun _ => by kernel_rfl) (fun L => ?_) (by kernel_rfl) (by kernel_rfl) (by kernel_rfl)
  refine x_cons ?_
  repeat (walk_at "s")
  refine x_while (fun m kn' frs' => An2 (kn = kn') (Ex9 fun (p' : Nat) (j N' w r : Int) (t1 t2 t3 t4 : Tok) => An6 (m = N'.toNat) (frs' = ⟨L, [], [("extended", .bytes ext.toArray te), ("extpos", .int p' t1), ("bias", .int bias tb), ("errors", er), ("result", .int r t2), ("w", .int w t3), ("j", .int j t4)]⟩ :: frs) (0 ≤ N') (r + w * N' = N) (ext.drop p' = (ggL bias j N').map up ++ rest) (p' + (ggL bias j N').length = p + (ggL bias 0 N).length))) N.toNat ⟨rfl, p, 0, N, 1, 0, _, _, _, _, rfl, rfl, hN, by (first | lia | omega), hd, rfl⟩ ?_
  rintro m _ _ Ka hKa ⟨rfl, p', j, N', w, r, t1, t2, t3, t4, rfl, rfl, h0, hr, hd', hl⟩
  repeat (walk_at "s")
  refine if_tt ?_
  have hT := Tf_bd j bias
  obtain ⟨f, fr, hf, hf0, hf36, hgo⟩ : ∃ f fr, ggL bias j N' = f :: fr ∧ 0 ≤ f ∧ f < 36 ∧ ((f < Tf j bias ∧ f = N' ∧ fr = []) ∨ (¬ f < Tf j bias ∧ fr = ggL bias (j + 1) ((N' - Tf j bias) / (36 - Tf j bias)) ∧ N' = f + (36 - Tf j bias) * ((N' - Tf j bias) / (36 - Tf j bias)) ∧ ¬ N' < Tf j bias)) := by
    rw [ggL_eq]
    generalize Tf j bias = tt at *
    have hmod := Int.emod_nonneg (N' - tt) (show (36 - tt) ≠ 0 by (first | lia | omega))
    have hmod' := Int.emod_lt_of_pos (N' - tt) (show 0 < 36 - tt by (first | lia | omega))
    split
    · exact ⟨_, _, rfl, h0, by (first | lia | omega), .inl ⟨by (first | lia | omega), rfl, rfl⟩⟩
    · refine ⟨_, _, rfl, by (first | lia | omega), by (first | lia | omega), .inr ⟨by (first | lia | omega), rfl, ?_, by (first | lia | omega)⟩⟩
      have := Int.emod_add_mul_ediv (N' - tt) (36 - tt)
      (first | lia | omega)
  rw [hf] at hd' hl
  obtain ⟨hp, hget, hdrop⟩ := drop_head (z := 0) hd'
  repeat (walk_at "s")
  refine k_bsub hext (by (first | lia | omega)) (by (first | lia | omega)) fun k => ?_
  have hch : (((ext.getD ((p' : Int)).toNat 0).toNat : Nat) : Int) = if f < 26 then 65 + f else 22 + f := by
    rw [Int.toNat_natCast, hget, up_nat f hf0 hf36]
  rw [hch]
  repeat (walk_at "n")
  refine x_cons (WP.mono (Q := fun fl kn' frs' => An3 (fl = .next) (kn = kn') (Ex2 fun t5 t6 => frs' = ⟨L, [], [("extended", .bytes ext.toArray te), ("extpos", .int ((p' : Int) + 1) t5), ("bias", .int bias tb), ("errors", er), ("result", .int r t2), ("w", .int w t3), ("j", .int j t4), ("char", .int (if f < 26 then 65 + f else 22 + f) k), ("digit", .int f t6)]⟩ :: frs)) ?_ ?_)
  · walk_at "s"
    by_cases h26 : f < 26
    · rw [if_pos h26]
      repeat (walk_at "s")
      refine if_dec (fun h1 => ?_) (fun h1 => absurd (by (first | lia | omega)) h1)
      repeat (walk_at "s")
      refine if_dec (fun h1 => ?_) (fun h1 => absurd (by (first | lia | omega)) h1)
      repeat (walk_at "s")
      exact ⟨rfl, rfl, _, _, by rw [show 65 + f - 65 = f by (first | lia | omega)]⟩
    · rw [if_neg h26]
      repeat (walk_at "s")
      refine if_dec (fun h1 => absurd h1 (by (first | lia | omega))) (fun h1 => ?_)
      repeat (walk_at "s")
      refine if_dec (fun h1 => ?_) (fun h1 => absurd (by (first | lia | omega)) h1)
      repeat (walk_at "s")
      refine if_dec (fun h1 => ?_) (fun h1 => absurd (by (first | lia | omega)) h1)
      repeat (walk_at "s")
      exact ⟨rfl, rfl, _, _, by rw [show 22 + f - 22 = f by (first | lia | omega)]⟩
  rintro _ _ _ ⟨rfl, rfl, t5, t6, rfl⟩
  repeat (walk_at "s")
  refine T_ok hA.deep ?_
  intro t7
  generalize Tf j bias = tt at *
  repeat (walk_at "s")
  refine i_mul (.inl (by (first | lia | omega))) ?_; intro _
  repeat (walk_at "s")
  have hfw : r + f * w + w * (36 - tt) * ((N' - tt) / (36 - tt)) = r + w * (f + (36 - tt) * ((N' - tt) / (36 - tt))) := by
    rw [Int.mul_add, Int.mul_comm f w, Int.mul_assoc]; (first | lia | omega)
  refine if_dec (fun h1 => ?_) (fun h1 => ?_)
  · obtain ⟨_, rfl, rfl⟩ := hgo.resolve_right fun q => q.1 h1
    repeat (walk_at "s")
    refine n_tuple (fun a ha => ?_) (by rw [sizeLine_eq]; simp)
    repeat (walk_at "s")
    have e1 : ((p' : Int) + 1) = ((p + (ggL bias 0 N).length : Nat) : Int) := by rw [← hl]; simp
    have e2 : r + f * w = N := by rw [← hr, Int.mul_comm]
    rw [e1, e2]
    exact h a _ _ ha
  · obtain ⟨_, rfl, hN', hlt⟩ := hgo.resolve_left fun q => h1 q.1
    repeat (walk_at "s")
    refine i_mul (.inr (by (first | lia | omega))) ?_; intro _
    repeat (walk_at "s")
    refine hKa _ _ _ ?_ ⟨_, _, fun _ _ e => e, .top (vs := [("extended", .bytes ext.toArray te), ("extpos", .int ((p' : Int) + 1) t5), ("bias", .int bias tb), ("errors", er), ("result", .int (r + f * w) _), ("w", .int (w * (36 - tt)) _), ("j", .int (j + 1) _)]) (by walk_at "sub"), rfl, p' + 1, j + 1, (N' - tt) / (36 - tt), w * (36 - tt), r + f * w, _, _, _, _, rfl, rfl, Int.ediv_nonneg (by (first | lia | omega)) (by (first | lia | omega)), ?_, hdrop, ?_⟩
    · have h1 : (N' - tt) / (36 - tt) < N' := by
        rw [Int.ediv_lt_iff_lt_mul (by (first | lia | omega))]
        have : N' * 10 ≤ N' * (36 - tt) := Int.mul_le_mul_of_nonneg_left (by (first | lia | omega)) (by (first | lia | omega))
        (first | lia | omega)
      (first | lia | omega)
    · rw [hfw, ← hN']; exact hr
    · simp only [List.length_cons] at hl; (first | lia | omega)
end
/-! # part F6 -/
section
open PySem PySem.W PyProof.Rows
theorem Kn.none_of_set {kn : Kn} {a b : Addr} {o : Obj} (h : kn.set b o a = none) : kn a = none := by
  unfold Kn.set at h; split at h; cases h; exact h
/-- what the insertions make -/
noncomputable def insF : List Nat → List Int → Int → Int → List Nat
  | base, [], _, _ => base
  | base, d :: r, c, p => insF (base.take ((p + (d + 1)) % (base.length + 1)).toNat ++ [(c + (p + (d + 1)) / (base.length + 1)).toNat] ++ base.drop ((p + (d + 1)) % (base.length + 1)).toNat) r (c + (p + (d + 1)) / (base.length + 1)) ((p + (d + 1)) % (base.length + 1))
noncomputable def insOk (n : Nat) : List Int → Int → Int → Prop
  | [], _, _ => True
  | d :: r, c, p => 0 ≤ c + (p + (d + 1)) / (n + 1) ∧ c + (p + (d + 1)) / (n + 1) ≤ 1114111 ∧ insOk (n + 1) r (c + (p + (d + 1)) / (n + 1)) ((p + (d + 1)) % (n + 1))
theorem ggL_ne (b j N : Int) : ggL b j N ≠ [] := by rw [ggL_eq]; split <;> simp
theorem is_ok {P : Pk} {A : Around} {kn : Kn} {frs : List Fm} {Q : Value → Kn → List Fm → Prop} (hA : Rm 3 A) {base : List Nat} {ds : List Int} {tb te : Tok} {er : Value} (hd : ∀ d ∈ ds, 0 ≤ d ∧ d < 2 ^ 64) (hlen : base.length + ds.length ≤ 1000)
    (hok : insOk base.length ds 128 (-1)) (h : ∀ t, Q (.str (sx (insF base ds 128 (-1))) t) kn frs) :
    WP P A (call (.ref 63) [.str (sx base) tb, .bytes ((giF base.length ds 0 72).map up).toArray te, er]) Q kn frs := by
  refine WP.drop ?_
  have hgl := giF_len base.length ds 0 72 hd
  have hsl := sizeLine_eq
  generalize hext : (giF base.length ds 0 72).map up = ext at *
  have hel : ext.length ≤ 65 * ds.length := by rw [← hext, List.length_map]; exact hgl
  refine c_pos [("base", .str (sx base) tb), ("extended", .bytes ext.toArray te), ("errors", er)] (fun _ => []) hA (by rfl) (by kernel_rfl) (by kernel_rfl) (by kernel_rfl) (fun _ => by kernel_rfl) (fun L => ?_) (by kernel_rfl) (by kernel_rfl) (by kernel_rfl)
  refine x_cons ?_
  repeat (walk_at "s")
  refine x_while (fun m kn' frs' => An2 (kn = kn') (Ex12 fun (b : List Nat) (r : List Int) (c p bias : Int) (i e : Nat) (t1 t2 t3 t4 t5 : Tok) => An9 (m = r.length) (frs' = ⟨L, [], [("base", .str (sx b) t1), ("extended", .bytes ext.toArray te), ("errors", er), ("char", .int c t2), ("pos", .int p t3), ("bias", .int bias t4), ("extpos", .int e t5)]⟩ :: frs) (∀ d ∈ r, 0 ≤ d ∧ d < 2 ^ 64) (b.length = base.length + i) (b.length + r.length ≤ 1000) (insOk b.length r c p) (insF b r c p = insF base ds 128 (-1)) (ext.drop e = (giF base.length r i bias).map up) (e = 0 ↔ i = 0))) ds.length
    ⟨rfl, base, ds, 128, -1, 72, 0, 0, _, _, _, _, _, rfl, rfl, hd, rfl, hlen, hok, rfl, hext.symm, by simp⟩ ?_
  rintro m _ _ Ka hKa ⟨rfl, b, r, c, p, bias, i, e, t1, t2, t3, t4, t5, rfl, rfl, hr, hb, hbr, hok', hins, hdr, hei⟩
  repeat (walk_at "s")
  refine k_blen (by simp; (first | lia | omega)) fun k => ?_
  repeat (walk_at "s")
  cases r with
  | nil =>
    have hge : ext.length ≤ e := by
      simp only [giF, List.map_nil] at hdr
      exact List.drop_eq_nil_iff.mp hdr
    refine if_dec (fun h1 => absurd h1 (by simp; (first | lia | omega))) (fun h1 => ?_)
    repeat (walk_at "s")
    rw [← hins] at h
    exact ⟨kn, fun _ _ e => e, h _⟩
  | cons d r =>
    have hlt : e < ext.length := by
      rcases Nat.lt_or_ge e ext.length with q | q
      · exact q
      · rw [List.drop_eq_nil_of_le q, giF, List.map_append] at hdr
        have := ggL_ne bias 0 d
        simp [this] at hdr
    refine if_dec (fun h1 => ?_) (fun h1 => absurd (by simp; (first | lia | omega)) h1)
    rw [giF, List.map_append] at hdr
    have hd1 := hr d (.head _)
    refine x_cons (x_apair (hA.deep (env := _)).handled ?_ (by rfl) (by rfl))
    repeat (walk_at "s")
    refine dgn_ok (hA.deep.le (by decide)) hd1.1 (by (first | lia | omega)) hdr fun a t6 t7 ha => ?_
    refine ⟨a, _, _, rfl, .inl Kn.set_self, ?_⟩
    repeat (walk_at "s")
    refine k_is (by rfl) ?_
    repeat (walk_at "s")
    refine if_ff ?_
    repeat (walk_at "s")
    refine k_s_len (by (first | lia | omega)) fun k2 => ?_
    repeat (walk_at "s")
    refine i_fdiv (by (first | lia | omega)) (by (first | lia | omega)) ?_; intro _
    repeat (walk_at "n")
    obtain ⟨hc0, hc1, hok2⟩ := hok'
    rw [insF] at hins
    generalize hc' : c + (p + (d + 1)) / ((b.length : Int) + 1) = c' at *
    have hp0 := Int.emod_nonneg (p + (d + 1)) (show ((b.length : Int) + 1) ≠ 0 by (first | lia | omega))
    have hp1 := Int.emod_lt_of_pos (p + (d + 1)) (show 0 < ((b.length : Int) + 1) by (first | lia | omega))
    repeat (walk_at "s")
    refine if_dec (fun h1 => absurd h1 (by (first | lia | omega))) (fun h1 => ?_)
    repeat (walk_at "s")
    refine k_s_len (by (first | lia | omega)) fun k3 => ?_
    repeat (walk_at "s")
    refine i_mod (by (first | lia | omega)) ?_; intro _
    generalize hp' : (p + (d + 1)) % ((b.length : Int) + 1) = p' at *
    repeat (walk_at "s")
    intro a2 ha2
    refine k_s_take Kn.set_self (by (first | lia | omega)) (by (first | lia | omega)) (by (first | lia | omega)) fun t8 => ?_
    repeat (walk_at "s")
    refine k_chr hc0 (by (first | lia | omega)) fun t9 => ?_
    repeat (walk_at "s")
    refine k_s_add (by simp; (first | lia | omega)) fun t10 => ?_
    repeat (walk_at "s")
    intro a3 ha3
    refine k_s_drop Kn.set_self (by (first | lia | omega)) (by (first | lia | omega)) (by (first | lia | omega)) fun t11 => ?_
    repeat (walk_at "s")
    refine k_s_add (by simp; (first | lia | omega)) fun t12 => ?_
    have hbl : (b.take p'.toNat ++ [c'.toNat] ++ b.drop p'.toNat).length = b.length + 1 := by simp; (first | lia | omega)
    generalize b.take p'.toNat ++ [c'.toNat] ++ b.drop p'.toNat = b' at *
    repeat (walk_at "s")
    refine k_s_len (by (first | lia | omega)) fun k4 => ?_
    repeat (walk_at "s")
    refine adapt_ok (hA.deep.le (by decide)) hd1.1 (by (first | lia | omega)) (by (first | lia | omega)) ?_
    intro t13
    repeat (walk_at "s")
    have hne := ggL_ne bias 0 d
    have hpos : 0 < (ggL bias 0 d).length := List.length_pos_iff.mpr hne
    have e1 : ((e : Int) == 0) = (i == 0) := by
      by_cases q : i = 0
      · rw [hei.mpr q, q]; rfl
      · have : e ≠ 0 := fun z => q (hei.mp z)
        have q1 : (i == 0) = false := by simpa using q
        rw [q1]; simpa using this
    have e2 : (b'.length : Int) = base.length + i + 1 := by (first | lia | omega)
    rw [e1, e2]
    refine hKa r.length _ _ (by simp) ⟨kn, _, Kn.le_set (Kn.none_of_set (Kn.none_of_set ha3)) (Kn.le_set (Kn.none_of_set ha2) (Kn.le_set ha fun _ _ e => e)), .top (vs := [("base", .str (sx b') _), ("extended", .bytes ext.toArray te), ("errors", er), ("char", .int c' _), ("pos", .int p' _), ("bias", .int (adF d (i == 0) (base.length + i + 1)) _), ("extpos", .int ((e + (ggL bias 0 d).length : Nat) : Int) _)]) (by walk_at "sub"),
      rfl, b', r, c', p', _, i + 1, e + (ggL bias 0 d).length, _, _, _, _, _, rfl, rfl, fun x hx => hr x (.tail _ hx), by (first | lia | omega), by simp at hbr; (first | lia | omega), by rw [hbl]; exact_mod_cast hok2, hins, ?_, by (first | lia | omega)⟩
    rw [← List.drop_drop, hdr, List.drop_left' (by simp)]
end
/-! # part F7 -/
section
open PySem PySem.W PyProof.Rows
theorem ggL_rng (b : Int) (j N : Int) (h0 : 0 ≤ N) : ∀ f ∈ ggL b j N, 0 ≤ f ∧ f < 36 := by
  fun_induction ggL b j N with
  | case1 j N h =>
    have := Tf_bd j b
    intro f hf
    rw [List.mem_singleton] at hf
    (first | lia | omega)
  | case2 j N h ih =>
    have hb := Tf_bd j b
    intro f hf
    rcases List.mem_cons.mp hf with e | hf
    · have h1 := Int.emod_nonneg (N - Tf j b) (show (36 - Tf j b) ≠ 0 by (first | lia | omega))
      have h2 := Int.emod_lt_of_pos (N - Tf j b) (show 0 < 36 - Tf j b by (first | lia | omega))
      (first | lia | omega)
    · exact ih (Int.ediv_nonneg (by (first | lia | omega)) (by (first | lia | omega))) f hf
theorem giF_rng (n : Int) : ∀ (ds : List Int) (i : Nat) (b : Int), (∀ d ∈ ds, 0 ≤ d ∧ d < 2 ^ 64) → ∀ f ∈ giF n ds i b, 0 ≤ f ∧ f < 36
  | [], _, _, _ => by intro f hf; cases hf
  | d :: r, i, b, h => by
    intro f hf
    rw [giF] at hf
    rcases List.mem_append.mp hf with q | q
    · exact ggL_rng b 0 d (h d (.head _)).1 f q
    · exact giF_rng n r _ _ (fun x hx => h x (.tail _ hx)) f q
theorem up_dg (f : Int) (h0 : 0 ≤ f) (h1 : f < 36) : Builtin.Bytes.toUpper (dg f) = up f ∧ dg f ≠ 45 := by
  have h : ∀ n < 36, Builtin.Bytes.toUpper (dg ((n : Nat) : Int)) = up (n : Int) ∧ dg (n : Int) ≠ 45 := by decide +kernel
  have := h f.toNat (by (first | lia | omega))
  rwa [Int.toNat_of_nonneg h0] at this
theorem ups (l : List Int) (h : ∀ f ∈ l, 0 ≤ f ∧ f < 36) : (l.map dg).map Builtin.Bytes.toUpper = l.map up ∧ 45 ∉ l.map dg := by
  refine ⟨?_, fun hm => ?_⟩
  · rw [List.map_map]
    exact List.map_congr_left fun f hf => (up_dg f (h f hf).1 (h f hf).2).1
  · obtain ⟨f, hf, e⟩ := List.mem_map.mp hm
    exact (up_dg f (h f hf).1 (h f hf).2).2 e
theorem pd_ok {P : Pk} {A : Around} {kn : Kn} {frs : List Fm} {Q : Value → Kn → List Fm → Prop} (hA : Rm 4 A) {base : List UInt8} {ds : List Int} {tt te : Tok} (hb : ∀ x ∈ base, x.toNat < 128) (hd : ∀ d ∈ ds, 0 ≤ d ∧ d < 2 ^ 64) (hlen : base.length + ds.length ≤ 1000)
    (hok : insOk base.length ds 128 (-1)) (h : ∀ t, Q (.str (sx (insF (base.map (·.toNat)) ds 128 (-1))) t) kn frs) :
    WP P A (call (.ref 70) [.bytes (if base = [] then (giF 0 ds 0 72).map dg else base ++ 45 :: (giF base.length ds 0 72).map dg).toArray tt, .str (Str.ofString "strict") te]) Q kn frs := by
  refine WP.drop ?_
  have hgl := giF_len base.length ds 0 72 hd
  have hsl := sizeLine_eq
  obtain ⟨hup, hno⟩ := ups _ (giF_rng base.length ds 0 72 hd)
  have hml : (base.map (·.toNat)).length = base.length := by simp
  by_cases hbe : base = []
  · subst hbe
    simp only [if_true]
    replace hgl : (giF 0 ds 0 72).length ≤ 65 * ds.length := hgl
    replace hup : ((giF 0 ds 0 72).map dg).map Builtin.Bytes.toUpper = (giF 0 ds 0 72).map up := hup
    replace hno : 45 ∉ (giF 0 ds 0 72).map dg := hno
    replace hlen : ([] : List UInt8).length + ds.length ≤ 1000 := hlen
    rw [List.length_nil] at hlen
    refine c_pos [("text", .bytes ((giF 0 ds 0 72).map dg).toArray tt), ("errors", .str (Str.ofString "strict") te)] (fun _ => []) hA (by rfl) (by kernel_rfl) (by kernel_rfl) (by kernel_rfl) (fun _ => by kernel_rfl) (fun L => ?_) (by kernel_rfl) (by kernel_rfl) (by kernel_rfl)
    refine x_cons ?_
    repeat (walk_at "s")
    refine k_isi_str ?_
    repeat (walk_at "s")
    refine k_isi_mv ?_
    repeat (walk_at "s")
    refine m_rfind ?_
    repeat (walk_at "s")
    refine k_rfind_no hno fun t1 => ?_
    repeat (walk_at "s")
    refine if_tt ?_
    repeat (walk_at "s")
    refine m_upper ?_
    repeat (walk_at "s")
    refine k_upper (by simp only [List.length_map]; (first | lia | omega)) fun t2 => ?_
    rw [hup]
    repeat (walk_at "s")
    refine is_ok (base := []) (hA.deep.le (by decide)) hd hlen hok fun t3 => ?_
    repeat (walk_at "s")
    exact ⟨kn, fun _ _ e => e, h _⟩
  · simp only [hbe, if_false]
    refine c_pos [("text", .bytes (base ++ 45 :: (giF base.length ds 0 72).map dg).toArray tt), ("errors", .str (Str.ofString "strict") te)] (fun _ => []) hA (by rfl) (by kernel_rfl) (by kernel_rfl) (by kernel_rfl) (fun _ => by kernel_rfl) (fun L => ?_) (by kernel_rfl) (by kernel_rfl) (by kernel_rfl)
    refine x_cons ?_
    repeat (walk_at "s")
    refine k_isi_str ?_
    repeat (walk_at "s")
    refine k_isi_mv ?_
    repeat (walk_at "s")
    refine m_rfind ?_
    repeat (walk_at "s")
    refine k_rfind hno fun t1 => ?_
    repeat (walk_at "s")
    refine if_beq (fun q => absurd q (by (first | lia | omega))) (fun _ => ?_)
    repeat (walk_at "s")
    intro a ha
    refine k_b_take Kn.set_self (by (first | lia | omega)) (by simp; (first | lia | omega)) (by simp; (first | lia | omega)) fun t4 => ?_
    have e1 : (base ++ 45 :: (giF base.length ds 0 72).map dg).take ((base.length : Int)).toNat = base := by rw [Int.toNat_natCast, List.take_left]
    rw [e1]
    repeat (walk_at "s")
    refine k_str_ascii hbe hb (by (first | lia | omega)) fun t5 => ?_
    repeat (walk_at "s")
    intro a2 ha2
    refine k_b_drop Kn.set_self (by (first | lia | omega)) (by simp; (first | lia | omega)) (by simp; (first | lia | omega)) fun t6 => ?_
    have e2 : (base ++ 45 :: (giF base.length ds 0 72).map dg).drop ((base.length : Int) + 1).toNat = (giF base.length ds 0 72).map dg := by
      rw [show ((base.length : Int) + 1).toNat = base.length + 1 by (first | lia | omega), ← List.drop_drop, List.drop_left]; rfl
    rw [e2]
    repeat (walk_at "s")
    refine m_upper ?_
    repeat (walk_at "s")
    refine k_upper (by simp only [List.length_map]; (first | lia | omega)) fun t7 => ?_
    rw [hup]
    repeat (walk_at "s")
    rw [← hml]
    refine is_ok (base := base.map (·.toNat)) (hA.deep.le (by decide)) hd (by rw [hml]; exact hlen) (by rw [hml]; exact hok) fun t8 => ?_
    repeat (walk_at "s")
    exact ⟨kn, Kn.le_set (Kn.none_of_set ha2) (Kn.le_set ha fun _ _ e => e), h _⟩
end
/-! # part F8 -/
section
open PySem PySem.W PyProof.Rows
noncomputable def baseF (ns : List Int) : List Int := if ns.getD 0 0 % 5 = 4 then [] else ((List.range ns.length).filter (fun k => k % 3 == 0)).map (fun k => ns.getD k 0)
noncomputable def restF (ns : List Int) : List Int := if ns.getD 0 0 % 5 = 4 then ns else ((List.range ns.length).filter (fun k => k % 3 != 0)).map (fun k => ns.getD k 0)
theorem mod_nat3 (i : Nat) : ((i : Int) % 3 == 0) = (i % 3 == 0) := by
  rw [Bool.eq_iff_iff]; simp; (first | lia | omega)
theorem mod_nat3n (i : Nat) : ((i : Int) % 3 != 0) = (i % 3 != 0) := by
  rw [Bool.eq_iff_iff]; simp; (first | lia | omega)
theorem base_ok {P : Pk} {A : Around} {kn : Kn} {frs : List Fm} {Q : Value → Kn → List Fm → Prop} (hA : Rm 1 A) {l : Addr} {items : List Value} {ns : List Int} {ep : Nat} (hl : Kw P kn l (lo items ep)) (hi : IntsAre items ns)
    (hne : 0 < ns.length) (hlen : ns.length ≤ 1000) (h : ∀ r kn' ys ep, kn' r = some (lo ys ep) → kn r = none → (∀ a o, kn a = some o → kn' a = some o) → IntsAre ys (baseF ns) → Q (.ref r) kn' frs) :
    WP P A (call (.ref 200) [.ref l]) Q kn frs := by
  have hsl := sizeLine_eq
  have hil := hi.length
  refine c_pos [("numbers", .ref l)] (fun L => [("numbers", L + 1)]) hA (by rfl) (by kernel_rfl) (by kernel_rfl) (by kernel_rfl) (fun _ => by kernel_rfl) (fun L => ?_) (by kernel_rfl) (by kernel_rfl) (by kernel_rfl)
  refine x_cons ?_
  repeat (walk_at "s")
  obtain ⟨t0, ht0⟩ := ia_get hi 0 hne
  refine k_lsub hl (by decide) (by decide) ht0 ?_
  repeat (walk_at "s")
  refine if_beq (fun h4 => ?_) (fun h4 => ?_)
  · repeat (walk_at "s")
    refine n_list (fun a ha => ?_)
    repeat (walk_at "s")
    exact h a _ [] 0 Kn.set_self ha (Kn.le_set ha fun _ _ e => e) (by unfold baseF; rw [if_pos h4]; exact .nil)
  · repeat (walk_at "s")
    refine e_lcp (cl := [("numbers", L + 1)]) ?_ (by rfl) (by decide +kernel) (by rfl) (by decide +kernel) (by intro _; rfl)
    repeat (walk_at "s")
    refine k_llen hl (by (first | lia | omega)) fun t1 => ?_
    repeat (walk_at "s")
    refine k_range fun r t2 t3 hr => ?_
    rw [hil]
    refine ⟨ns.length, _, _, fun i ys => IntsAre ys (((List.range i).filter (fun k => k % 3 == 0)).map (fun k => ns.getD k 0)), by (first | lia | omega), src_range (hA.deep (env := _)).handled r ns.length (by (first | lia | omega)), ⟨_, _, _, .inl Kn.set_self⟩, .nil, ?_, ?_⟩
    · rintro i ys _ P' C hle hin ⟨tv, rfl⟩ hF
      repeat (walk_at "s")
      rw [mod_nat3]
      have hs := range_filter_succ (fun k => k % 3 == 0) (fun k => ns.getD k 0) i
      by_cases hm : (i % 3 == 0) = true
      · rw [hm]
        refine if_tt ?_
        repeat (walk_at "s")
        obtain ⟨tk, htk⟩ := ia_get hi i hin
        refine k_lsub ((hl.le hle).set hr) (by (first | lia | omega)) (by (first | lia | omega)) (by rw [Int.toNat_natCast]; exact htk) ?_
        exact ⟨by show IntsAre _ _; rw [hs, if_pos hm]; exact ia_app hF (ia_one _ _), .eq⟩
      · rw [Bool.not_eq_true] at hm
        rw [hm]
        exact if_ff ⟨by show IntsAre _ _; rw [hs, if_neg (by rw [hm]; decide), List.append_nil]; exact hF, .eq⟩
    · intro ys D ep hF hD hyl
      repeat (walk_at "s")
      exact h D _ ys ep Kn.set_self (Kn.none_of_set hD) (Kn.le_set (Kn.none_of_set hD) (Kn.le_set hr fun _ _ e => e)) (by unfold baseF; rw [if_neg h4]; exact hF)
theorem rest_ok {P : Pk} {A : Around} {kn : Kn} {frs : List Fm} {Q : Value → Kn → List Fm → Prop} (hA : Rm 1 A) {l : Addr} {items : List Value} {ns : List Int} {ep : Nat} (hl : Kw P kn l (lo items ep)) (hi : IntsAre items ns)
    (hne : 0 < ns.length) (hlen : ns.length ≤ 1000) (h : ∀ r kn' ys ep, Kw P kn' r (lo ys ep) → (∀ a, kn' a = none → kn a = none) → (∀ a o, kn a = some o → kn' a = some o) → IntsAre ys (restF ns) → Q (.ref r) kn' frs) :
    WP P A (call (.ref 205) [.ref l]) Q kn frs := by
  have hsl := sizeLine_eq
  have hil := hi.length
  refine c_pos [("numbers", .ref l)] (fun L => [("numbers", L + 1)]) hA (by rfl) (by kernel_rfl) (by kernel_rfl) (by kernel_rfl) (fun _ => by kernel_rfl) (fun L => ?_) (by kernel_rfl) (by kernel_rfl) (by kernel_rfl)
  refine x_cons ?_
  repeat (walk_at "s")
  obtain ⟨t0, ht0⟩ := ia_get hi 0 hne
  refine k_lsub hl (by decide) (by decide) ht0 ?_
  repeat (walk_at "s")
  refine if_beq (fun h4 => ?_) (fun h4 => ?_)
  · repeat (walk_at "s")
    exact h l kn items ep hl (fun _ e => e) (fun _ _ e => e) (by unfold restF; rw [if_pos h4]; exact hi)
  · repeat (walk_at "s")
    refine e_lcp (cl := [("numbers", L + 1)]) ?_ (by rfl) (by decide +kernel) (by rfl) (by decide +kernel) (by intro _; rfl)
    repeat (walk_at "s")
    refine k_llen hl (by (first | lia | omega)) fun t1 => ?_
    repeat (walk_at "s")
    refine k_range fun r t2 t3 hr => ?_
    rw [hil]
    refine ⟨ns.length, _, _, fun i ys => IntsAre ys (((List.range i).filter (fun k => k % 3 != 0)).map (fun k => ns.getD k 0)), by (first | lia | omega), src_range (hA.deep (env := _)).handled r ns.length (by (first | lia | omega)), ⟨_, _, _, .inl Kn.set_self⟩, .nil, ?_, ?_⟩
    · rintro i ys _ P' C hle hin ⟨tv, rfl⟩ hF
      repeat (walk_at "s")
      rw [mod_nat3n]
      have hs := range_filter_succ (fun k => k % 3 != 0) (fun k => ns.getD k 0) i
      by_cases hm : (i % 3 != 0) = true
      · rw [hm]
        refine if_tt ?_
        repeat (walk_at "s")
        obtain ⟨tk, htk⟩ := ia_get hi i hin
        refine k_lsub ((hl.le hle).set hr) (by (first | lia | omega)) (by (first | lia | omega)) (by rw [Int.toNat_natCast]; exact htk) ?_
        exact ⟨by show IntsAre _ _; rw [hs, if_pos hm]; exact ia_app hF (ia_one _ _), .eq⟩
      · rw [Bool.not_eq_true] at hm
        rw [hm]
        exact if_ff ⟨by show IntsAre _ _; rw [hs, if_neg (by rw [hm]; decide), List.append_nil]; exact hF, .eq⟩
    · intro ys D ep hF hD hyl
      repeat (walk_at "s")
      exact h D _ ys ep (.inl Kn.set_self) (fun a e => Kn.none_of_set (Kn.none_of_set e)) (Kn.le_set (Kn.none_of_set hD) (Kn.le_set hr fun _ _ e => e)) (by unfold restF; rw [if_neg h4]; exact hF)
end
/-! # part F9 -/
section
open PySem PySem.W PyProof.Rows
noncomputable def layP (row : List R3) (last step n : Int) : Int := if step = 0 then last + 1 + n / 3 % (row.length - last) else n / 3 % (row.length + 1)
noncomputable def layN (row : List R3) (c : Int) (p : Nat) : R3 := (c, 1 + mx (((row.take p).filter (fun r => decide (r.1 < c))).map (·.2.1)), 1 + mx (((row.drop p).filter (fun r => decide (r.1 < c))).map (·.2.2)))
noncomputable def layI (row : List R3) (c : Int) (p : Nat) : List R3 := row.take p ++ layN row c p :: row.drop p
noncomputable def layS (steps : List Int) (n : Int) : Int := steps.getD (n % 3).toNat 0
noncomputable def layR (steps : List Int) : List Int → List R3 → Int → Int → List R3
  | [], row, _, _ => row
  | n :: r, row, c, last => layR steps r (layI row (c + layS steps n) (layP row last (layS steps n) n).toNat) (c + layS steps n) (layP row last (layS steps n) n)
noncomputable def layG (steps : List Int) : List Int → List R3 → Int → Int → List Int
  | [], _, _, _ => []
  | n :: r, row, c, last => (layS steps n * (row.length + 1) + layP row last (layS steps n) n - last - 1) :: layG steps r (layI row (c + layS steps n) (layP row last (layS steps n) n).toNat) (c + layS steps n) (layP row last (layS steps n) n)
theorem layI_len (row : List R3) (c : Int) (p : Nat) (h : p ≤ row.length) : (layI row c p).length = row.length + 1 := by unfold layI; simp; (first | lia | omega)
theorem layP_bd (row : List R3) (last step n : Int) (h0 : -1 ≤ last) (h1 : last < row.length) : 0 ≤ layP row last step n ∧ layP row last step n ≤ row.length := by
  unfold layP
  split
  · have a := Int.emod_nonneg (n / 3) (show ((row.length : Int) - last) ≠ 0 by (first | lia | omega))
    have b := Int.emod_lt_of_pos (n / 3) (show 0 < ((row.length : Int) - last) by (first | lia | omega))
    (first | lia | omega)
  · have a := Int.emod_nonneg (n / 3) (show ((row.length : Int) + 1) ≠ 0 by (first | lia | omega))
    have b := Int.emod_lt_of_pos (n / 3) (show 0 < ((row.length : Int) + 1) by (first | lia | omega))
    (first | lia | omega)
theorem lay_ok {P : Pk} {A : Around} {kn : Kn} {frs : List Fm} {Q : Value → Kn → List Fm → Prop} (hA : Rm 1 A) {R S D : Addr} {ri si di : List Value} {rows : List R3} {steps draws : List Int} {start : Int} {ts : Tok} {rep sep dep : Nat}
    (hR : kn R = some (lo ri rep)) (hrow : RowIs kn ri rows) (hS : Kw P kn S (lo si sep)) (hsi : IntsAre si steps) (hs3 : steps.length = 3) (hD : Kw P kn D (lo di dep)) (hdi : IntsAre di draws) (hSR : S ≠ R) (hDR : D ≠ R)
    (hlen : rows.length + draws.length ≤ 1000)
    (h : ∀ G kn' gi gep ri' rep', kn' G = some (lo gi gep) → IntsAre gi (layG steps draws rows start (-1)) → kn' R = some (lo ri' rep') → RowIs kn' ri' (layR steps draws rows start (-1)) → (∀ a o, a ≠ R → kn a = some o → kn' a = some o) → G ≠ R → kn G = none → Q (.ref G) kn' frs) :
    WP P A (call (.ref 195) [.ref R, .int start ts, .ref S, .ref D]) Q kn frs := by
  have hsl := sizeLine_eq
  refine c_pos [("row", .ref R), ("start", .int start ts), ("steps", .ref S), ("draws", .ref D)] (fun L => [("code", L + 1)]) hA (by rfl) (by kernel_rfl) (by kernel_rfl) (by kernel_rfl) (fun _ => by kernel_rfl) (fun L => ?_) (by kernel_rfl) (by kernel_rfl) (by kernel_rfl)
  refine x_cons ?_
  repeat (walk_at "s")
  refine n_list (fun G hG => ?_)
  repeat (walk_at "s")
  rename_i t1
  have hGR : G ≠ R := fun e => by rw [e, hR] at hG; cases hG
  refine x_for ?_
  repeat (walk_at "s")
  have hkw : ∀ (kn' : Kn) X o, X ≠ R → (∀ a o, a ≠ R → kn a = some o → kn' a = some o) → Kw P kn X o → Kw P kn' X o := fun kn' X o hX hk hx => hx.elim (fun e => .inl (hk _ _ hX e)) .inr
  refine ⟨di.length, _, _, fun i kn' frs' => Ex10 fun (gi ri : List Value) (gs : List Int) (rs : List R3) (gep rep : Nat) (c last : Int) (tc tl : Tok) => An12 (frs' = ⟨L, [("code", L + 1)], [("row", .ref R), ("start", .int start ts), ("steps", .ref S), ("draws", .ref D), ("gaps", .ref G), ("code", .int c tc), ("last", .int last tl)]⟩ :: frs) (kn' G = some (lo gi gep)) (kn' R = some (lo ri rep)) (RowIs kn' ri rs) (IntsAre gi gs) (gs ++ layG steps (draws.drop i) rs c last = layG steps draws rows start (-1)) (layR steps (draws.drop i) rs c last = layR steps draws rows start (-1)) (rs.length = rows.length + i) (gs.length = i) (-1 ≤ last) (last < rs.length) (∀ a o, a ≠ R → kn a = some o → kn' a = some o),
    src_list (hA.deep (env := _)).handled D di, ⟨[], ri, [], rows, 0, rep, start, -1, ts, t1, rfl, Kn.set_self, by rw [Kn.set_ne (Ne.symm hGR)]; exact hR, hrow.le fun a vs e => Kn.le_set hG (fun _ _ e => e) _ _ e, .nil, rfl, rfl, rfl, rfl, by (first | lia | omega), by (first | lia | omega), fun a o _ e => Kn.le_set hG (fun _ _ e => e) _ _ e⟩, ?_, ?_, ?_⟩
  · rintro i kn' frs' ⟨gi, ri, gs, rs, gep, rep, c, last, tc, tl, rfl, hg, hr, hrow, hgi, hG1, hR1, hl1, hl2, hb0, hb1, hk⟩
    exact ⟨dep, hkw kn' D _ hDR hk hD⟩
  · rintro i v P' kn' frs' Ka hle hi hv hKa ⟨gi, ri, gs, rs, gep, rep, c, last, tc, tl, rfl, hg, hr, hrow, hgi, hG1, hR1, hl1, hl2, hb0, hb1, hk⟩
    obtain ⟨n, tn, rfl, hdn⟩ := ia_at hdi i v hv
    have hilt : i < draws.length := (List.getElem?_eq_some_iff.mp hdn).1
    have hdrop : draws.drop i = n :: draws.drop (i + 1) := by rw [List.drop_eq_getElem_cons hilt]; congr 1; exact (List.getElem?_eq_some_iff.mp hdn).2
    rw [hdrop, layG] at hG1
    rw [hdrop, layR] at hR1
    have hm0 := Int.emod_nonneg n (show (3 : Int) ≠ 0 by decide)
    have hm1 := Int.emod_lt_of_pos n (show (0 : Int) < 3 by decide)
    obtain ⟨tstep, hstep⟩ := ia_get hsi (n % 3).toNat (by (first | lia | omega))
    have hrl := hrow.len
    have hbd := layP_bd rs last (layS steps n) n hb0 hb1
    iterate 2 (walk_at "s")
    repeat (walk_at "n")
    refine k_lsub (hkw kn' S _ hSR hk hS |>.le hle) hm0 (by (first | lia | omega)) hstep ?_
    repeat (walk_at "n")
    have hst : steps.getD (n % 3).toNat 0 = layS steps n := rfl
    rw [hst] at hstep ⊢
    generalize layS steps n = step at *
    refine x_cons (WP.mono (Q := fun fl kn'' frs'' => An3 (fl = .next) (kn' = kn'') (∃ t6, frs'' = ⟨L, [("code", L + 1)], [("row", .ref R), ("start", .int start ts), ("steps", .ref S), ("draws", .ref D), ("gaps", .ref G), ("code", .int c tc), ("last", .int last tl), ("number", .int n tn), ("step", .int step tstep), ("place", .int (layP rs last step n) t6)]⟩ :: frs)) ?_ ?_)
    · repeat (walk_at "s")
      refine if_beq (fun h0 => ?_) (fun h0 => ?_)
      · repeat (walk_at "s")
        refine k_llen (.inl hr) (by (first | lia | omega)) fun t7 => ?_
        repeat (walk_at "s")
        rw [hrl]
        refine i_mod (by (first | lia | omega)) ?_; intro _
        repeat (walk_at "s")
        exact ⟨rfl, rfl, _, by unfold layP; rw [if_pos h0]⟩
      · repeat (walk_at "s")
        refine k_llen (.inl hr) (by (first | lia | omega)) fun t7 => ?_
        repeat (walk_at "s")
        rw [hrl]
        refine i_mod (by (first | lia | omega)) ?_; intro _
        repeat (walk_at "s")
        exact ⟨rfl, rfl, _, by unfold layP; rw [if_neg h0]⟩
    rintro _ _ _ ⟨rfl, rfl, t6, rfl⟩
    generalize layP rs last step n = p at *
    repeat (walk_at "s")
    refine m_lappend (.inl hg) ?_
    repeat (walk_at "s")
    refine k_llen (.inl hr) (by (first | lia | omega)) fun t8 => ?_
    rw [hrl]
    repeat (walk_at "s")
    refine i_mul (.inr (by (first | lia | omega))) ?_; intro _
    repeat (walk_at "s")
    refine k_lappend hg (by rw [hgi.length]; (first | lia | omega)) fun gep' => ?_
    repeat (walk_at "s")
    refine WP.gen (fun K => An4 (Ex2 fun gi1 ge1 => An2 (K G = some (lo gi1 ge1)) (IntsAre gi1 (gs ++ [step * (↑rs.length + 1) + p - last - 1]))) (K R = some (lo ri rep)) (RowIs K ri rs) (∀ a o, a ≠ R → kn a = some o → K a = some o))
      ⟨⟨_, _, Kn.set_self, ia_app hgi (ia_one _ _)⟩, by rw [Kn.set_ne (Ne.symm hGR)]; exact hr, hrow.le (Kn.set_to hg), fun a o ha e => by rw [Kn.set_ne (Kn.ne_of e hG)]; exact hk a o ha e⟩ ?_
    rintro K1 ⟨⟨gi1, ge1, hg1, hgi1⟩, hr1, hrow1, hk1⟩
    refine x_lcp (cl := [("code", L + 1)]) ?_ (by rfl) (by rfl) (by decide +kernel) (by rfl) (by decide +kernel) (by intro _; rfl)
    repeat (walk_at "s")
    intro s1 hs1
    refine k_l_take (.inl (Kn.new hs1 _ _ hr1)) Kn.set_self (by (first | lia | omega)) (by (first | lia | omega)) fun c1 hc1 => ?_
    refine ⟨(ri.take p.toNat).length, _, _, fun i ys => IntsAre ys ((((rs.take p.toNat).take i).filter (fun r => decide (r.1 < c + step))).map (·.2.1)), by rw [List.length_take]; (first | lia | omega), src_list (hA.deep (env := _)).handled c1 (ri.take p.toNat), ⟨0, .inl Kn.set_self⟩, .nil, ?_, ?_⟩
    · rintro i' ys v P'' C hle' hi' hv' hF
      obtain ⟨a, u1, u2, u3, r, rfl, hrr, har⟩ := (hrow1.take p.toNat).get hv'
      have har' := Kn.new hc1 (o := lo (ri.take p.toNat) 0) _ _ (Kn.new hs1 (o := slo .none (.int p t6) .none) _ _ har)
      have hfs := fm_succ (fun r => decide (r.1 < c + step)) (fun r => r.2.1) hrr
      repeat (walk_at "s")
      refine k_tsub (.inl har') (by decide) (by decide) rfl ?_
      repeat (walk_at "s")
      refine if_dec (fun hc => ?_) (fun hc => ?_)
      · repeat (walk_at "s")
        refine k_tsub (.inl har') (by decide) (by decide) rfl ?_
        exact ⟨by show IntsAre _ _; rw [hfs, if_pos (by simpa using hc)]; exact ia_app hF (ia_one _ _), .eq⟩
      · exact ⟨by show IntsAre _ _; rw [hfs, if_neg (by simpa using hc), List.append_nil]; exact hF, .eq⟩
    intro ys1 D1 ep1 P1 hle1 hF1 hD1 hy1
    repeat (walk_at "s")
    have hl1' : IntsAre ys1 (((rs.take p.toNat).filter (fun r => decide (r.1 < c + step))).map (·.2.1)) := by
      have h3 : ((rs.take p.toNat).take (ri.take p.toNat).length) = rs.take p.toNat := List.take_of_length_le (by simp [hrl])
      have := hF1; rw [h3] at this; exact this
    clear hF1
    have hup1 := fun a o e => Kn.new hD1 (o := lo ys1 ep1) a o (Kn.new hc1 (o := lo (ri.take p.toNat) 0) a o (Kn.new hs1 (o := slo .none (.int p t6) .none) a o e))
    refine WP.gen (fun K => An2 (K D1 = some (lo ys1 ep1)) (∀ a o, K1 a = some o → K a = some o)) ⟨Kn.set_self, hup1⟩ ?_
    rintro K2 ⟨hd2, hup2⟩
    have hr2 := hup2 _ _ hr1
    have hrow2 := hrow1.le fun a vs e => hup2 _ _ e
    refine x_lcp (cl := [("code", L + 1)]) ?_ (by rfl) (by rfl) (by decide +kernel) (by rfl) (by decide +kernel) (by intro _; rfl)
    repeat (walk_at "s")
    intro s2 hs2
    refine k_l_drop (.inl (Kn.new hs2 _ _ hr2)) Kn.set_self (by (first | lia | omega)) (by (first | lia | omega)) fun c2 hc2 => ?_
    refine ⟨(ri.drop p.toNat).length, _, _, fun i ys => IntsAre ys ((((rs.drop p.toNat).take i).filter (fun r => decide (r.1 < c + step))).map (·.2.2)), by rw [List.length_drop]; (first | lia | omega), src_list (hA.deep (env := _)).handled c2 (ri.drop p.toNat), ⟨0, .inl Kn.set_self⟩, .nil, ?_, ?_⟩
    · rintro i' ys v P'' C hle' hi' hv' hF
      obtain ⟨a, u1, u2, u3, r, rfl, hrr, har⟩ := (hrow2.drop p.toNat).get hv'
      have har' := Kn.new hc2 (o := lo (ri.drop p.toNat) 0) _ _ (Kn.new hs2 (o := slo (.int p t6) .none .none) _ _ har)
      have hfs := fm_succ (fun r => decide (r.1 < c + step)) (fun r => r.2.2) hrr
      repeat (walk_at "s")
      refine k_tsub (.inl har') (by decide) (by decide) rfl ?_
      repeat (walk_at "s")
      refine if_dec (fun hc => ?_) (fun hc => ?_)
      · repeat (walk_at "s")
        refine k_tsub (.inl har') (by decide) (by decide) rfl ?_
        exact ⟨by show IntsAre _ _; rw [hfs, if_pos (by simpa using hc)]; exact ia_app hF (ia_one _ _), .eq⟩
      · exact ⟨by show IntsAre _ _; rw [hfs, if_neg (by simpa using hc), List.append_nil]; exact hF, .eq⟩
    intro ys2 D2 ep2 P2 hle2 hF2 hD2 hy2
    repeat (walk_at "s")
    have hl2' : IntsAre ys2 (((rs.drop p.toNat).filter (fun r => decide (r.1 < c + step))).map (·.2.2)) := by
      have h3 : ((rs.drop p.toNat).take (ri.drop p.toNat).length) = rs.drop p.toNat := List.take_of_length_le (by simp [hrl])
      have := hF2; rw [h3] at this; exact this
    clear hF2
    have hup3 := fun a o e => Kn.new hD2 (o := lo ys2 ep2) a o (Kn.new hc2 (o := lo (ri.drop p.toNat) 0) a o (Kn.new hs2 (o := slo (.int p t6) .none .none) a o e))
    refine WP.gen (fun K => An3 (K D1 = some (lo ys1 ep1)) (K D2 = some (lo ys2 ep2)) (∀ a o, K1 a = some o → K a = some o)) ⟨hup3 _ _ hd2, Kn.set_self, fun a o e => hup3 a o (hup2 a o e)⟩ ?_
    rintro K3 ⟨hd3, he3, hup4⟩
    refine m_linsert (.inl (hup4 _ _ hr1)) ?_
    repeat (walk_at "s")
    refine n_list (fun a1 ha1 => ?_) (by rw [hsl]; simp)
    repeat (walk_at "s")
    have hyl1 : ys1.length ≤ 1000 := by rw [List.length_take] at hy1; (first | lia | omega)
    have hyl2 : ys2.length ≤ 1000 := by rw [List.length_drop] at hy2; (first | lia | omega)
    refine k_l_add (.inl Kn.set_self) (.inl (Kn.new ha1 _ _ hd3)) (by simp; (first | lia | omega)) fun a2 ha2 => ?_
    repeat (walk_at "s")
    refine k_maxl (hA.deep (env := _)).handled (.inl Kn.set_self) (ia_app (ia_one _ _) hl1') (by simp) fun M1 tm1 hM1 hM1' => ?_
    have hMx1 := mx_of hM1 hM1'
    clear hM1 hM1'
    subst hMx1
    repeat (walk_at "s")
    refine n_list (fun a3 ha3 => ?_) (by rw [hsl]; simp)
    repeat (walk_at "s")
    refine k_l_add (.inl Kn.set_self) (.inl (Kn.new ha3 _ _ (Kn.new ha2 _ _ (Kn.new ha1 _ _ he3)))) (by simp; (first | lia | omega)) fun a4 ha4 => ?_
    repeat (walk_at "s")
    refine k_maxl (hA.deep (env := _)).handled (.inl Kn.set_self) (ia_app (ia_one _ _) hl2') (by simp) fun M2 tm2 hM2 hM2' => ?_
    have hMx2 := mx_of hM2 hM2'
    clear hM2 hM2'
    subst hMx2
    repeat (walk_at "s")
    refine n_tuple (fun T hT => ?_) (by rw [hsl]; simp)
    repeat (walk_at "s")
    have hlay : layN rs (c + step) p.toNat = (c + step, 1 + mx (((rs.take p.toNat).filter (fun r => decide (r.1 < c + step))).map (·.2.1)), 1 + mx (((rs.drop p.toNat).filter (fun r => decide (r.1 < c + step))).map (·.2.2))) := rfl
    refine WP.gen (fun K => An2 (Ex3 fun u1 u2 u3 => K T = some (to [.int (layN rs (c + step) p.toNat).1 u1, .int (layN rs (c + step) p.toNat).2.1 u2, .int (layN rs (c + step) p.toNat).2.2 u3])) (∀ a o, K1 a = some o → K a = some o))
      ⟨⟨_, _, _, Kn.set_self⟩, fun a o e => Kn.new hT a o (Kn.new ha4 a o (Kn.new ha3 a o (Kn.new ha2 a o (Kn.new ha1 a o (hup4 a o e)))))⟩ ?_
    rintro K5 ⟨⟨u1, u2, u3, hT5⟩, hup5⟩
    have hr5 := hup5 _ _ hr1
    refine k_linsert hr5 (by (first | lia | omega)) (by (first | lia | omega)) (by (first | lia | omega)) fun rep5 => ?_
    repeat (walk_at "s")
    have hli := layI_len rs (c + step) p.toNat (by (first | lia | omega))
    refine hKa _ _ ⟨_, _, fun _ _ e => e, .top (vs := [("row", .ref R), ("start", .int start ts), ("steps", .ref S), ("draws", .ref D), ("gaps", .ref G), ("code", .int (c + step) _), ("last", .int p t6)]) (by walk_at "sub"),
      gi1, _, gs ++ [step * (↑rs.length + 1) + p - last - 1], layI rs (c + step) p.toNat, ge1, rep5, c + step, p, _, t6, rfl, ?_, Kn.set_self, ?_, hgi1, ?_, hR1, by (first | lia | omega), by simp; (first | lia | omega), by (first | lia | omega), by (first | lia | omega), ?_⟩
    · rw [Kn.set_ne hGR]; exact hup5 _ _ hg1
    · have hrow5 : RowIs (K5.set R (lo (ri.take p.toNat ++ .ref T :: ri.drop p.toNat) rep5)) ri rs := hrow1.le fun a vs e => Kn.set_to hr5 a vs (hup5 _ _ e)
      exact (hrow5.take p.toNat).app (.cons (Kn.set_to hr5 _ _ hT5) (hrow5.drop p.toNat))
    · rw [← hG1]; simp
    · intro a o ha e
      rw [Kn.set_ne ha]; exact hup5 _ _ (hk1 a o ha e)
  · rintro kn' frs' ⟨gi, ri, gs, rs, gep, rep, c, last, tc, tl, rfl, hg, hr, hrow, hgi, hG1, hR1, hl1, hl2, hb0, hb1, hk⟩
    rw [hdi.length, List.drop_length] at hG1 hR1
    rw [layG, List.append_nil] at hG1
    rw [layR] at hR1
    subst hG1 hR1
    repeat (walk_at "s")
    exact h G kn' gi gep ri rep hg hgi hr hrow hk hGR hG
end
/-! # part F10 -/
section
open PySem PySem.W PyProof.Rows
/-- the pairs of marks and worths -/
noncomputable def FrIs (kn : Kn) (b : Int) (fi : List Value) : Prop := ∀ j < fi.length, Ex3 fun a t1 t2 => An2 (fi[j]? = some (.ref a)) (kn a = some (to [.int (Tf j b) t1, .int (wor b j) t2]))
theorem FrIs.le {kn kn' : Kn} {b : Int} {fi : List Value} (h : FrIs kn b fi) (hk : ∀ a vs, kn a = some (to vs) → kn' a = some (to vs)) : FrIs kn' b fi := fun j hj => by
  obtain ⟨a, t1, t2, h1, h2⟩ := h j hj
  exact ⟨a, t1, t2, h1, hk _ _ h2⟩
theorem FrIs.snoc {kn : Kn} {b : Int} {fi : List Value} {a : Addr} {t1 t2 : Tok} (h : FrIs kn b fi) (ha : kn a = some (to [.int (Tf fi.length b) t1, .int (wor b fi.length) t2])) : FrIs kn b (fi ++ [.ref a]) := fun j hj => by
  rw [List.length_append, List.length_singleton] at hj
  rcases Nat.lt_or_ge j fi.length with q | q
  · obtain ⟨a', u1, u2, h1, h2⟩ := h j q
    exact ⟨a', u1, u2, by rw [List.getElem?_append_left q]; exact h1, h2⟩
  · have : j = fi.length := by (first | lia | omega)
    subst this
    exact ⟨a, t1, t2, by simp, ha⟩
theorem letters_ok {P : Pk} {A : Around} {kn : Kn} {frs : List Fm} {Q : Value → Kn → List Fm → Prop} (hA : Rm 1 A) {n : Int} {tn : Tok} {l : Addr} {items : List Value} {ds : List Int} {ep : Nat} (hn0 : 0 ≤ n) (hn1 : n ≤ 1000) (hl : Kw P kn l (lo items ep)) (hi : IntsAre items ds)
    (hd : ∀ d ∈ ds, 0 ≤ d ∧ d < 10000000) (hlen : ds.length ≤ 1000) (h : ∀ t, Q (.bytes ((giF n ds 0 72).map dg).toArray t) kn frs) : WP P A (call (.ref 210) [.int n tn, .ref l]) Q kn frs := by
  refine WP.drop ?_
  have hsl := sizeLine_eq
  have hd64 : ∀ d ∈ ds, 0 ≤ d ∧ d < 2 ^ 64 := fun d hx => ⟨(hd d hx).1, Int.lt_of_lt_of_le (hd d hx).2 (by decide)⟩
  have hgl := giF_len n ds 0 72 hd64
  refine c_pos [("count", .int n tn), ("gaps", .ref l)] (fun L => [("low", L + 2), ("gap", L + 1)]) hA (by rfl) (by kernel_rfl) (by kernel_rfl) (by kernel_rfl) (fun _ => by kernel_rfl) (fun L => ?_) (by kernel_rfl) (by kernel_rfl) (by kernel_rfl)
  refine x_cons ?_
  repeat (walk_at "s")
  refine n_list (fun G hG => ?_)
  repeat (walk_at "s")
  rename_i t72 t700
  have hlG : l ≠ G ∨ P.b.get? l = some (lo items ep) := hl.elim (fun e => .inl (Kn.ne_of e hG)) .inr
  have hlk : ∀ x, Kw P (kn.set G x) l (lo items ep) := fun x => hl.set hG
  refine x_for ?_
  repeat (walk_at "s")
  refine ⟨items.length, _, _, fun i kn' frs' => Ex7 fun (li : List Value) (lep : Nat) (ls : List Int) (bias : Int) (tb tc td : Tok) => An4 (kn.set G (lo li lep) = kn') (frs' = ⟨L, [("low", L + 2), ("gap", L + 1)], [("count", .int (n + i) tc), ("gaps", .ref l), ("letters", .ref G), ("bias", .int bias tb), ("damp", .int (if i = 0 then 700 else 2) td)]⟩ :: frs) (IntsAre li ls) (ls ++ giF n (ds.drop i) i bias = giF n ds 0 72),
    src_list (hA.deep (env := _)).handled l items, ⟨[], 0, [], 72, t72, tn, t700, rfl, by simp, .nil, rfl⟩, ?_, ?_, ?_⟩
  · rintro i _ _ ⟨li, lep, ls, bias, tb, tc, td, rfl, rfl, hli, hb⟩
    exact ⟨ep, hlk _⟩
  · rintro i v P' _ _ Ka hle hin hv hKa ⟨li, lep, ls, bias, tb, tc, td, rfl, rfl, hli, hb⟩
    obtain ⟨d, tdd, rfl, hdi⟩ := ia_at hi i v hv
    have hdd := hd d (List.mem_of_getElem? hdi)
    have hilt : i < ds.length := (List.getElem?_eq_some_iff.mp hdi).1
    have hdrop : ds.drop i = d :: ds.drop (i + 1) := by rw [List.drop_eq_getElem_cons hilt]; congr 1; exact (List.getElem?_eq_some_iff.mp hdi).2
    rw [hdrop, giF] at hb
    have hbl := congrArg List.length hb
    simp only [List.length_append] at hbl
    iterate 2 (walk_at "s")
    repeat (walk_at "s")
    refine n_list (fun W hW => ?_)
    repeat (walk_at "s")
    refine k_min2 (hA.deep (env := _)).handled fun tm => ?_
    repeat (walk_at "s")
    refine k_max2 (hA.deep (env := _)).handled fun tm => ?_
    repeat (walk_at "s")
    have h36 : max 1 (min 26 (36 - bias)) = Tf ((0 : Nat) : Int) bias := by rw [← Tf_mm]; simp
    rw [h36]
    have hup0 : ∀ a o, kn.set G (lo li lep) a = some o → ((kn.set G (lo li lep)).set W (lo [] 0)) a = some o := fun a o e => Kn.new hW a o e
    refine x_while (fun m kn' frs' => Ex6 fun (k : Nat) (fi : List Value) (fep : Nat) (t1 t2 t3 : Tok) => An8 (m = (d - lwr bias k).toNat) (kn' W = some (lo fi fep)) (fi.length = k) (FrIs kn' bias fi) (∀ a o, kn.set G (lo li lep) a = some o → kn' a = some o) (frs' = ⟨L, [("low", L + 2), ("gap", L + 1)], [("count", .int (n + i) tc), ("gaps", .ref l), ("letters", .ref G), ("bias", .int bias tb), ("damp", .int (if i = 0 then 700 else 2) td), ("gap", .int d tdd), ("low", .int (lwr bias k) t1), ("worth", .int (wor bias k) t2), ("front", .ref W), ("mark", .int (Tf k bias) t3)]⟩ :: frs) (0 ≤ d - lwr bias k) (∀ j < k, Tf j bias * wor bias j ≤ d - lwr bias j)) (d - lwr bias 0).toNat
      ⟨0, [], 0, _, _, _, rfl, Kn.set_self, rfl, fun j hj => absurd hj (Nat.not_lt_zero _), hup0, rfl, by show 0 ≤ d - 0; (first | lia | omega), fun j hj => absurd hj (Nat.not_lt_zero _)⟩ ?_
    · rintro m kn' frs' Kb hKb ⟨k, fi, fep, t1, t2, t3, rfl, hW', hfl, hfr, hup, rfl, hge0, hall⟩
      have hT := Tf_bd k bias
      have hwp := wor_pos bias k
      have hkl := lwr_ge bias k
      have hlw : lwr bias (k + 1) = lwr bias k + Tf k bias * wor bias k := rfl
      have hwr : wor bias (k + 1) = wor bias k * (36 - Tf k bias) := rfl
      repeat (walk_at "s")
      refine i_mul (.inl (by (first | lia | omega))) ?_; intro _
      repeat (walk_at "s")
      refine if_dec (fun hc => ?_) (fun hc => ?_)
      · repeat (walk_at "s")
        refine m_lappend (.inl hW') ?_
        repeat (walk_at "s")
        refine n_tuple (fun T hT' => ?_) (by rw [hsl]; simp)
        repeat (walk_at "s")
        refine k_lappend (Kn.new hT' _ _ hW') (by (first | lia | omega)) fun fep2 => ?_
        repeat (walk_at "s")
        refine i_mul (.inl (by (first | lia | omega))) ?_; intro _
        repeat (walk_at "s")
        refine i_mul (.inr (by (first | lia | omega))) ?_; intro _
        repeat (walk_at "s")
        refine k_llen (.inl Kn.set_self) (by simp; (first | lia | omega)) fun t7 => ?_
        repeat (walk_at "s")
        refine k_min2 (hA.deep (env := _)).handled fun tm => ?_
        repeat (walk_at "s")
        refine k_max2 (hA.deep (env := _)).handled fun tm => ?_
        repeat (walk_at "s")
        have hmark : max 1 (min 26 (36 * ((((fi ++ [Value.ref T]).length : Nat) : Int) + 1) - bias)) = Tf ((k + 1 : Nat) : Int) bias := by
          rw [Tf_mm]; simp [hfl]
        rw [hmark, ← hlw, ← hwr]
        have hm1 : 1 * 1 ≤ Tf k bias * wor bias k := Int.mul_le_mul hT.1 hwp (by (first | lia | omega)) (by (first | lia | omega))
        refine hKb (d - lwr bias (k + 1)).toNat _ _ (by (first | lia | omega)) ?_
        refine ⟨_, _, fun _ _ e => e, .top (by walk_at "sub"), k + 1, _, _, _, _, _, rfl, Kn.set_self, by simp [hfl], ?_, ?_, rfl, by (first | lia | omega), ?_⟩
        · refine FrIs.snoc (t1 := t3) (t2 := t2) (hfr.le fun a vs e => ?_) ?_
          · rw [Kn.set_ne (to_ne e hW')]; exact Kn.new hT' _ _ e
          · rw [hfl, Kn.set_ne (fun e => by rw [e, hW'] at hT'; cases hT')]; exact Kn.set_self
        · intro a o e
          rw [Kn.set_ne (Kn.ne_of e hW)]; exact Kn.new hT' _ _ (hup a o e)
        · intro j hj
          rcases Nat.lt_or_ge j k with q | q
          · exact hall j q
          · have : j = k := by (first | lia | omega)
            subst this; (first | lia | omega)
      · repeat (walk_at "s")
        have hG' : kn' G = some (lo li lep) := hup _ _ Kn.set_self
        have hwb : ∀ j < k, wor bias j ≤ d := fun j hj => by
          have h1 := hall j hj
          have h2 := Tf_bd j bias
          have h3 := wor_pos bias j
          have h4 := lwr_ge bias j
          have : 1 * wor bias j ≤ Tf j bias * wor bias j := Int.mul_le_mul_of_nonneg_right h2.1 (by (first | lia | omega))
          (first | lia | omega)
        have hwk : wor bias k ≤ 35 * d + 1 := by
          cases k with
          | zero => show (1 : Int) ≤ _; (first | lia | omega)
          | succ k =>
            have h1 := hwb k (by (first | lia | omega))
            have h2 := Tf_bd k bias
            have h3 := wor_pos bias k
            have : wor bias k * (36 - Tf k bias) ≤ wor bias k * 35 := Int.mul_le_mul_of_nonneg_left (by (first | lia | omega)) (by (first | lia | omega))
            show wor bias k * (36 - Tf k bias) ≤ _
            (first | lia | omega)
        have hfig := ltr0 bias d k hall (by (first | lia | omega))
        refine m_lextend (.inl hG') ?_
        repeat (walk_at "s")
        refine e_lcp (cl := [("low", L + 2), ("gap", L + 1)]) ?_ (by rfl) (by decide +kernel) (by rfl) (by decide +kernel) (by intro _; rfl)
        repeat (walk_at "s")
        refine ⟨fi.length, _, _, fun j ys => IntsAre ys ((List.range j).map (fun (i : Nat) => Tf i bias + (d - lwr bias k) / wor bias i % (36 - Tf i bias))), by (first | lia | omega), src_list (hA.deep (env := _)).handled W fi, ⟨fep, .inl hW'⟩, .nil, ?_, ?_⟩
        · rintro j ys v P'' C hle' hj hv' hF
          obtain ⟨a, u1, u2, ha1, ha2⟩ := hfr j hj
          rw [ha1] at hv'
          cases hv'
          have hTj := Tf_bd j bias
          have hwj := wor_pos bias j
          have hwj' := hwb j (by (first | lia | omega))
          refine a_pair (hA.deep (env := _)).handled (.inl ha2) ?_
          repeat (walk_at "s")
          refine i_fdiv (by (first | lia | omega)) (by (first | lia | omega)) ?_; intro _
          repeat (walk_at "s")
          refine i_mod (by (first | lia | omega)) ?_; intro _
          repeat (walk_at "s")
          exact ⟨by show IntsAre _ _; rw [List.range_succ, List.map_append]; exact ia_app hF (ia_one _ _), .eq⟩
        · intro ys D ep' hF hD hyl
          rw [hfl] at hF
          repeat (walk_at "s")
          refine i_fdiv (by (first | lia | omega)) (by (first | lia | omega)) ?_; intro tq
          repeat (walk_at "s")
          refine n_list (fun a1 ha1 => ?_) (by rw [hsl]; simp)
          repeat (walk_at "s")
          refine k_l_add (.inl (Kn.new ha1 _ _ Kn.set_self)) (.inl Kn.set_self) (by simp; (first | lia | omega)) fun a2 ha2 => ?_
          repeat (walk_at "s")
          have hggl : (ggL bias 0 d).length ≤ 65 * ds.length := by (first | lia | omega)
          have hfgl := congrArg List.length hfig
          have hll : ls.length ≤ 65 * ds.length := by (first | lia | omega)
          refine k_lextend (Kn.new ha2 _ _ (Kn.new ha1 _ _ (Kn.new hD _ _ hG'))) (.inl Kn.set_self) (by rw [hli.length]; simp at hfgl ⊢; (first | lia | omega)) fun lep2 => ?_
          refine WP.gen (fun K => Ex2 fun li2 lep2 => An2 (IntsAre li2 (ls ++ ggL bias 0 d)) (∀ a o, kn.set G (lo li2 lep2) a = some o → K a = some o))
            ⟨li ++ (ys ++ [.int ((d - lwr bias k) / wor bias k) tq]), lep2, by rw [← hfig]; exact ia_app hli (ia_app hF (ia_one _ _)), fun a o e => ?_⟩ ?_
          · by_cases q : a = G
            · subst q; rw [Kn.set_self] at e ⊢; exact e
            · rw [Kn.set_ne q] at e ⊢
              exact Kn.new ha2 _ _ (Kn.new ha1 _ _ (Kn.new hD _ _ (hup _ _ (by rw [Kn.set_ne q]; exact e))))
          rintro K2 ⟨li2, lep2, hli2, hup2⟩
          have hi1 : (1 : Int) ≤ n + i + 1 := by (first | lia | omega)
          have hi2 : n + i + 1 ≤ 100000 := by (first | lia | omega)
          have hdamp : 0 < (if i = 0 then (700 : Int) else 2) ∧ (if i = 0 then (700 : Int) else 2) < 1073741824 := by split <;> (first | lia | omega)
          repeat (walk_at "s")
          refine i_fdiv hdamp.1 hdamp.2 ?_; intro _
          repeat (walk_at "s")
          refine i_fdiv hdamp.1 hdamp.2 ?_; intro _
          repeat (walk_at "s")
          refine i_fdiv (by (first | lia | omega)) (by (first | lia | omega)) ?_; intro _
          repeat (walk_at "s")
          have hd1 : d / (if i = 0 then (700 : Int) else 2) = if (i == 0) = true then d / 700 else d / 2 := by
            by_cases q : i = 0 <;> simp [q]
          have had : adF d (i == 0) (n + i + 1) = (adL (d / (if i = 0 then (700 : Int) else 2) + d / (if i = 0 then (700 : Int) else 2) / (n + i + 1)) 0).2 + 36 * (adL (d / (if i = 0 then (700 : Int) else 2) + d / (if i = 0 then (700 : Int) else 2) / (n + i + 1)) 0).1 / ((adL (d / (if i = 0 then (700 : Int) else 2) + d / (if i = 0 then (700 : Int) else 2) / (n + i + 1)) 0).1 + 38) := by
            rw [hd1]; rfl
          have hs0 : 0 ≤ d / (if i = 0 then (700 : Int) else 2) + d / (if i = 0 then (700 : Int) else 2) / (n + i + 1) := by
            have h1 : 0 ≤ d / (if i = 0 then (700 : Int) else 2) := Int.ediv_nonneg hdd.1 (by (first | lia | omega))
            have h2 := Int.ediv_nonneg h1 (show 0 ≤ n + i + 1 by (first | lia | omega))
            (first | lia | omega)
          generalize hsz : d / (if i = 0 then (700 : Int) else 2) + d / (if i = 0 then (700 : Int) else 2) / (n + i + 1) = sz at *
          refine x_while (fun m kn'' frs'' => An2 (K2 = kn'') (Ex8 fun (s b : Int) (t1 t2 t4 t5 t6 t7 : Tok) => An4 (m = s.toNat) (0 ≤ s) (adL s b = adL sz 0) (frs'' = ⟨L, [("low", L + 2), ("gap", L + 1)], [("count", .int (n + i + 1) t4), ("gaps", .ref l), ("letters", .ref G), ("bias", .int b t1), ("damp", .int 2 t5), ("gap", .int d tdd), ("low", .int (lwr bias k) t6), ("worth", .int (wor bias k) t7), ("front", .ref W), ("mark", .int (Tf k bias) t3), ("size", .int s t2)]⟩ :: frs))) sz.toNat
            ⟨rfl, sz, 0, _, _, _, _, _, _, rfl, hs0, rfl, rfl⟩ ?_
          · rintro m _ _ Kc hKc ⟨rfl, s, b, u1, u2, u4, u5, u6, u7, rfl, hs, hadl, rfl⟩
            repeat (walk_at "s")
            refine if_dec (fun hc => ?_) (fun hc => ?_)
            · repeat (walk_at "s")
              refine hKc (s / 35).toNat _ _ (by (first | lia | omega)) (.of ?_)
              refine ⟨rfl, s / 35, b + 36, _, _, _, _, _, _, rfl, by (first | lia | omega), ?_, rfl⟩
              rw [← hadl, adL_eq s b, if_pos hc]
            · rw [adL_eq, if_neg hc] at hadl
              rw [← hadl] at had
              have hbe := bias_eq s hs
              repeat (walk_at "s")
              refine i_fdiv (by (first | lia | omega)) (by (first | lia | omega)) ?_; intro _
              repeat (walk_at "s")
              have hbias : b + 36 - (s + 1405) / (s + 38) = adF d (i == 0) (n + i + 1) := by rw [had]; simp only []; (first | lia | omega)
              rw [hbias]
              rename_i tz
              refine hKa _ _ ?_
              refine ⟨kn.set G (lo li2 lep2), _, hup2, .top (vs := [("count", .int (n + i + 1) u4), ("gaps", .ref l), ("letters", .ref G), ("bias", .int (adF d (i == 0) (n + i + 1)) tz), ("damp", .int 2 u5)]) (by walk_at "sub"), li2, lep2, ls ++ ggL bias 0 d, adF d (i == 0) (n + i + 1), tz, u4, u5, rfl, ?_, hli2, ?_⟩
              · rw [show n + ((i + 1 : Nat) : Int) = n + i + 1 by (first | lia | omega), if_neg (by (first | lia | omega))]
              · rw [← hb]; simp
  · rintro _ _ ⟨li, lep, ls, bias, tb, tc, td, rfl, rfl, hli, hb⟩
    rw [hi.length, List.drop_length, giF, List.append_nil] at hb
    subst hb
    repeat (walk_at "s")
    refine e_lcp (cl := []) ?_ (by rfl) (by decide +kernel) (by rfl) (by decide +kernel) (by intro _; rfl)
    repeat (walk_at "s")
    have hll := hli.length
    have hrng := giF_rng n ds 0 72 hd64
    refine ⟨li.length, _, _, fun j ys => IntsAre ys (((giF n ds 0 72).take j).map (fun f => if f < 26 then 97 + f else 22 + f)), by (first | lia | omega), src_list (hA.deep (env := _)).handled G li, ⟨lep, .inl Kn.set_self⟩, .nil, ?_, ?_⟩
    · rintro j ys v P'' C hle' hj hv' hF
      obtain ⟨f, tf, rfl, hfj⟩ := ia_at hli j v hv'
      have htk : (giF n ds 0 72).take (j + 1) = (giF n ds 0 72).take j ++ [f] := by rw [List.take_add_one, hfj]; rfl
      repeat (walk_at "s")
      refine if_dec (fun hc => ?_) (fun hc => ?_)
      · repeat (walk_at "s")
        exact ⟨by show IntsAre _ _; rw [htk, List.map_append, List.map_singleton, if_pos hc]; exact ia_app hF (ia_one _ _), .eq⟩
      · repeat (walk_at "s")
        exact ⟨by show IntsAre _ _; rw [htk, List.map_append, List.map_singleton, if_neg hc]; exact ia_app hF (ia_one _ _), .eq⟩
    · intro ys D ep' hF hD hyl
      rw [hll, List.take_length] at hF
      repeat (walk_at "s")
      refine k_bytesl (hA.deep (env := _)).handled (.inl Kn.set_self) hF (fun x hx => ?_) (by (first | lia | omega)) fun t4 => ?_
      · obtain ⟨f, hf, rfl⟩ := List.mem_map.mp hx
        have := hrng f hf
        split <;> (first | lia | omega)
      · repeat (walk_at "s")
        rw [List.map_map]
        exact ⟨kn, fun a o e => Kn.new hD _ _ (Kn.new hG _ _ e), h _⟩
end
/-! # part F11 -/
section
open PySem PySem.W PyProof.Rows Builtin.ObjectAttr
theorem wt_made (C : Addr) (args : List Value) : (Code.builtin "type.__call__" ⟨.ref C :: args, []⟩).weight = 1 := rfl
theorem un_made (C : Addr) (args : List Value) : (Code.builtin "type.__call__" ⟨.ref C :: args, []⟩).cUnits ≤ 10 := Nat.le_of_ble_eq_true rfl
theorem Rm.made {n : Nat} {A : Around} {C : Addr} {args : List Value} (h : Rm (n + 1) A) : Rm n (A.under (.builtin "type.__call__" ⟨.ref C :: args, []⟩)) := by
  have h1 := h.depth; have h2 := h.units; have h3 := h.handled
  refine ⟨?_, ?_, ?_⟩
  · show A.depth + _ + n < _
    rw [wt_made]; (first | lia | omega)
  · show A.units + _ + 10 * n < _
    have := un_made C args
    (first | lia | omega)
  · exact h3
section
variable {P : Pk} {A : Around} {kn : Kn} {frs : List Fm} {Q : Value → Kn → List Fm → Prop} {x dx : Addr}
/-! ### a node's record -/
theorem ni_set {Q : Unit → Kn → List Fm → Prop} {name : Str} {p i : Nat} {ox : Obj} {v : Value} (ox' : Obj) (hx : kn x = some ox) (hd : kn dx = some emptyDict) (ho : ox.cls = .ref 89 ∧ notCls ox = true ∧ ox.dict = some dx ∧ ox.isFreed = false) (ht : takerIn (KK P.w.params) 89 name = some (some (.ref p)))
    (hT : typeIn (KK P.w.params) (.ref p) = some (.type "member_descriptor")) (hp : slotIn (KK P.w.params) p 89 = some i) (hi : i < 1000)
    (he : { ox with slots := (ox.slots ++ Array.replicate (i + 1 - ox.slots.size) none).setIfInBounds i (some v) } = ox') (hq : Q () (kn.set x ox') frs) : WP P A (setAttr (.ref x) name v) Q kn frs :=
  s_slot (C := 89) hx hd ho.1 ho.2.1 ho.2.2.1 (by kernel_rfl) (by kernel_rfl) ht hT hp hi ho.2.2.2 (by rw [he]; exact hq)
theorem ni_set1 {Q : Unit → Kn → List Fm → Prop} {nd np sc v : Value} (hx : kn x = some (nio dx nd np sc)) (hd : kn dx = some emptyDict) (hq : Q () (kn.set x (nio dx nd v sc)) frs) : WP P A (setAttr (.ref x) "npredecessors" v) Q kn frs :=
  ni_set (nio dx nd v sc) (p := 91) (i := 1) hx hd ⟨rfl, rfl, rfl, rfl⟩ (by kernel_rfl) (by kernel_rfl) (by kernel_rfl) (by decide) (by kernel_rfl) hq
theorem ni_get {name : Str} {p i : Nat} {nd np sc v : Value} (hx : kn x = some (nio dx nd np sc)) (hd : kn dx = some emptyDict) (hf : findObj (KK P.w.params) 89 (some emptyDict) name = some (.bind (.builtin "member_descriptor.__get__") (.ref p))) (hp : slotIn (KK P.w.params) p 89 = some i)
    (hv : ((nio dx nd np sc).slots[i]?).join = some v) (hh : handedIn v = true) (hq : Q v kn frs) : WP P A (getAttr (.ref x) name true) Q kn frs :=
  g_slot (C := 89) hx hd rfl rfl rfl (by kernel_rfl) (by kernel_rfl) hf hp hv hh hq
theorem ni_node {nd np sc : Value} (hx : kn x = some (nio dx nd np sc)) (hd : kn dx = some emptyDict) (hh : handedIn nd = true) (hq : Q nd kn frs) : WP P A (getAttr (.ref x) "node" true) Q kn frs := ni_get (p := 90) (i := 0) hx hd (by kernel_rfl) (by kernel_rfl) rfl hh hq
theorem ni_np {nd np sc : Value} (hx : kn x = some (nio dx nd np sc)) (hd : kn dx = some emptyDict) (hh : handedIn np = true) (hq : Q np kn frs) : WP P A (getAttr (.ref x) "npredecessors" true) Q kn frs := ni_get (p := 91) (i := 1) hx hd (by kernel_rfl) (by kernel_rfl) rfl hh hq
theorem ni_succ {nd np sc : Value} (hx : kn x = some (nio dx nd np sc)) (hd : kn dx = some emptyDict) (hh : handedIn sc = true) (hq : Q sc kn frs) : WP P A (getAttr (.ref x) "successors" true) Q kn frs := ni_get (p := 92) (i := 2) hx hd (by kernel_rfl) (by kernel_rfl) rfl hh hq
theorem ni_init (hA : Rm 1 A) {nd : Value} (hx : kn x = some (instObj 89 dx)) (hd : kn dx = some emptyDict) (hxd : x ≠ dx)
    (h : ∀ sl t kn', kn sl = none → kn' x = some (nio dx nd (.int 0 t) (.ref sl)) → kn' sl = some (lo [] 0) → (∀ a o, a ≠ x → kn a = some o → kn' a = some o) → Q .none kn' frs) : CP P A (.call (.ref 85) ⟨[.ref x, nd], []⟩) Q kn frs := by
  refine c_posC [("self", .ref x), ("node", nd)] (fun _ => []) hA (by rfl) (by kernel_rfl) (by kernel_rfl) (by kernel_rfl) (fun _ => by kernel_rfl) (fun L => ?_) (by kernel_rfl) (by kernel_rfl) (by kernel_rfl)
  refine x_cons ?_
  repeat (walk_at "s")
  refine ni_set ⟨.ref 89, some dx, .plain, #[some nd]⟩ (p := 90) (i := 0) hx hd ⟨rfl, rfl, rfl, rfl⟩ (by kernel_rfl) (by kernel_rfl) (by kernel_rfl) (by decide) (by kernel_rfl) ?_
  repeat (walk_at "s")
  rename_i tz
  refine ni_set ⟨.ref 89, some dx, .plain, #[some nd, some (.int 0 tz)]⟩ (p := 91) (i := 1) (dx := dx) Kn.set_self (by rw [Kn.set_ne (Ne.symm hxd)]; exact hd) ⟨rfl, rfl, rfl, rfl⟩ (by kernel_rfl) (by kernel_rfl) (by kernel_rfl) (by decide) (by kernel_rfl) ?_
  rw [Kn.set_set]
  repeat (walk_at "s")
  refine n_list (fun sl hsl => ?_)
  have hslx : sl ≠ x := fun e => by rw [e, Kn.set_self] at hsl; cases hsl
  have hsl' : kn sl = none := Kn.none_of_set hsl
  repeat (walk_at "s")
  refine ni_set (nio dx nd (.int 0 tz) (.ref sl)) (p := 92) (i := 2) (dx := dx) (by rw [Kn.set_ne (Ne.symm hslx)]; exact Kn.set_self) (by rw [Kn.set_ne (Kn.ne_of hd hsl'), Kn.set_ne (Ne.symm hxd)]; exact hd) ⟨rfl, rfl, rfl, rfl⟩ (by kernel_rfl) (by kernel_rfl) (by kernel_rfl) (by decide) (by kernel_rfl) ?_
  repeat (walk_at "s")
  exact h sl tz _ hsl' Kn.set_self (by rw [Kn.set_ne hslx]; exact Kn.set_self) fun a o ha e => by rw [Kn.set_ne ha, Kn.set_ne (Kn.ne_of e hsl'), Kn.set_ne ha]; exact e
theorem ni_make (hA : Rm 2 A) {k : Int} {t : Tok} (h : ∀ (y : NA) kn', NiAt kn' y ⟨k, 0, []⟩ → (∀ c ∈ y.all, kn c = none) → (∀ a o, kn a = some o → kn' a = some o) → Q (.ref y.a) kn' frs) : WP P A (call (.ref 89) [.int k t]) Q kn frs := by
  refine c_make (fI := 85) (by kernel_rfl) (by kernel_rfl) (by kernel_rfl) fun x dx hxd hx hd => ?_
  refine ni_init hA.made Kn.set_self (by rw [Kn.set_ne (Ne.symm hxd)]; exact Kn.set_self) hxd fun sl t kn' hsl h1 h2 h3 => ⟨rfl, ?_⟩
  have hslx : sl ≠ x := fun e => by rw [e, Kn.set_self] at hsl; cases hsl
  have hsld : sl ≠ dx := fun e => by rw [e, Kn.set_ne (Ne.symm hxd), Kn.set_self] at hsl; cases hsl
  refine h ⟨x, dx, sl⟩ kn' ⟨_, t, [], 0, h1, h3 _ _ (Ne.symm hxd) (by rw [Kn.set_ne (Ne.symm hxd)]; exact Kn.set_self), h2, .nil⟩ (fun c hc => ?_) fun a o e => ?_
  · simp only [NA.all, List.mem_cons, List.not_mem_nil, or_false] at hc
    rcases hc with rfl | rfl | rfl
    · exact hx
    · exact hd
    · rw [Kn.set_ne hslx, Kn.set_ne hsld] at hsl; exact hsl
  · exact h3 a o (Kn.ne_of e hx) (by rw [Kn.set_ne (Kn.ne_of e hx), Kn.set_ne (Kn.ne_of e hd)]; exact e)
/-! ### calls whose arguments are bound by the ground, or by a star -/
theorem c_peekC {name qual : Str} {params : Arguments} {body : List Stmt} {scope : Scope} {dV kV doc pm cdv ct oc : Value} {an od : Option Addr} {osl : Array (Option Value)} {f : Addr} {args : List Value}
    (binds : List (Str × Value)) (cs : Addr → List (Str × Addr)) {n : Nat} (hA : Rm n A) (ho : (KK P.w.params).lookup f = some ⟨oc, od, .func (fnOf name qual params body scope dV kV doc pm an cdv ct), osl⟩) (hcd : codeIn (KK P.w.params) cdv qual = true)
    (hb : peek (KK P.w.params) ⟨prg, P.w.params⟩ (bindArgs (fnOf name qual params body scope dV kV doc pm an cdv ct) ⟨args, []⟩) = some binds) (hok : BindOk scope binds = true) (hcs : ∀ L, cellsFrom (L + 1) scope.names [] = cs L)
    (H : ∀ L, WP P (A.deeper (envX qual scope L f cdv (cs L))) (execs body (envX qual scope L f cdv (cs L))) (Back Q) kn (⟨L, cs L, binds⟩ :: frs))
    (hco : scope.isCoroutine = false) (hgen : scope.isGenerator = false) (hk : scope.kind = .function) : CP P A (.call (.ref f) ⟨args, []⟩) Q kn frs :=
  c_defC (args := ⟨args, []⟩) (Nat.lt_of_le_of_lt (Nat.le_add_right _ _) hA.depth) ho hcd (fun h k hs => wx ((Looks.of_peek (M := model prg P.w) hs.K hb).here ⟨_, _, _, _, rfl, hs, hok, fun L => by rw [hcs L]; exact H L⟩)) hco hgen hk
theorem c_star {name qual : Str} {params : Arguments} {body : List Stmt} {scope : Scope} {dV kV doc pm cdv ct oc : Value} {an od : Option Addr} {osl : Array (Option Value)} {f : Addr} {args vs : List Value}
    (binds : Value → List (Str × Value)) {n : Nat} (hA : Rm n A) (ho : (KK P.w.params).lookup f = some ⟨oc, od, .func (fnOf name qual params body scope dV kV doc pm an cdv ct), osl⟩) (hcd : codeIn (KK P.w.params) cdv qual = true)
    (hb : bindArgs (fnOf name qual params body scope dV kV doc pm an cdv ct) ⟨args, []⟩ = (newTuple vs >>= fun t => pure (binds t))) (hz : vs.length ≤ 1000) (hok : ∀ t, BindOk scope (binds t) = true) (hcs : ∀ L, cellsFrom (L + 1) scope.names [] = [])
    (H : ∀ L T, kn T = none → WP P (A.deeper (envX qual scope L f cdv [])) (execs body (envX qual scope L f cdv [])) (Back Q) (kn.set T (to vs)) (⟨L, [], binds (.ref T)⟩ :: frs))
    (hco : scope.isCoroutine = false) (hgen : scope.isGenerator = false) (hk : scope.kind = .function) : CP P A (.call (.ref f) ⟨args, []⟩) Q kn frs :=
  c_defC (args := ⟨args, []⟩) (Nat.lt_of_le_of_lt (Nat.le_add_right _ _) hA.depth) ho hcd (by
    rw [hb]
    refine WP.bind (n_tuple (fun T hT => WP.ret ⟨hok _, fun L => by rw [hcs L]; exact H L T hT⟩) (by rw [sizeLine_eq]; (first | lia | omega)))) hco hgen hk
/-! ### the sorter -/
theorem ts_set {Q : Unit → Kn → List Fm → Prop} {name : Str} {od : Obj} {v : Value} (od' : Tok → Obj) (hx : kn x = some (instObj 186 dx)) (hd : kn dx = some od) (ht : takerIn (KK P.w.params) 186 name = some none) (hl : (lookIn name od).isSome = true)
    (he : ∀ t, Obj.putName name (PyData.keyHash P.w.params name) (.str name t) v od = od' t) (hz : ∀ t, ∃ es n, (od' t).data = .dict es n ∧ es.size ≤ 1000) (hq : ∀ t, Q () (kn.set dx (od' t)) frs) : WP P A (setAttr (.ref x) name v) Q kn frs :=
  s_own (C := 186) hx hd rfl rfl rfl (by kernel_rfl) (by kernel_rfl) ht (by kernel_rfl) hl (fun t => by rw [he]; exact hz t) (fun t => by rw [he]; exact hq t)
theorem ts_get {name : Str} {od : Obj} {v : Value} (hx : kn x = some (instObj 186 dx)) (hd : kn dx = some od) (hl : lookIn name od = some (some v)) (hf : findIn (KK P.w.params) (.ref 186) name = some none) (hv : handedIn v = true) (hq : Q v kn frs) : WP P A (getAttr (.ref x) name true) Q kn frs :=
  g_own (C := 186) hx hd rfl rfl rfl (by kernel_rfl) (by rfl) (by rfl) hf hl hv hq
theorem ts_meth {name : Str} {od : Obj} {f : Addr} {pl : Sem Bool} {Q : Value × List Value → Kn → List Fm → Prop} (hx : kn x = some (instObj 186 dx)) (hd : kn dx = some od) (hl : lookIn name od = some none) (hf : findIn (KK P.w.params) (.ref 186) name = some (some (.ref f)))
    (ht : typeIn (KK P.w.params) (.ref f) = some (.type "function")) (hq : Q (.ref f, [.ref x]) kn frs) : WP P A (getMethod (.ref x) name pl) Q kn frs :=
  m_fn (C := 186) hx hd rfl rfl rfl (by kernel_rfl) (by kernel_rfl) hf ht hl hq
theorem ts_init (hA : Rm 1 A) (hx : kn x = some (instObj 186 dx)) (hd : kn dx = some emptyDict) (hxd : x ≠ dx)
    (h : ∀ d od t3 t4 kn', kn d = none → (d == sysModules) = false → SD od (.ref d) .none (.int 0 t3) (.int 0 t4) → kn' dx = some od → kn' d = some emptyDict → (∀ a o, a ≠ dx → kn a = some o → kn' a = some o) → Q .none kn' frs) : CP P A (.call (.ref 122) ⟨[.ref x], []⟩) Q kn frs := by
  refine c_peekC [("self", .ref x), ("graph", .none)] (fun _ => []) hA (by rfl) (by kernel_rfl) (by kernel_rfl) (by kernel_rfl) (fun _ => by kernel_rfl) (fun L => ?_) (by kernel_rfl) (by kernel_rfl) (by kernel_rfl)
  refine x_cons ?_
  repeat (walk_at "s")
  refine e_dict0 fun d hdn hdm => ?_
  have hdx : d ≠ dx := fun e => by rw [e, hd] at hdn; cases hdn
  have hdxx : d ≠ x := fun e => by rw [e, hx] at hdn; cases hdn
  repeat (walk_at "s")
  refine ts_set (fun t => { cls := .type "dict", data := .dict #[kv P.w.params "_node2info" t (.ref d)] 1 }) (Kn.new hdn _ _ hx) (Kn.new hdn _ _ hd) (by kernel_rfl) (by kernel_rfl) (fun t => by kernel_rfl) (fun t => ⟨_, _, rfl, Nat.le_of_ble_eq_true rfl⟩) fun t1 => ?_
  repeat (walk_at "s")
  refine ts_set (fun t => { cls := .type "dict", data := .dict #[kv P.w.params "_node2info" t1 (.ref d), kv P.w.params "_ready_nodes" t .none] 2 }) (by rw [Kn.set_ne hxd]; exact Kn.new hdn _ _ hx) Kn.set_self (by kernel_rfl) (by kernel_rfl) (fun t => by kernel_rfl) (fun t => ⟨_, _, rfl, Nat.le_of_ble_eq_true rfl⟩) fun t2 => ?_
  rw [Kn.set_set]
  repeat (walk_at "s")
  rename_i t3
  refine ts_set (fun t => { cls := .type "dict", data := .dict #[kv P.w.params "_node2info" t1 (.ref d), kv P.w.params "_ready_nodes" t2 .none, kv P.w.params "_npassedout" t (.int 0 t3)] 3 }) (by rw [Kn.set_ne hxd]; exact Kn.new hdn _ _ hx) Kn.set_self (by kernel_rfl) (by kernel_rfl) (fun t => by kernel_rfl) (fun t => ⟨_, _, rfl, Nat.le_of_ble_eq_true rfl⟩) fun t4 => ?_
  rw [Kn.set_set]
  repeat (walk_at "s")
  rename_i t5
  refine ts_set (fun t => sod P.w.params 4 t1 t2 t4 t (.ref d) .none (.int 0 t3) (.int 0 t5)) (by rw [Kn.set_ne hxd]; exact Kn.new hdn _ _ hx) Kn.set_self (by kernel_rfl) (by kernel_rfl) (fun t => by kernel_rfl) (fun t => ⟨_, _, rfl, Nat.le_of_ble_eq_true rfl⟩) fun t6 => ?_
  rw [Kn.set_set]
  repeat (walk_at "s")
  refine k_isnot (by rfl) ?_
  repeat (walk_at "s")
  refine if_ff ?_
  repeat (walk_at "s")
  exact h d _ t3 t5 _ hdn hdm ⟨_, _, _, _, _, _, rfl⟩ Kn.set_self (by rw [Kn.set_ne hdx]; exact Kn.set_self) fun a o ha e => by rw [Kn.set_ne ha]; exact Kn.new hdn _ _ e
end
end
/-! # part F12 -/
section
open PySem PySem.W PyProof.Rows Builtin.ObjectAttr
structure Srt (kn : Kn) (x dx d : Addr) (as : List NA) (gs : List NI) (rv : Value) (po nf : Int) : Prop where
  ox : kn x = some (instObj 186 dx)
  od : Ex3 fun o t u => An2 (kn dx = some o) (SD o (.ref d) rv (.int po t) (.int nf u))
  dm : (d == sysModules) = false
  dd : ∃ o, An2 (kn d = some o) (IntD o (tab as gs))
  ns : Nds kn as gs
  far : ¬ Own as x ∧ ¬ Own as dx ∧ ¬ Own as d
  apart : x ≠ dx ∧ x ≠ d ∧ dx ≠ d
/-- the places that are the sorter's -/
noncomputable def Mineof (x dx d : Addr) (as : List NA) (c : Addr) : Prop := c = x ∨ c = dx ∨ c = d ∨ Own as c
section
variable {P : Pk} {A : Around} {kn kn' : Kn} {frs : List Fm} {Q : Value → Kn → List Fm → Prop} {x dx d : Addr} {as : List NA} {gs : List NI} {rv : Value} {po nf : Int}
theorem Srt.keep (h : Srt kn x dx d as gs rv po nf) (hk : ∀ c, Mineof x dx d as c → ∀ o, kn c = some o → kn' c = some o) : Srt kn' x dx d as gs rv po nf := by
  obtain ⟨o, t, u, h1, h2⟩ := h.od
  obtain ⟨o', h3, h4⟩ := h.dd
  exact ⟨hk _ (.inl rfl) _ h.ox, ⟨o, t, u, hk _ (.inr (.inl rfl)) _ h1, h2⟩, h.dm, ⟨o', hk _ (.inr (.inr (.inl rfl))) _ h3, h4⟩, h.ns.le fun c hc o e => hk c (.inr (.inr (.inr hc))) o e, h.far, h.apart⟩
theorem Srt.sup (h : Srt kn x dx d as gs rv po nf) (hk : ∀ c o, kn c = some o → kn' c = some o) : Srt kn' x dx d as gs rv po nf := h.keep fun c _ o e => hk c o e
theorem Srt.known (h : Srt kn x dx d as gs rv po nf) {c : Addr} (hc : Mineof x dx d as c) : ∃ o, kn c = some o := by
  rcases hc with rfl | rfl | rfl | hc
  · exact ⟨_, h.ox⟩
  · obtain ⟨o, t, u, h1, h2⟩ := h.od; exact ⟨o, h1⟩
  · obtain ⟨o, h1, h2⟩ := h.dd; exact ⟨o, h1⟩
  · exact h.ns.known hc
theorem Srt.off {b : Addr} {o : Obj} (h : Srt kn x dx d as gs rv po nf) (hb : ¬ Mineof x dx d as b) : Srt (kn.set b o) x dx d as gs rv po nf := h.keep fun c hc ox e => by
  rw [Kn.set_ne (show c ≠ b from fun q => hb (q ▸ hc))]; exact e
/-- a place of a node's record is turned -/
theorem Srt.turn {i : Nat} {a : NA} {g g' : NI} {b : Addr} {o : Obj} (h : Srt kn x dx d as gs rv po nf) (ha : as[i]? = some a) (hg : gs[i]? = some g) (hn : g'.node = g.node) (hb : b ∈ a.all) (hni : NiAt (kn.set b o) a g') : Srt (kn.set b o) x dx d as (gs.set i g') rv po nf := by
  have hown : Own as b := ⟨i, a, ha, hb⟩
  obtain ⟨o1, t, u, h1, h2⟩ := h.od
  obtain ⟨o2, h3, h4⟩ := h.dd
  have e1 : x ≠ b := fun e => h.far.1 (e ▸ hown)
  have e2 : dx ≠ b := fun e => h.far.2.1 (e ▸ hown)
  have e3 : d ≠ b := fun e => h.far.2.2 (e ▸ hown)
  exact ⟨by rw [Kn.set_ne e1]; exact h.ox, ⟨o1, t, u, by rw [Kn.set_ne e2]; exact h1, h2⟩, h.dm, ⟨o2, by rw [Kn.set_ne e3]; exact h3, by rw [tab_set hg hn]; exact h4⟩, h.ns.upd ha hb hni, h.far, h.apart⟩
/-- the count of predecessors -/
theorem Srt.np {i : Nat} {a : NA} {g : NI} {v : Int} {t0 u0 : Tok} {u : Tok} (h : Srt kn x dx d as gs rv po nf) (ha : as[i]? = some a) (hg : gs[i]? = some g) (hx : kn a.a = some (nio a.dx (.int g.node t0) (.int g.np u0) (.ref a.sl))) :
    Srt (kn.set a.a (nio a.dx (.int g.node t0) (.int v u) (.ref a.sl))) x dx d as (gs.set i { g with np := v }) rv po nf := by
  have hni := h.ns.at_ i a g ha hg
  have hne := hni.ne
  obtain ⟨t, w, items, ep, h1, h2, h3, h4⟩ := hni
  exact h.turn ha hg rfl (by simp [NA.all]) ⟨t0, u, items, ep, Kn.set_self, by rw [Kn.set_ne (Ne.symm hne.1)]; exact h2, by rw [Kn.set_ne (Ne.symm hne.2.1)]; exact h3, h4⟩
/-- the list of successors -/
theorem Srt.sc {i : Nat} {a : NA} {g : NI} {items : List Value} {ep : Nat} {s : List Int} (h : Srt kn x dx d as gs rv po nf) (ha : as[i]? = some a) (hg : gs[i]? = some g) (hi : IntsAre items s) :
    Srt (kn.set a.sl (lo items ep)) x dx d as (gs.set i { g with succ := s }) rv po nf := by
  have hni := h.ns.at_ i a g ha hg
  have hne := hni.ne
  obtain ⟨t, w, items', ep', h1, h2, h3, h4⟩ := hni
  exact h.turn ha hg rfl (by simp [NA.all]) ⟨t, w, items, ep, by rw [Kn.set_ne hne.2.1]; exact h1, by rw [Kn.set_ne hne.2.2]; exact h2, Kn.set_self, hi⟩
/-- the sorter's own names -/
theorem Srt.names {od' : Obj} {rv' : Value} {po' nf' : Int} {t u : Tok} (h : Srt kn x dx d as gs rv po nf) (hs : SD od' (.ref d) rv' (.int po' t) (.int nf' u)) : Srt (kn.set dx od') x dx d as gs rv' po' nf' := by
  obtain ⟨o2, h3, h4⟩ := h.dd
  exact ⟨by rw [Kn.set_ne h.apart.1]; exact h.ox, ⟨od', t, u, Kn.set_self, hs⟩, h.dm, ⟨o2, by rw [Kn.set_ne (Ne.symm h.apart.2.2)]; exact h3, h4⟩, h.ns.off h.far.2.1, h.far, h.apart⟩
theorem Srt.val (h : Srt kn x dx d as gs rv po nf) {i : Nat} {a : NA} {g : NI} (ha : as[i]? = some a) (hg : gs[i]? = some g) (hn : (gs.map (·.node)).Nodup) : valueAt (tab as gs) g.node = some (.ref a.a) :=
  valueAt_of_get (by rw [tab_keys h.ns]; exact hn) (tab_get ha hg)
theorem Srt.nodup (h : Srt kn x dx d as gs rv po nf) (w : World) : (gs.map (·.node)).Nodup := by
  obtain ⟨o2, h3, h4⟩ := h.dd
  rw [← tab_keys h.ns]; exact h4.nodup w
/-! ### _get_nodeinfo -/
theorem gn_old (hA : Rm 1 A) (h : Srt kn x dx d as gs rv po nf) {i : Nat} {a : NA} {g : NI} {t : Tok} (ha : as[i]? = some a) (hg : gs[i]? = some g) (hq : Q (.ref a.a) kn frs) : WP P A (call (.ref 129) [.ref x, .int g.node t]) Q kn frs := by
  obtain ⟨o, u1, u2, hod, hsd⟩ := h.od
  obtain ⟨o2, hd2, hint⟩ := h.dd
  have hv := h.val ha hg (h.nodup P.w)
  refine c_pos [("self", .ref x), ("node", .int g.node t)] (fun _ => []) hA (by rfl) (by kernel_rfl) (by kernel_rfl) (by kernel_rfl) (fun _ => by kernel_rfl) (fun L => ?_) (by kernel_rfl) (by kernel_rfl) (by kernel_rfl)
  refine x_cons ?_
  repeat (walk_at "s")
  refine ts_get h.ox hod hsd.g1 (by kernel_rfl) rfl ?_
  refine m_dget (.inl hd2) hint ?_
  repeat (walk_at "s")
  refine k_dget (.inl hd2) hint h.dm ?_
  rw [hv]
  repeat (walk_at "s")
  refine k_is (by rfl) ?_
  repeat (walk_at "s")
  refine if_ff ?_
  repeat (walk_at "s")
  exact hq
theorem gn_new (hA : Rm 3 A) (h : Srt kn x dx d as gs rv po nf) {k : Int} {t : Tok} (hk : k ∉ gs.map (·.node)) (hz : gs.length ≤ 500)
    (hq : ∀ (y : NA) kn', Srt kn' x dx d (as ++ [y]) (gs ++ [⟨k, 0, []⟩]) rv po nf → (∀ c ∈ y.all, kn c = none) → (∀ a o, a ≠ d → kn a = some o → kn' a = some o) → Q (.ref y.a) kn' frs) : WP P A (call (.ref 129) [.ref x, .int k t]) Q kn frs := by
  obtain ⟨o, u1, u2, hod, hsd⟩ := h.od
  obtain ⟨o2, hd2, hint⟩ := h.dd
  have hv : valueAt (tab as gs) k = none := by
    unfold valueAt
    rw [List.find?_eq_none.mpr, Option.map_none]
    intro p hp
    simp only [decide_eq_true_eq]
    intro e
    exact hk (by rw [← tab_keys h.ns, ← e]; exact List.mem_map_of_mem (f := (·.1)) hp)
  refine c_pos [("self", .ref x), ("node", .int k t)] (fun _ => []) hA (by rfl) (by kernel_rfl) (by kernel_rfl) (by kernel_rfl) (fun _ => by kernel_rfl) (fun L => ?_) (by kernel_rfl) (by kernel_rfl) (by kernel_rfl)
  refine x_cons ?_
  repeat (walk_at "s")
  refine ts_get h.ox hod hsd.g1 (by kernel_rfl) rfl ?_
  refine m_dget (.inl hd2) hint ?_
  repeat (walk_at "s")
  refine k_dget (.inl hd2) hint h.dm ?_
  rw [hv]
  repeat (walk_at "s")
  refine k_is (by rfl) ?_
  repeat (walk_at "s")
  refine if_tt ?_
  repeat (walk_at "s")
  refine ni_make (hA.deep.le (by decide)) fun y kn' hy hfr hup => ?_
  have h' := h.sup hup
  repeat (walk_at "s")
  refine ts_get h'.ox (hup _ _ hod) hsd.g1 (by kernel_rfl) rfl ?_
  repeat (walk_at "s")
  refine k_dset (hup _ _ hd2) hint (by rw [tab_len h.ns]; (first | lia | omega)) fun o3 hint3 => ?_
  repeat (walk_at "s")
  have hyk : ∀ c ∈ y.all, ¬ Mineof x dx d as c := fun c hc hm => by
    obtain ⟨ob, e⟩ := h.known hm
    rw [hfr c hc] at e; cases e
  have hst : stored (tab as gs) k (.ref y.a) = tab (as ++ [y]) (gs ++ [⟨k, 0, []⟩]) := by
    rw [tab_snoc h.ns]
    unfold stored
    rw [if_neg]
    intro e
    rw [List.any_eq_true] at e
    obtain ⟨p, hp, he⟩ := e
    exact hk (by rw [← tab_keys h.ns, ← of_decide_eq_true he]; exact List.mem_map_of_mem (f := (·.1)) hp)
  rw [hst] at hint3
  have hyd : ∀ c ∈ y.all, c ≠ d := fun c hc e => hyk c hc (.inr (.inr (.inl e)))
  refine hq y _ ⟨?_, ⟨o, u1, u2, ?_, hsd⟩, h.dm, ⟨o3, Kn.set_self, hint3⟩, ?_, ?_, h.apart⟩ hfr ?_
  · rw [Kn.set_ne h.apart.2.1]; exact h'.ox
  · rw [Kn.set_ne h.apart.2.2]; exact hup _ _ hod
  · refine ((h'.ns).off h.far.2.2).snoc (hy.le fun c hc ob e => ?_) fun c hc ho => hyk c hc (.inr (.inr (.inr ho)))
    rw [Kn.set_ne (hyd c hc)]; exact e
  · have own : ∀ c, Own (as ++ [y]) c → Own as c ∨ c ∈ y.all := fun c ⟨i, a, ha, hc⟩ => by
      rcases Nat.lt_trichotomy i as.length with q | q | q
      · rw [List.getElem?_append_left q] at ha; exact .inl ⟨i, a, ha, hc⟩
      · subst q; simp at ha; subst ha; exact .inr hc
      · rw [List.getElem?_eq_none (by simp; (first | lia | omega))] at ha; cases ha
    exact ⟨fun z => (own x z).elim h.far.1 fun q => hyk x q (.inl rfl), fun z => (own dx z).elim h.far.2.1 fun q => hyk dx q (.inr (.inl rfl)), fun z => (own d z).elim h.far.2.2 fun q => hyk d q (.inr (.inr (.inl rfl)))⟩
  · intro a ob ha e
    rw [Kn.set_ne ha]; exact hup _ _ e
end
end
/-! # part F13 -/
section
open PySem PySem.W PyProof.Rows Builtin.ObjectAttr
theorem k_tlen {P : Pk} {A : Around} {kn : Kn} {frs : List Fm} {Q : Value → Kn → List Fm → Prop} {l : Addr} {items : List Value} (hl : Kw P kn l (to items)) (hz : items.length ≤ 1000) (h : ∀ t, Q (.int items.length t) kn frs) : WP P A (call (.builtin "len") [.ref l]) Q kn frs := fun _ _ hs =>
  wx (len_tuple (items := items.toArray) ⟨_, hl.get hs, rfl, _, rfl⟩ (by simp; (first | lia | omega)) ⟨_, _, _, _, rfl, hs, by have := h; simp; exact this _⟩)
/-- one predecessor more -/
noncomputable def addS (gs : List NI) (p node : Int) : List NI := gs.map fun g => if g.node = p then { g with succ := g.succ ++ [node] } else g
theorem map_set {gs : List NI} {p : Int} {f : NI → NI} : ∀ {i : Nat} {g : NI}, (gs.map (·.node)).Nodup → gs[i]? = some g → g.node = p → (gs.map fun g => if g.node = p then f g else g) = gs.set i (f g) := by
  induction gs with
  | nil => intro i g _ hg; simp at hg
  | cons a gs ih =>
    intro i g hn hg hp
    rw [List.map_cons, List.nodup_cons] at hn
    cases i with
    | zero =>
      simp at hg; subst hg
      rw [List.map_cons, if_pos hp, List.set_cons_zero]
      congr 1
      conv => rhs; rw [← List.map_id gs]
      refine List.map_congr_left fun b hb => ?_
      rw [if_neg]; rfl
      intro e
      exact hn.1 (by rw [hp, ← e]; exact List.mem_map_of_mem hb)
    | succ i =>
      have hg' : gs[i]? = some g := by simpa using hg
      rw [List.map_cons, if_neg, List.set_cons_succ, ih hn.2 hg' hp]
      intro e
      exact hn.1 (by rw [e, ← hp]; exact List.mem_map_of_mem (List.mem_of_getElem? hg'))
theorem addS_nodes (gs : List NI) (p node : Int) : (addS gs p node).map (·.node) = gs.map (·.node) := by
  unfold addS; rw [List.map_map]; refine List.map_congr_left fun g _ => ?_
  show (if g.node = p then _ else g).node = g.node; split <;> rfl
noncomputable def addG (gs : List NI) (node : Int) (ps : List Int) : List NI := ps.foldl (fun gs p => addS gs p node) (gs ++ [⟨node, ps.length, []⟩])
theorem mem_get {gs : List NI} {p : Int} (h : p ∈ gs.map (·.node)) : Ex2 fun (i : Nat) (g : NI) => An2 (gs[i]? = some g) (g.node = p) := by
  obtain ⟨g, hg, e⟩ := List.mem_map.mp h
  obtain ⟨i, hi⟩ := List.mem_iff_getElem?.mp hg
  exact ⟨i, g, hi, e⟩
section
variable {P : Pk} {A : Around} {kn kn' : Kn} {frs : List Fm} {Q : Value → Kn → List Fm → Prop} {x dx d : Addr} {as : List NA} {gs : List NI} {rv : Value} {po nf : Int}
theorem bind_add {f1 : Value} {vs : List Value} {nd : Value} : bindArgs (fnOf "add" "TopologicalSorter.add" (fArgs (inCls 15 2)) (fBody (inCls 15 2)) (fScope (inCls 15 2)) .none .none .none (.str "cpy313.graphlib" 286) none (.ref 135) .none) ⟨f1 :: nd :: vs, []⟩ =
    (newTuple vs >>= fun t => pure [(Str.ofString "self", f1), (Str.ofString "node", nd), (Str.ofString "predecessors", t)]) := by
  cases vs <;> kernel_rfl
theorem add_ok (hA : Rm 4 A) (h : Srt kn x dx d as gs .none po nf) {k : Int} {t : Tok} {vs : List Value} {ps : List Int} (hvs : IntsAre vs ps) (hk : k ∉ gs.map (·.node)) (hps : ∀ p ∈ ps, p ∈ gs.map (·.node)) (hz : gs.length ≤ 500) (hz2 : ps.length ≤ 500)
    (hs : ∀ g ∈ gs, g.succ.length ≤ 500)
    (hq : ∀ (y : NA) kn', Srt kn' x dx d (as ++ [y]) (addG gs k ps) .none po nf → (∀ c ∈ y.all, kn c = none) → (∀ a o, ¬ Mineof x dx d as a → kn a = some o → kn' a = some o) → Q .none kn' frs) : CP P A (.call (.ref 136) ⟨.ref x :: .int k t :: vs, []⟩) Q kn frs := by
  have hsl := sizeLine_eq
  refine c_star (fun z => [("self", .ref x), ("node", .int k t), ("predecessors", z)]) hA (by rfl) (by kernel_rfl) bind_add (by rw [hvs.length]; (first | lia | omega)) (fun t => by kernel_rfl) (fun _ => by kernel_rfl) (fun L T hT => ?_) (by kernel_rfl) (by kernel_rfl) (by kernel_rfl)
  have hTm : ¬ Mineof x dx d as T := fun e => by obtain ⟨o, e⟩ := h.known e; rw [hT] at e; cases e
  have h1 : Srt (kn.set T (to vs)) x dx d as gs .none po nf := h.off hTm
  obtain ⟨o, u1, u2, hod, hsd⟩ := h1.od
  refine x_cons ?_
  repeat (walk_at "s")
  refine ts_get h1.ox hod hsd.g2 (by kernel_rfl) rfl ?_
  repeat (walk_at "s")
  refine k_isnot (by rfl) ?_
  repeat (walk_at "s")
  refine if_ff ?_
  repeat (walk_at "s")
  refine ts_meth (f := 129) h1.ox hod hsd.m1 (by kernel_rfl) (by kernel_rfl) ?_
  repeat (walk_at "s")
  refine gn_new (hA.deep.le (by decide)) h1 hk hz fun y kn1 hs1 hfr hup => ?_
  obtain ⟨y0, hy0⟩ : ∃ i, i = as.length := ⟨_, rfl⟩
  have hya : (as ++ [y])[gs.length]? = some y := by rw [← h.ns.len]; simp
  have hyg : (gs ++ [(⟨k, 0, []⟩ : NI)])[gs.length]? = some ⟨k, 0, []⟩ := by simp
  obtain ⟨ty, uy, iy, ey, hy1, hy2, hy3, hy4⟩ := hs1.ns.at_ _ _ _ hya hyg
  have hTd : T ≠ d := fun e => hTm (.inr (.inr (.inl e)))
  have hT1 : kn1 T = some (to vs) := hup _ _ hTd Kn.set_self
  repeat (walk_at "s")
  refine ni_np hy1 hy2 rfl ?_
  repeat (walk_at "s")
  refine k_tlen (.inl hT1) (by rw [hvs.length]; (first | lia | omega)) fun t1 => ?_
  repeat (walk_at "s")
  refine ni_set1 hy1 hy2 ?_
  have hs2 := hs1.np (v := 0 + ((vs.length : Nat) : Int)) (u := ‹Tok›) hya hyg hy1
  have hset : (gs ++ [(⟨k, 0, []⟩ : NI)]).set gs.length ⟨k, 0 + ((vs.length : Nat) : Int), []⟩ = gs ++ [⟨k, ps.length, []⟩] := by
    rw [List.set_append_right _ _ (Nat.le_refl _), Nat.sub_self, List.set_cons_zero, hvs.length, Int.zero_add]
  have hyT : ∀ c ∈ y.all, T ≠ c := fun c hc e => by have := hfr c hc; rw [← e, Kn.set_self] at this; cases this
  have hyn : ∀ c ∈ y.all, kn c = none := fun c hc => Kn.none_of_set (hfr c hc)
  refine th_next ?_
  refine WP.gen (fun K => An3 (Srt K x dx d (as ++ [y]) (gs ++ [⟨k, ps.length, []⟩]) .none po nf) (K T = some (to vs)) (∀ a o, ¬ Mineof x dx d as a → kn a = some o → K a = some o)) ⟨by rw [← hset]; exact hs2, by rw [Kn.set_ne (hyT _ (by simp [NA.all]))]; exact hT1, fun a ob ha e => ?_⟩ ?_
  · rw [Kn.set_ne (Kn.ne_of e (hyn _ (by simp [NA.all])))]
    exact hup _ _ (fun q => ha (.inr (.inr (.inl q)))) (Kn.new hT _ _ e)
  rintro K2 ⟨hs3, hT2, hup2⟩
  have hTm2 : ¬ Mineof x dx d (as ++ [y]) T := fun e => by
    rcases e with e | e | e | ⟨i, a, ha, hc⟩
    · exact hTm (.inl e)
    · exact hTm (.inr (.inl e))
    · exact hTm (.inr (.inr (.inl e)))
    · rcases Nat.lt_trichotomy i as.length with q | q | q
      · rw [List.getElem?_append_left q] at ha; exact hTm (.inr (.inr (.inr ⟨i, a, ha, hc⟩)))
      · subst q; simp at ha; subst ha; exact hyT _ hc rfl
      · rw [List.getElem?_eq_none (by simp; (first | lia | omega))] at ha; cases ha
  have hown2 : ∀ a ob, kn a = some ob → ¬ Mineof x dx d as a → ¬ Own (as ++ [y]) a := fun a ob e hm ⟨i, b, hb, hc⟩ => by
    rcases Nat.lt_trichotomy i as.length with q | q | q
    · rw [List.getElem?_append_left q] at hb; exact hm (.inr (.inr (.inr ⟨i, b, hb, hc⟩)))
    · subst q; simp at hb; subst hb; rw [hyn _ hc] at e; cases e
    · rw [List.getElem?_eq_none (by simp; (first | lia | omega))] at hb; cases hb
  refine x_cons (x_for ?_)
  repeat (walk_at "s")
  refine ⟨vs.length, _, _, fun i kn' frs' => ∃ gs', An7 (Srt kn' x dx d (as ++ [y]) gs' .none po nf) (gs' = (ps.take i).foldl (fun gs p => addS gs p k) (gs ++ [⟨k, ps.length, []⟩])) (∀ g ∈ gs', g.succ.length ≤ 500 + i) (gs'.map (·.node) = gs.map (·.node) ++ [k]) (kn' T = some (to vs)) (∀ a o, ¬ Mineof x dx d as a → kn a = some o → kn' a = some o) (frs' = ⟨L, [], [("self", .ref x), ("node", .int k t), ("predecessors", .ref T), ("nodeinfo", .ref y.a)]⟩ :: frs), src_tuple (hA.deep (env := _)).handled T vs,
    ⟨_, hs3, rfl, fun g hg => ?_, by simp, hT2, hup2, rfl⟩, ?_, ?_, ?_⟩
  · rcases List.mem_append.mp hg with q | q
    · exact hs g q
    · rw [List.mem_singleton] at q; subst q; simp
  · rintro i kn' frs' ⟨gs', h1, h2, h3, h4, h5, h6, rfl⟩
    exact .inl h5
  · rintro i v P' kn' frs' Ka hle hi hv hKa ⟨gs', h1, h2, h3, h4, h5, h6, rfl⟩
    obtain ⟨p, tp, rfl, hp⟩ := ia_at hvs i v hv
    have hpm : p ∈ gs'.map (·.node) := by rw [h4]; exact List.mem_append_left _ (hps p (List.mem_of_getElem? hp))
    obtain ⟨j, g, hg, rfl⟩ := mem_get hpm
    obtain ⟨a, ha, hni⟩ := h1.ns.get hg
    obtain ⟨tg, ug, ig, eg, hg1, hg2, hg3, hg4⟩ := id hni
    obtain ⟨o', u1', u2', hod', hsd'⟩ := h1.od
    have hgl := h3 g (List.mem_of_getElem? hg)
    have hil : i < ps.length := (List.getElem?_eq_some_iff.mp hp).1
    iterate 2 (walk_at "s")
    repeat (walk_at "s")
    refine ts_meth (f := 129) h1.ox hod' hsd'.m1 (by kernel_rfl) (by kernel_rfl) ?_
    repeat (walk_at "s")
    refine gn_old (hA.deep.le (by decide)) h1 ha hg ?_
    repeat (walk_at "s")
    refine ni_succ hg1 hg2 rfl ?_
    refine m_lappend (.inl hg3) ?_
    repeat (walk_at "s")
    refine k_lappend hg3 (by rw [hg4.length]; (first | lia | omega)) fun ep' => ?_
    repeat (walk_at "s")
    have hs4 := h1.sc (ep := ep') ha hg (ia_app hg4 (ia_one k t))
    have hset2 : gs'.set j { g with succ := g.succ ++ [k] } = addS gs' g.node k := (map_set (f := fun g => { g with succ := g.succ ++ [k] }) (h1.nodup P.w) hg rfl).symm
    refine hKa _ _ ?_
    refine ⟨_, _, fun _ _ e => e, .top (vs := [("self", .ref x), ("node", .int k t), ("predecessors", .ref T), ("nodeinfo", .ref y.a)]) (by walk_at "sub"), _, hs4, ?_, ?_, ?_, ?_, ?_, rfl⟩
    · rw [hset2, List.take_add_one, hp, List.foldl_append, ← h2]; rfl
    · intro g2 hg2
      rcases List.mem_or_eq_of_mem_set hg2 with q | q
      · have := h3 g2 q; (first | lia | omega)
      · subst q; simp; (first | lia | omega)
    · rw [hset2, addS_nodes]; exact h4
    · rw [Kn.set_ne (fun e => hTm2 (.inr (.inr (.inr ⟨j, a, ha, by simp [NA.all, e]⟩))))]; exact h5
    · intro b ob hb e
      rw [Kn.set_ne (fun q => hown2 b ob e hb ⟨j, a, ha, by simp [NA.all, q]⟩)]; exact h6 b ob hb e
  · rintro kn' frs' ⟨gs', h1, h2, h3, h4, h5, h6, rfl⟩
    repeat (walk_at "s")
    rw [hvs.length, List.take_length] at h2
    subst h2
    exact hq y kn' h1 hyn h6
end
end
/-! # part F14 -/
section
open PySem PySem.W PyProof.Rows Builtin.ObjectAttr
noncomputable def Rdy (kn : Kn) (r : Addr) (rl : List Int) : Prop := Ex2 fun items ep => An2 (kn r = some (lo items ep)) (IntsAre items rl)
noncomputable def fnd (gs : List NI) (k : Int) : Option NI := gs.find? fun g => g.node = k
noncomputable def setN (gs : List NI) (k : Int) (f : NI → NI) : List NI := gs.map fun g => if g.node = k then f g else g
theorem fnd_get {gs : List NI} {k : Int} {g : NI} (h : fnd gs k = some g) : ∃ i : Nat, gs[i]? = some g ∧ g.node = k := by
  have h1 := List.mem_of_find?_eq_some h
  have h2 := List.find?_some h
  obtain ⟨i, hi⟩ := List.mem_iff_getElem?.mp h1
  exact ⟨i, hi, of_decide_eq_true h2⟩
theorem setN_nodes {gs : List NI} {k : Int} {f : NI → NI} (hf : ∀ g, (f g).node = g.node) : (setN gs k f).map (·.node) = gs.map (·.node) := by
  unfold setN; rw [List.map_map]; refine List.map_congr_left fun g _ => ?_
  show (if g.node = k then _ else g).node = g.node; split
  · exact hf g
  · rfl
theorem fnd_of {gs : List NI} : ∀ {i : Nat} {g : NI}, (gs.map (·.node)).Nodup → gs[i]? = some g → fnd gs g.node = some g := by
  induction gs with
  | nil => intro i g _ h; simp at h
  | cons a gs ih =>
    intro i g hn hg
    rw [List.map_cons, List.nodup_cons] at hn
    unfold fnd
    cases i with
    | zero => simp at hg; subst hg; rw [List.find?_cons_of_pos (by simp)]
    | succ i =>
      have hg' : gs[i]? = some g := by simpa using hg
      rw [List.find?_cons_of_neg]
      · exact ih hn.2 hg'
      · simp only [decide_eq_true_eq]
        intro e
        exact hn.1 (by rw [e]; exact List.mem_map_of_mem (List.mem_of_getElem? hg'))
section
variable {P : Pk} {A : Around} {kn kn' : Kn} {frs : List Fm} {env : Env} {pos : Pos} {Q : Value → Kn → List Fm → Prop} {x dx d r : Addr} {as : List NA} {gs : List NI} {rl : List Int} {po nf : Int}
theorem e_or {a b : Expr} (H : WP P A (eval a env) (fun v kn frs => WP P A (truthy v) (fun t kn frs => if t = true then Q v kn frs else WP P A (eval b env) Q kn frs) kn frs) kn frs) : WP P A (eval (.BoolOp .Or [a, b] pos) env) Q kn frs := fun _ _ hs => by
  rw [arm_eval_BoolOp]
  show wpX _ A (do
    let v ← eval a env
    standAt pos
    let t ← holding [v] (truthy v)
    match BoolOp.Or, t with
    | .And, false | .Or, true => pure v
    | _, _ => boolOp pos .Or (evalEach [b] env)) _ _ _
  refine wpX_bind (H.use hs fun v _ _ _ _ hs₁ h₁ => wpX_stand (wpX_bind (wpX_hold (h₁.use hs₁ fun t _ _ h₂ k₂ hs₂ hq => ?_))))
  cases t with
  | true => exact wpX_pure (WP.fin hs₂ hq)
  | false => exact (show WP P A (eval b env) Q _ _ from hq) h₂ k₂ hs₂
theorem Srt.get (h : Srt kn x dx d as gs (.ref r) po nf) {k : Int} {g : NI} (hg : fnd gs k = some g) : Ex2 fun (i : Nat) (a : NA) => An4 (as[i]? = some a) (gs[i]? = some g) (g.node = k) (NiAt kn a g) := by
  obtain ⟨i, hi, e⟩ := fnd_get hg
  obtain ⟨a, ha, hni⟩ := h.ns.get hi
  exact ⟨i, a, ha, hi, e, hni⟩
theorem Srt.rd (h : Srt kn x dx d as gs (.ref r) po nf) (hr : ¬ Mineof x dx d as r) {items : List Value} {ep : Nat} : Srt (kn.set r (lo items ep)) x dx d as gs (.ref r) po nf := h.off hr
theorem ia_ok (hA : Rm 1 A) (h : Srt kn x dx d as gs (.ref r) po nf) (hr : Rdy kn r rl) (hz : rl.length ≤ 900) (hq : Q (.bool (decide (nf < po) || !rl.isEmpty)) kn frs) : WP P A (call (.ref 155) [.ref x]) Q kn frs := by
  obtain ⟨o, u1, u2, hod, hsd⟩ := h.od
  obtain ⟨items, ep, hr1, hr2⟩ := hr
  have hlen := hr2.length
  have hem : items.isEmpty = rl.isEmpty := by cases items <;> cases rl <;> simp at hlen ⊢
  refine c_pos [("self", .ref x)] (fun _ => []) hA (by rfl) (by kernel_rfl) (by kernel_rfl) (by kernel_rfl) (fun _ => by kernel_rfl) (fun L => ?_) (by kernel_rfl) (by kernel_rfl) (by kernel_rfl)
  refine x_cons ?_
  repeat (walk_at "s")
  refine ts_get h.ox hod hsd.g2 (by kernel_rfl) rfl ?_
  repeat (walk_at "s")
  refine k_is (by rfl) ?_
  repeat (walk_at "s")
  refine if_ff ?_
  repeat (walk_at "s")
  refine e_or ?_
  repeat (walk_at "s")
  refine ts_get h.ox hod hsd.g4 (by kernel_rfl) rfl ?_
  repeat (walk_at "s")
  refine ts_get h.ox hod hsd.g3 (by kernel_rfl) rfl ?_
  repeat (walk_at "s")
  refine if_dec (fun hc => ?_) (fun hc => ?_)
  · repeat (walk_at "s")
    rw [decide_eq_true hc, Bool.true_or] at hq
    rw [decide_eq_true hc]; exact hq
  · repeat (walk_at "s")
    refine ts_get h.ox hod hsd.g2 (by kernel_rfl) rfl ?_
    repeat (walk_at "s")
    refine k_booll (.inl hr1) (by (first | lia | omega)) ?_
    repeat (walk_at "s")
    rw [decide_eq_false hc, Bool.false_or] at hq
    rw [hem]; exact hq
noncomputable def outG (gs : List NI) (rl : List Int) : List NI := rl.foldl (fun gs k => setN gs k fun g => { g with np := -1 }) gs
theorem gr_ok (hA : Rm 1 A) (h : Srt kn x dx d as gs (.ref r) po nf) (hr : Rdy kn r rl) (hrm : ¬ Mineof x dx d as r) (hz : rl.length ≤ 900) (hin : ∀ k ∈ rl, k ∈ gs.map (·.node))
    (hq : ∀ T vs kn', Srt kn' x dx d as (outG gs rl) (.ref r) (po + rl.length) nf → Rdy kn' r [] → kn' T = some (to vs) → IntsAre vs rl → (∀ a o, ¬ Mineof x dx d as a → a ≠ r → kn a = some o → kn' a = some o) → Q (.ref T) kn' frs) : WP P A (call (.ref 148) [.ref x]) Q kn frs := by
  obtain ⟨o, u1, u2, hod, hsd⟩ := h.od
  obtain ⟨items, ep, hr1, hr2⟩ := hr
  have hsl := sizeLine_eq
  have hlen := hr2.length
  refine c_pos [("self", .ref x)] (fun _ => []) hA (by rfl) (by kernel_rfl) (by kernel_rfl) (by kernel_rfl) (fun _ => by kernel_rfl) (fun L => ?_) (by kernel_rfl) (by kernel_rfl) (by kernel_rfl)
  refine x_cons ?_
  repeat (walk_at "s")
  refine ts_get h.ox hod hsd.g2 (by kernel_rfl) rfl ?_
  repeat (walk_at "s")
  refine k_is (by rfl) ?_
  repeat (walk_at "s")
  refine if_ff ?_
  repeat (walk_at "s")
  refine ts_get h.ox hod hsd.g2 (by kernel_rfl) rfl ?_
  repeat (walk_at "s")
  refine k_tuple (.inl hr1) (by (first | lia | omega)) fun T hT => ?_
  have hTm : ¬ Mineof x dx d as T := fun e => by obtain ⟨o, e⟩ := h.known e; rw [hT] at e; cases e
  have h1 : Srt (kn.set T (to items)) x dx d as gs (.ref r) po nf := h.off hTm
  repeat (walk_at "s")
  refine ts_get h1.ox (Kn.new hT _ _ hod) hsd.g1 (by kernel_rfl) rfl ?_
  repeat (walk_at "s")
  refine x_for ?_
  repeat (walk_at "s")
  have hTr : T ≠ r := fun e => by rw [e, hr1] at hT; cases hT
  refine ⟨items.length, _, _, fun i kn' frs' => ∃ gs', An7 (Srt kn' x dx d as gs' (.ref r) po nf) (gs' = outG gs (rl.take i)) (gs'.map (·.node) = gs.map (·.node)) (kn' T = some (to items)) (kn' r = some (lo items ep)) (∀ a o, ¬ Mineof x dx d as a → kn a = some o → kn' a = some o) (frs' = ⟨L, [], [("self", .ref x), ("result", .ref T), ("n2i", .ref d)]⟩ :: frs), src_tuple (hA.deep (env := _)).handled T items,
    ⟨gs, h1, rfl, rfl, Kn.set_self, Kn.new hT _ _ hr1, fun a ob _ e => Kn.new hT _ _ e, rfl⟩, ?_, ?_, ?_⟩
  · rintro i kn' frs' ⟨gs', h1, h2, h3, h4, h5, h6, rfl⟩
    exact .inl h4
  · rintro i v P' kn' frs' Ka hle hi hv hKa ⟨gs', h1, h2, h3, h4, h5, h6, rfl⟩
    obtain ⟨k, tk, rfl, hk⟩ := ia_at hr2 i v hv
    have hkm : k ∈ gs'.map (·.node) := by rw [h3]; exact hin k (List.mem_of_getElem? hk)
    obtain ⟨j, g, hg, rfl⟩ := mem_get hkm
    obtain ⟨a, ha, hni⟩ := h1.ns.get hg
    obtain ⟨tg, ug, ig, eg, hg1, hg2, hg3, hg4⟩ := id hni
    obtain ⟨o2, hd2, hint⟩ := h1.dd
    iterate 2 (walk_at "s")
    repeat (walk_at "s")
    refine k_dsub (.inl hd2) hint (h1.val ha hg (h1.nodup P.w)) ?_
    refine ni_set1 hg1 hg2 ?_
    repeat (walk_at "s")
    have hs4 := h1.np (v := -1) (u := 289) ha hg hg1
    have hset2 : gs'.set j { g with np := -1 } = setN gs' g.node fun g => { g with np := -1 } := (map_set (f := fun g => { g with np := -1 }) (h1.nodup P.w) hg rfl).symm
    refine hKa _ _ ?_
    refine ⟨_, _, fun _ _ e => e, .top (vs := [("self", .ref x), ("result", .ref T), ("n2i", .ref d)]) (by walk_at "sub"), _, hs4, ?_, ?_, ?_, ?_, ?_, rfl⟩
    · rw [hset2, h2]; unfold outG; rw [List.take_add_one, hk, List.foldl_append]; rfl
    · rw [hset2]; exact (setN_nodes (f := fun g => { g with np := -1 }) (fun _ => rfl)).trans h3
    · rw [Kn.set_ne (fun e => hTm (.inr (.inr (.inr ⟨j, a, ha, by simp [NA.all, e]⟩))))]; exact h4
    · rw [Kn.set_ne (fun e => hrm (.inr (.inr (.inr ⟨j, a, ha, by simp [NA.all, e]⟩))))]; exact h5
    · intro b ob hb e
      rw [Kn.set_ne (fun q => hb (.inr (.inr (.inr ⟨j, a, ha, by simp [NA.all, q]⟩))))]; exact h6 b ob hb e
  · rintro kn' frs' ⟨gs', h1, h2, h3, h4, h5, h6, rfl⟩
    rw [hlen, List.take_length] at h2
    subst h2
    obtain ⟨o3, u3, u4, hod3, hsd3⟩ := h1.od
    repeat (walk_at "s")
    refine ts_get h1.ox hod3 hsd3.g2 (by kernel_rfl) rfl ?_
    refine m_lclear (.inl h5) ?_
    repeat (walk_at "s")
    refine k_lclear h5 (by (first | lia | omega)) fun ep' => ?_
    have h8 : Srt (kn'.set r (lo [] ep')) x dx d as (outG gs rl) (.ref r) po nf := h1.off hrm
    have hxr : dx ≠ r := fun e => hrm (.inr (.inl e.symm))
    have hod4 : kn'.set r (lo [] ep') dx = some o3 := by rw [Kn.set_ne hxr]; exact hod3
    have hT4 : kn'.set r (lo [] ep') T = some (to items) := by rw [Kn.set_ne hTr]; exact h4
    repeat (walk_at "s")
    refine ts_get h8.ox hod4 hsd3.g3 (by kernel_rfl) rfl ?_
    repeat (walk_at "s")
    refine k_tlen (.inl hT4) (by (first | lia | omega)) fun t9 => ?_
    repeat (walk_at "s")
    rename_i t11
    refine ts_set (fun t => Obj.putName "_npassedout" (PyData.keyHash P.w.params "_npassedout") (.str "_npassedout" t) (.int (po + ((items.length : Nat) : Int)) t11) o3) h8.ox hod4 (by kernel_rfl) (by rw [hsd3.g3]; rfl) (fun t => rfl) (fun t => (hsd3.s3 _ _).z) fun t10 => ?_
    repeat (walk_at "s")
    have h9 := h8.names (hsd3.s3 (v := .int (po + ((items.length : Nat) : Int)) t11) (PyData.keyHash P.w.params "_npassedout") t10)
    rw [hlen] at h9
    refine hq T items _ (by rw [hlen]; exact h9) ⟨[], ep', by rw [Kn.set_ne (Ne.symm hxr)]; exact Kn.set_self, .nil⟩ (by rw [Kn.set_ne (fun e => hTm (.inr (.inl e)))]; exact hT4) hr2 fun a ob ha har e => ?_
    rw [Kn.set_ne (fun q => ha (.inr (.inl q))), Kn.set_ne har]; exact h6 a ob ha e
end
end
/-! # part F15 -/
section
open PySem PySem.W PyProof.Rows Builtin.ObjectAttr
/-! ### done -/
noncomputable def decS (st : List NI × List Int) (s : Int) : List NI × List Int := (setN st.1 s fun g => { g with np := g.np - 1 }, if ((fnd st.1 s).map (·.np)) = some 1 then st.2 ++ [s] else st.2)
noncomputable def doneN (st : List NI × List Int) (k : Int) : List NI × List Int := (((fnd st.1 k).map (·.succ)).getD []).foldl decS (setN st.1 k fun g => { g with np := -2 }, st.2)
noncomputable def DoneOk : List NI × List Int → List Int → Prop
  | _, [] => True
  | st, k :: r => (∃ g, fnd st.1 k = some g ∧ g.np = -1 ∧ (∀ s ∈ g.succ, s ∈ st.1.map (·.node)) ∧ st.2.length + g.succ.length ≤ 900) ∧ DoneOk (doneN st k) r
theorem decS_nodes (st : List NI × List Int) (s : Int) : (decS st s).1.map (·.node) = st.1.map (·.node) := setN_nodes (f := fun g => { g with np := g.np - 1 }) fun _ => rfl
theorem decS_fold_nodes : ∀ (l : List Int) (st : List NI × List Int), (l.foldl decS st).1.map (·.node) = st.1.map (·.node)
  | [], _ => rfl
  | s :: l, st => by rw [List.foldl_cons, decS_fold_nodes l, decS_nodes]
theorem decS_fold_len : ∀ (l : List Int) (st : List NI × List Int), (l.foldl decS st).2.length ≤ st.2.length + l.length
  | [], _ => Nat.le_refl _
  | s :: l, st => by
    rw [List.foldl_cons]
    have := decS_fold_len l (decS st s)
    have h2 : (decS st s).2.length ≤ st.2.length + 1 := by unfold decS; dsimp only; split <;> simp
    simp only [List.length_cons]; (first | lia | omega)
section
variable {P : Pk} {A : Around} {kn kn' : Kn} {frs : List Fm} {env : Env} {pos : Pos} {Q : Value → Kn → List Fm → Prop} {x dx d r : Addr} {as : List NA} {gs : List NI} {rl : List Int} {po nf : Int}
theorem bind_done {f1 : Value} {vs : List Value} : bindArgs (fnOf "done" "TopologicalSorter.done" (fArgs (inCls 15 7)) (fBody (inCls 15 7)) (fScope (inCls 15 7)) .none .none .none (.str "cpy313.graphlib" 286) none (.ref 168) .none) ⟨f1 :: vs, []⟩ =
    (newTuple vs >>= fun t => pure [(Str.ofString "self", f1), (Str.ofString "nodes", t)]) := by
  cases vs <;> kernel_rfl
theorem done_ok (hA : Rm 1 A) (h : Srt kn x dx d as gs (.ref r) po nf) (hr : Rdy kn r rl) (hrm : ¬ Mineof x dx d as r) {vs : List Value} {ks : List Int} (hvs : IntsAre vs ks) (hz : ks.length ≤ 900) (hok : DoneOk (gs, rl) ks)
    (hq : ∀ kn', Srt kn' x dx d as (ks.foldl doneN (gs, rl)).1 (.ref r) po (nf + ks.length) → Rdy kn' r (ks.foldl doneN (gs, rl)).2 → (∀ a o, ¬ Mineof x dx d as a → a ≠ r → kn a = some o → kn' a = some o) → Q .none kn' frs) : CP P A (.call (.ref 169) ⟨.ref x :: vs, []⟩) Q kn frs := by
  have hsl := sizeLine_eq
  have hlen := hvs.length
  refine c_star (fun z => [("self", .ref x), ("nodes", z)]) hA (by rfl) (by kernel_rfl) bind_done (by (first | lia | omega)) (fun t => by kernel_rfl) (fun _ => by kernel_rfl) (fun L T hT => ?_) (by kernel_rfl) (by kernel_rfl) (by kernel_rfl)
  have hTm : ¬ Mineof x dx d as T := fun e => by obtain ⟨o, e⟩ := h.known e; rw [hT] at e; cases e
  have h1 : Srt (kn.set T (to vs)) x dx d as gs (.ref r) po nf := h.off hTm
  obtain ⟨ri, rep, hr1, hr2⟩ := hr
  have hTr : T ≠ r := fun e => by rw [e, hr1] at hT; cases hT
  obtain ⟨o, u1, u2, hod, hsd⟩ := h1.od
  refine x_cons ?_
  repeat (walk_at "s")
  refine ts_get h1.ox hod hsd.g2 (by kernel_rfl) rfl ?_
  repeat (walk_at "s")
  refine k_is (by rfl) ?_
  repeat (walk_at "s")
  refine if_ff ?_
  repeat (walk_at "s")
  refine ts_get h1.ox hod hsd.g1 (by kernel_rfl) rfl ?_
  repeat (walk_at "s")
  refine x_for ?_
  repeat (walk_at "s")
  refine ⟨vs.length, _, _, fun i kn' frs' => ∃ st, An7 (Srt kn' x dx d as st.1 (.ref r) po (nf + i)) (Rdy kn' r st.2) (st = (ks.take i).foldl doneN (gs, rl)) (DoneOk st (ks.drop i)) (kn' T = some (to vs)) (∀ a o, ¬ Mineof x dx d as a → a ≠ r → kn a = some o → kn' a = some o) (frs' = ⟨L, [], [("self", .ref x), ("nodes", .ref T), ("n2i", .ref d)]⟩ :: frs), src_tuple (hA.deep (env := _)).handled T vs,
    ⟨(gs, rl), by simpa using h1, ⟨ri, rep, Kn.new hT _ _ hr1, hr2⟩, rfl, hok, Kn.set_self, fun a ob _ _ e => Kn.new hT _ _ e, rfl⟩, ?_, ?_, ?_⟩
  · rintro i kn' frs' ⟨st, h1, h2, h3, h4, h5, h6, rfl⟩
    exact .inl h5
  · rintro i v P' kn' frs' Ka hle hi hv hKa ⟨st, h1, h2, h3, h4, h5, h6, rfl⟩
    obtain ⟨k, tk, rfl, hk⟩ := ia_at hvs i v hv
    have hilt : i < ks.length := (List.getElem?_eq_some_iff.mp hk).1
    have hdrop : ks.drop i = k :: ks.drop (i + 1) := by rw [List.drop_eq_getElem_cons hilt]; congr 1; exact (List.getElem?_eq_some_iff.mp hk).2
    rw [hdrop] at h4
    obtain ⟨⟨g, hfg, hnp, hsc, hzz⟩, hok2⟩ := h4
    obtain ⟨j, a, ha, hg, hgk, hni⟩ := h1.get hfg
    subst hgk
    obtain ⟨tg, ug, ig, eg, hg1, hg2, hg3, hg4⟩ := id hni
    obtain ⟨o2, hd2, hint⟩ := h1.dd
    iterate 2 (walk_at "s")
    repeat (walk_at "s")
    refine m_dget (.inl hd2) hint ?_
    repeat (walk_at "s")
    refine k_dget (.inl hd2) hint h1.dm ?_
    rw [h1.val ha hg (h1.nodup P.w), Option.getD_some]
    repeat (walk_at "s")
    refine k_is (by rfl) ?_
    repeat (walk_at "s")
    refine if_ff ?_
    repeat (walk_at "s")
    refine ni_np hg1 hg2 rfl ?_
    repeat (walk_at "s")
    refine i_ne (a := g.np) (b := -1) (u := 289) ?_
    repeat (walk_at "s")
    refine if_bne (fun hc => absurd hnp hc) (fun hc => ?_)
    repeat (walk_at "s")
    refine ni_set1 (v := .int (-2) 292) hg1 hg2 ?_
    have hs4 := h1.np (v := -2) (u := 292) ha hg hg1
    have hset2 : st.1.set j { g with np := -2 } = setN st.1 g.node fun g => { g with np := -2 } := (map_set (f := fun g => { g with np := -2 }) (h1.nodup P.w) hg rfl).symm
    rw [hset2] at hs4
    have ha' : kn'.set a.a (nio a.dx (.int g.node tg) (.int (-2) 292) (.ref a.sl)) a.a = some (nio a.dx (.int g.node tg) (.int (-2) 292) (.ref a.sl)) := Kn.set_self
    have hne := hni.ne
    have hdx' : kn'.set a.a (nio a.dx (.int g.node tg) (.int (-2) 292) (.ref a.sl)) a.dx = some emptyDict := by rw [Kn.set_ne (Ne.symm hne.1)]; exact hg2
    have hsl' : kn'.set a.a (nio a.dx (.int g.node tg) (.int (-2) 292) (.ref a.sl)) a.sl = some (lo ig eg) := by rw [Kn.set_ne (Ne.symm hne.2.1)]; exact hg3
    obtain ⟨ri2, rep2, hr21, hr22⟩ := h2
    have hra : r ≠ a.a := fun e => hrm (.inr (.inr (.inr ⟨j, a, ha, by simp [NA.all, e]⟩)))
    have hrs : r ≠ a.sl := fun e => hrm (.inr (.inr (.inr ⟨j, a, ha, by simp [NA.all, e]⟩)))
    have hTa : T ≠ a.a := fun e => hTm (.inr (.inr (.inr ⟨j, a, ha, by simp [NA.all, e]⟩)))
    repeat (walk_at "s")
    refine x_for ?_
    repeat (walk_at "s")
    refine ni_succ ha' hdx' rfl ?_
    have hgl := hg4.length
    have hnods : (setN st.1 g.node fun g => { g with np := -2 }).map (·.node) = st.1.map (·.node) := setN_nodes (f := fun g => { g with np := -2 }) fun _ => rfl
    have hdn : doneN st g.node = g.succ.foldl decS (setN st.1 g.node fun g => { g with np := -2 }, st.2) := by unfold doneN; rw [hfg]; rfl
    refine ⟨ig.length, _, _, fun m kn'' frs'' => ∃ st', An7 (Srt kn'' x dx d as st'.1 (.ref r) po (nf + i)) (Rdy kn'' r st'.2) (st' = (g.succ.take m).foldl decS (setN st.1 g.node fun g => { g with np := -2 }, st.2)) (kn'' T = some (to vs)) (kn'' a.sl = some (lo ig eg)) (∀ a o, ¬ Mineof x dx d as a → a ≠ r → kn a = some o → kn'' a = some o) (frs'' = ⟨L, [], [("self", .ref x), ("nodes", .ref T), ("n2i", .ref d), ("node", .int g.node tk), ("nodeinfo", .ref a.a), ("stat", .int g.np ug)]⟩ :: frs), src_list (hA.deep (env := _)).handled a.sl ig,
      ⟨(setN st.1 g.node fun g => { g with np := -2 }, st.2), hs4, ⟨ri2, rep2, by rw [Kn.set_ne hra]; exact hr21, hr22⟩, rfl, by rw [Kn.set_ne hTa]; exact h5, hsl', fun b ob hb hbr e => by rw [Kn.set_ne (fun q => hb (.inr (.inr (.inr ⟨j, a, ha, by simp [NA.all, q]⟩))))]; exact h6 b ob hb hbr e, rfl⟩, ?_, ?_, ?_⟩
    · rintro m kn'' frs'' ⟨st', k1, k2, k3, k4, k5, k6, rfl⟩
      exact ⟨eg, .inl k5⟩
    · rintro m v P'' kn'' frs'' Kb hle'' hm hv'' hKb ⟨st', k1, k2, k3, k4, k5, k6, rfl⟩
      obtain ⟨sc, tsc, rfl, hscm⟩ := ia_at hg4 m v hv''
      have hsm : sc ∈ st'.1.map (·.node) := by rw [k3, decS_fold_nodes]; show sc ∈ (setN st.1 g.node _).map _; rw [hnods]; exact hsc sc (List.mem_of_getElem? hscm)
      obtain ⟨j2, g2, hgg, rfl⟩ := mem_get hsm
      obtain ⟨a2, ha2, hni2⟩ := k1.ns.get hgg
      obtain ⟨tg2, ug2, ig2, eg2, hw1, hw2, hw3, hw4⟩ := id hni2
      have hne2 := hni2.ne
      obtain ⟨o5, hd5, hint5⟩ := k1.dd
      have hfnd := fnd_of (k1.nodup P.w) hgg
      have hst2 : (g.succ.take (m + 1)).foldl decS (setN st.1 g.node fun g => { g with np := -2 }, st.2) = decS st' g2.node := by
        rw [List.take_add_one, hscm, List.foldl_append, ← k3]; rfl
      have hlen2 : st'.2.length ≤ 900 := by
        rw [k3]
        have := decS_fold_len (g.succ.take m) (setN st.1 g.node fun g => { g with np := -2 }, st.2)
        have h3 : (g.succ.take m).length ≤ g.succ.length := by simp; (first | lia | omega)
        dsimp only at this
        (first | lia | omega)
      iterate 2 (walk_at "s")
      repeat (walk_at "s")
      refine k_dsub (.inl hd5) hint5 (k1.val ha2 hgg (k1.nodup P.w)) ?_
      repeat (walk_at "s")
      refine ni_np hw1 hw2 rfl ?_
      repeat (walk_at "s")
      rename_i tnp
      refine ni_set1 hw1 hw2 ?_
      have hs5 := k1.np (v := g2.np - 1) (u := tnp) ha2 hgg hw1
      have hset5 : st'.1.set j2 { g2 with np := g2.np - 1 } = setN st'.1 g2.node fun g => { g with np := g.np - 1 } := (map_set (f := fun g => { g with np := g.np - 1 }) (k1.nodup P.w) hgg rfl).symm
      rw [hset5] at hs5
      have hr2a : r ≠ a2.a := fun e => hrm (.inr (.inr (.inr ⟨j2, a2, ha2, by simp [NA.all, e]⟩)))
      have hT2a : T ≠ a2.a := fun e => hTm (.inr (.inr (.inr ⟨j2, a2, ha2, by simp [NA.all, e]⟩)))
      have hsl2 : a.sl ≠ a2.a := fun e => by rw [e, hw1] at k5; have := congrArg Obj.cls (Option.some.inj k5); cases this
      obtain ⟨ri5, rep5, hr51, hr52⟩ := k2
      refine th_next ?_
      refine WP.gen (fun K => An7 (Srt K x dx d as (setN st'.1 g2.node fun g => { g with np := g.np - 1 }) (.ref r) po (nf + i)) (K r = some (lo ri5 rep5)) (K T = some (to vs)) (K a.sl = some (lo ig eg)) (K a2.a = some (nio a2.dx (.int g2.node tg2) (.int (g2.np - 1) tnp) (.ref a2.sl))) (K a2.dx = some emptyDict) (∀ a o, ¬ Mineof x dx d as a → a ≠ r → kn a = some o → K a = some o)) ⟨hs5, by rw [Kn.set_ne hr2a]; exact hr51, by rw [Kn.set_ne hT2a]; exact k4, by rw [Kn.set_ne hsl2]; exact k5, Kn.set_self, by rw [Kn.set_ne (Ne.symm hne2.1)]; exact hw2,
          fun b ob hb hbr e => by rw [Kn.set_ne (fun q => hb (.inr (.inr (.inr ⟨j2, a2, ha2, by simp [NA.all, q]⟩))))]; exact k6 b ob hb hbr e⟩ ?_
      rintro K5 ⟨l1, l2, l3, l4, l5, l6, l7⟩
      repeat (walk_at "s")
      refine ni_np l5 l6 rfl ?_
      repeat (walk_at "s")
      obtain ⟨o6, u61, u62, hod6, hsd6⟩ := l1.od
      refine if_beq (fun hc => ?_) (fun hc => ?_)
      · repeat (walk_at "s")
        refine ts_get l1.ox hod6 hsd6.g2 (by kernel_rfl) rfl ?_
        refine m_lappend (.inl l2) ?_
        repeat (walk_at "s")
        refine k_lappend l2 (by rw [hr52.length]; (first | lia | omega)) fun ep7 => ?_
        repeat (walk_at "s")
        have hdec : decS st' g2.node = (setN st'.1 g2.node fun g => { g with np := g.np - 1 }, st'.2 ++ [g2.node]) := by
          unfold decS; rw [hfnd, Option.map_some, if_pos (by congr 1; (first | lia | omega))]
        refine hKb _ _ ?_
        refine ⟨_, _, fun _ _ e => e, .top (vs := [("self", .ref x), ("nodes", .ref T), ("n2i", .ref d), ("node", .int g.node tk), ("nodeinfo", .ref a.a), ("stat", .int g.np ug)]) (by walk_at "sub"), decS st' g2.node, ?_, ?_, hst2.symm, ?_, ?_, ?_, rfl⟩
        · rw [hdec]; exact l1.off hrm
        · rw [hdec]; exact ⟨_, ep7, Kn.set_self, ia_app hr52 (ia_one _ _)⟩
        · rw [Kn.set_ne hTr]; exact l3
        · rw [Kn.set_ne (Ne.symm hrs)]; exact l4
        · intro b ob hb hbr e
          rw [Kn.set_ne hbr]; exact l7 b ob hb hbr e
      · repeat (walk_at "s")
        have hdec : decS st' g2.node = (setN st'.1 g2.node fun g => { g with np := g.np - 1 }, st'.2) := by
          unfold decS; rw [hfnd, Option.map_some, if_neg (by intro e; injection e with e; (first | lia | omega))]
        refine hKb _ _ ?_
        refine ⟨_, _, fun _ _ e => e, .top (vs := [("self", .ref x), ("nodes", .ref T), ("n2i", .ref d), ("node", .int g.node tk), ("nodeinfo", .ref a.a), ("stat", .int g.np ug)]) (by walk_at "sub"), decS st' g2.node, ?_, ?_, hst2.symm, l3, l4, l7, rfl⟩
        · rw [hdec]; exact l1
        · rw [hdec]; exact ⟨_, _, l2, hr52⟩
    · rintro kn'' frs'' ⟨st', k1, k2, k3, k4, k5, k6, rfl⟩
      rw [hgl, List.take_length, ← hdn] at k3
      subst k3
      obtain ⟨o6, u61, u62, hod6, hsd6⟩ := k1.od
      obtain ⟨ri5, rep5, hr51, hr52⟩ := k2
      repeat (walk_at "s")
      refine ts_get k1.ox hod6 hsd6.g4 (by kernel_rfl) rfl ?_
      repeat (walk_at "s")
      rename_i t11
      refine ts_set (fun t => Obj.putName "_nfinished" (PyData.keyHash P'.w.params "_nfinished") (.str "_nfinished" t) (.int (nf + i + 1) t11) o6) k1.ox hod6 (by kernel_rfl) (by rw [hsd6.g4]; rfl) (fun t => rfl) (fun t => (hsd6.s4 _ _).z) fun t10 => ?_
      repeat (walk_at "s")
      have h9 := k1.names (hsd6.s4 (v := .int (nf + i + 1) t11) (PyData.keyHash P'.w.params "_nfinished") t10)
      refine hKa _ _ ?_
      refine ⟨_, _, fun _ _ e => e, .top (vs := [("self", .ref x), ("nodes", .ref T), ("n2i", .ref d)]) (by walk_at "sub"), doneN st g.node, ?_, ⟨ri5, rep5, ?_, hr52⟩, ?_, hok2, ?_, ?_, rfl⟩
      · rw [show nf + ((i + 1 : Nat) : Int) = nf + i + 1 by (first | lia | omega)]; exact h9
      · rw [Kn.set_ne (fun e => hrm (.inr (.inl e)))]; exact hr51
      · rw [List.take_add_one, hk, List.foldl_append, ← h3]; rfl
      · rw [Kn.set_ne (fun e => hTm (.inr (.inl e)))]; exact k4
      · intro b ob hb hbr e
        rw [Kn.set_ne (fun q => hb (.inr (.inl q)))]; exact k6 b ob hb hbr e
  · rintro kn' frs' ⟨st, h1, h2, h3, h4, h5, h6, rfl⟩
    rw [hlen, List.take_length] at h3
    subst h3
    rw [hlen] at h1
    repeat (walk_at "s")
    exact hq kn' h1 h2 h6
end
end
/-! # part F16 -/
section
open PySem PySem.W PyProof.Rows Builtin.ObjectAttr
section
variable {P : Pk} {A : Around} {kn : Kn} {frs : List Fm} {Q : Value → Kn → List Fm → Prop} {x dx d : Addr} {as : List NA} {gs : List NI} {rv : Value} {po nf : Int}
theorem valueAt_none {kvs : List (Int × Value)} {k : Int} (h : k ∉ kvs.map (·.1)) : valueAt kvs k = none := by
  unfold valueAt
  rw [List.find?_eq_none.mpr, Option.map_none]
  intro p hp
  simp only [decide_eq_true_eq]
  intro e
  exact h (by rw [← e]; exact List.mem_map_of_mem (f := (·.1)) hp)
theorem valueAt_some {kvs : List (Int × Value)} {k : Int} (h : k ∈ kvs.map (·.1)) : (valueAt kvs k).isSome = true := by
  unfold valueAt
  rw [Option.isSome_map, List.find?_isSome]
  obtain ⟨p, hp, e⟩ := List.mem_map.mp h
  exact ⟨p, hp, by simpa using e⟩
theorem without_last {kvs : List (Int × Value)} {l : List Int} {k : Int} (h : kvs.map (·.1) = l ++ [k]) (hn : k ∉ l) : (without kvs k).map (·.1) = l := by
  have : (without kvs k).map (·.1) = (kvs.map (·.1)).filter fun x => decide (x ≠ k) := by
    unfold without; rw [List.filter_map]; rfl
  rw [this, h, List.filter_append]
  have h1 : l.filter (fun x => decide (x ≠ k)) = l := List.filter_eq_self.mpr fun a ha => by simp; intro e; subst e; exact hn ha
  rw [h1]; simp
theorem stored_new {kvs : List (Int × Value)} {k : Int} {v : Value} (h : k ∉ kvs.map (·.1)) : stored kvs k v = kvs ++ [(k, v)] := by
  unfold stored
  rw [if_neg]
  intro e
  rw [List.any_eq_true] at e
  obtain ⟨p, hp, he⟩ := e
  exact h (by rw [← of_decide_eq_true he]; exact List.mem_map_of_mem (f := (·.1)) hp)
theorem fc_ok (hA : Rm 1 A) (hF : FrA A frs) (h : Srt kn x dx d as gs rv po nf) (hz : gs.length ≤ 500) {D : Nat} (hD : ∀ g ∈ gs, g.succ.length ≤ D) (hD2 : D ≤ 500)
    (hsc : ∀ g ∈ gs, ∀ s ∈ g.succ, s ∈ gs.map (·.node) ∧ s < g.node) (hq : Q .none kn frs) : WP P A (call (.ref 176) [.ref x]) Q kn frs := by
  refine WP.drop ?_
  obtain ⟨od, u1, u2, hod, hsd⟩ := h.od
  obtain ⟨o2, hd2, hint⟩ := h.dd
  have hsl := sizeLine_eq
  refine c_pos [("self", .ref x)] (fun _ => []) hA (by rfl) (by kernel_rfl) (by kernel_rfl) (by kernel_rfl) (fun _ => by kernel_rfl) (fun L => ?_) (by kernel_rfl) (by kernel_rfl) (by kernel_rfl)
  obtain ⟨outer, hfr0, hfe0⟩ := hF
  refine x_cons ?_
  repeat (walk_at "s")
  refine ts_get h.ox hod hsd.g1 (by kernel_rfl) rfl ?_
  repeat (walk_at "s")
  refine n_list (fun S hS => ?_)
  repeat (walk_at "s")
  refine n_list (fun IT hIT => ?_)
  repeat (walk_at "s")
  refine k_set0 fun SE oSE hSE hset => ?_
  repeat (walk_at "s")
  refine e_dict0 fun NS hNS hNSm => ?_
  repeat (walk_at "s")
  have hup : ∀ a o, kn a = some o → (((kn.set S (lo [] 0)).set IT (lo [] 0)).set SE oSE).set NS emptyDict a = some o := fun a o e => Kn.new hNS _ _ (Kn.new hSE _ _ (Kn.new hIT _ _ (Kn.new hS _ _ e)))
  have n1 : IT ≠ S := fun e => by rw [e, Kn.set_self] at hIT; cases hIT
  have n2 : SE ≠ IT := fun e => by rw [e, Kn.set_self] at hSE; cases hSE
  have n3 : SE ≠ S := fun e => by rw [e, Kn.set_ne (Ne.symm n1), Kn.set_self] at hSE; cases hSE
  have n4 : NS ≠ SE := fun e => by rw [e, Kn.set_self] at hNS; cases hNS
  have n5 : NS ≠ IT := fun e => by rw [e, Kn.set_ne (Ne.symm n2), Kn.set_self] at hNS; cases hNS
  have n6 : NS ≠ S := fun e => by rw [e, Kn.set_ne (Ne.symm n3), Kn.set_ne (Ne.symm n1), Kn.set_self] at hNS; cases hNS
  have hd0 : Dfs kn ((((kn.set S (lo [] 0)).set IT (lo [] 0)).set SE oSE).set NS emptyDict) S IT SE NS as gs [] [] := by
    refine ⟨hup, fun a ha => ?_, ?_, ⟨[], 0, ?_, .nil⟩, ⟨0, ?_⟩, ⟨oSE, ?_, ?_⟩, ⟨emptyDict, [], Kn.set_self, IntD.nil, rfl⟩, hNSm, fun p hp => (nomatch hp), .nil, fun p hp => (nomatch hp), .nil, fun k hk => (nomatch hk)⟩
    · simp [ownP] at ha
      rcases ha with rfl | rfl | rfl | rfl
      · exact hS
      · exact Kn.none_of_set hIT
      · exact Kn.none_of_set (Kn.none_of_set hSE)
      · exact Kn.none_of_set (Kn.none_of_set (Kn.none_of_set hNS))
    · simp [ownP, Ne.symm n1, Ne.symm n2, Ne.symm n3, Ne.symm n4, Ne.symm n5, Ne.symm n6]
    · rw [Kn.set_ne (Ne.symm n6), Kn.set_ne (Ne.symm n3), Kn.set_ne (Ne.symm n1)]; exact Kn.set_self
    · rw [Kn.set_ne (Ne.symm n5), Kn.set_ne (Ne.symm n2)]; exact Kn.set_self
    · rw [Kn.set_ne (Ne.symm n4)]; exact Kn.set_self
    · have : (fun k : Int => decide (k ∈ ([] : List Int))) = fun _ => false := funext fun k => by simp
      rw [this]; exact hset
  refine x_for ?_
  repeat (walk_at "s")
  refine ⟨(tab as gs).length, _, _, fun i kn' frs' => ∃ seen, An2 (Dfs kn kn' S IT SE NS as gs [] seen) (frs' = ⟨L, [], [("self", .ref x), ("n2i", .ref d), ("stack", .ref S), ("itstack", .ref IT), ("seen", .ref SE), ("node2stacki", .ref NS)]⟩ :: frs), src_dict (hA.deep (env := _)).handled h.dm hint, ⟨[], hd0, rfl⟩, ?_, ?_, ?_⟩
  · rintro i kn' frs' ⟨seen, h1, rfl⟩
    exact .inl (h1.up _ _ hd2)
  · rintro i v P' kn' frs' Ka hle hi ⟨k, tk, xv, rfl, hk⟩ hKa ⟨seen, h1, rfl⟩
    have hkn : k ∈ gs.map (·.node) := by rw [← tab_keys h.ns]; exact List.mem_map.mpr ⟨(k, xv), List.mem_of_getElem? hk, rfl⟩
    obtain ⟨oS, hoS1, hoS2⟩ := h1.sen
    have hsle := seen_le h1
    iterate 2 (walk_at "s")
    repeat (walk_at "s")
    refine k_sin hoS1 hoS2 (by (first | lia | omega)) ?_
    repeat (walk_at "s")
    refine if_dec (fun hc => ?_) (fun hc => ?_)
    · repeat (walk_at "s")
      refine hKa _ _ ?_
      exact ⟨_, _, fun _ _ e => e, .top (vs := [("self", .ref x), ("n2i", .ref d), ("stack", .ref S), ("itstack", .ref IT), ("seen", .ref SE), ("node2stacki", .ref NS)]) (by walk_at "sub"), seen, h1, rfl⟩
    · repeat (walk_at "s")
      refine x_while (fun m kn'' frs'' => Ex4 fun path seen k tk => An5 (m = meas D gs path seen) (Dfs kn kn'' S IT SE NS as gs path seen) (k ∈ gs.map (·.node)) (∀ p ∈ path, k < p.g.node) (frs'' = ⟨L, [], [("self", .ref x), ("n2i", .ref d), ("stack", .ref S), ("itstack", .ref IT), ("seen", .ref SE), ("node2stacki", .ref NS), ("node", .int k tk)]⟩ :: frs)) (meas D gs [] seen) ⟨[], seen, k, tk, rfl, h1, hkn, fun p hp => (nomatch hp), rfl⟩ ?_
      clear hk hkn hoS1 hoS2 hsle hc h1
      rintro m kn'' frs'' Kb hKb ⟨path, seen, k, tk, rfl, h1, hkn, hlt, rfl⟩
      obtain ⟨oS, hoS1, hoS2⟩ := h1.sen
      have hsle := seen_le h1
      repeat (walk_at "n")
      -- the node is new, or not
      refine x_cons (WP.mono (Q := fun fl kn₂ frs₂ => An2 (fl = .next) (Ex2 fun path2 seen2 => An3 (meas D gs path2 seen2 ≤ meas D gs path seen) (Dfs kn kn₂ S IT SE NS as gs path2 seen2) (frs₂ = ⟨L, [], [("self", .ref x), ("n2i", .ref d), ("stack", .ref S), ("itstack", .ref IT), ("seen", .ref SE), ("node2stacki", .ref NS), ("node", .int k tk)]⟩ :: frs))) ?_ ?_)
      · repeat (walk_at "s")
        refine k_sin hoS1 hoS2 (by (first | lia | omega)) ?_
        repeat (walk_at "s")
        refine if_dec (fun hc => ?_) (fun hc => ?_)
        · repeat (walk_at "s")
          obtain ⟨oN, kvs, hN1, hN2, hN3⟩ := h1.n2s
          refine k_din (.inl hN1) hN2 h1.nsm ?_
          rw [valueAt_none (by rw [hN3]; intro hm; obtain ⟨p, hp, e⟩ := List.mem_map.mp hm; have := hlt p hp; (first | lia | omega))]
          repeat (walk_at "s")
          refine if_ff ?_
          repeat (walk_at "s")
          exact ⟨rfl, path, seen, Nat.le_refl _, h1, rfl⟩
        · repeat (walk_at "s")
          obtain ⟨j, g, hg, rfl⟩ := mem_get hkn
          obtain ⟨a, ha, hni⟩ := h.ns.get hg
          obtain ⟨tg, ug, ig, eg, hg1, hg2, hg3, hg4⟩ := id hni
          obtain ⟨si, sep, hS1, hS2⟩ := h1.stk
          obtain ⟨iep, hI1⟩ := h1.its
          obtain ⟨oN, kvs, hN1, hN2, hN3⟩ := h1.n2s
          have ow := own4 h1.nd
          have hplen : path.length ≤ 500 := by have := path_le h1; (first | lia | omega)
          have hkn0 : ∀ b ob, kn b = some ob → b ≠ S ∧ b ≠ IT ∧ b ≠ SE ∧ b ≠ NS := fun b ob e => by
            have key : ∀ c ∈ ownP S IT SE NS path, b ≠ c := fun c hc q => by rw [q, h1.fr c hc] at e; cases e
            exact ⟨key _ (by simp [ownP]), key _ (by simp [ownP]), key _ (by simp [ownP]), key _ (by simp [ownP])⟩
          refine m_sadd hoS1 hoS2 (by (first | lia | omega)) ?_
          repeat (walk_at "s")
          refine k_sadd hoS1 hoS2 (by (first | lia | omega)) fun oS' hoS' => ?_
          have hoS3 := set_snoc hc hoS'
          refine WP.gen (fun K => An2 (K SE = some oS') (∀ b ob, b ≠ SE → kn'' b = some ob → K b = some ob)) ⟨Kn.set_self, fun b ob hb e => by rw [Kn.set_ne hb]; exact e⟩ ?_
          rintro K1 ⟨hK1, hup1⟩
          have hup1' : ∀ b ob, kn b = some ob → K1 b = some ob := fun b ob e => hup1 b ob (hkn0 b ob e).2.2.1 (h1.up b ob e)
          repeat (walk_at "s")
          refine m_lappend (.inl (hup1 _ _ ow.2.2.2.1 hI1)) ?_
          repeat (walk_at "s")
          refine k_dsub (.inl (hup1' _ _ hd2)) hint (h.val ha hg (h.nodup P.w)) ?_
          refine ni_succ (hup1' _ _ hg1) (hup1' _ _ hg2) rfl ?_
          repeat (walk_at "s")
          refine k_iter (.inl (hup1' _ _ hg3)) fun I oI hI hLI hoId => ?_
          refine k_next Kn.set_self hLI hoId fun mm hmm => ?_
          have hmI : mm ≠ I := fun e => by rw [e, Kn.set_self] at hmm; cases hmm
          have hI'' : kn'' I = none := by
            cases e : kn'' I with
            | none => rfl
            | some ob =>
              by_cases q : I = SE
              · rw [q, hK1] at hI; cases hI
              · rw [hup1 _ _ q e] at hI; cases hI
          have hm'' : kn'' mm = none := by
            have := Kn.none_of_set hmm
            cases e : kn'' mm with
            | none => rfl
            | some ob =>
              by_cases q : mm = SE
              · rw [q, hK1] at this; cases this
              · rw [hup1 _ _ q e] at this; cases this
          have hup2 : ∀ b ob, K1 b = some ob → (K1.set I oI).set mm (mw I) b = some ob := fun b ob e => Kn.new hmm _ _ (Kn.new hI _ _ e)
          have hITm : (K1.set I oI).set mm (mw I) IT = some (lo (path.map fun p => .ref p.m) iep) := hup2 _ _ (hup1 _ _ ow.2.2.2.1 hI1)
          repeat (walk_at "s")
          refine k_lappend hITm (by simp; (first | lia | omega)) fun iep2 => ?_
          refine WP.gen (fun K => An5 (K SE = some oS') (K IT = some (lo (path.map (fun p => .ref p.m) ++ [.ref mm]) iep2)) (K I = some oI) (K mm = some (mw I)) (∀ b ob, b ≠ SE → b ≠ IT → kn'' b = some ob → K b = some ob))
            ⟨by rw [Kn.set_ne (Ne.symm ow.2.2.2.1)]; exact hup2 _ _ hK1, Kn.set_self, ?_, ?_, fun b ob hb hb2 e => by rw [Kn.set_ne hb2]; exact hup2 _ _ (hup1 _ _ hb e)⟩ ?_
          · rw [Kn.set_ne (fun e => by rw [e, hI1] at hI''; cases hI''), Kn.set_ne (Ne.symm hmI)]; exact Kn.set_self
          · rw [Kn.set_ne (fun e => by rw [e, hI1] at hm''; cases hm'')]; exact Kn.set_self
          rintro K2 ⟨k1, k2, k3, k4, k5⟩
          have hSK : K2 S = some (lo si sep) := k5 _ _ ow.2.1 ow.1 hS1
          have hNK : K2 NS = some oN := k5 _ _ (Ne.symm ow.2.2.2.2.2.1) (Ne.symm ow.2.2.2.2.1) hN1
          repeat (walk_at "s")
          refine k_llen (.inl hSK) (by rw [hS2.length]; simp; (first | lia | omega)) fun tl => ?_
          repeat (walk_at "s")
          have hnk : g.node ∉ kvs.map (·.1) := by rw [hN3]; intro hm; obtain ⟨p, hp, e⟩ := List.mem_map.mp hm; have := hlt p hp; (first | lia | omega)
          refine k_dset hNK hN2 (by have := congrArg List.length hN3; simp at this; (first | lia | omega)) fun oN' hoN' => ?_
          rw [stored_new hnk] at hoN'
          repeat (walk_at "s")
          have hSK2 : K2.set NS oN' S = some (lo si sep) := by rw [Kn.set_ne ow.2.2.1]; exact hSK
          refine m_lappend (.inl hSK2) ?_
          repeat (walk_at "s")
          refine k_lappend hSK2 (by rw [hS2.length]; simp; (first | lia | omega)) fun sep2 => ?_
          repeat (walk_at "s")
          have hInS : I ≠ S := fun e => by rw [e, hS1] at hI''; cases hI''
          have hmnS : mm ≠ S := fun e => by rw [e, hS1] at hm''; cases hm''
          have hInN : I ≠ NS := fun e => by rw [e, hN1] at hI''; cases hI''
          have hmnN : mm ≠ NS := fun e => by rw [e, hN1] at hm''; cases hm''
          have hpush := h1.push (p := ⟨g, a, mm, I, 0⟩) (kn' := (K2.set NS oN').set S (lo (si ++ [.int g.node tk]) sep2)) ⟨_, sep2, Kn.set_self, by simpa using ia_app hS2 (ia_one g.node tk)⟩
            ⟨iep2, by rw [Kn.set_ne (Ne.symm ow.1), Kn.set_ne ow.2.2.2.2.1]; simpa using k2⟩ ⟨oN', _, by rw [Kn.set_ne (Ne.symm ow.2.2.1)]; exact Kn.set_self, hoN', by simp [hN3]⟩ ⟨oS', by rw [Kn.set_ne (Ne.symm ow.2.1), Kn.set_ne ow.2.2.2.2.2.1]; exact k1, hoS3⟩
            (by show _ = some (mw I); rw [Kn.set_ne hmnS, Kn.set_ne hmnN]; exact k4) ⟨oI, by show _ = some oI; rw [Kn.set_ne hInS, Kn.set_ne hInN]; exact k3, hLI⟩ ⟨j, ha, hg⟩ (Nat.zero_le _) ⟨hm'', hI'', hmI⟩
            (fun b hb1 hb2 hb3 hb4 ob e => by rw [Kn.set_ne hb1, Kn.set_ne hb4]; exact k5 b ob hb3 hb2 e) hlt hc hkn
          refine ⟨rfl, path ++ [⟨g, a, mm, I, 0⟩], seen ++ [g.node], ?_, hpush, rfl⟩
          have hs2 := seen_le hpush
          have hgD := hD g (List.mem_of_getElem? hg)
          unfold meas
          rw [remP_snoc]
          simp only [List.length_append, List.length_singleton] at hs2 ⊢
          have e1 : gs.length - seen.length = (gs.length - (seen.length + 1)) + 1 := by (first | lia | omega)
          rw [e1, Nat.add_mul]
          (first | lia | omega)
      rintro _ kn₂ _ ⟨rfl, path2, seen2, hle2, h2, rfl⟩
      repeat (walk_at "s")
      refine x_while (fun m kn₃ frs₃ => ∃ path3, An4 (m = path3.length) (meas D gs path3 seen2 ≤ meas D gs path seen) (Dfs kn kn₃ S IT SE NS as gs path3 seen2) (frs₃ = ⟨L, [], [("self", .ref x), ("n2i", .ref d), ("stack", .ref S), ("itstack", .ref IT), ("seen", .ref SE), ("node2stacki", .ref NS), ("node", .int k tk)]⟩ :: frs)) path2.length ⟨path2, rfl, hle2, h2, rfl⟩ ?_
      clear h2 hle2
      rintro m kn₃ frs₃ Kc hKc ⟨path3, rfl, hle3, h3, rfl⟩
      obtain ⟨si, sep, hS1, hS2⟩ := h3.stk
      repeat (walk_at "s")
      have hplen : path3.length ≤ 500 := by have := path_le h3; (first | lia | omega)
      refine tr_list (.inl hS1) (by rw [hS2.length]; simp; (first | lia | omega)) ?_
      rcases List.eq_nil_or_concat path3 with hnil | ⟨q, p, hcat⟩
      · subst hnil
        have : si = [] := hS2.nil_inv
        subst this
        refine if_ff ?_
        repeat (walk_at "s")
        refine hKa _ _ ?_
        exact ⟨_, _, fun _ _ e => e, .top (vs := [("self", .ref x), ("n2i", .ref d), ("stack", .ref S), ("itstack", .ref IT), ("seen", .ref SE), ("node2stacki", .ref NS)]) (by walk_at "sub"), seen2, h3, rfl⟩
      · rw [List.concat_eq_append] at hcat
        subst hcat
        have hp : p ∈ q ++ [p] := List.mem_append_right _ (List.mem_singleton.mpr rfl)
        obtain ⟨hpm, ⟨oI, hpI, hLI⟩, ⟨j, ha, hg⟩, hpi⟩ := h3.pth p hp
        obtain ⟨tg, ug, ig, eg, hg1, hg2, hg3, hg4⟩ := h.ns.at_ j p.a p.g ha hg
        obtain ⟨iep, hI1⟩ := h3.its
        obtain ⟨oN, kvs, hN1, hN2, hN3⟩ := h3.n2s
        have ow := own4 h3.nd
        have owp := ow.2.2.2.2.2.2 p hp
        have hsi : si.isEmpty = false := by
          have := hS2.length
          cases si with
          | nil => simp at this
          | cons _ _ => rfl
        rw [hsi]
        refine if_tt ?_
        have hIT' : kn₃ IT = some (lo ((q.map fun p => .ref p.m) ++ [.ref p.m]) iep) := by rw [hI1]; simp
        refine x_cons (x_tryNext (L := L) (outer := outer) (hA.deep (env := _)).handled (Around.frames_deeper hfr0) (by rfl) (by rfl) (by rfl) (by kernel_rfl) (by kernel_rfl) (by rfl) (by rfl) ?_)
        repeat (walk_at "s")
        refine k_l_last (.inl hIT') ?_
        have hslI : p.I ≠ p.a.sl := fun e => by rw [e, h3.up _ _ hg3] at hpI; cases hpI; have := hLI.1; injection this with this; exact absurd this (by decide)
        refine ⟨p.m, p.I, p.a.sl, p.i, ig, eg, oI, rfl, hpm, hpI, hLI, .inl (h3.up _ _ hg3), hslI, .cons (notmod (by kernel_rfl)) (by rfl) hfe0, ?_, ?_⟩
        · intro v hv o' hLI'
          obtain ⟨sc, ts, rfl, hsc1⟩ := ia_at hg4 p.i v hv
          have hgm := List.mem_of_getElem? hg
          have hscs := hsc p.g hgm sc (List.mem_of_getElem? hsc1)
          have hilt : p.i < p.g.succ.length := (List.getElem?_eq_some_iff.mp hsc1).1
          have hst := h3.step hLI' hilt
          repeat (walk_at "s")
          refine hKb (meas D gs (q ++ [{ p with i := p.i + 1 }]) seen2) _ _ ?_ (.of ?_)
          · have : meas D gs (q ++ [{ p with i := p.i + 1 }]) seen2 < meas D gs (q ++ [p]) seen2 := by
              unfold meas
              rw [remP_snoc, remP_snoc]
              dsimp only
              (first | lia | omega)
            (first | lia | omega)
          refine ⟨q ++ [{ p with i := p.i + 1 }], seen2, sc, ts, rfl, hst, hscs.1, ?_, rfl⟩
          · intro p2 hp2
            rcases List.mem_append.mp hp2 with hq2 | hq2
            · have hd := h3.dec
              rw [List.map_append, List.pairwise_append] at hd
              have := hd.2.2 p2.g.node (List.mem_map_of_mem (f := (·.g.node)) hq2) p.g.node (by simp)
              (first | lia | omega)
            · rw [List.mem_singleton] at hq2; subst hq2; exact hscs.2
        · intro hno e
          rw [List.map_append] at hS2 hN3
          obtain ⟨si', tsp, rfl, hS3⟩ := ia_snoc_inv hS2
          have dS : kn₃.drop p.I S = some (lo (si' ++ [.int p.g.node tsp]) sep) := by rw [Kn.drop_ne (Ne.symm owp.2.1)]; exact hS1
          have dIT : kn₃.drop p.I IT = some (lo ((q.map fun p => .ref p.m) ++ [.ref p.m]) iep) := by rw [Kn.drop_ne (Ne.symm owp.2.2.1)]; exact hIT'
          have dNS : kn₃.drop p.I NS = some oN := by rw [Kn.drop_ne (Ne.symm owp.2.2.2.2)]; exact hN1
          have hql : q.length ≤ 500 := by simp at hplen; (first | lia | omega)
          refine x_cons ?_
          repeat (walk_at "s")
          refine m_lpop (.inl dS) ?_
          repeat (walk_at "s")
          refine k_lpop dS (by rw [hS3.length]; simp; (first | lia | omega)) fun sep2 => ?_
          have hpq : p.g.node ∉ q.map (·.g.node) := fun hm => by
            obtain ⟨p2, hp2, e2⟩ := List.mem_map.mp hm
            have hd := h3.dec
            rw [List.map_append, List.pairwise_append] at hd
            have := hd.2.2 p2.g.node (List.mem_map_of_mem (f := (·.g.node)) hp2) p.g.node (by simp)
            (first | lia | omega)
          refine k_ddel (o := oN) (kvs := kvs) (by rw [Kn.set_ne (Ne.symm ow.2.2.1)]; exact dNS) hN2 (by have := congrArg List.length hN3; simp at this; (first | lia | omega)) (valueAt_some (by rw [hN3]; simp)) fun oN' hoN' => ?_
          repeat (walk_at "s")
          have dIT2 : (((kn₃.drop p.I).set S (lo si' sep2)).set NS oN') IT = some (lo ((q.map fun p => .ref p.m) ++ [.ref p.m]) iep) := by rw [Kn.set_ne ow.2.2.2.2.1, Kn.set_ne (Ne.symm ow.1)]; exact dIT
          refine m_lpop (.inl dIT2) ?_
          repeat (walk_at "s")
          refine k_lpop dIT2 (by simp; (first | lia | omega)) fun iep2 => ?_
          repeat (walk_at "s")
          have hpop := h3.pop (kn' := ((((kn₃.drop p.I).set S (lo si' sep2)).set NS oN').set IT (lo (q.map fun p => .ref p.m) iep2))) ⟨si', sep2, by rw [Kn.set_ne ow.1, Kn.set_ne ow.2.2.1]; exact Kn.set_self, hS3⟩ ⟨iep2, Kn.set_self⟩
            ⟨oN', _, by rw [Kn.set_ne (Ne.symm ow.2.2.2.2.1)]; exact Kn.set_self, hoN', without_last hN3 hpq⟩ fun b hb1 hb2 hb3 hb4 ob e => by rw [Kn.set_ne hb2, Kn.set_ne hb3, Kn.set_ne hb1, Kn.drop_ne hb4]; exact e
          refine hKc q.length _ _ (by simp) (.of ?_)
          refine ⟨q, rfl, ?_, hpop, rfl⟩
          have : meas D gs q seen2 ≤ meas D gs (q ++ [p]) seen2 := by unfold meas; rw [remP_snoc]; (first | lia | omega)
          (first | lia | omega)
  · rintro kn' frs' ⟨seen, h1, rfl⟩
    repeat (walk_at "s")
    exact ⟨kn, h1.up, hq⟩
end
end
/-! # part F17 -/
section
open PySem PySem.W PyProof.Rows Builtin.ObjectAttr
section
variable {P : Pk} {A : Around} {kn : Kn} {frs : List Fm} {Q : Value → Kn → List Fm → Prop} {x dx d : Addr} {as : List NA} {gs : List NI} {po nf : Int}
noncomputable def rdy0 (gs : List NI) : List Int := (gs.filter fun g => decide (g.np = 0)).map (·.node)
theorem prep_ok (hA : Rm 2 A) (hF : FrA A frs) (h : Srt kn x dx d as gs .none po nf) (hz : gs.length ≤ 500) {D : Nat} (hD : ∀ g ∈ gs, g.succ.length ≤ D) (hD2 : D ≤ 500)
    (hsc : ∀ g ∈ gs, ∀ s ∈ g.succ, s ∈ gs.map (·.node) ∧ s < g.node)
    (hq : ∀ r kn', Srt kn' x dx d as gs (.ref r) po nf → Rdy kn' r (rdy0 gs) → ¬ Mineof x dx d as r → kn r = none → (∀ a o, ¬ Mineof x dx d as a → kn a = some o → kn' a = some o) → Q .none kn' frs) : WP P A (call (.ref 141) [.ref x]) Q kn frs := by
  obtain ⟨od, u1, u2, hod, hsd⟩ := h.od
  obtain ⟨o2, hd2, hint⟩ := h.dd
  have hsl := sizeLine_eq
  have htl := tab_len h.ns
  refine c_pos [("self", .ref x)] (fun _ => []) hA (by rfl) (by kernel_rfl) (by kernel_rfl) (by kernel_rfl) (fun _ => by kernel_rfl) (fun L => ?_) (by kernel_rfl) (by kernel_rfl) (by kernel_rfl)
  refine x_cons ?_
  repeat (walk_at "s")
  refine ts_get h.ox hod hsd.g2 (by kernel_rfl) rfl ?_
  repeat (walk_at "s")
  refine k_isnot (by rfl) ?_
  repeat (walk_at "s")
  refine if_ff ?_
  repeat (walk_at "s")
  refine e_lcp (cl := []) ?_ (by rfl) (by decide +kernel) (by rfl) (by decide +kernel) (by intro _; rfl)
  repeat (walk_at "s")
  refine ts_get h.ox hod hsd.g1 (by kernel_rfl) rfl ?_
  refine m_dvalues (.inl hd2) hint ?_
  repeat (walk_at "s")
  refine k_dvalues (.inl hd2) hint h.dm fun v hv => ?_
  have hvm : ¬ Mineof x dx d as v := fun e => by obtain ⟨o, e⟩ := h.known e; rw [hv] at e; cases e
  have h1 : Srt (kn.set v (vo d)) x dx d as gs .none po nf := h.off hvm
  refine ⟨(tab as gs).length, _, _, fun i ys => IntsAre ys (((gs.take i).filter fun g => decide (g.np = 0)).map (·.node)), by (first | lia | omega), src_values (d := d) (o := o2) (hA.deep (env := _)).handled hint, ⟨.inl Kn.set_self, .inl (Kn.new hv _ _ hd2)⟩, .nil, ?_, ?_⟩
  · rintro i ys w P' C hle hi ⟨k, hk⟩ hF2
    have hi2 : i < gs.length := by (first | lia | omega)
    have hg : gs[i]? = some gs[i] := List.getElem?_eq_getElem hi2
    obtain ⟨a, ha, hni⟩ := h1.ns.get hg
    have := tab_get ha hg
    rw [this] at hk
    injection hk with hk
    injection hk with hk1 hk2
    subst hk2
    obtain ⟨tg, ug, ig, eg, hg1, hg2, hg3, hg4⟩ := hni
    have hfs := fm_succ (fun g : NI => decide (g.np = 0)) (fun g : NI => g.node) hg
    repeat (walk_at "s")
    refine ni_np hg1 hg2 rfl ?_
    repeat (walk_at "s")
    refine if_beq (fun hc => ?_) (fun hc => ?_)
    · repeat (walk_at "s")
      refine ni_node hg1 hg2 rfl ?_
      exact ⟨by show IntsAre _ _; rw [hfs, if_pos (by simpa using hc)]; exact ia_app hF2 (ia_one _ _), .eq⟩
    · exact ⟨by show IntsAre _ _; rw [hfs, if_neg (by simpa using hc), List.append_nil]; exact hF2, .eq⟩
  · intro ys R ep hF2 hR hyl
    rw [htl, List.take_length] at hF2
    have hRm : ¬ Mineof x dx d as R := fun e => by obtain ⟨o, e⟩ := h1.known e; rw [hR] at e; cases e
    have h2 : Srt ((kn.set v (vo d)).set R (lo ys ep)) x dx d as gs .none po nf := h1.off hRm
    have hod2 : (kn.set v (vo d)).set R (lo ys ep) dx = some od := Kn.new hR _ _ (Kn.new hv _ _ hod)
    repeat (walk_at "s")
    refine ts_set (fun t => Obj.putName "_ready_nodes" (PyData.keyHash P.w.params "_ready_nodes") (.str "_ready_nodes" t) (.ref R) od) h2.ox hod2 (by kernel_rfl) (by rw [hsd.g2]; rfl) (fun t => rfl) (fun t => (hsd.s2 _ _).z) fun t3 => ?_
    have h3 := h2.names (hsd.s2 (v := .ref R) (PyData.keyHash P.w.params "_ready_nodes") t3)
    have hRdx : R ≠ dx := fun e => hRm (.inr (.inl e))
    refine th_next ?_
    refine WP.gen (fun K => An3 (Srt K x dx d as gs (.ref R) po nf) (K R = some (lo ys ep)) (∀ a o, ¬ Mineof x dx d as a → kn a = some o → K a = some o)) ⟨h3, by rw [Kn.set_ne hRdx]; exact Kn.set_self, fun a ob ha e => by rw [Kn.set_ne (fun q => ha (.inr (.inl q)))]; exact Kn.new hR _ _ (Kn.new hv _ _ e)⟩ ?_
    rintro K ⟨k1, k2, k3⟩
    obtain ⟨od4, u3, u4, hod4, hsd4⟩ := k1.od
    repeat (walk_at "s")
    refine ts_meth (f := 176) k1.ox hod4 hsd4.m7 (by kernel_rfl) (by kernel_rfl) ?_
    repeat (walk_at "s")
    refine fc_ok (D := D) (hA.deep.le (by decide)) (hF.deep (notmod (by kernel_rfl)) (by rfl)) k1 hz hD hD2 hsc ?_
    repeat (walk_at "s")
    exact hq R K k1 ⟨ys, ep, k2, hF2⟩ hRm (Kn.none_of_set hR) k3
end
end
/-! # part M2 -/
section
open PySem PySem.W PyProof.Rows
/-! ## the sorter's rounds are the levels, in plain numbers -/
section
variable (n : Nat) (c l : Nat → Int)
noncomputable def nd (i : Nat) : Int := 99 - (i : Int)
theorem nd_inj {i j : Nat} (h : nd i = nd j) : i = j := by unfold nd at h; (first | lia | omega)
noncomputable def pre (j : Nat) : List Nat := (List.range j).filter fun i => decide (c i < c j)
noncomputable def suc (i : Nat) : List Nat := (List.range n).filter fun j => decide (i < j ∧ c i < c j)
noncomputable def gsF (f : Nat → Int) : List NI := (List.range n).map fun i => ⟨nd i, f i, (suc n c i).map nd⟩
noncomputable def LevOk : Prop := ∀ j < n, l j = 1 + mx ((pre c j).map l)
noncomputable def grp (t : Int) : List Nat := (List.range n).filter fun j => decide (l j = t)
noncomputable def fT (t : Int) (j : Nat) : Int := if l j < t then -2 else (((pre c j).filter fun i => decide (t ≤ l i)).length : Int)
noncomputable def fO (t : Int) (j : Nat) : Int := if l j = t then -1 else fT c l t j
variable {n c l}
theorem mem_pre {i j : Nat} : i ∈ pre c j ↔ i < j ∧ c i < c j := by unfold pre; simp
theorem mem_suc {i j : Nat} : j ∈ suc n c i ↔ j < n ∧ i < j ∧ c i < c j := by unfold suc; simp
theorem mem_grp {t : Int} {j : Nat} : j ∈ grp n l t ↔ j < n ∧ l j = t := by unfold grp; simp
theorem mx_ge {L : List Int} : -1 ≤ mx L ∧ ∀ a ∈ L, a ≤ mx L := ⟨(foldl_max_spec L (-1)).2.1, (foldl_max_spec L (-1)).2.2⟩
theorem mx_mem {L : List Int} : mx L = -1 ∨ mx L ∈ L := (foldl_max_spec L (-1)).1
theorem LevOk.lt (h : LevOk n c l) {i j : Nat} (hj : j < n) (hij : i < j) (hc : c i < c j) : l i < l j := by
  have h1 := h j hj
  have h2 := (mx_ge (L := (pre c j).map l)).2 (l i) (List.mem_map_of_mem (mem_pre.mpr ⟨hij, hc⟩))
  (first | lia | omega)
theorem LevOk.nonneg (h : LevOk n c l) {j : Nat} (hj : j < n) : 0 ≤ l j := by
  have h1 := h j hj
  have h2 := (mx_ge (L := (pre c j).map l)).1
  (first | lia | omega)
theorem LevOk.has (h : LevOk n c l) {j : Nat} (hj : j < n) (hp : 0 < l j) : ∃ i, An3 (i < j) (c i < c j) (l i = l j - 1) := by
  have h1 := h j hj
  rcases mx_mem (L := (pre c j).map l) with q | q
  · (first | lia | omega)
  · obtain ⟨i, hi, e⟩ := List.mem_map.mp q
    rw [mem_pre] at hi
    exact ⟨i, hi.1, hi.2, by (first | lia | omega)⟩
/-! ### what the sorter does to the counts -/
theorem gsF_nodes (f : Nat → Int) : (gsF n c f).map (·.node) = (List.range n).map nd := by unfold gsF; rw [List.map_map]; rfl
theorem find_range {i : Nat} : ∀ {m : Nat} {g : Nat → NI}, i < m → (∀ a, (g a).node = nd a) → ((List.range m).map g).find? (fun x => decide (x.node = nd i)) = some (g i) := by
  intro m
  induction m with
  | zero => intro g h; (first | lia | omega)
  | succ m ih =>
    intro g hi hg
    rw [List.range_succ, List.map_append, List.find?_append]
    by_cases q : i < m
    · rw [ih q hg]; rfl
    · have : i = m := by (first | lia | omega)
      subst this
      rw [List.find?_eq_none.mpr, Option.none_or]
      · simp [hg]
      · intro x hx
        obtain ⟨a, ha, rfl⟩ := List.mem_map.mp hx
        simp only [decide_eq_true_eq, hg]
        intro e
        have := nd_inj e
        rw [List.mem_range] at ha; (first | lia | omega)
theorem fnd_gsF {f : Nat → Int} {i : Nat} (hi : i < n) : fnd (gsF n c f) (nd i) = some ⟨nd i, f i, (suc n c i).map nd⟩ := find_range (g := fun i => ⟨nd i, f i, (suc n c i).map nd⟩) hi fun _ => rfl
noncomputable def upd (f : Nat → Int) (i : Nat) (v : Int) : Nat → Int := fun j => if j = i then v else f j
theorem setN_gsF {f : Nat → Int} {i : Nat} {F : NI → NI} {v : Nat → Int} (hF : ∀ j, F ⟨nd j, f j, (suc n c j).map nd⟩ = ⟨nd j, v j, (suc n c j).map nd⟩) : setN (gsF n c f) (nd i) F = gsF n c (upd f i (v i)) := by
  unfold setN gsF
  rw [List.map_map]
  refine List.map_congr_left fun j hj => ?_
  show (if nd j = nd i then F _ else _) = _
  unfold upd
  by_cases q : j = i
  · subst q; rw [if_pos rfl, if_pos rfl, hF]
  · rw [if_neg (fun e => q (nd_inj e)), if_neg q]
theorem decS_gsF {f : Nat → Int} {rl : List Int} {j : Nat} (hj : j < n) : decS (gsF n c f, rl) (nd j) = (gsF n c (upd f j (f j - 1)), if f j = 1 then rl ++ [nd j] else rl) := by
  unfold decS
  rw [setN_gsF (v := fun j => f j - 1) (fun _ => rfl), fnd_gsF hj]
  simp only [Option.map_some, Option.some.injEq]
theorem decS_fold {rl : List Int} : ∀ (L : List Nat) (f : Nat → Int), L.Nodup → (∀ j ∈ L, j < n) → ∀ rl, (L.map nd).foldl decS (gsF n c f, rl) = (gsF n c (fun j => if j ∈ L then f j - 1 else f j), rl ++ (L.filter fun j => decide (f j = 1)).map nd)
  | [], f, _, _, rl => by simp
  | j :: L, f, hn, hb, rl => by
    rw [List.nodup_cons] at hn
    rw [List.map_cons, List.foldl_cons, decS_gsF (hb j (List.mem_cons_self)), decS_fold (rl := rl) L _ hn.2 (fun a ha => hb a (List.mem_cons_of_mem _ ha))]
    have e1 : (fun a => if a ∈ L then upd f j (f j - 1) a - 1 else upd f j (f j - 1) a) = fun a => if a ∈ j :: L then f a - 1 else f a := funext fun a => by
      unfold upd
      by_cases q : a = j
      · subst q; simp [hn.1]
      · simp [q]
    have e2 : (L.filter fun a => decide (upd f j (f j - 1) a = 1)) = L.filter fun a => decide (f a = 1) := List.filter_congr fun a ha => by
      unfold upd
      have : a ≠ j := fun e => hn.1 (e ▸ ha)
      rw [if_neg this]
    rw [e1, e2]
    by_cases q : f j = 1
    · simp [q]
    · simp [q]
theorem suc_nodup (i : Nat) : (suc n c i).Nodup := List.Nodup.sublist List.filter_sublist List.nodup_range
theorem not_suc_self (i : Nat) : i ∉ suc n c i := fun h => by rw [mem_suc] at h; (first | lia | omega)
theorem doneN_gsF {f : Nat → Int} {rl : List Int} {i : Nat} (hi : i < n) : doneN (gsF n c f, rl) (nd i) = (gsF n c (fun j => if j = i then -2 else if j ∈ suc n c i then f j - 1 else f j), rl ++ ((suc n c i).filter fun j => decide (f j = 1)).map nd) := by
  unfold doneN
  rw [fnd_gsF hi, setN_gsF (v := fun _ => -2) (fun _ => rfl)]
  show ((suc n c i).map nd).foldl decS _ = _
  rw [decS_fold (rl := rl) _ _ (suc_nodup i) (fun j hj => (mem_suc.mp hj).1)]
  have e1 : (fun j => if j ∈ suc n c i then upd f i (-2) j - 1 else upd f i (-2) j) = fun j => if j = i then -2 else if j ∈ suc n c i then f j - 1 else f j := funext fun j => by
    unfold upd
    by_cases q : j = i
    · subst q; simp [not_suc_self]
    · simp [q]
  have e2 : ((suc n c i).filter fun j => decide (upd f i (-2) j = 1)) = (suc n c i).filter fun j => decide (f j = 1) := List.filter_congr fun j hj => by
    unfold upd
    have : j ≠ i := fun e => not_suc_self i (e ▸ hj)
    rw [if_neg this]
  rw [e1, e2]
theorem outG_gsF : ∀ (L : List Nat) (f : Nat → Int), outG (gsF n c f) (L.map nd) = gsF n c (fun j => if j ∈ L then -1 else f j)
  | [], f => by simp [outG]
  | i :: L, f => by
    have : outG (gsF n c f) ((i :: L).map nd) = outG (setN (gsF n c f) (nd i) fun g => { g with np := -1 }) (L.map nd) := rfl
    rw [this, setN_gsF (v := fun _ => -1) (fun _ => rfl), outG_gsF L]
    congr 1
    funext j
    unfold upd
    by_cases q : j ∈ L
    · simp [q]
    · by_cases q2 : j = i
      · simp [q2]
      · simp [q, q2]
end
end
/-! # part M3 -/
section
open PySem PySem.W PyProof.Rows
theorem sorted_eq : ∀ {L M : List Nat}, L.Pairwise (· < ·) → M.Pairwise (· < ·) → (∀ x, x ∈ L ↔ x ∈ M) → L = M
  | [], M, _, _, h => by
    cases M with
    | nil => rfl
    | cons b M => have := (h b).mpr (List.mem_cons_self); cases this
  | a :: L, M, hL, hM, h => by
    cases M with
    | nil => have := (h a).mp (List.mem_cons_self); cases this
    | cons b M =>
      rw [List.pairwise_cons] at hL hM
      have hab : a = b := by
        have h1 := (h a).mp (List.mem_cons_self)
        have h2 := (h b).mpr (List.mem_cons_self)
        rcases List.mem_cons.mp h1 with e | h1
        · exact e
        · rcases List.mem_cons.mp h2 with e | h2
          · exact e.symm
          · have := hM.1 a h1; have := hL.1 b h2; (first | lia | omega)
      subst hab
      congr 1
      refine sorted_eq hL.2 hM.2 fun x => ⟨fun hx => ?_, fun hx => ?_⟩
      · rcases List.mem_cons.mp ((h x).mp (List.mem_cons_of_mem _ hx)) with e | q
        · subst e; have := hL.1 x hx; (first | lia | omega)
        · exact q
      · rcases List.mem_cons.mp ((h x).mpr (List.mem_cons_of_mem _ hx)) with e | q
        · subst e; have := hM.1 x hx; (first | lia | omega)
        · exact q
theorem range_sorted (m : Nat) : (List.range m).Pairwise (· < ·) := List.pairwise_lt_range
theorem filter_one {F : List Nat} {i : Nat} (hn : F.Nodup) (hi : i ∈ F) : F.length = 1 ↔ ∀ p ∈ F, p = i := by
  constructor
  · intro h p hp
    match F, h with
    | [a], _ => simp at hi hp; rw [hp, hi]
  · intro h
    match F, hi with
    | [a], _ => rfl
    | a :: b :: F, _ =>
      have h1 := h a (by simp); have h2 := h b (by simp)
      rw [List.nodup_cons] at hn
      exact absurd (by rw [h1, ← h2]; simp) hn.1
theorem filter_less {F : List Nat} {p : Nat → Bool} {i : Nat} (hn : F.Nodup) (hi : i ∈ F) (hp : p i = true) : (F.filter p).length = (F.filter fun a => p a && decide (a ≠ i)).length + 1 := by
  induction F with
  | nil => cases hi
  | cons a F ih =>
    rw [List.nodup_cons] at hn
    by_cases q : a = i
    · subst q
      have e : (F.filter fun b => p b && decide (b ≠ a)) = F.filter p := List.filter_congr fun b hb => by
        have : b ≠ a := fun e => hn.1 (e ▸ hb)
        simp [this]
      rw [List.filter_cons_of_pos hp, List.filter_cons_of_neg (by simp), e]; simp
    · have hi' : i ∈ F := by
        rcases List.mem_cons.mp hi with e | h
        · exact absurd e.symm q
        · exact h
      have := ih hn.2 hi'
      by_cases hpa : p a = true <;> simp [List.filter_cons, hpa, q, this]
section
variable {n : Nat} {c l : Nat → Int}
theorem gsF_congr {f g : Nat → Int} (h : ∀ j < n, f j = g j) : gsF n c f = gsF n c g := by
  unfold gsF
  refine List.map_congr_left fun j hj => ?_
  rw [h j (List.mem_range.mp hj)]
noncomputable def cnt (c l : Nat → Int) (t : Int) (D : List Nat) (j : Nat) : List Nat := (pre c j).filter fun i => decide (t ≤ l i) && decide (i ∉ D)
noncomputable def fS (c l : Nat → Int) (t : Int) (D : List Nat) (j : Nat) : Int := if j ∈ D then -2 else if l j = t then -1 else if l j < t then -2 else ((cnt c l t D j).length : Int)
noncomputable def RD (n : Nat) (c l : Nat → Int) (t : Int) (D : List Nat) : List Nat := (List.range n).filter fun j => decide (t < l j) && (cnt c l t D j).isEmpty
theorem mem_cnt {t : Int} {D : List Nat} {i j : Nat} : i ∈ cnt c l t D j ↔ i < j ∧ c i < c j ∧ t ≤ l i ∧ i ∉ D := by unfold cnt; rw [List.mem_filter, mem_pre]; simp [and_assoc]
theorem pre_nodup (j : Nat) : (pre c j).Nodup := List.Nodup.sublist List.filter_sublist List.nodup_range
theorem cnt_nodup (t : Int) (D : List Nat) (j : Nat) : (cnt c l t D j).Nodup := List.Nodup.sublist List.filter_sublist (pre_nodup j)
theorem mem_RD {t : Int} {D : List Nat} {j : Nat} : j ∈ RD n c l t D ↔ j < n ∧ t < l j ∧ ∀ i, i < j → c i < c j → t ≤ l i → i ∈ D := by
  unfold RD
  rw [List.mem_filter, List.mem_range]
  simp only [Bool.and_eq_true, decide_eq_true_eq, List.isEmpty_iff]
  refine and_congr_right fun _ => and_congr_right fun _ => ⟨fun h i h1 h2 h3 => ?_, fun h => ?_⟩
  · refine Classical.byContradiction fun hn => ?_
    have := mem_cnt (l := l).mpr ⟨h1, h2, h3, hn⟩
    rw [h] at this; cases this
  · rw [List.eq_nil_iff_forall_not_mem]
    intro i hi
    rw [mem_cnt] at hi
    exact hi.2.2.2 (h i hi.1 hi.2.1 hi.2.2.1)
theorem step_f (h : LevOk n c l) {t : Int} {D : List Nat} {i : Nat} (hi : i < n) (hl : l i = t) (hD : ∀ a ∈ D, l a = t) (hiD : i ∉ D) {j : Nat} (hj : j < n) :
    (if j = i then (-2 : Int) else if j ∈ suc n c i then fS c l t D j - 1 else fS c l t D j) = fS c l t (D ++ [i]) j := by
  by_cases q : j = i
  · subst q; unfold fS; simp
  rw [if_neg q]
  by_cases hs : j ∈ suc n c i
  · rw [if_pos hs]
    have hs' := mem_suc.mp hs
    have hlt := h.lt hj hs'.2.1 hs'.2.2
    have hjD : j ∉ D := fun e => by have := hD j e; (first | lia | omega)
    unfold fS
    rw [if_neg hjD, if_neg (by (first | lia | omega)), if_neg (by (first | lia | omega)), if_neg (by simp [hjD, q]), if_neg (by (first | lia | omega)), if_neg (by (first | lia | omega))]
    have e1 : cnt c l t (D ++ [i]) j = (pre c j).filter fun a => (decide (t ≤ l a) && decide (a ∉ D)) && decide (a ≠ i) := List.filter_congr fun a _ => by
      simp [List.mem_append, Bool.and_assoc]
    have e2 := filter_less (p := fun a => decide (t ≤ l a) && decide (a ∉ D)) (pre_nodup (c := c) j) (mem_pre.mpr ⟨hs'.2.1, hs'.2.2⟩) (by simp [hiD]; (first | lia | omega))
    rw [e1]
    unfold cnt
    (first | lia | omega)
  · rw [if_neg hs]
    unfold fS
    by_cases hjD : j ∈ D
    · simp [hjD]
    · rw [if_neg hjD, if_neg (show ¬ j ∈ D ++ [i] by simp [hjD, q])]
      have e1 : cnt c l t (D ++ [i]) j = cnt c l t D j := List.filter_congr fun a ha => by
        have : a ≠ i := fun e => hs (mem_suc.mpr ⟨hj, by rw [mem_pre] at ha; subst e; exact ha⟩)
        simp [List.mem_append, this]
      rw [e1]
theorem step_R (h : LevOk n c l) {t : Int} (ht : 0 ≤ t) {D R : List Nat} {i : Nat} (hg : D ++ i :: R = grp n l t) : RD n c l t (D ++ [i]) = RD n c l t D ++ (suc n c i).filter fun j => decide (fS c l t D j = 1) := by
  have hig : i ∈ grp n l t := by rw [← hg]; simp
  have hi := mem_grp.mp hig
  have hDg : ∀ a ∈ D, a ∈ grp n l t := fun a ha => by rw [← hg]; exact List.mem_append_left _ ha
  have hsort : (grp n l t).Pairwise (· < ·) := List.Pairwise.sublist List.filter_sublist (range_sorted n)
  rw [← hg, List.pairwise_append] at hsort
  have hDi : ∀ a ∈ D, a < i := fun a ha => hsort.2.2 a ha i (by simp)
  have hiD : i ∉ D := fun e => by have := hDi i e; (first | lia | omega)
  have blk : ∀ j ∈ suc n c i, fS c l t D j = 1 ↔ ∀ p ∈ cnt c l t D j, p = i := fun j hj => by
    have hs := mem_suc.mp hj
    have hlt := h.lt hs.1 hs.2.1 hs.2.2
    have hjD : j ∉ D := fun e => by have := (mem_grp.mp (hDg j e)).2; (first | lia | omega)
    unfold fS
    rw [if_neg hjD, if_neg (by (first | lia | omega)), if_neg (by (first | lia | omega))]
    rw [← filter_one (cnt_nodup t D j) (mem_cnt.mpr ⟨hs.2.1, hs.2.2, by (first | lia | omega), hiD⟩)]
    (first | lia | omega)
  refine sorted_eq (List.Pairwise.sublist List.filter_sublist (range_sorted n)) ?_ fun j => ?_
  · rw [List.pairwise_append]
    refine ⟨List.Pairwise.sublist List.filter_sublist (range_sorted n), List.Pairwise.sublist List.filter_sublist (List.Pairwise.sublist List.filter_sublist (range_sorted n)), fun j' hj' j hj => ?_⟩
    rw [mem_RD] at hj'
    rw [List.mem_filter] at hj
    have hs := mem_suc.mp hj.1
    rcases Nat.lt_trichotomy j' j with q | q | q
    · exact q
    · subst q
      exact absurd (hj'.2.2 i hs.2.1 hs.2.2 (by (first | lia | omega))) hiD
    · exfalso
      obtain ⟨i', h1, h2, h3⟩ := h.has hj'.1 (by (first | lia | omega))
      have hi'D := hj'.2.2 i' h1 h2 (by (first | lia | omega))
      have hi'l := (mem_grp.mp (hDg i' hi'D)).2
      have hi'i := hDi i' hi'D
      by_cases hc : c i < c j'
      · exact hiD (hj'.2.2 i (by (first | lia | omega)) hc (by (first | lia | omega)))
      · have := h.lt hi.1 hi'i (show c i' < c i by (first | lia | omega))
        (first | lia | omega)
  · rw [List.mem_append, mem_RD, mem_RD, List.mem_filter]
    constructor
    · rintro ⟨h1, h2, h3⟩
      by_cases hp : i < j ∧ c i < c j
      · refine .inr ⟨mem_suc.mpr ⟨h1, hp⟩, ?_⟩
        rw [decide_eq_true_eq, blk j (mem_suc.mpr ⟨h1, hp⟩)]
        intro p hp'
        rw [mem_cnt] at hp'
        have := h3 p hp'.1 hp'.2.1 hp'.2.2.1
        rcases List.mem_append.mp this with q | q
        · exact absurd q hp'.2.2.2
        · simpa using q
      · refine .inl ⟨h1, h2, fun p h4 h5 h6 => ?_⟩
        rcases List.mem_append.mp (h3 p h4 h5 h6) with q | q
        · exact q
        · simp at q; subst q; exact absurd ⟨h4, h5⟩ hp
    · rintro (⟨h1, h2, h3⟩ | ⟨h1, h2⟩)
      · exact ⟨h1, h2, fun p h4 h5 h6 => List.mem_append_left _ (h3 p h4 h5 h6)⟩
      · have hs := mem_suc.mp h1
        rw [decide_eq_true_eq, blk j h1] at h2
        have hlt := h.lt hs.1 hs.2.1 hs.2.2
        refine ⟨hs.1, by (first | lia | omega), fun p h4 h5 h6 => ?_⟩
        by_cases q : p ∈ D
        · exact List.mem_append_left _ q
        · exact List.mem_append_right _ (by have := h2 p (mem_cnt.mpr ⟨h4, h5, h6, q⟩); simp [this])
theorem RD_len (t : Int) (D : List Nat) : (RD n c l t D).length ≤ n := by
  have := List.length_filter_le (fun j => decide (t < l j) && (cnt c l t D j).isEmpty) (List.range n)
  rw [List.length_range] at this; exact this
theorem suc_len (i : Nat) : (suc n c i).length ≤ n := by
  have := List.length_filter_le (fun j => decide (i < j ∧ c i < c j)) (List.range n)
  rw [List.length_range] at this; exact this
theorem round_go (h : LevOk n c l) (hn : n ≤ 400) {t : Int} (ht : 0 ≤ t) : ∀ (R D : List Nat), D ++ R = grp n l t →
    DoneOk (gsF n c (fS c l t D), (RD n c l t D).map nd) (R.map nd) ∧ (R.map nd).foldl doneN (gsF n c (fS c l t D), (RD n c l t D).map nd) = (gsF n c (fS c l t (grp n l t)), (RD n c l t (grp n l t)).map nd)
  | [], D, hg => by rw [List.append_nil] at hg; subst hg; exact ⟨trivial, rfl⟩
  | i :: R, D, hg => by
    have hi := mem_grp.mp (show i ∈ grp n l t by rw [← hg]; simp)
    have hDg : ∀ a ∈ D, l a = t := fun a ha => (mem_grp.mp (show a ∈ grp n l t by rw [← hg]; exact List.mem_append_left _ ha)).2
    have hnd : (grp n l t).Nodup := List.Nodup.sublist List.filter_sublist List.nodup_range
    have hiD : i ∉ D := fun e => by
      rw [← hg, List.nodup_append] at hnd
      exact hnd.2.2 i e i (by simp) rfl
    have hstep : doneN (gsF n c (fS c l t D), (RD n c l t D).map nd) (nd i) = (gsF n c (fS c l t (D ++ [i])), (RD n c l t (D ++ [i])).map nd) := by
      rw [doneN_gsF hi.1, step_R h ht hg, List.map_append, gsF_congr fun j hj => step_f h hi.1 hi.2 hDg hiD hj]
    obtain ⟨ih1, ih2⟩ := round_go h hn ht R (D ++ [i]) (by rw [← hg]; simp)
    refine ⟨⟨⟨_, fnd_gsF hi.1, ?_, fun s hs => ?_, ?_⟩, ?_⟩, ?_⟩
    · show fS c l t D i = -1
      unfold fS; rw [if_neg hiD, if_pos hi.2]
    · obtain ⟨j, hj, rfl⟩ := List.mem_map.mp hs
      show nd j ∈ (gsF n c _).map (·.node)
      rw [gsF_nodes]; exact List.mem_map_of_mem (List.mem_range.mpr (mem_suc.mp hj).1)
    · have h1 := RD_len (n := n) (c := c) (l := l) t D
      have h2 := suc_len (n := n) (c := c) i
      show (List.map nd _).length + (List.map nd _).length ≤ 900
      rw [List.length_map, List.length_map]; (first | lia | omega)
    · show DoneOk (doneN _ (nd i)) _
      rw [hstep]; exact ih1
    · rw [List.map_cons, List.foldl_cons, hstep]; exact ih2
theorem round_step (h : LevOk n c l) (hn : n ≤ 400) {t : Int} (ht : 0 ≤ t) :
    outG (gsF n c (fT c l t)) ((grp n l t).map nd) = gsF n c (fS c l t []) ∧ DoneOk (gsF n c (fS c l t []), []) ((grp n l t).map nd) ∧
    ((grp n l t).map nd).foldl doneN (gsF n c (fS c l t []), []) = (gsF n c (fT c l (t + 1)), (grp n l (t + 1)).map nd) := by
  have hR0 : RD n c l t [] = [] := by
    rw [List.eq_nil_iff_forall_not_mem]
    intro j hj
    rw [mem_RD] at hj
    obtain ⟨i, h1, h2, h3⟩ := h.has hj.1 (by (first | lia | omega))
    have := hj.2.2 i h1 h2 (by (first | lia | omega))
    cases this
  have hR1 : RD n c l t (grp n l t) = grp n l (t + 1) := by
    refine List.filter_congr fun j hj => ?_
    rw [List.mem_range] at hj
    rw [Bool.eq_iff_iff]
    have hm := mem_RD (n := n) (c := c) (l := l) (t := t) (D := grp n l t) (j := j)
    unfold RD at hm
    rw [List.mem_filter, List.mem_range] at hm
    simp only [hj, true_and] at hm
    rw [hm, decide_eq_true_eq]
    constructor
    · rintro ⟨h1, h2⟩
      obtain ⟨i, h3, h4, h5⟩ := h.has hj (by (first | lia | omega))
      have := (mem_grp.mp (h2 i h3 h4 (by (first | lia | omega)))).2
      (first | lia | omega)
    · intro h1
      refine ⟨by (first | lia | omega), fun i h3 h4 h5 => mem_grp.mpr ⟨by (first | lia | omega), ?_⟩⟩
      have := h.lt hj h3 h4
      (first | lia | omega)
  obtain ⟨g1, g2⟩ := round_go h hn ht (grp n l t) [] rfl
  rw [hR0] at g1 g2
  refine ⟨?_, g1, ?_⟩
  · rw [outG_gsF]
    refine gsF_congr fun j hj => ?_
    unfold fS fT
    rw [if_neg (show ¬ j ∈ ([] : List Nat) by simp)]
    by_cases q : l j = t
    · rw [if_pos (mem_grp.mpr ⟨hj, q⟩), if_pos q]
    · rw [if_neg (fun e => q (mem_grp.mp e).2), if_neg q]
      unfold cnt; simp
  · rw [show ([] : List Int) = ([] : List Nat).map nd from rfl, g2, hR1]
    congr 1
    refine gsF_congr fun j hj => ?_
    unfold fS fT
    by_cases q : l j = t
    · rw [if_pos (mem_grp.mpr ⟨hj, q⟩), if_pos (by (first | lia | omega))]
    · rw [if_neg (fun e => q (mem_grp.mp e).2), if_neg q]
      by_cases q2 : l j < t
      · rw [if_pos q2, if_pos (by (first | lia | omega))]
      · rw [if_neg q2, if_neg (by (first | lia | omega))]
        congr 2
        refine List.filter_congr fun i hi => ?_
        rw [mem_pre] at hi
        rw [Bool.eq_iff_iff]
        simp only [Bool.and_eq_true, decide_eq_true_eq, mem_grp]
        constructor
        · rintro ⟨h1, h2⟩
          have : ¬ l i = t := fun e => h2 ⟨by (first | lia | omega), e⟩
          (first | lia | omega)
        · intro h1; exact ⟨by (first | lia | omega), fun e => by (first | lia | omega)⟩
theorem rdy_start (h : LevOk n c l) : rdy0 (gsF n c (fT c l 0)) = (grp n l 0).map nd := by
  unfold rdy0 gsF grp
  rw [List.filter_map, List.map_map]
  show List.map (fun i => nd i) _ = _
  congr 1
  refine List.filter_congr fun j hj => ?_
  rw [List.mem_range] at hj
  show decide (fT c l 0 j = 0) = decide (l j = 0)
  have hnn := h.nonneg hj
  unfold fT
  rw [if_neg (by (first | lia | omega)), Bool.eq_iff_iff, decide_eq_true_eq, decide_eq_true_eq]
  constructor
  · intro e
    refine Classical.byContradiction fun hc => ?_
    obtain ⟨i, h1, h2, h3⟩ := h.has hj (by (first | lia | omega))
    have : i ∈ (pre c j).filter fun i => decide (0 ≤ l i) := by rw [List.mem_filter, mem_pre]; exact ⟨⟨h1, h2⟩, by simp; (first | lia | omega)⟩
    have h5 := List.length_pos_of_mem this
    (first | lia | omega)
  · intro e
    have : (pre c j).filter (fun i => decide (0 ≤ l i)) = [] := by
      rw [List.eq_nil_iff_forall_not_mem]
      intro i hi
      rw [List.mem_filter, mem_pre] at hi
      have h4 := h.lt hj hi.1.1 hi.1.2
      have h5 := h.nonneg (show i < n by (first | lia | omega))
      (first | lia | omega)
    rw [this]; rfl
end
end
/-! # part M4 -/
section
open PySem PySem.W PyProof.Rows
/-! ## the graph that the adds make -/
theorem addG_nodes (gs : List NI) (k : Int) (ps : List Int) : (addG gs k ps).map (·.node) = gs.map (·.node) ++ [k] := by
  unfold addG
  have : ∀ (l : List Int) (gs : List NI), (l.foldl (fun gs p => addS gs p k) gs).map (·.node) = gs.map (·.node) := by
    intro l
    induction l with
    | nil => intro gs; rfl
    | cons a l ih => intro gs; rw [List.foldl_cons, ih, addS_nodes]
  rw [this]; simp
theorem addS_fold {k : Int} : ∀ (ps : List Int) (gs : List NI), ps.Nodup → ps.foldl (fun gs p => addS gs p k) gs = gs.map fun g => if g.node ∈ ps then { g with succ := g.succ ++ [k] } else g
  | [], gs, _ => by simp
  | p :: ps, gs, hn => by
    rw [List.nodup_cons] at hn
    rw [List.foldl_cons, addS_fold ps _ hn.2]
    unfold addS
    rw [List.map_map]
    refine List.map_congr_left fun g _ => ?_
    show (if (if g.node = p then { g with succ := g.succ ++ [k] } else g).node ∈ ps then _ else _) = _
    by_cases q : g.node = p
    · rw [if_pos q]
      have h1 : ¬ g.node ∈ ps := by rw [q]; exact hn.1
      rw [if_neg h1, if_pos (by rw [q]; simp)]
    · rw [if_neg q]
      by_cases q2 : g.node ∈ ps
      · rw [if_pos q2, if_pos (by simp [q2])]; simp [q]
      · rw [if_neg q2, if_neg (by simp [q, q2])]
section
variable {n : Nat} {c l : Nat → Int}
noncomputable def gs0 (c : Nat → Int) (m : Nat) : List NI := gsF m c fun j => ((pre c j).length : Int)
theorem suc_succ (m i : Nat) : suc (m + 1) c i = suc m c i ++ if i < m ∧ c i < c m then [m] else [] := by
  unfold suc
  rw [List.range_succ, List.filter_append]
  by_cases h : i < m ∧ c i < c m <;> simp [h]
theorem add_step (m : Nat) : addG (gs0 c m) (nd m) ((pre c m).map nd) = gs0 c (m + 1) := by
  have hnd : ((pre c m).map nd).Nodup := by
    have h1 := pre_nodup (c := c) m
    refine List.pairwise_map.mpr (h1.imp fun {a b} hab e => hab (nd_inj e))
  have hmem : ∀ i, nd i ∈ (pre c m).map nd ↔ i < m ∧ c i < c m := fun i => by
    constructor
    · intro h
      obtain ⟨j, hj, e⟩ := List.mem_map.mp h
      have := nd_inj e; subst this; exact mem_pre.mp hj
    · intro h; exact List.mem_map_of_mem (mem_pre.mpr h)
  unfold addG
  rw [addS_fold _ _ hnd, List.map_append, List.length_map]
  unfold gs0 gsF
  rw [List.range_succ, List.map_append, List.map_map]
  congr 1
  · refine List.map_congr_left fun i hi => ?_
    rw [List.mem_range] at hi
    show (if nd i ∈ (pre c m).map nd then _ else _) = _
    rw [suc_succ]
    by_cases q : i < m ∧ c i < c m
    · rw [if_pos ((hmem i).mpr q), if_pos q]; simp
    · rw [if_neg (fun e => q ((hmem i).mp e)), if_neg q]; simp
  · simp only [List.map_cons, List.map_nil]
    rw [if_neg (fun e => by have := ((hmem m).mp e).1; (first | lia | omega)), suc_succ, if_neg (by (first | lia | omega))]
    have : suc m c m = [] := by
      rw [List.eq_nil_iff_forall_not_mem]
      intro j hj
      rw [mem_suc] at hj; (first | lia | omega)
    rw [this]; rfl
theorem gs0_fT (h : LevOk n c l) : gs0 c n = gsF n c (fT c l 0) := by
  unfold gs0
  refine gsF_congr fun j hj => ?_
  have := h.nonneg hj
  unfold fT
  rw [if_neg (by (first | lia | omega))]
  congr 2
  refine (List.filter_eq_self.mpr fun i hi => ?_).symm
  rw [mem_pre] at hi
  have := h.nonneg (show i < n by (first | lia | omega))
  simpa using this
theorem gs0_nodes (m : Nat) : (gs0 c m).map (·.node) = (List.range m).map nd := gsF_nodes _
theorem gs0_len (m : Nat) : (gs0 c m).length = m := by unfold gs0 gsF; simp
theorem gs0_succ {m : Nat} {g : NI} (hg : g ∈ gs0 c m) : g.succ.length ≤ m ∧ ∀ s ∈ g.succ, s ∈ (gs0 c m).map (·.node) ∧ s < g.node := by
  unfold gs0 gsF at hg
  obtain ⟨i, hi, rfl⟩ := List.mem_map.mp hg
  refine ⟨by rw [List.length_map]; exact suc_len i, fun s hs => ?_⟩
  obtain ⟨j, hj, rfl⟩ := List.mem_map.mp hs
  rw [mem_suc] at hj
  refine ⟨by rw [gs0_nodes]; exact List.mem_map_of_mem (List.mem_range.mpr hj.1), ?_⟩
  show nd j < nd i
  unfold nd; (first | lia | omega)
theorem gs0_new (m : Nat) : nd m ∉ (gs0 c m).map (·.node) := by
  rw [gs0_nodes]
  intro h
  obtain ⟨j, hj, e⟩ := List.mem_map.mp h
  have := nd_inj e
  rw [List.mem_range] at hj; (first | lia | omega)
theorem gs0_pre (m : Nat) : ∀ p ∈ (pre c m).map nd, p ∈ (gs0 c m).map (·.node) := fun p hp => by
  obtain ⟨j, hj, rfl⟩ := List.mem_map.mp hp
  rw [gs0_nodes]; exact List.mem_map_of_mem (List.mem_range.mpr (mem_pre.mp hj).1)
theorem pre_len (m : Nat) : (pre c m).length ≤ m := by
  have := List.length_filter_le (fun i => decide (c i < c m)) (List.range m)
  rw [List.length_range] at this; exact this
theorem grp_len (t : Int) : (grp n l t).length ≤ n := by
  have := List.length_filter_le (fun j => decide (l j = t)) (List.range n)
  rw [List.length_range] at this; exact this
theorem grp_down (h : LevOk n c l) {t : Int} (ht : 0 ≤ t) (hg : grp n l (t + 1) ≠ []) : grp n l t ≠ [] := by
  obtain ⟨j, hj⟩ := List.exists_mem_of_ne_nil _ hg
  rw [mem_grp] at hj
  obtain ⟨i, h1, h2, h3⟩ := h.has hj.1 (by (first | lia | omega))
  intro e
  have : i ∈ grp n l t := mem_grp.mpr ⟨by (first | lia | omega), by (first | lia | omega)⟩
  rw [e] at this; cases this
theorem grp_upto (h : LevOk n c l) : ∀ (d : Nat) {t : Int}, 0 ≤ t → grp n l (t + d) ≠ [] → grp n l t ≠ []
  | 0, t, _, hg => by simpa using hg
  | d + 1, t, ht, hg => grp_upto h d ht (grp_down h (by (first | lia | omega)) (by rw [show t + d + 1 = t + (d + 1 : Nat) by (first | lia | omega)]; exact hg))
end
end
/-! # part F18 -/
section
open PySem PySem.W PyProof.Rows Builtin.ObjectAttr
/-- the rounds, as the law keeps them -/
noncomputable def RndIs (n : Nat) (l : Nat → Int) (kn : Kn) (items : List Value) (T : Nat) : Prop := ∃ rest, An3 (items = .none :: rest) (rest.length = T) (∀ t, t < T → Ex3 fun pr gr vs => An4 (rest[t]? = some (.ref pr)) (kn pr = some (to [.ref gr, .bool true])) (kn gr = some (to vs)) (IntsAre vs ((grp n l t).map nd)))
theorem RndIs.le {n : Nat} {l : Nat → Int} {kn kn' : Kn} {items : List Value} {T : Nat} (h : RndIs n l kn items T) (hk : ∀ a vs, kn a = some (to vs) → kn' a = some (to vs)) : RndIs n l kn' items T := by
  obtain ⟨rest, h1, h2, h3⟩ := h
  refine ⟨rest, h1, h2, fun t ht => ?_⟩
  obtain ⟨pr, gr, vs, a, b, c, d⟩ := h3 t ht
  exact ⟨pr, gr, vs, a, hk _ _ b, hk _ _ c, d⟩
theorem RndIs.snoc {n : Nat} {l : Nat → Int} {kn : Kn} {items : List Value} {T : Nat} {pr gr : Addr} {vs : List Value} (h : RndIs n l kn items T) (h1 : kn pr = some (to [.ref gr, .bool true])) (h2 : kn gr = some (to vs)) (h3 : IntsAre vs ((grp n l T).map nd)) : RndIs n l kn (items ++ [.ref pr]) (T + 1) := by
  obtain ⟨rest, e1, e2, e3⟩ := h
  refine ⟨rest ++ [.ref pr], by rw [e1]; rfl, by simp [e2], fun t ht => ?_⟩
  by_cases q : t < T
  · obtain ⟨pr', gr', vs', a, b, c, d⟩ := e3 t q
    exact ⟨pr', gr', vs', by rw [List.getElem?_append_left (by (first | lia | omega))]; exact a, b, c, d⟩
  · have : t = T := by (first | lia | omega)
    subst this
    exact ⟨pr, gr, vs, by rw [← e2]; simp, h1, h2, h3⟩
section
variable {P : Pk} {A : Around} {kn : Kn} {frs : List Fm} {Q : Value → Kn → List Fm → Prop} {x dx d : Addr} {as : List NA} {gs : List NI} {rv : Value} {po nf : Int}
theorem to_cls {kn : Kn} {a : Addr} {vs : List Value} {o : Obj} (h : kn a = some (to vs)) (ho : kn a = some o) (hc : o.cls ≠ .type "tuple") : False := by
  rw [h] at ho; cases ho; exact hc rfl
theorem Srt.not_to (w : World) (h : Srt kn x dx d as gs rv po nf) {a : Addr} {vs : List Value} (ha : kn a = some (to vs)) : ¬ Mineof x dx d as a := by
  rintro (rfl | rfl | rfl | ⟨i, b, hb, hc⟩)
  · exact to_cls ha h.ox (by intro e; cases e)
  · obtain ⟨o, t, u, h1, p, n, t1, t2, t3, t4, rfl⟩ := h.od
    exact to_cls ha h1 (by intro e; injection e with e; exact absurd e (by decide))
  · obtain ⟨o, h1, h2⟩ := h.dd
    obtain ⟨es, ep, hx, _⟩ := h2 w
    exact to_cls ha h1 (by rw [hx.1]; intro e; injection e with e; exact absurd e (by decide))
  · have hi : i < as.length := (List.getElem?_eq_some_iff.mp hb).1
    have : gs[i]? = some (gs[i]'(by rw [← h.ns.len]; exact hi)) := List.getElem?_eq_getElem _
    obtain ⟨t, u, items, ep, h1, h2, h3, h4⟩ := h.ns.at_ i b _ hb this
    simp only [NA.all, List.mem_cons, List.not_mem_nil, or_false] at hc
    rcases hc with rfl | rfl | rfl
    · exact to_cls ha h1 (by intro e; cases e)
    · exact to_cls ha h2 (by intro e; injection e with e; exact absurd e (by decide))
    · exact to_cls ha h3 (by intro e; injection e with e; exact absurd e (by decide))
theorem ts_make (hA : Rm 2 A) (h : ∀ x dx d kn', Srt kn' x dx d [] [] .none 0 0 → (∀ c, Mineof x dx d [] c → kn c = none) → (∀ a o, kn a = some o → kn' a = some o) → Q (.ref x) kn' frs) : WP P A (call (.ref 186) []) Q kn frs := by
  refine c_make (fI := 122) (by kernel_rfl) (by kernel_rfl) (by kernel_rfl) fun x dx hxd hx hd => ?_
  refine ts_init hA.made Kn.set_self (by rw [Kn.set_ne (Ne.symm hxd)]; exact Kn.set_self) hxd fun d od t3 t4 kn' hdn hdm hsd h1 h2 h3 => ⟨rfl, ?_⟩
  have hdx : d ≠ x := fun e => by rw [e, Kn.set_self] at hdn; cases hdn
  have hddx : d ≠ dx := fun e => by rw [e, Kn.set_ne (Ne.symm hxd), Kn.set_self] at hdn; cases hdn
  refine h x dx d kn' ⟨h3 _ _ hxd Kn.set_self, ⟨od, t3, t4, h1, hsd⟩, hdm, ⟨emptyDict, h2, IntD.nil⟩, ⟨rfl, fun i a g ha => by simp at ha, fun i j a b _ ha => by simp at ha⟩, ⟨?_, ?_, ?_⟩, hxd, Ne.symm hdx, Ne.symm hddx⟩ (fun c hc => ?_) fun a o e => ?_
  · rintro ⟨i, a, ha, _⟩; simp at ha
  · rintro ⟨i, a, ha, _⟩; simp at ha
  · rintro ⟨i, a, ha, _⟩; simp at ha
  · rcases hc with rfl | rfl | rfl | ⟨i, a, ha, _⟩
    · exact hx
    · exact hd
    · rw [Kn.set_ne hdx, Kn.set_ne hddx] at hdn; exact hdn
    · simp at ha
  · exact h3 a o (Kn.ne_of e hd) (by rw [Kn.set_ne (Kn.ne_of e hx), Kn.set_ne (Kn.ne_of e hd)]; exact e)
theorem mine_snoc {y : NA} {c : Addr} (h : Mineof x dx d (as ++ [y]) c) : Mineof x dx d as c ∨ c ∈ y.all := by
  rcases h with h | h | h | ⟨i, a, ha, hc⟩
  · exact .inl (.inl h)
  · exact .inl (.inr (.inl h))
  · exact .inl (.inr (.inr (.inl h)))
  · rcases Nat.lt_trichotomy i as.length with q | q | q
    · rw [List.getElem?_append_left q] at ha; exact .inl (.inr (.inr (.inr ⟨i, a, ha, hc⟩)))
    · subst q; simp at ha; subst ha; exact .inr hc
    · rw [List.getElem?_eq_none (by simp; (first | lia | omega))] at ha; cases ha
theorem LevOk.le_self {n : Nat} {c l : Nat → Int} (h : LevOk n c l) (j : Nat) (hj : j < n) : l j ≤ j := by
  induction j using Nat.strongRecOn with
  | _ j ih =>
    rw [h j hj]
    rcases mx_mem (L := (pre c j).map l) with e | e
    · rw [e]; (first | lia | omega)
    · obtain ⟨i, hi, e2⟩ := List.mem_map.mp e
      have h1 := mem_pre.mp hi
      have := ih i h1.1 (by (first | lia | omega))
      rw [← e2]; (first | lia | omega)
theorem rounds_ok (hA : Rm 5 A) (hF : FrA A frs) {l : Addr} {items : List Value} {ep : Nat} {cs : List Int} {lv : Nat → Int} (hl : Kw P kn l (lo items ep)) (hi : IntsAre items cs) (hz : cs.length ≤ 100) (hlev : LevOk cs.length (fun i => cs.getD i 0) lv)
    (hq : ∀ R ri rep kn' (T : Nat), kn' R = some (lo ri rep) → RndIs cs.length lv kn' ri T → grp cs.length lv T = [] → (∀ t : Nat, t < T → grp cs.length lv t ≠ []) → (∀ a o, kn a = some o → kn' a = some o) → kn R = none → Q (.ref R) kn' frs) : WP P A (call (.ref 215) [.ref l]) Q kn frs := by
  have hsl := sizeLine_eq
  have hil := hi.length
  refine c_pos [("codes", .ref l)] (fun L => [("j", L + 2), ("codes", L + 1)]) hA (by rfl) (by kernel_rfl) (by kernel_rfl) (by kernel_rfl) (fun _ => by kernel_rfl) (fun L => ?_) (by kernel_rfl) (by kernel_rfl) (by kernel_rfl)
  refine x_cons ?_
  repeat (walk_at "s")
  refine ts_make (hA.deep.le (by decide)) fun x dx d K0 hs0 hf0 hup0 => ?_
  have hlk : ∀ (K : Kn), (∀ a o, kn a = some o → K a = some o) → Kw P K l (lo items ep) := fun K hK => hl.elim (fun e => .inl (hK _ _ e)) .inr
  repeat (walk_at "s")
  refine x_for ?_
  repeat (walk_at "s")
  refine k_llen (hlk _ hup0) (by (first | lia | omega)) fun t1 => ?_
  repeat (walk_at "s")
  refine k_range fun r t2 t3 hr => ?_
  rw [hil]
  have hrm : ¬ Mineof x dx d [] r := fun e => by obtain ⟨o, e⟩ := hs0.known e; rw [hr] at e; cases e
  refine ⟨cs.length, _, _, fun i kn' frs' => ∃ as, An5 (Srt kn' x dx d as (gs0 (fun i => cs.getD i 0) i) .none 0 0) (∀ c, Mineof x dx d as c → kn c = none ∧ c ≠ r) (∀ a o, kn a = some o → kn' a = some o) (kn' r = some (ro (.int 0 t2) (.int cs.length t1) (.int 1 t3))) (frs' = ⟨L, [("j", L + 2), ("codes", L + 1)], [("codes", .ref l), ("sorter", .ref x)]⟩ :: frs), src_range (hA.deep (env := _)).handled r cs.length (by (first | lia | omega)), ⟨[], hs0.off hrm, fun c hc => ⟨hf0 c hc, fun e => hrm (e ▸ hc)⟩, fun a o e => Kn.new hr _ _ (hup0 a o e), Kn.set_self, rfl⟩, ?_, ?_, ?_⟩
  · rintro i kn' frs' ⟨as, h1, h2, h3, h4, rfl⟩
    exact ⟨_, _, _, .inl h4⟩
  · rintro j v P' kn' frs' Ka hle hj ⟨tj, rfl⟩ hKa ⟨as, h1, h2, h3, h4, rfl⟩
    obtain ⟨od, u1, u2, hod, hsd⟩ := h1.od
    iterate 2 (walk_at "s")
    repeat (walk_at "s")
    refine e_smeth ?_ (by rfl)
    repeat (walk_at "s")
    refine g_meth (C := 186) (f := 136) h1.ox hod rfl rfl rfl (by kernel_rfl) (by kernel_rfl) (by kernel_rfl) (by kernel_rfl) (by kernel_rfl) (by kernel_rfl) (by kernel_rfl) (by kernel_rfl) hsd.m2 fun mm hmm => ?_
    have hmm0 : ¬ Mineof x dx d as mm := fun e => by obtain ⟨o, e⟩ := h1.known e; rw [hmm] at e; cases e
    have h1' : Srt (kn'.set mm (methodObj (.ref 136) (.ref x))) x dx d as (gs0 (fun i => cs.getD i 0) j) .none 0 0 := h1.off hmm0
    refine w_meth (f := 136) (x := x) (by rfl) (by rfl) ?_ (by rfl)
    repeat (walk_at "s")
    refine a_star ?_ (by rfl)
    refine e_lcp (cl := [("j", L + 2), ("codes", L + 1)]) ?_ (by rfl) (by decide +kernel) (by rfl) (by decide +kernel) (by intro _; rfl)
    repeat (walk_at "s")
    refine k_range fun r2 t4 t5 hr2 => ?_
    have hlw : Kw P ((kn'.set mm (methodObj (.ref 136) (.ref x))).set r2 (ro (.int 0 t4) (.int j tj) (.int 1 t5))) l (lo items ep) := hlk _ fun a o e => Kn.new hr2 _ _ (Kn.new hmm _ _ (h3 a o e))
    refine ⟨j, _, _, fun i ys => IntsAre ys (((List.range i).filter fun i => decide (cs.getD i 0 < cs.getD j 0)).map nd), by (first | lia | omega), src_range (hA.deep (env := _)).handled r2 j (by (first | lia | omega)), ⟨_, _, _, .inl Kn.set_self⟩, .nil, ?_, ?_⟩
    · rintro i ys _ P'' C hle'' hij ⟨ti, rfl⟩ hF2
      have hs := range_filter_succ (fun i => decide (cs.getD i 0 < cs.getD j 0)) nd i
      obtain ⟨tci, hci⟩ := ia_get hi i (by (first | lia | omega))
      obtain ⟨tcj, hcj⟩ := ia_get hi j hj
      repeat (walk_at "s")
      refine k_lsub ((hlw.le hle).le hle'') (by (first | lia | omega)) (by (first | lia | omega)) (by rw [Int.toNat_natCast]; exact hci) ?_
      repeat (walk_at "s")
      refine k_lsub ((hlw.le hle).le hle'') (by (first | lia | omega)) (by (first | lia | omega)) (by rw [Int.toNat_natCast]; exact hcj) ?_
      repeat (walk_at "s")
      refine if_dec (fun hc => ?_) (fun hc => ?_)
      · repeat (walk_at "s")
        exact ⟨by show IntsAre _ _; rw [hs, if_pos (by simpa using hc)]; exact ia_app hF2 (ia_one _ _), .eq⟩
      · exact ⟨by show IntsAre _ _; rw [hs, if_neg (by simpa using hc), List.append_nil]; exact hF2, .eq⟩
    · intro ys D2 ep2 hF2 hD2 hyl
      have hpre : IntsAre ys ((pre (fun i => cs.getD i 0) j).map nd) := hF2
      have hpl := pre_len (c := fun i => cs.getD i 0) j
      refine ⟨D2, ys, rfl, .inl ⟨ep2, .inl Kn.set_self⟩, by (first | lia | omega), ?_⟩
      repeat (walk_at "s")
      refine ⟨Kn.new hD2 _ _ (Kn.new hr2 _ _ Kn.set_self), ?_⟩
      have hup2 : ∀ a o, kn' a = some o → ((kn'.set mm (methodObj (.ref 136) (.ref x))).set r2 (ro (.int 0 t4) (.int j tj) (.int 1 t5))).set D2 (lo ys ep2) a = some o := fun a o e => Kn.new hD2 _ _ (Kn.new hr2 _ _ (Kn.new hmm _ _ e))
      have hs5 := h1.sup hup2
      rw [List.append_nil]
      refine add_ok (k := nd j) (hA.deep.le (by decide)) hs5 hpre (gs0_new j) (gs0_pre j) (by rw [gs0_len]; (first | lia | omega)) (by rw [List.length_map]; (first | lia | omega)) (fun g hg => by have := (gs0_succ hg).1; (first | lia | omega)) fun y K hsK hyf hfrm => ?_
      repeat (walk_at "s")
      rw [add_step] at hsK
      refine hKa _ _ ?_
      refine ⟨_, _, fun _ _ e => e, .top (vs := [("codes", .ref l), ("sorter", .ref x)]) (by walk_at "sub"), as ++ [y], hsK, fun c hc => ?_, fun a o e => ?_, ?_, rfl⟩
      · rcases mine_snoc hc with q | q
        · exact h2 c q
        · have hk := hyf c q
          refine ⟨?_, fun e => ?_⟩
          · cases e : kn c with
            | none => rfl
            | some o => rw [hup2 _ _ (h3 _ _ e)] at hk; cases hk
          · rw [e, hup2 _ _ h4] at hk; cases hk
      · refine hfrm a o (fun q => ?_) (hup2 _ _ (h3 a o e))
        rw [(h2 a q).1] at e; cases e
      · exact hfrm r _ (fun q => (h2 r q).2 rfl) (hup2 _ _ h4)
  · rintro kn' frs' ⟨as, h1, h2, h3, h4, rfl⟩
    repeat (walk_at "s")
    obtain ⟨od, u1, u2, hod, hsd⟩ := h1.od
    refine ts_meth (f := 141) h1.ox hod hsd.m3 (by kernel_rfl) (by kernel_rfl) ?_
    repeat (walk_at "s")
    refine prep_ok (D := cs.length) (hA.deep.le (by decide)) (hF.deep (notmod (by kernel_rfl)) (by rfl)) h1 (by rw [gs0_len]; (first | lia | omega)) (fun g hg => (gs0_succ hg).1) (by (first | lia | omega)) (fun g hg => (gs0_succ hg).2) fun R K hsK hrdy hRm hRnew hfrm => ?_
    rw [gs0_fT hlev] at hsK hrdy
    rw [rdy_start hlev] at hrdy
    have hupK : ∀ a o, kn a = some o → K a = some o := fun a o e => hfrm a o (fun q => by rw [(h2 a q).1] at e; cases e) (h3 a o e)
    repeat (walk_at "s")
    refine n_list (fun Rn hRn => ?_) (by rw [hsl]; simp)
    repeat (walk_at "s")
    have hRnm : ¬ Mineof x dx d as Rn := fun e => by obtain ⟨o, e⟩ := hsK.known e; rw [hRn] at e; cases e
    obtain ⟨ri0, rep0, hri0, hri1⟩ := hrdy
    have hRRn : R ≠ Rn := fun e => by rw [← e, hri0] at hRn; cases hRn
    have hknR : kn R = none := by
      cases e : kn R with
      | none => rfl
      | some o => rw [h3 _ _ e] at hRnew; cases hRnew
    have hknRn : kn Rn = none := by
      cases e : kn Rn with
      | none => rfl
      | some o => rw [hupK _ _ e] at hRn; cases hRn
    obtain ⟨B, hB, hB2⟩ : ∃ B : Nat, (∀ j < cs.length, lv j < B) ∧ B ≤ 100 := ⟨cs.length, fun j hj => by have := hlev.le_self j hj; (first | lia | omega), hz⟩
    have hKn1 : ∀ a o, K a = some o → K.set Rn (lo [.none] 0) a = some o := Kn.new hRn
    refine x_while (fun m kn'' frs'' => Ex4 fun (t : Nat) (po : Int) (ri : List Value) (rep : Nat) => An8 (m = B - t) (Srt kn'' x dx d as (gsF cs.length (fun i => cs.getD i 0) (fT (fun i => cs.getD i 0) lv t)) (.ref R) po po) (Rdy kn'' R ((grp cs.length lv t).map nd)) (kn'' Rn = some (lo ri rep)) (RndIs cs.length lv kn'' ri t) (∀ t' : Nat, t' < t → grp cs.length lv t' ≠ []) (∀ a o, kn a = some o → kn'' a = some o) (frs'' = ⟨L, [("j", L + 2), ("codes", L + 1)], [("codes", .ref l), ("sorter", .ref x), ("rounds", .ref Rn)]⟩ :: frs)) B
      ⟨0, 0, [.none], 0, rfl, hsK.off hRnm, ⟨ri0, rep0, hKn1 _ _ hri0, hri1⟩, Kn.set_self, ⟨[], rfl, rfl, fun t ht => absurd ht (Nat.not_lt_zero _)⟩, fun t ht => absurd ht (Nat.not_lt_zero _), fun a o e => hKn1 _ _ (hupK _ _ e), rfl⟩ ?_
    rintro m kn'' frs'' Kb hKb ⟨t, po, ri, rep, rfl, k1, k2, k3, k4, k5, k6, rfl⟩
    obtain ⟨od2, u3, u4, hod2, hsd2⟩ := k1.od
    have hgl := grp_len (n := cs.length) (l := lv) t
    repeat (walk_at "s")
    refine ts_meth (f := 155) k1.ox hod2 hsd2.m5 (by kernel_rfl) (by kernel_rfl) ?_
    repeat (walk_at "s")
    refine ia_ok (hA.deep.le (by decide)) k1 k2 (by rw [List.length_map]; (first | lia | omega)) ?_
    rw [show decide (po < po) = false from by simp, Bool.false_or]
    repeat (walk_at "s")
    by_cases hemp : grp cs.length lv t = []
    · rw [hemp]
      refine if_ff ?_
      repeat (walk_at "s")
      exact hq Rn ri rep kn'' t k3 k4 hemp k5 k6 hknRn
    · obtain ⟨j0, hj0⟩ := List.exists_mem_of_ne_nil _ hemp
      have hj1 := mem_grp.mp hj0
      have htB : (t : Int) < B := by have := hB j0 hj1.1; (first | lia | omega)
      have hne : ((grp cs.length lv t).map nd).isEmpty = false := by
        cases e : grp cs.length lv t with
        | nil => exact absurd e hemp
        | cons _ _ => rfl
      rw [hne]
      refine if_tt ?_
      obtain ⟨rs1, rs2, rs3⟩ := round_step hlev (by (first | lia | omega)) (show (0 : Int) ≤ t by (first | lia | omega))
      repeat (walk_at "s")
      refine ts_meth (f := 148) k1.ox hod2 hsd2.m4 (by kernel_rfl) (by kernel_rfl) ?_
      repeat (walk_at "s")
      refine gr_ok (hA.deep.le (by decide)) k1 k2 hRm (by rw [List.length_map]; (first | lia | omega)) (fun k hk => ?_) fun T vs K1 g1 g2 g3 g4 g5 => ?_
      · obtain ⟨j, hj, rfl⟩ := List.mem_map.mp hk
        rw [gsF_nodes]; exact List.mem_map_of_mem (List.mem_range.mpr (mem_grp.mp hj).1)
      rw [rs1] at g1
      have gRn : K1 Rn = some (lo ri rep) := g5 _ _ hRnm (Ne.symm hRRn) k3
      have gR4 : RndIs cs.length lv K1 ri t := k4.le fun a vs e => g5 _ _ (k1.not_to P.w e) (fun q => by obtain ⟨i1, e1, e2, _⟩ := k2; exact to_ne e e2 q) e
      have gup : ∀ a o, kn a = some o → K1 a = some o := fun a o e => g5 _ _ (fun q => by rw [(h2 a q).1] at e; cases e) (fun q => by rw [q, hknR] at e; cases e) (k6 a o e)
      have hlenp : 0 < ((grp cs.length lv t).map nd).length := by rw [List.length_map]; exact List.length_pos_of_mem hj0
      repeat (walk_at "s")
      refine m_lappend (.inl gRn) ?_
      repeat (walk_at "s")
      obtain ⟨od3, u5, u6, hod3, hsd3⟩ := g1.od
      refine ts_meth (f := 155) g1.ox hod3 hsd3.m5 (by kernel_rfl) (by kernel_rfl) ?_
      repeat (walk_at "s")
      refine ia_ok (rl := []) (hA.deep.le (by decide)) g1 g2 (by simp) ?_
      rw [decide_eq_true (show po < po + (((grp cs.length lv t).map nd).length : Nat) by (first | lia | omega)), Bool.true_or]
      repeat (walk_at "s")
      refine n_tuple (fun PR hPR => ?_) (by rw [hsl]; simp)
      repeat (walk_at "s")
      have hrl : ri.length ≤ 1000000 := by
        obtain ⟨rest, e1, e2, _⟩ := k4
        rw [e1, List.length_cons, e2]
        (first | lia | omega)
      refine k_lappend (Kn.new hPR _ _ gRn) (by (first | lia | omega)) fun rep2 => ?_
      repeat (walk_at "s")
      have hPRRn : PR ≠ Rn := fun e => by rw [e, gRn] at hPR; cases hPR
      have hPRm : ¬ Mineof x dx d as PR := fun e => by obtain ⟨o, e⟩ := g1.known e; rw [hPR] at e; cases e
      have j1 := (g1.off hPRm (o := to [.ref T, .bool true])).off hRnm (o := lo (ri ++ [.ref PR]) rep2)
      have hPRR : PR ≠ R := fun e => by obtain ⟨i1, e1, e2, _⟩ := g2; rw [e, e2] at hPR; cases hPR
      have hTn : T ≠ Rn := fun e => by have := to_ne g3 gRn; exact this e
      have hTP : T ≠ PR := fun e => by rw [← e, g3] at hPR; cases hPR
      have j2 : Rdy ((K1.set PR (to [.ref T, .bool true])).set Rn (lo (ri ++ [.ref PR]) rep2)) R [] := by
        obtain ⟨i1, e1, e2, e3⟩ := g2
        exact ⟨i1, e1, by rw [Kn.set_ne hRRn]; exact Kn.new hPR _ _ e2, e3⟩
      have jT : (K1.set PR (to [.ref T, .bool true])).set Rn (lo (ri ++ [.ref PR]) rep2) T = some (to vs) := by rw [Kn.set_ne hTn]; exact Kn.new hPR _ _ g3
      have jP : (K1.set PR (to [.ref T, .bool true])).set Rn (lo (ri ++ [.ref PR]) rep2) PR = some (to [.ref T, .bool true]) := by rw [Kn.set_ne hPRRn]; exact Kn.set_self
      have j4 : RndIs cs.length lv ((K1.set PR (to [.ref T, .bool true])).set Rn (lo (ri ++ [.ref PR]) rep2)) ri t := gR4.le fun a vs e => by
        rw [Kn.set_ne (to_ne e gRn)]; exact Kn.new hPR _ _ e
      have jup : ∀ a o, kn a = some o → (K1.set PR (to [.ref T, .bool true])).set Rn (lo (ri ++ [.ref PR]) rep2) a = some o := fun a o e => by
        rw [Kn.set_ne (fun q => by rw [q, hknRn] at e; cases e)]; exact Kn.new hPR _ _ (gup a o e)
      have jRn : (K1.set PR (to [.ref T, .bool true])).set Rn (lo (ri ++ [.ref PR]) rep2) Rn = some (lo (ri ++ [.ref PR]) rep2) := Kn.set_self
      generalize (K1.set PR (to [.ref T, .bool true])).set Rn (lo (ri ++ [.ref PR]) rep2) = K2 at j1 j2 jT jP j4 jup jRn ⊢
      obtain ⟨od4, u7, u8, hod4, hsd4⟩ := j1.od
      refine e_smeth ?_ (by rfl)
      repeat (walk_at "s")
      refine g_meth (C := 186) (f := 169) j1.ox hod4 rfl rfl rfl (by kernel_rfl) (by kernel_rfl) (by kernel_rfl) (by kernel_rfl) (by kernel_rfl) (by kernel_rfl) (by kernel_rfl) (by kernel_rfl) hsd4.m6 fun mm hmm => ?_
      have hmm0 : ¬ Mineof x dx d as mm := fun e => by obtain ⟨o, e⟩ := j1.known e; rw [hmm] at e; cases e
      have hmmR : mm ≠ R := fun e => by obtain ⟨i1, e1, e2, _⟩ := j2; rw [e, e2] at hmm; cases hmm
      refine w_mlone (f := 169) (x := x) (by rfl) (by rfl) ?_ (by rfl)
      repeat (walk_at "s")
      have hvl := g4.length
      rw [List.length_map] at hvl
      refine ⟨T, vs, rfl, .inr (.inl (Kn.new hmm _ _ jT)), by (first | lia | omega), Kn.set_self, done_ok (hA.deep.le (by decide)) (j1.off hmm0) (by obtain ⟨i1, e1, e2, e3⟩ := j2; exact ⟨i1, e1, Kn.new hmm _ _ e2, e3⟩) hRm g4 (by rw [List.length_map]; (first | lia | omega)) rs2 fun K3 d1 d2 d3 => ?_⟩
      rw [rs3] at d1 d2
      repeat (walk_at "s")
      have d3' : ∀ a o, ¬ Mineof x dx d as a → a ≠ R → K2 a = some o → K3 a = some o := fun a o q1 q2 e => d3 a o q1 q2 (Kn.new hmm _ _ e)
      have d3t : ∀ a vs, K2 a = some (to vs) → K3 a = some (to vs) := fun a vs e => d3' _ _ (j1.not_to P.w e) (fun q => by obtain ⟨i1, e1, e2, _⟩ := j2; exact to_ne e e2 q) e
      refine hKb (B - (t + 1)) _ _ (by (first | lia | omega)) ?_
      refine ⟨_, _, fun _ _ e => e, .top (vs := [("codes", .ref l), ("sorter", .ref x), ("rounds", .ref Rn)]) (by walk_at "sub"), t + 1, _, ri ++ [.ref PR], rep2, rfl, d1, d2, d3' _ _ hRnm (Ne.symm hRRn) jRn, (j4.snoc jP jT g4).le d3t, fun t' ht' => ?_, fun a o e => ?_, rfl⟩
      · by_cases q : t' < t
        · exact k5 t' q
        · have : t' = t := by (first | lia | omega)
          rw [this]; exact hemp
      · exact d3' a o (fun q => by rw [(h2 a q).1] at e; cases e) (fun q => by rw [q, hknR] at e; cases e) (jup a o e)
end
end
/-! # part F19 -/
section
open PySem PySem.W PyProof.Rows Builtin.ObjectAttr
section
variable {P : Pk} {A : Around} {kn : Kn} {frs : List Fm} {Q : Value → Kn → List Fm → Prop}
theorem layers_ok (hA : Rm 5 A) {l : Addr} {items : List Value} {ep : Nat} {ls : List Int} (hl : Kw P kn l (lo items ep)) (hi : IntsAre items ls) (hz : ls.length ≤ 100) (h0 : 0 < ls.length) (hb : ∀ a ∈ ls, 0 ≤ a ∧ a ≤ 1000)
    (hq : ∀ R ri rep kn' (T : Nat), kn' R = some (lo ri rep) → RndIs ls.length (fun i => ls.getD i 0) kn' ri T → ((T : Int) - 1) ∈ ls → (∀ a ∈ ls, a < T) → (∀ a o, kn a = some o → kn' a = some o) → kn R = none → Q (.ref R) kn' frs) : WP P A (call (.ref 220) [.ref l]) Q kn frs := by
  have hsl := sizeLine_eq
  have hil := hi.length
  refine c_pos [("levels", .ref l)] (fun L => [("k", L + 2), ("levels", L + 1)]) hA (by rfl) (by kernel_rfl) (by kernel_rfl) (by kernel_rfl) (fun _ => by kernel_rfl) (fun L => ?_) (by kernel_rfl) (by kernel_rfl) (by kernel_rfl)
  refine x_cons ?_
  repeat (walk_at "s")
  refine n_list (fun R hR => ?_) (by rw [hsl]; simp)
  repeat (walk_at "s")
  have hlk : ∀ (K : Kn), (∀ a o, kn a = some o → K a = some o) → Kw P K l (lo items ep) := fun K hK => hl.elim (fun e => .inl (hK _ _ e)) .inr
  refine x_for ?_
  repeat (walk_at "s")
  refine k_maxl (hA.deep (env := _)).handled (hlk _ (Kn.new hR)) hi h0 fun M t1 hM hM2 => ?_
  have hMb := hb M hM
  obtain ⟨T, rfl⟩ : ∃ T : Nat, M = (T : Int) - 1 := ⟨(M + 1).toNat, by (first | lia | omega)⟩
  repeat (walk_at "s")
  refine k_range fun r t2 t3 hr => ?_
  rw [show (1 : Int) + ((T : Int) - 1) = T by (first | lia | omega)]
  refine ⟨T, _, _, fun i kn' frs' => Ex2 fun ri rep => An5 (kn' R = some (lo ri rep)) (RndIs ls.length (fun i => ls.getD i 0) kn' ri i) (∀ a o, kn a = some o → kn' a = some o) (Ex3 fun t2 t1 t3 => kn' r = some (ro (.int 0 t2) (.int T t1) (.int 1 t3))) (frs' = ⟨L, [("k", L + 2), ("levels", L + 1)], [("levels", .ref l), ("layers", .ref R)]⟩ :: frs), src_range (hA.deep (env := _)).handled r T (by (first | lia | omega)), ⟨[.none], 0, Kn.new hr _ _ Kn.set_self, ⟨[], rfl, rfl, fun t ht => absurd ht (Nat.not_lt_zero _)⟩, fun a o e => Kn.new hr _ _ (Kn.new hR _ _ e), ⟨_, _, _, Kn.set_self⟩, rfl⟩, ?_, ?_, ?_⟩
  · rintro i kn' frs' ⟨ri, rep, h1, h2, h3, ⟨t2, t1, t3, h4⟩, rfl⟩
    exact ⟨_, _, _, .inl h4⟩
  · rintro k v P' kn' frs' Ka hle hk ⟨tk, rfl⟩ hKa ⟨ri, rep, h1, h2, h3, ⟨t2, t1, t3, h4⟩, rfl⟩
    have hRr : R ≠ r := fun e => by
      rw [e, h4] at h1
      have := congrArg (·.cls) (Option.some.inj h1)
      injection this with this; exact absurd this (by decide)
    iterate 2 (walk_at "s")
    repeat (walk_at "s")
    refine m_lappend (.inl h1) ?_
    repeat (walk_at "s")
    refine e_lcp (cl := [("levels", L + 1), ("k", L + 2)]) ?_ (by rfl) (by decide +kernel) (by rfl) (by decide +kernel) (by intro _; rfl)
    repeat (walk_at "s")
    refine k_llen ((hlk _ h3).le hle) (by (first | lia | omega)) fun t5 => ?_
    repeat (walk_at "s")
    refine k_range fun r2 t6 t7 hr2 => ?_
    rw [hil]
    have hlw : Kw P' (kn'.set r2 (ro (.int 0 t6) (.int ls.length t5) (.int 1 t7))) l (lo items ep) := (hlk _ fun a o e => Kn.new hr2 _ _ (h3 a o e)).le hle
    refine ⟨ls.length, _, _, fun i ys => IntsAre ys (((List.range i).filter fun i => decide (ls.getD i 0 = k)).map nd), by (first | lia | omega), src_range (hA.deep (env := _)).handled r2 ls.length (by (first | lia | omega)), ⟨_, _, _, .inl Kn.set_self⟩, .nil, ?_, ?_⟩
    · rintro i ys _ P'' C hle'' hij ⟨ti, rfl⟩ hF2
      have hs := range_filter_succ (fun i => decide (ls.getD i 0 = k)) nd i
      obtain ⟨tci, hci⟩ := ia_get hi i (by (first | lia | omega))
      repeat (walk_at "s")
      refine k_lsub (hlw.le hle'') (by (first | lia | omega)) (by (first | lia | omega)) (by rw [Int.toNat_natCast]; exact hci) ?_
      repeat (walk_at "s")
      refine if_dec (fun hc => ?_) (fun hc => ?_)
      · repeat (walk_at "s")
        exact ⟨by show IntsAre _ _; rw [hs, if_pos (by simpa using hc)]; exact ia_app hF2 (ia_one _ _), .eq⟩
      · exact ⟨by show IntsAre _ _; rw [hs, if_neg (by simpa using hc), List.append_nil]; exact hF2, .eq⟩
    · intro ys D2 ep2 hF2 hD2 hyl
      have hg : IntsAre ys ((grp ls.length (fun i => ls.getD i 0) k).map nd) := hF2
      have hnR : R ≠ r2 := Kn.ne_of h1 hr2
      repeat (walk_at "s")
      refine k_tuple (.inl Kn.set_self) (by (first | lia | omega)) fun T1 hT1 => ?_
      repeat (walk_at "s")
      refine n_tuple (fun PR hPR => ?_) (by rw [hsl]; simp)
      repeat (walk_at "s")
      have hup : ∀ a o, kn' a = some o → ((((kn'.set r2 (ro (.int 0 t6) (.int ls.length t5) (.int 1 t7))).set D2 (lo ys ep2)).set T1 (to ys)).set PR (to [.ref T1, .bool true])) a = some o := fun a o e => Kn.new hPR _ _ (Kn.new hT1 _ _ (Kn.new hD2 _ _ (Kn.new hr2 _ _ e)))
      have hrl : ri.length ≤ 1000000 := by
        obtain ⟨rest, e1, e2, _⟩ := h2
        rw [e1, List.length_cons, e2]; (first | lia | omega)
      have hT2 : ((((kn'.set r2 (ro (.int 0 t6) (.int ls.length t5) (.int 1 t7))).set D2 (lo ys ep2)).set T1 (to ys)).set PR (to [.ref T1, .bool true])) T1 = some (to ys) := Kn.new hPR _ _ Kn.set_self
      have hP2 : ((((kn'.set r2 (ro (.int 0 t6) (.int ls.length t5) (.int 1 t7))).set D2 (lo ys ep2)).set T1 (to ys)).set PR (to [.ref T1, .bool true])) PR = some (to [.ref T1, .bool true]) := Kn.set_self
      have h1' := hup _ _ h1
      generalize ((((kn'.set r2 (ro (.int 0 t6) (.int ls.length t5) (.int 1 t7))).set D2 (lo ys ep2)).set T1 (to ys)).set PR (to [.ref T1, .bool true])) = K at hup hT2 hP2 h1' ⊢
      refine k_lappend h1' (by (first | lia | omega)) fun rep2 => ?_
      have hup2 : ∀ a vs, K a = some (to vs) → K.set R (lo (ri ++ [.ref PR]) rep2) a = some (to vs) := fun a vs e => by rw [Kn.set_ne (to_ne e h1')]; exact e
      repeat (walk_at "s")
      refine hKa _ _ ?_
      refine ⟨_, _, fun _ _ e => e, .top (vs := [("levels", .ref l), ("layers", .ref R)]) (by walk_at "sub"), ri ++ [.ref PR], rep2, Kn.set_self, ((h2.le fun a vs e => hup _ _ e).snoc hP2 hT2 hg).le hup2, fun a o e => ?_, ⟨t2, t1, t3, ?_⟩, rfl⟩
      · rw [Kn.set_ne (Kn.ne_of e hR)]; exact hup _ _ (h3 a o e)
      · rw [Kn.set_ne (Ne.symm hRr)]; exact hup _ _ h4
  · rintro kn' frs' ⟨ri, rep, h1, h2, h3, h4, rfl⟩
    repeat (walk_at "s")
    exact hq R ri rep kn' T h1 h2 hM (fun a ha => by have := hM2 a ha; (first | lia | omega)) h3 hR
end
end
/-! # part B28 -/
section
open PySem PySem.W PyProof.Rows
/-! ## strings walked, lists turned round, deep equality -/
section
variable {P : Pk} {A : Around} {kn : Kn} {frs : List Fm} {Q : Value → Kn → List Fm → Prop} {l b : Addr} {items items2 : List Value} {ep ep2 : Nat}
theorem src_str (hA : A.handled = none) (x : List Nat) (t : Tok) : Src P A (.str (sx x) t) x.length (fun i v => Ex2 fun c u => An2 (x[i]? = some c) (v = .str (sx [c]) u)) (fun _ => True) := by
  have hsz : (sx x).cps.size = x.length := by simp [sx]
  have hit : ∀ i : Nat, (sx x).cps[i]? = x[i]? := fun i => by simp [sx]
  intro kn frs h k E Q hs _ hQ
  cases ha : (sx x).cps.all (· < 128)
  · refine wpAny_pyIter_wide ha ?_
    refine hQ h.objs.size (fun i h' => h'.IsStrIter h.objs.size "str_iterator" (sx x) t i) _ k ⟨?_, ?_, ?_, ?_, ?_, ?_⟩ (get_size h) ⟨_, Heap.get?_push_size _ rfl, rfl, rfl⟩ fun a o e => Heap.get?_push_of_some _ e
    · intro i kn frs h k E Q hi hs hR hG hQ
      refine wpAny_pyNext_wide_item hG (c := x[i]) (by rw [hit]; simp [hi]) fun h' hG' hsb => ?_
      exact hQ _ h' (k + 1) ⟨x[i], _, by simp [hi], rfl⟩ hG' hsb
    · intro kn frs h k E Q hs hR hG hQ
      exact wpAny_pyNext_wide_end hA hG (by rw [hit]; simp) fun h' he => hQ h' k he
    · intro i h h' ⟨o, ho, r⟩ hk
      exact ⟨o, hk o ho, r⟩
    · intro i h ⟨o, ho, _⟩
      exact ⟨o, ho⟩
    · intro i h k target v E Q ⟨o, ho, hc, _⟩ hq
      exact own_plain ho hc hq
    · intro i h k E Q hG hq
      exact wpAny_pyIter_striter_wide hG hq
  · refine wpAny_pyIter_ascii ha ?_
    refine hQ h.objs.size (fun i h' => h'.IsStrIter h.objs.size "str_ascii_iterator" (sx x) t i) _ k ⟨?_, ?_, ?_, ?_, ?_, ?_⟩ (get_size h) ⟨_, Heap.get?_push_size _ rfl, rfl, rfl⟩ fun a o e => Heap.get?_push_of_some _ e
    · intro i kn frs h k E Q hi hs hR hG hQ
      refine wpAny_pyNext_ascii_item hG (c := x[i]) (by rw [hit]; simp [hi]) fun h' hG' hsb => ?_
      exact hQ _ h' (k + 1) ⟨x[i], _, by simp [hi], rfl⟩ hG' hsb
    · intro kn frs h k E Q hs hR hG hQ
      exact wpAny_pyNext_ascii_end hA hG (by rw [hit]; simp) fun h' he => hQ h' k he
    · intro i h h' ⟨o, ho, r⟩ hk
      exact ⟨o, hk o ho, r⟩
    · intro i h ⟨o, ho, _⟩
      exact ⟨o, ho⟩
    · intro i h k target v E Q ⟨o, ho, hc, _⟩ hq
      exact own_plain ho hc hq
    · intro i h k E Q hG hq
      exact wpAny_pyIter_striter_ascii hG hq
theorem k_l_takeB {value slice : Expr} {u : Tok} {j : Int} {a : Addr} (hl : P.b.IsList l items.toArray) (ha : kn a = some (slo .none (.int j u) .none)) (h0 : 0 ≤ j) (hz : items.length ≤ sizeLine) (h : ∀ c, kn c = none → Q (.ref c) (kn.set c (lo (items.take j.toNat) 0)) frs) :
    WP P A (subscriptTail value slice (.ref l) (.ref a)) Q kn frs := fun hp _ hs => by
  obtain ⟨n, rfl⟩ := Int.eq_ofNat_of_zero_le h0
  have hL : hp.IsList l items.toArray := by obtain ⟨o, ho, r⟩ := hl; exact ⟨o, hs.base _ _ ho, r⟩
  refine wx (sub_any (s := P.st hp _) hL.typeIs slot_list_getitem.lookup (wpAny_getItem_list_slice hL ⟨_, (hs.know _ _ ha).1, rfl, rfl⟩ .none (.int _ _) .none (by simp) ?_ (by simpa using hz)))
  rw [slicePick_upto']
  exact ⟨_, _, _, _, rfl, hs.push _, by have := h _ (hs.free (get_size hp)).kn; simpa [Pk.st_heap] using this⟩
theorem k_l_rev {value slice : Expr} {u : Tok} {a : Addr} (hl : Kw P kn l (lo items ep)) (ha : kn a = some (slo .none .none (.int (-1) u))) (hz : items.length ≤ sizeLine) (h : ∀ c, kn c = none → Q (.ref c) (kn.set c (lo items.reverse 0)) frs) :
    WP P A (subscriptTail value slice (.ref l) (.ref a)) Q kn frs := fun hp _ hs => by
  refine wx (sub_any (hl.isList hs).typeIs slot_list_getitem.lookup (wpAny_getItem_list_slice (hl.isList hs) ⟨_, (hs.know _ _ ha).1, rfl, rfl⟩ .none .none (.int _ _) (by simp) ?_ (by simpa using hz)))
  rw [krv_pick]
  exact ⟨_, _, _, _, rfl, hs.push _, by have := h _ (hs.free (get_size hp)).kn; simpa [Pk.st_heap] using this⟩
theorem k_leq {ns ms : List Int} (hl : Kw P kn l (lo items ep)) (hb : Kw P kn b (lo items2 ep2)) (hi : IntsAre items ns) (hj : IntsAre items2 ms) (hu : A.units + 64 < cLine) (h : Q (.bool (decide (ns = ms))) kn frs) : WP P A (compareOp .Eq (.ref l) (.ref b)) Q kn frs := fun _ _ hs =>
  wx (ke_eq_ints (hl.isList hs) (hb.isList hs) hi hj hu (WP.fin hs h))
theorem k_lne {ns ms : List Int} (hl : Kw P kn l (lo items ep)) (hb : Kw P kn b (lo items2 ep2)) (hi : IntsAre items ns) (hj : IntsAre items2 ms) (hu : A.units + 64 < cLine) (h : Q (.bool (!decide (ns = ms))) kn frs) : WP P A (compareOp .NotEq (.ref l) (.ref b)) Q kn frs := fun _ _ hs =>
  wx (ke_ne_ints (hl.isList hs) (hb.isList hs) hi hj hu (WP.fin hs h))
/-- what the rounds' list reads as -/
noncomputable def rndT (n : Nat) (l : Nat → Int) (t : Nat) : PyData := .tuple [.tuple (((grp n l t).map nd).map PyData.int), .bool true]
noncomputable def rndD (n : Nat) (l : Nat → Int) (T : Nat) : PyData := .list (.none :: (List.range T).map (rndT n l))
theorem reads_ints {h : Heap} : ∀ {vs : List Value} {ns : List Int}, IntsAre vs ns → ReadsAll h vs (ns.map PyData.int) []
  | _, _, .nil => .nil
  | _, _, .cons _ t r => .cons (as := []) (bs := []) (.int _ t) (reads_ints r)
theorem reads_all {h : Heap} (f : Nat → PyData) : ∀ (vs : List Value) (k : Nat), (∀ t, t < vs.length → ∃ v, vs[t]? = some v ∧ Reads h v (f (k + t)) []) → ReadsAll h vs ((List.range' k vs.length).map f) []
  | [], k, _ => .nil
  | v :: vs, k, hv => by
    obtain ⟨v', e, hr⟩ := hv 0 (by simp)
    simp at e; subst e
    refine .cons (as := []) (bs := []) hr ?_
    refine reads_all f vs (k + 1) fun t ht => ?_
    obtain ⟨v2, e2, hr2⟩ := hv (t + 1) (by simp; (first | lia | omega))
    exact ⟨v2, by simpa using e2, by rw [show k + 1 + t = k + (t + 1) by (first | lia | omega)]; exact hr2⟩
theorem rnd_reads {h : Heap} {n : Nat} {lv : Nat → Int} {T : Nat} (hs : St P kn frs h) (hl : kn l = some (lo items ep)) (hr : RndIs n lv kn items T) : Reads h (.ref l) (rndD n lv T) [l] := by
  obtain ⟨rest, rfl, hlen, hat⟩ := hr
  refine .list (as := []) (hs.know _ _ hl).1 rfl rfl ?_
  refine .cons (as := []) (bs := []) .none ?_
  have := reads_all (h := h) (rndT n lv) rest 0 fun t ht => by
    obtain ⟨pr, gr, vs, e1, e2, e3, e4⟩ := hat t (by (first | lia | omega))
    refine ⟨_, e1, ?_⟩
    rw [Nat.zero_add]
    refine .tuple (as := []) (hs.know _ _ e2).1 rfl rfl ?_
    exact .cons (as := []) (bs := []) (.tuple (as := []) (hs.know _ _ e3).1 rfl rfl (reads_ints e4)) (.cons (as := []) (bs := []) (.bool _) .nil)
  rw [hlen] at this
  rw [List.range_eq_range']
  exact this
theorem canLay_rnd (n : Nat) (lv : Nat → Int) : ∀ L : List Nat, PyData.canLayAll0 (L.map (rndT n lv)) = true
  | [] => rfl
  | t :: L => by
    simp only [List.map_cons, PyData.canLayAll0, rndT, PyData.canLay0, ke_canLayAll0, canLay_rnd n lv L]; rfl
theorem depth_rnd (n : Nat) (lv : Nat → Int) : ∀ L : List Nat, PyData.depthAll (L.map (rndT n lv)) ≤ 2
  | [] => by simp [PyData.depthAll]
  | t :: L => by
    have := depth_rnd n lv L
    simp only [List.map_cons, PyData.depthAll, rndT, PyData.depth, ke_depthAll]; (first | lia | omega)
theorem shaped_rnd (n : Nat) (lv : Nat → Int) (T : Nat) : SeqAt.shaped (rndD n lv T) = true := by
  have h1 := canLay_rnd n lv (List.range T)
  have h2 := depth_rnd n lv (List.range T)
  unfold SeqAt.shaped rndD
  simp only [PyData.canLay0, PyData.depth, PyData.canLayAll0, PyData.depthAll, h1, Bool.and_eq_true]
  exact ⟨by decide, decide_eq_true (by (first | lia | omega))⟩
theorem k_req {n : Nat} {lv : Nat → Int} {T : Nat} (hl : kn l = some (lo items ep)) (hb : kn b = some (lo items2 ep2)) (hi : RndIs n lv kn items T) (hj : RndIs n lv kn items2 T) (hu : A.units + 64 < cLine) (h : Q (.bool true) kn frs) : WP P A (compareOp .Eq (.ref l) (.ref b)) Q kn frs := fun _ _ hs =>
  wx (eq_dataH (rnd_reads hs hl hi) (rnd_reads hs hb hj) (shaped_rnd ..) (shaped_rnd ..) hu (by rw [SeqAt.eqv_refl _ (SeqAt.canLay_of_shaped (shaped_rnd ..))]; exact WP.fin hs h))
theorem k_rne {n : Nat} {lv : Nat → Int} {T : Nat} (hl : kn l = some (lo items ep)) (hb : kn b = some (lo items2 ep2)) (hi : RndIs n lv kn items T) (hj : RndIs n lv kn items2 T) (hu : A.units + 64 < cLine) (h : Q (.bool false) kn frs) : WP P A (compareOp .NotEq (.ref l) (.ref b)) Q kn frs := fun _ _ hs =>
  wx (ne_dataH (rnd_reads hs hl hi) (rnd_reads hs hb hj) (shaped_rnd ..) (shaped_rnd ..) hu (by rw [SeqAt.eqv_refl _ (SeqAt.canLay_of_shaped (shaped_rnd ..))]; exact WP.fin hs h))
end
end
/-! # part M5 -/
section
open PySem PySem.W PyProof.Rows
/-! ## the laying, plainly -/
noncomputable def LevL : List R3 → List R3 → Prop
  | _, [] => True
  | acc, r :: rs => r.2.1 = 1 + mx ((acc.filter fun q => decide (q.1 < r.1)).map (·.2.1)) ∧ LevL (acc ++ [r]) rs
theorem LevL.app : ∀ {xs acc ys : List R3}, LevL acc (xs ++ ys) ↔ LevL acc xs ∧ LevL (acc ++ xs) ys
  | [], acc, ys => by simp [LevL]
  | x :: xs, acc, ys => by
    rw [List.cons_append, LevL, LevL, LevL.app (xs := xs), and_assoc, List.append_assoc, List.singleton_append]
theorem LevL.more {x : R3} : ∀ {ys acc acc2 : List R3}, LevL (acc ++ acc2) ys → (∀ r ∈ ys, ¬ x.1 < r.1) → LevL (acc ++ x :: acc2) ys
  | [], _, _, _, _ => trivial
  | r :: ys, acc, acc2, h, hn => by
    refine ⟨?_, ?_⟩
    · have h1 := h.1
      have h2 := hn r (.head _)
      rw [List.filter_append, List.filter_cons, if_neg (by simpa using h2), ← List.filter_append]
      exact h1
    · have h1 := h.2
      rw [List.append_assoc] at h1
      rw [List.append_assoc, List.cons_append]
      exact LevL.more h1 fun q hq => hn q (.tail _ hq)
theorem LevL.ins {xs ys : List R3} {x : R3} (h : LevL [] (xs ++ ys)) (hx : x.2.1 = 1 + mx ((xs.filter fun q => decide (q.1 < x.1)).map (·.2.1))) (hn : ∀ r ∈ ys, ¬ x.1 < r.1) : LevL [] (xs ++ x :: ys) := by
  rw [LevL.app] at h ⊢
  refine ⟨h.1, ?_, ?_⟩
  · simpa using hx
  · have := h.2
    rw [List.nil_append] at this
    rw [List.nil_append]
    exact LevL.more (acc2 := []) (by rw [List.append_nil]; exact this) hn
theorem mx_rev (L : List Int) : mx L.reverse = mx L := by
  refine (mx_of ?_ ?_)
  · rcases mx_mem (L := L.reverse) with e | e
    · rw [e]; exact .head _
    · exact List.mem_cons_of_mem _ (by simpa using e)
  · intro a ha
    have h := mx_ge (L := L.reverse)
    rcases List.mem_cons.mp ha with rfl | e
    · exact h.1
    · exact h.2 a (by simpa using e)
noncomputable def sw (r : R3) : R3 := (r.1, r.2.2, r.2.1)
structure LInv (row : List R3) (c last : Int) : Prop where
  le : ∀ r ∈ row, 0 ≤ r.1 ∧ r.1 ≤ c
  left : LevL [] row
  right : LevL [] (row.reverse.map sw)
  lo : -1 ≤ last
  hi : last < row.length
theorem LInv.step {row : List R3} {c last : Int} {p : Nat} {s : Int} (h : LInv row c last) (hc : 0 ≤ c) (hs : 0 ≤ s) (hp : p ≤ row.length) : LInv (layI row (c + s) p) (c + s) p := by
  have hm : ∀ r ∈ row, r.1 ≤ c + s := fun r hr => by have := (h.le r hr).2; (first | lia | omega)
  refine ⟨fun r hr => ?_, ?_, ?_, by (first | lia | omega), by rw [layI_len _ _ _ hp]; (first | lia | omega)⟩
  · unfold layI at hr
    rcases List.mem_append.mp hr with q | q
    · have := h.le r (List.mem_of_mem_take q); (first | lia | omega)
    · rcases List.mem_cons.mp q with rfl | q
      · show 0 ≤ c + s ∧ c + s ≤ c + s; (first | lia | omega)
      · have := h.le r (List.mem_of_mem_drop q); (first | lia | omega)
  · unfold layI
    refine LevL.ins (by rw [List.take_append_drop]; exact h.left) rfl fun r hr => ?_
    have := hm r (List.mem_of_mem_drop hr)
    show ¬ c + s < r.1; (first | lia | omega)
  · unfold layI
    rw [List.reverse_append, List.reverse_cons, List.append_assoc, List.singleton_append, List.map_append, List.map_cons]
    refine LevL.ins ?_ ?_ fun r hr => ?_
    · rw [← List.map_append, ← List.reverse_append, List.take_append_drop]; exact h.right
    · show 1 + mx _ = 1 + mx _
      congr 1
      rw [List.filter_map, List.map_map, List.filter_reverse, List.map_reverse, mx_rev]
      rfl
    · obtain ⟨q, hq, rfl⟩ := List.mem_map.mp hr
      have := hm q (List.mem_of_mem_take (List.mem_reverse.mp hq))
      show ¬ c + s < q.1; (first | lia | omega)
noncomputable def Stp (steps : List Int) (b : Int) : Prop := ∀ n : Int, 0 ≤ layS steps n ∧ layS steps n ≤ b
theorem lay_inv {steps : List Int} {b : Int} (hst : Stp steps b) : ∀ (draws : List Int) (row : List R3) (c last : Int), LInv row c last → 0 ≤ c →
    (∃ c' last', LInv (layR steps draws row c last) c' last' ∧ c' ≤ c + b * draws.length ∧ 0 ≤ c') ∧ (layR steps draws row c last).length = row.length + draws.length
  | [], row, c, last, h, hc => ⟨⟨c, last, h, by simp, hc⟩, by simp [layR]⟩
  | n :: r, row, c, last, h, hc => by
    have hs := hst n
    have hp := layP_bd row last (layS steps n) n h.lo h.hi
    have h1 := h.step (p := (layP row last (layS steps n) n).toNat) hc hs.1 (by (first | lia | omega))
    rw [show (((layP row last (layS steps n) n).toNat : Nat) : Int) = layP row last (layS steps n) n by (first | lia | omega)] at h1
    obtain ⟨⟨c', l', g1, g2, g3⟩, g4⟩ := lay_inv hst r _ _ _ h1 (by (first | lia | omega))
    rw [layR]
    refine ⟨⟨c', l', g1, ?_, g3⟩, ?_⟩
    · rw [List.length_cons]
      have : b * ((r.length + 1 : Nat) : Int) = b * r.length + b := by push_cast; rw [Int.mul_add, Int.mul_one]
      rw [this]; (first | lia | omega)
    · rw [g4, layI_len _ _ _ (by (first | lia | omega)), List.length_cons]; (first | lia | omega)
theorem lay_gap {m s p last : Int} (hs : 0 ≤ s) (hp0 : 0 ≤ p) (hp : p ≤ m) : (last + (s * (m + 1) + p - last - 1 + 1)) / (m + 1) = s ∧ (last + (s * (m + 1) + p - last - 1 + 1)) % (m + 1) = p := by
  have e : last + (s * (m + 1) + p - last - 1 + 1) = p + (m + 1) * s := by rw [Int.mul_comm (m + 1) s]; (first | lia | omega)
  rw [e]
  constructor
  · rw [Int.add_mul_ediv_left _ _ (by (first | lia | omega)), Int.ediv_eq_zero_of_lt hp0 (by (first | lia | omega))]; (first | lia | omega)
  · rw [Int.add_mul_emod_self_left, Int.emod_eq_of_lt hp0 (by (first | lia | omega))]
theorem layP_ge {row : List R3} {last n : Int} (h0 : -1 ≤ last) (h1 : last < row.length) : last + 1 ≤ layP row last 0 n := by
  unfold layP
  rw [if_pos rfl]
  have a := Int.emod_nonneg (n / 3) (show ((row.length : Int) - last) ≠ 0 by (first | lia | omega))
  (first | lia | omega)
theorem lay_trip {steps : List Int} {b : Int} (hst : Stp steps b) (hb : b ≤ 3000) : ∀ (draws : List Int) (row : List R3) (c last : Int), LInv row c last → 0 ≤ c → c + 3000 * draws.length ≤ 1000000 → row.length + draws.length ≤ 1000 →
    insF (row.map (·.1.toNat)) (layG steps draws row c last) c last = (layR steps draws row c last).map (·.1.toNat) ∧ insOk row.length (layG steps draws row c last) c last ∧ (∀ d ∈ layG steps draws row c last, 0 ≤ d ∧ d < 10000000) ∧ (layG steps draws row c last).length = draws.length
  | [], row, c, last, h, hc, hcb, hl => by refine ⟨by simp [layG, layR, insF], by simp [layG, insOk], by simp [layG], by simp [layG]⟩
  | n :: r, row, c, last, h, hc, hcb, hl => by
    have hs := hst n
    have hp := layP_bd row last (layS steps n) n h.lo h.hi
    have hlo := h.lo
    have hhi := h.hi
    have h1 := h.step (p := (layP row last (layS steps n) n).toNat) hc hs.1 (by (first | lia | omega))
    rw [show (((layP row last (layS steps n) n).toNat : Nat) : Int) = layP row last (layS steps n) n by (first | lia | omega)] at h1
    rw [List.length_cons] at hcb hl
    have hz := layI_len row (c + layS steps n) (layP row last (layS steps n) n).toNat (by (first | lia | omega))
    obtain ⟨g1, g2, g3, g4⟩ := lay_trip hst hb r _ _ _ h1 (by (first | lia | omega)) (by push_cast at hcb; (first | lia | omega)) (by rw [hz]; (first | lia | omega))
    obtain ⟨q1, q2⟩ := lay_gap (m := row.length) (s := layS steps n) (p := layP row last (layS steps n) n) (last := last) hs.1 hp.1 hp.2
    have hge : layS steps n = 0 → last + 1 ≤ layP row last (layS steps n) n := fun e => by rw [e]; exact layP_ge hlo hhi
    have hmul : 0 < layS steps n → (row.length : Int) + 1 ≤ layS steps n * (row.length + 1) := fun e => by
      have := Int.mul_le_mul_of_nonneg_right (show 1 ≤ layS steps n by (first | lia | omega)) (show (0 : Int) ≤ row.length + 1 by (first | lia | omega))
      (first | lia | omega)
    have hmul0 : layS steps n = 0 → layS steps n * (row.length + 1) = 0 := fun e => by rw [e, Int.zero_mul]
    have hmulu : layS steps n * (row.length + 1) ≤ 3000 * (row.length + 1) := Int.mul_le_mul_of_nonneg_right (by (first | lia | omega)) (by (first | lia | omega))
    rw [layG, layR]
    generalize layP row last (layS steps n) n = p at *
    generalize layS steps n = s at *
    refine ⟨?_, ?_, ?_, ?_⟩
    · rw [insF, List.length_map, q1, q2, ← g1]
      congr 1
      unfold layI
      rw [List.map_append, List.map_cons, List.map_take, List.map_drop, List.append_assoc, List.singleton_append]
      rfl
    · rw [insOk, q1, q2]
      refine ⟨by (first | lia | omega), by push_cast at hcb; (first | lia | omega), ?_⟩
      rw [hz] at g2; exact g2
    · intro d hd
      rcases List.mem_cons.mp hd with rfl | hd
      · refine ⟨?_, ?_⟩
        · by_cases e : s = 0
          · have := hge e; have := hmul0 e; (first | lia | omega)
          · have := hmul (by (first | lia | omega)); (first | lia | omega)
        · push_cast at hl; (first | lia | omega)
      · exact g3 d hd
    · rw [List.length_cons, List.length_cons, g4]
end
/-! # part M6 -/
section
open PySem PySem.W PyProof.Rows
theorem LevL.at : ∀ {rs acc : List R3} {j : Nat} {r : R3}, LevL acc rs → rs[j]? = some r → r.2.1 = 1 + mx (((acc ++ rs.take j).filter fun q => decide (q.1 < r.1)).map (·.2.1))
  | [], _, _, _, _, e => by simp at e
  | x :: rs, acc, 0, r, h, e => by
    simp at e; subst e
    simpa using h.1
  | x :: rs, acc, j + 1, r, h, e => by
    have := LevL.at h.2 (j := j) (by simpa using e)
    rw [List.append_assoc, List.singleton_append] at this
    rw [List.take_succ_cons]; exact this
noncomputable def z3 : R3 := (0, 0, 0)
theorem getD_fst (f : R3 → Int) (hf : f z3 = 0) (rows : List R3) (i : Nat) : (rows.map f).getD i 0 = f (rows.getD i z3) := by
  rw [List.getD_eq_getElem?_getD, List.getD_eq_getElem?_getD, List.getElem?_map]
  cases rows[i]? <;> simp [hf]
theorem take_range {α : Type} (rows : List α) (z : α) (j : Nat) (h : j ≤ rows.length) : rows.take j = (List.range j).map fun i => rows.getD i z := by
  apply List.ext_getElem?
  intro i
  rw [List.getElem?_take, List.getElem?_map]
  by_cases q : i < j
  · rw [if_pos q, List.getElem?_range q, Option.map_some, List.getD_eq_getElem?_getD, List.getElem?_eq_getElem (by (first | lia | omega))]; rfl
  · rw [if_neg q, List.getElem?_eq_none (by simp; (first | lia | omega))]; rfl
theorem levL_ok {rows : List R3} (h : LevL [] rows) : LevOk rows.length (fun i => (rows.map (·.1)).getD i 0) (fun i => (rows.map (·.2.1)).getD i 0) := by
  intro j hj
  have h1 := LevL.at h (j := j) (r := rows.getD j z3) (by rw [List.getD_eq_getElem?_getD, List.getElem?_eq_getElem hj]; rfl)
  rw [List.nil_append, take_range rows z3 j (by (first | lia | omega)), List.filter_map, List.map_map] at h1
  simp only [getD_fst (·.1) rfl, getD_fst (·.2.1) rfl]
  exact h1
theorem levR_ok {rows : List R3} (h : LevL [] (rows.reverse.map sw)) : LevOk rows.length (fun i => ((rows.map (·.1)).reverse).getD i 0) (fun i => ((rows.map (·.2.2)).reverse).getD i 0) := by
  have := levL_ok h
  rw [List.length_map, List.length_reverse, List.map_map, List.map_map, List.map_reverse, List.map_reverse] at this
  exact this
theorem baseF_len (ns : List Int) : (baseF ns).length ≤ ns.length := by
  unfold baseF
  split
  · simp
  · rw [List.length_map]
    have := List.length_filter_le (fun k => k % 3 == 0) (List.range ns.length)
    rw [List.length_range] at this; exact this
theorem restF_len (ns : List Int) : (restF ns).length ≤ ns.length := by
  unfold restF
  split
  · exact Nat.le_refl _
  · rw [List.length_map]
    have := List.length_filter_le (fun k => k % 3 != 0) (List.range ns.length)
    rw [List.length_range] at this; exact this
theorem some_len (ns : List Int) (h : 0 < ns.length) : 0 < (baseF ns).length + (restF ns).length := by
  unfold baseF restF
  split
  · simp; (first | lia | omega)
  · have : 0 ∈ (List.range ns.length).filter (fun k => k % 3 == 0) := by simp; (first | lia | omega)
    have := List.length_pos_of_mem this
    rw [List.length_map]; (first | lia | omega)
theorem mod3 (n : Int) : (n % 3).toNat = 0 ∨ (n % 3).toNat = 1 ∨ (n % 3).toNat = 2 := by (first | lia | omega)
theorem stp1 : Stp [0, 1, 2] 2 := fun n => by
  unfold layS
  rcases mod3 n with e | e | e <;> rw [e] <;> decide
theorem stp2 : Stp [0, 3000, 1] 3000 := fun n => by
  unfold layS
  rcases mod3 n with e | e | e <;> rw [e] <;> decide
noncomputable def row1 (ns : List Int) : List R3 := layR [0, 1, 2] (baseF ns) [] 43 (-1)
noncomputable def gapsF (ns : List Int) : List Int := layG [0, 3000, 1] (restF ns) (row1 ns) 128 (-1)
noncomputable def row2 (ns : List Int) : List R3 := layR [0, 3000, 1] (restF ns) (row1 ns) 128 (-1)
structure LawOk (ns : List Int) : Prop where
  low : ∀ r ∈ row1 ns, 0 ≤ r.1 ∧ r.1 < 128
  len1 : (row1 ns).length ≤ 17
  gap : ∀ d ∈ gapsF ns, 0 ≤ d ∧ d < 10000000
  glen : (gapsF ns).length ≤ 17
  ok : insOk (row1 ns).length (gapsF ns) 128 (-1)
  trip : insF ((row1 ns).map (·.1.toNat)) (gapsF ns) 128 (-1) = (row2 ns).map (·.1.toNat)
  pos : ∀ r ∈ row2 ns, 0 ≤ r.1
  len2 : (row2 ns).length ≤ 34
  some : 0 < (row2 ns).length
  left : LevOk (row2 ns).length (fun i => ((row2 ns).map (·.1)).getD i 0) (fun i => ((row2 ns).map (·.2.1)).getD i 0)
  right : LevOk (row2 ns).length (fun i => (((row2 ns).map (·.1)).reverse).getD i 0) (fun i => (((row2 ns).map (·.2.2)).reverse).getD i 0)
theorem law_ok {ns : List Int} (h0 : 0 < ns.length) (h1 : ns.length ≤ 17) : LawOk ns := by
  have hb := baseF_len ns
  have hr := restF_len ns
  have hs := some_len ns h0
  obtain ⟨⟨c1, l1, i1, b1, p1⟩, z1⟩ := lay_inv stp1 (baseF ns) [] 43 (-1) ⟨by simp, trivial, by simp [LevL], by (first | lia | omega), by simp⟩ (by (first | lia | omega))
  have hl1 : (row1 ns).length ≤ 17 := by show (layR _ _ _ _ _).length ≤ 17; rw [z1]; simp; (first | lia | omega)
  have hlow : ∀ r ∈ row1 ns, 0 ≤ r.1 ∧ r.1 < 128 := fun r hr => by have := i1.le r hr; (first | lia | omega)
  have i1' : LInv (row1 ns) 128 (-1) := ⟨fun r hr => by have := hlow r hr; (first | lia | omega), i1.left, i1.right, by (first | lia | omega), by (first | lia | omega)⟩
  obtain ⟨⟨c2, l2, i2, b2, p2⟩, z2⟩ := lay_inv stp2 (restF ns) (row1 ns) 128 (-1) i1' (by (first | lia | omega))
  obtain ⟨g1, g2, g3, g4⟩ := lay_trip stp2 (by (first | lia | omega)) (restF ns) (row1 ns) 128 (-1) i1' (by (first | lia | omega)) (by (first | lia | omega)) (by (first | lia | omega))
  have z1' : (row1 ns).length = (baseF ns).length := by show (layR _ _ _ _ _).length = _; rw [z1]; simp
  have z2' : (row2 ns).length = (row1 ns).length + (restF ns).length := z2
  exact ⟨hlow, hl1, g3, by show (layG _ _ _ _ _).length ≤ 17; rw [g4]; (first | lia | omega), g2, g1, fun r hr => (i2.le r hr).1, by (first | lia | omega), by (first | lia | omega), levL_ok i2.left, levR_ok i2.right⟩
theorem same_T {n : Nat} {c l : Nat → Int} (h : LevOk n c l) {T T' : Nat} (h1 : grp n l T = []) (h2 : ∀ t : Nat, t < T → grp n l t ≠ []) (h3 : ∃ j, j < n ∧ l j = (T' : Int) - 1) (h4 : ∀ j < n, l j < T') : T = T' := by
  obtain ⟨j, hj, e⟩ := h3
  have hnn := h.nonneg hj
  rcases Nat.lt_trichotomy T T' with q | q | q
  · exfalso
    have : grp n l ((T : Int) + ((T' - 1 - T : Nat) : Int)) ≠ [] := fun e2 => by
      have : j ∈ grp n l ((T : Int) + ((T' - 1 - T : Nat) : Int)) := mem_grp.mpr ⟨hj, by (first | lia | omega)⟩
      rw [e2] at this; cases this
    exact grp_upto h _ (by (first | lia | omega)) this h1
  · exact q
  · exfalso
    obtain ⟨i, hi⟩ := List.exists_mem_of_ne_nil _ (h2 T' q)
    rw [mem_grp] at hi
    have := h4 i hi.1; (first | lia | omega)
theorem mem_getD {ls : List Int} {a : Int} (h : a ∈ ls) : ∃ j, j < ls.length ∧ ls.getD j 0 = a := by
  obtain ⟨j, hj, e⟩ := List.mem_iff_getElem.mp h
  exact ⟨j, hj, by rw [List.getD_eq_getElem?_getD, List.getElem?_eq_getElem hj, e]; rfl⟩
theorem getD_mem {ls : List Int} {j : Nat} (h : j < ls.length) : ls.getD j 0 ∈ ls := by
  rw [List.getD_eq_getElem?_getD, List.getElem?_eq_getElem h]; exact List.getElem_mem h
end
/-! # part F20 -/
section
open PySem PySem.W PyProof.Rows Builtin.ObjectAttr
set_option maxHeartbeats 4000000
theorem map_succ {α β : Type} {rows : List α} {i : Nat} {r : α} (f : α → β) (h : rows[i]? = some r) : (rows.take (i + 1)).map f = (rows.take i).map f ++ [f r] := by
  rw [List.take_add_one, h]; simp
theorem WP.st {P : Pk} {A : Around} {α : Type} {t : Sem α} {Q : α → Kn → List Fm → Prop} {kn : Kn} {frs : List Fm} (H : (∃ h, St P kn frs h) → WP P A t Q kn frs) : WP P A t Q kn frs := fun h k hs => H ⟨h, hs⟩ h k hs
theorem WP.cut {P : Pk} {A : Around} {α : Type} {t : Sem α} {Q : α → Kn → List Fm → Prop} {kn : Kn} {frs : List Fm} (p : α → Kn → Prop) (H : WP P A t (fun v kn' frs' => An2 (p v kn') (frs' = frs)) kn frs) (h : ∀ v kn', p v kn' → Q v kn' frs) : WP P A t Q kn frs :=
  H.mono fun v kn' frs' hq => by obtain ⟨h1, rfl⟩ := hq; exact h v kn' h1
theorem u8_toNat (n : Nat) (h : n < 256) : n.toUInt8.toNat = n := by
  show n % 256 = n; (first | lia | omega)
theorem ia_rev : ∀ {vs : List Value} {ns : List Int}, IntsAre vs ns → IntsAre vs.reverse ns.reverse
  | _, _, .nil => .nil
  | _, _, .cons i t r => by rw [List.reverse_cons, List.reverse_cons]; exact ia_app (ia_rev r) (ia_one _ _)
theorem restF_pos (ns : List Int) (h : 1 < ns.length) : 0 < (restF ns).length := by
  unfold restF
  split
  · (first | lia | omega)
  · have : 1 ∈ (List.range ns.length).filter (fun k => k % 3 != 0) := by simp; (first | lia | omega)
    have := List.length_pos_of_mem this
    rw [List.length_map]; exact this
theorem row_int {kn : Kn} {ri : List Value} {rows : List R3} {ns : List Int} (h : RowIs kn ri rows) (hi : IntsAre ri ns) (hp : 0 < ns.length) : False := by
  cases h with
  | nil => cases hi; simp at hp
  | cons ha h => cases hi
section
variable {P : Pk} {A : Around} {kn : Kn} {frs : List Fm} {Q : Value → Kn → List Fm → Prop}
theorem law_run (hA : Rm 8 A) (hF : FrA A frs) {l : Addr} {items : List Value} {ss : List Int} (hl : P.b.IsList l items.toArray) (hi : IntsAre items ss) (hz : ss.length ≤ 1000)
    (hq : ∀ kn', Q (.bool true) kn' frs) : WP P A (call (.ref 225) [.ref l]) Q kn frs := by
  have hsl := sizeLine_eq
  have hil := hi.length
  refine c_pos [("script", .ref l)] (fun L => []) hA (by rfl) (by kernel_rfl) (by kernel_rfl) (by kernel_rfl) (fun _ => by kernel_rfl) (fun L => ?_) (by kernel_rfl) (by kernel_rfl) (by kernel_rfl)
  refine x_cons ?_
  repeat (walk_at "s")
  refine e_lcp (cl := []) ?_ (by rfl) (by decide +kernel) (by rfl) (by decide +kernel) (by intro _; rfl)
  repeat (walk_at "s")
  intro s1 hs1
  refine k_l_takeB hl Kn.set_self (by (first | lia | omega)) (by (first | lia | omega)) fun c1 hc1 => ?_
  refine ⟨(items.take 12).length, _, _, fun i ys => IntsAre ys (((ss.take 12).take i).map (· % 60)), by rw [List.length_take]; (first | lia | omega), src_list (hA.deep (env := _)).handled c1 (items.take 12), ⟨0, .inl Kn.set_self⟩, .nil, ?_, ?_⟩
  · rintro i ys v P'' C hle'' hij hv hF2
    rw [List.getElem?_take] at hv
    have hi12 : i < 12 := by rw [List.length_take] at hij; (first | lia | omega)
    rw [if_pos hi12] at hv
    obtain ⟨n, tn, rfl, hn⟩ := ia_at hi i v hv
    repeat (walk_at "s")
    exact ⟨by show IntsAre _ _; rw [map_succ (i := i) (r := n) (· % 60) (by rw [List.getElem?_take, if_pos hi12]; exact hn)]; exact ia_app hF2 (ia_one _ _), .eq⟩
  intro ys1 D1 ep1 hF1 hD1 hy1
  have hF1' : IntsAre ys1 ((ss.take 12).map (· % 60)) := by
    have h3 : ((ss.take 12).take (items.take 12).length) = ss.take 12 := List.take_of_length_le (by simp [hil])
    have := hF1; rw [h3] at this; exact this
  have hyl := hF1'.length
  repeat (walk_at "s")
  refine n_list (fun F5 hF5 => ?_) (by rw [hsl]; simp)
  repeat (walk_at "s")
  rename_i t1 t2 t3 t4 t5
  rw [List.length_map, List.length_take] at hyl
  refine k_l_add (.inl (Kn.new hF5 _ _ Kn.set_self)) (.inl Kn.set_self) (by simp; (first | lia | omega)) fun N hN => ?_
  have hns : IntsAre (ys1 ++ [.int 7 t1, .int 31 t2, .int 20 t3, .int 46 t4, .int 29 t5]) ((ss.take 12).map (· % 60) ++ [7, 31, 20, 46, 29]) := ia_app hF1' (.cons _ _ (.cons _ _ (.cons _ _ (.cons _ _ (.cons _ _ .nil)))))
  have hnl : 5 ≤ ((ss.take 12).map (· % 60) ++ [7, 31, 20, 46, 29]).length ∧ ((ss.take 12).map (· % 60) ++ [7, 31, 20, 46, 29]).length ≤ 17 := by simp; (first | lia | omega)
  generalize (ss.take 12).map (· % 60) ++ [7, 31, 20, 46, 29] = ns at hns hnl
  generalize ys1 ++ [.int 7 t1, .int 31 t2, .int 20 t3, .int 46 t4, .int 29 t5] = ni at hns ⊢
  have hok := law_ok (ns := ns) (by (first | lia | omega)) hnl.2
  refine WP.gen (fun K => K N = some (lo ni 0)) Kn.set_self ?_
  clear hs1 hc1 hD1 hF1 hF1' hy1 hyl hF5 hN
  intro K1 hN
  repeat (walk_at "s")
  refine n_list (fun Rw hRw => ?_)
  repeat (walk_at "s")
  rename_i t6
  repeat (walk_at "s")
  refine n_list (fun S1 hS1 => ?_) (by rw [hsl]; simp)
  have hNR : N ≠ Rw := Kn.ne_of hN hRw
  have hS1R : S1 ≠ Rw := fun e => by rw [e, Kn.set_self] at hS1; cases hS1
  repeat (walk_at "s")
  refine base_ok (hA.deep.le (by decide)) (.inl (Kn.new hS1 _ _ (Kn.new hRw _ _ hN))) hns (by (first | lia | omega)) (by (first | lia | omega)) fun B1 K2 bi bep hB1 hB1n hK2 hbi => ?_
  repeat (walk_at "s")
  have hRw2 : K2 Rw = some (lo [] 0) := hK2 _ _ (Kn.new hS1 _ _ Kn.set_self)
  have hS12 := hK2 _ _ (Kn.set_self (kn := K1.set Rw (lo [] 0)) (a := S1))
  have hN2 := hK2 _ _ (Kn.new hS1 _ _ (Kn.new hRw _ _ hN))
  have hB1R : B1 ≠ Rw := fun e => by rw [e] at hB1n; rw [Kn.set_ne (Ne.symm hS1R), Kn.set_self] at hB1n; cases hB1n
  have hbl := baseF_len ns
  have hrl := restF_len ns
  refine lay_ok (hA.deep.le (by decide)) hRw2 .nil (.inl hS12) (.cons _ _ (.cons _ _ (.cons _ _ .nil))) (by rfl) (.inl hB1) hbi hS1R hB1R (by simp; (first | lia | omega)) fun G1 K3 gi1 gep1 ri1 rep1 hG1 hgi1 hR3 hrow3 hK3 hG1R hG1n => ?_
  have hN3 := hK3 _ _ hNR hN2
  have hrow3 : RowIs K3 ri1 (row1 ns) := hrow3
  refine WP.gen (fun K => An3 (K N = some (lo ni 0)) (K Rw = some (lo ri1 rep1)) (RowIs K ri1 (row1 ns))) ⟨hN3, hR3, hrow3⟩ ?_
  clear hN3 hR3 hrow3 hK3 hG1R hG1n hgi1 hG1 hB1 hB1n hK2 hbi hRw2 hS12 hN2 hS1 hRw hN hB1R hS1R
  rintro K4 ⟨hN, hR, hrow⟩
  have hr1l := hrow.len
  have hr17 := hok.len1
  repeat (walk_at "s")
  refine x_lcp (cl := []) ?_ (by rfl) (by rfl) (by decide +kernel) (by rfl) (by decide +kernel) (by intro _; rfl)
  repeat (walk_at "s")
  refine ⟨ri1.length, _, _, fun i ys => IntsAre ys (((row1 ns).take i).map (·.1)), by (first | lia | omega), src_list (hA.deep (env := _)).handled Rw ri1, ⟨rep1, .inl hR⟩, .nil, ?_, ?_⟩
  · rintro i ys v P'' C hle'' hij hv hF2
    obtain ⟨a, u1, u2, u3, r, rfl, hrr, har⟩ := (hrow).get hv
    repeat (walk_at "s")
    refine k_tsub (.inl har) (by decide) (by decide) rfl ?_
    exact ⟨by show IntsAre _ _; rw [map_succ (·.1) hrr]; exact ia_app hF2 (ia_one _ _), .eq⟩
  intro bs Ba bep P1 hle1 hFb hBa hbsl
  have hbs : IntsAre bs ((row1 ns).map (·.1)) := by
    have := hFb
    rw [hr1l, List.take_of_length_le (Nat.le_refl _)] at this; exact this
  have hbsl2 := hbs.length
  rw [List.length_map] at hbsl2
  have hNR2 : N ≠ Ba := Kn.ne_of hN hBa
  have hRB : Rw ≠ Ba := Kn.ne_of hR hBa
  refine WP.gen (fun K => An4 (K N = some (lo ni 0)) (K Rw = some (lo ri1 rep1)) (RowIs K ri1 (row1 ns)) (K Ba = some (lo bs bep))) ⟨Kn.new hBa _ _ hN, Kn.new hBa _ _ hR, hrow.le fun a vs e => Kn.new hBa _ _ e, Kn.set_self⟩ ?_
  clear hFb hN hR hrow hBa hle1 hl
  rintro K5 ⟨hN, hR, hrow, hBa⟩
  repeat (walk_at "s")
  refine n_list (fun S2 hS2 => ?_) (by rw [hsl]; simp)
  have hS2R : S2 ≠ Rw := Ne.symm (Kn.ne_of hR hS2)
  repeat (walk_at "s")
  refine rest_ok (hA.deep.le (by decide)) (.inl (Kn.new hS2 _ _ hN)) hns (by (first | lia | omega)) (by (first | lia | omega)) fun D2 K6 di dep hD2 hK6n hK6 hdi => ?_
  repeat (walk_at "s")
  have hR6 := hK6 _ _ (Kn.new hS2 _ _ hR)
  have hS6 := hK6 _ _ (Kn.set_self (kn := K5) (a := S2))
  have hrow6 := hrow.le fun a vs e => hK6 _ _ (Kn.new hS2 _ _ e)
  refine WP.st ?_
  rintro ⟨hp, hst⟩
  have hD2R : D2 ≠ Rw := fun e => by
    subst e
    rcases hD2 with e | e
    · rw [hR6] at e
      injection e with e
      have : ri1 = di := by
        have := congrArg Obj.data e
        simp at this; exact this.1
      subst this
      exact row_int hrow6 hdi (restF_pos ns (by (first | lia | omega)))
    · have := (hst.know _ _ hR6).2
      rw [e] at this; cases this
  clear hst
  refine lay_ok (hA.deep.le (by decide)) hR6 hrow6 (.inl hS6) (.cons _ _ (.cons _ _ (.cons _ _ .nil))) (by rfl) hD2 hdi hS2R hD2R (by (first | lia | omega)) fun G K7 gi gep ri rep hG hgi hR7 hrow7 hK7 hGR hGn => ?_
  have hgi : IntsAre gi (gapsF ns) := hgi
  have hrow7 : RowIs K7 ri (row2 ns) := hrow7
  have hBa7 := hK7 _ _ (Ne.symm hRB) (hK6 _ _ (Kn.new hS2 _ _ hBa))
  refine WP.gen (fun K => An4 (K G = some (lo gi gep)) (K Rw = some (lo ri rep)) (RowIs K ri (row2 ns)) (K Ba = some (lo bs bep))) ⟨hG, hR7, hrow7, hBa7⟩ ?_
  clear hG hR7 hrow7 hBa7 hK7 hGn hD2 hK6n hK6 hdi hR6 hS6 hrow6 hD2R hS2 hN hR hrow hBa hS2R
  rintro K8 ⟨hG, hR, hrow, hBa⟩
  have hgl := hgi.length
  have hg17 := hok.glen
  have hr2l := hrow.len
  have hr34 := hok.len2
  have hd := hok.gap
  have hd64 : ∀ d ∈ gapsF ns, 0 ≤ d ∧ d < 2 ^ 64 := fun d hx => ⟨(hd d hx).1, Int.lt_of_lt_of_le (hd d hx).2 (by decide)⟩
  repeat (walk_at "s")
  refine k_llen (.inl hBa) (by (first | lia | omega)) fun t7 => ?_
  repeat (walk_at "s")
  refine letters_ok (hA.deep.le (by decide)) (by (first | lia | omega)) (by (first | lia | omega)) (.inl hG) hgi hd (by (first | lia | omega)) fun t8 => ?_
  repeat (walk_at "s")
  refine k_llen (.inl hBa) (by (first | lia | omega)) fun t9 => ?_
  repeat (walk_at "s")
  refine gi_ok (hA.deep.le (by decide)) (by (first | lia | omega)) (by (first | lia | omega)) (.inl hG) hgi hd64 (by (first | lia | omega)) fun t10 => ?_
  have hu : ∀ env, (A.deeper env).units + 64 < cLine := fun env => by have := (hA.deep (env := env)).units; (first | lia | omega)
  repeat (walk_at "s")
  refine k_isi_bytes ?_
  repeat (walk_at "s")
  refine if_ff ?_
  repeat (walk_at "s")
  refine k_bne ?_
  rw [bne_self_eq_false]
  repeat ((fail_if_success (with_reducible show WP _ _ (eval (Expr.IfExp _ _ _ _) _) _ _ _)); walk_at "s")
  have hbbl : (((row1 ns).map (·.1)).map fun n => n.toNat.toUInt8).length = bs.length := by rw [List.length_map, List.length_map]; (first | lia | omega)
  refine WP.cut (fun v K => An3 (∃ t, v = .bytes (if (((row1 ns).map (·.1)).map fun n => n.toNat.toUInt8) = [] then (giF 0 (gapsF ns) 0 72).map dg else (((row1 ns).map (·.1)).map fun n => n.toNat.toUInt8) ++ 45 :: (giF (((row1 ns).map (·.1)).map fun n => n.toNat.toUInt8).length (gapsF ns) 0 72).map dg).toArray t) (K Rw = some (lo ri rep)) (RowIs K ri (row2 ns))) ?_ ?_
  · repeat (walk_at "s")
    refine n_list (fun E hE => ?_)
    repeat (walk_at "s")
    refine k_lne (.inl (Kn.new hE _ _ hBa)) (.inl Kn.set_self) hbs .nil (hu _) ?_
    repeat (walk_at "s")
    by_cases hb0 : row1 ns = []
    · rw [show (!decide ((row1 ns).map (·.1) = [])) = false by simp [hb0]]
      refine if_ff ?_
      repeat (walk_at "s")
      have : bs.length = 0 := by rw [hbsl2, hb0]; rfl
      refine ⟨⟨⟨t8, ?_⟩, Kn.new hE _ _ hR, hrow.le fun a vs e => Kn.new hE _ _ e⟩, rfl⟩
      rw [if_pos (by rw [hb0]; rfl), this]; rfl
    · rw [show (!decide ((row1 ns).map (·.1) = [])) = true by simp [hb0]]
      refine if_tt ?_
      repeat (walk_at "s")
      refine k_bytesl (hA.deep (env := _)).handled (.inl (Kn.new hE _ _ hBa)) hbs (fun n hn => ?_) (by (first | lia | omega)) fun t11 => ?_
      · obtain ⟨r, hr, rfl⟩ := List.mem_map.mp hn
        have := hok.low r hr
        exact ⟨this.1, by (first | lia | omega)⟩
      repeat (walk_at "s")
      refine k_badd (c := [45]) (by rw [hbbl]; simp; (first | lia | omega)) fun t12 => ?_
      repeat (walk_at "s")
      have hgl2 := giF_len bs.length (gapsF ns) 0 72 hd64
      refine k_badd (by rw [List.length_append, hbbl, List.length_map]; simp; (first | lia | omega)) fun t13 => ?_
      refine ⟨⟨⟨t13, ?_⟩, Kn.new hE _ _ hR, hrow.le fun a vs e => Kn.new hE _ _ e⟩, rfl⟩
      rw [if_neg (by simpa using hb0), hbbl, List.append_assoc, List.singleton_append]
  clear hG hR hrow hBa
  rintro _ K9 ⟨⟨t14, rfl⟩, hR, hrow⟩
  repeat (walk_at "s")
  refine pd_ok (hA.deep.le (by decide)) (fun x hx => ?_) hd64 (by rw [hbbl]; (first | lia | omega)) (by rw [hbbl, hbsl2]; exact hok.ok) fun t15 => ?_
  · obtain ⟨n, hn, rfl⟩ := List.mem_map.mp hx
    obtain ⟨r, hr, rfl⟩ := List.mem_map.mp hn
    have := hok.low r hr
    show r.1.toNat.toUInt8.toNat < 128
    rw [u8_toNat _ (by (first | lia | omega))]; (first | lia | omega)
  rw [show (((row1 ns).map (·.1)).map fun n => n.toNat.toUInt8).map (·.toNat) = (row1 ns).map (·.1.toNat) from by
    rw [List.map_map, List.map_map]
    refine List.map_congr_left fun r hr => ?_
    have := hok.low r hr
    show r.1.toNat.toUInt8.toNat = r.1.toNat
    exact u8_toNat _ (by (first | lia | omega)), hok.trip]
  generalize hX : (row2 ns).map (·.1.toNat) = X
  have hXl : X.length = (row2 ns).length := by rw [← hX, List.length_map]
  repeat (walk_at "s")
  refine x_lcp (cl := []) ?_ (by rfl) (by rfl) (by decide +kernel) (by rfl) (by decide +kernel) (by intro _; rfl)
  repeat (walk_at "s")
  refine ⟨X.length, _, _, fun i ys => IntsAre ys ((X.take i).map (fun c : Nat => (c : Int))), by (first | lia | omega), src_str (hA.deep (env := _)).handled X t15, trivial, .nil, ?_, ?_⟩
  · rintro i ys v P'' C hle'' hij ⟨c, u, hc, rfl⟩ hF2
    repeat (walk_at "s")
    refine k_ord fun t16 => ?_
    exact ⟨by show IntsAre _ _; rw [map_succ (fun c : Nat => (c : Int)) hc]; exact ia_app hF2 (ia_one _ _), .eq⟩
  intro ci Cd cep P2 hle2 hFc hCd hcl
  have hci : IntsAre ci ((row2 ns).map (·.1)) := by
    have := hFc
    rw [List.take_of_length_le (Nat.le_refl _), ← hX, List.map_map] at this
    rw [show (row2 ns).map (·.1) = (row2 ns).map ((fun c : Nat => (c : Int)) ∘ fun r => r.1.toNat) from List.map_congr_left fun r hr => by
      have := hok.pos r hr
      show r.1 = ((r.1.toNat : Nat) : Int); (first | lia | omega)]
    exact this
  refine WP.gen (fun K => An3 (K Rw = some (lo ri rep)) (RowIs K ri (row2 ns)) (K Cd = some (lo ci cep))) ⟨Kn.new hCd _ _ hR, hrow.le fun a vs e => Kn.new hCd _ _ e, Kn.set_self⟩ ?_
  clear hFc hR hrow hCd hle2
  rintro K10 ⟨hR, hrow, hCd⟩
  repeat (walk_at "s")
  refine e_lcp (cl := []) ?_ (by rfl) (by decide +kernel) (by rfl) (by decide +kernel) (by intro _; rfl)
  repeat (walk_at "s")
  refine ⟨ri.length, _, _, fun i ys => IntsAre ys (((row2 ns).take i).map (·.1)), by (first | lia | omega), src_list (hA.deep (env := _)).handled Rw ri, ⟨rep, .inl hR⟩, .nil, ?_, ?_⟩
  · rintro i ys v P'' C hle'' hij hv hF2
    obtain ⟨a, u1, u2, u3, r, rfl, hrr, har⟩ := (hrow).get hv
    repeat (walk_at "s")
    refine k_tsub (.inl har) (by decide) (by decide) rfl ?_
    exact ⟨by show IntsAre _ _; rw [map_succ (·.1) hrr]; exact ia_app hF2 (ia_one _ _), .eq⟩
  intro oi Od oep hFo hOd hol
  have hoi : IntsAre oi ((row2 ns).map (·.1)) := by
    have := hFo
    rw [hr2l, List.take_of_length_le (Nat.le_refl _)] at this; exact this
  refine k_lne (.inl (Kn.new hOd _ _ hCd)) (.inl Kn.set_self) hci hoi (hu _) ?_
  rw [show (!decide ((row2 ns).map (·.1) = (row2 ns).map (·.1))) = false by simp]
  refine WP.gen (fun K => An3 (K Rw = some (lo ri rep)) (RowIs K ri (row2 ns)) (K Cd = some (lo ci cep))) ⟨Kn.new hOd _ _ hR, hrow.le fun a vs e => Kn.new hOd _ _ e, Kn.new hOd _ _ hCd⟩ ?_
  clear hR hrow hCd hOd hFo hoi hol
  rintro K11 ⟨hR, hrow, hCd⟩
  repeat (walk_at "s")
  refine rounds_ok (cs := (row2 ns).map (·.1)) (lv := fun i => ((row2 ns).map (·.2.1)).getD i 0) (hA.deep.le (by decide)) (hF.deep (notmod (by kernel_rfl)) (by rfl)) (.inl hCd) hci (by rw [List.length_map]; (first | lia | omega)) (by rw [List.length_map]; exact hok.left) fun R1 r1 e1 K12 T1 q1 q2 q3 q4 q5 q6 => ?_
  simp only [List.length_map] at q2 q3 q4
  have hR12 := q5 _ _ hR
  have hrow12 := hrow.le fun a vs e => q5 _ _ e
  repeat (walk_at "s")
  refine e_lcp (cl := []) ?_ (by rfl) (by decide +kernel) (by rfl) (by decide +kernel) (by intro _; rfl)
  repeat (walk_at "s")
  refine ⟨ri.length, _, _, fun i ys => IntsAre ys (((row2 ns).take i).map (·.2.1)), by (first | lia | omega), src_list (hA.deep (env := _)).handled Rw ri, ⟨rep, .inl hR12⟩, .nil, ?_, ?_⟩
  · rintro i ys v P'' C hle'' hij hv hF2
    obtain ⟨a, u1, u2, u3, r, rfl, hrr, har⟩ := (hrow12).get hv
    repeat (walk_at "s")
    refine k_tsub (.inl har) (by decide) (by decide) rfl ?_
    exact ⟨by show IntsAre _ _; rw [map_succ (·.2.1) hrr]; exact ia_app hF2 (ia_one _ _), .eq⟩
  intro li Ld lep hFl hLd hll
  have hli : IntsAre li ((row2 ns).map (·.2.1)) := by
    have := hFl
    rw [hr2l, List.take_of_length_le (Nat.le_refl _)] at this; exact this
  repeat (walk_at "s")
  refine layers_ok (ls := (row2 ns).map (·.2.1)) (hA.deep.le (by decide)) (.inl Kn.set_self) hli (by rw [List.length_map]; (first | lia | omega)) (by rw [List.length_map]; exact hok.some) (fun a ha => ?_) fun R2 r2 e2 K13 T2 p1 p2 p3 p4 p5 p6 => ?_
  · obtain ⟨j, hj, rfl⟩ := mem_getD ha
    rw [List.length_map] at hj
    exact ⟨hok.left.nonneg hj, by have := hok.left.le_self j hj; (first | lia | omega)⟩
  rw [List.length_map] at p2
  have hT : T1 = T2 := same_T hok.left q3 q4 (by obtain ⟨j, hj, e⟩ := mem_getD p3; exact ⟨j, by rw [List.length_map] at hj; exact hj, e⟩) (fun j hj => p4 _ (getD_mem (by rw [List.length_map]; exact hj)))
  subst hT
  repeat (walk_at "s")
  refine k_rne (p5 _ _ (Kn.new hLd _ _ q1)) p1 (q2.le fun a vs e => p5 _ _ (Kn.new hLd _ _ e)) p2 (hu _) ?_
  refine WP.gen (fun K => An3 (K Rw = some (lo ri rep)) (RowIs K ri (row2 ns)) (K Cd = some (lo ci cep))) ⟨p5 _ _ (Kn.new hLd _ _ hR12), hrow12.le fun a vs e => p5 _ _ (Kn.new hLd _ _ e), p5 _ _ (Kn.new hLd _ _ (q5 _ _ hCd))⟩ ?_
  clear hR hrow hCd q1 q2 q3 q4 q5 q6 hR12 hrow12 p1 p2 p3 p4 p5 p6 hFl hLd hll hli
  rintro K14 ⟨hR, hrow, hCd⟩
  repeat (walk_at "s")
  intro s3 hs3
  have hcil := hci.length
  rw [List.length_map] at hcil
  refine k_l_rev (.inl (Kn.new hs3 _ _ hCd)) Kn.set_self (by (first | lia | omega)) fun Cr hCr => ?_
  repeat (walk_at "s")
  refine rounds_ok (cs := ((row2 ns).map (·.1)).reverse) (lv := fun i => (((row2 ns).map (·.2.2)).reverse).getD i 0) (hA.deep.le (by decide)) (hF.deep (notmod (by kernel_rfl)) (by rfl)) (.inl Kn.set_self) (ia_rev hci) (by rw [List.length_reverse, List.length_map]; (first | lia | omega)) (by rw [List.length_reverse, List.length_map]; exact hok.right) fun R1 r1 e1 K12 T1 q1 q2 q3 q4 q5 q6 => ?_
  simp only [List.length_map, List.length_reverse] at q2 q3 q4
  have hR12 := q5 _ _ (Kn.new hCr _ _ (Kn.new hs3 _ _ hR))
  have hrow12 := hrow.le fun a vs e => q5 _ _ (Kn.new hCr _ _ (Kn.new hs3 _ _ e))
  repeat (walk_at "s")
  refine e_lcp (cl := []) ?_ (by rfl) (by decide +kernel) (by rfl) (by decide +kernel) (by intro _; rfl)
  repeat (walk_at "s")
  refine ⟨ri.length, _, _, fun i ys => IntsAre ys (((row2 ns).take i).map (·.2.2)), by (first | lia | omega), src_list (hA.deep (env := _)).handled Rw ri, ⟨rep, .inl hR12⟩, .nil, ?_, ?_⟩
  · rintro i ys v P'' C hle'' hij hv hF2
    obtain ⟨a, u1, u2, u3, r, rfl, hrr, har⟩ := (hrow12).get hv
    repeat (walk_at "s")
    refine k_tsub (.inl har) (by decide) (by decide) rfl ?_
    exact ⟨by show IntsAre _ _; rw [map_succ (·.2.2) hrr]; exact ia_app hF2 (ia_one _ _), .eq⟩
  intro li Ld lep hFl hLd hll
  have hli : IntsAre li ((row2 ns).map (·.2.2)) := by
    have := hFl
    rw [hr2l, List.take_of_length_le (Nat.le_refl _)] at this; exact this
  repeat (walk_at "s")
  intro s4 hs4
  have hlil := hli.length
  rw [List.length_map] at hlil
  refine k_l_rev (.inl (Kn.new hs4 _ _ Kn.set_self)) Kn.set_self (by (first | lia | omega)) fun Lr hLr => ?_
  repeat (walk_at "s")
  refine layers_ok (ls := ((row2 ns).map (·.2.2)).reverse) (hA.deep.le (by decide)) (.inl Kn.set_self) (ia_rev hli) (by rw [List.length_reverse, List.length_map]; (first | lia | omega)) (by rw [List.length_reverse, List.length_map]; exact hok.some) (fun a ha => ?_) fun R2 r2 e2 K13 T2 p1 p2 p3 p4 p5 p6 => ?_
  · obtain ⟨j, hj, rfl⟩ := mem_getD ha
    rw [List.length_reverse, List.length_map] at hj
    exact ⟨hok.right.nonneg hj, by have := hok.right.le_self j hj; (first | lia | omega)⟩
  rw [List.length_reverse, List.length_map] at p2
  have hT : T1 = T2 := same_T hok.right q3 q4 (by obtain ⟨j, hj, e⟩ := mem_getD p3; exact ⟨j, by rw [List.length_reverse, List.length_map] at hj; exact hj, e⟩) (fun j hj => p4 _ (getD_mem (by rw [List.length_reverse, List.length_map]; exact hj)))
  subst hT
  have hup : ∀ a o, K12 a = some o → K13 a = some o := fun a o e => p5 _ _ (Kn.new hLr _ _ (Kn.new hs4 _ _ (Kn.new hLd _ _ e)))
  repeat (walk_at "s")
  refine k_req (hup _ _ q1) p1 (q2.le fun a vs e => hup _ _ e) p2 (hu _) ?_
  repeat (walk_at "s")
  exact hq _
end
end
/-! # part F21 -/
section
open PySem PySem.W PyProof.Rows
theorem items_int {h : Heap} {cl : Str → Option Addr} : ∀ {vs : List Value} {xs : List WData} {as : List Addr}, ReadsAllW [] cl h vs xs as → WShape.hasItems [] xs .int = true → ∃ ns, IntsAre vs ns ∧ ns.length = xs.length
  | _, _, _, .nil, _ => ⟨[], .nil, rfl⟩
  | _, _, _, .cons (d := d) hr hn, hx => by
    replace hx := Bool.and_eq_true_iff.mp (show (WShape.has [] _ .int && WShape.hasItems [] _ .int) = true from hx)
    obtain ⟨ns, h1, h2⟩ := items_int hn hx.2
    cases hr with
    | int i t => exact ⟨i :: ns, .cons _ _ h1, by simp [h2]⟩
    | _ => exact absurd (show false = true from hx.1) Bool.false_ne_true
theorem most63 {xs : List WData} (h : rowL.toRowW.pre.holds rowL.toRowW.records { args := [.list xs] } = true) : xs.length ≤ 63 := by
  by_cases q : xs.length ≤ 63
  · exact q
  · exfalso
    have e : rowL.toRowW.pre = .and (.not (.lt (.lit (.int 63)) (.len (.arg 0)))) (.lit (.bool true)) := rfl
    rw [e] at h
    have e2 : WTm.value rowL.toRowW.records (.and (.not (.lt (.lit (.int 63)) (.len (.arg 0)))) (.lit (.bool true))) { args := [.list xs] } = match (some (.bool (!decide ((63 : Int) < (xs.length : Nat)))) : Option WData) with
        | some (.bool false) => some (.bool false)
        | some (.bool true) => some (.bool true)
        | _ => none := rfl
    unfold WTm.holds at h
    rw [e2, decide_eq_true (show (63 : Int) < (xs.length : Nat) by (first | lia | omega))] at h
    cases h
theorem post_ok (xs : List WData) : clm.post [.list xs] (.bool true) [.list xs] = true := by
  show (WShape.has [] (.bool true) .bool && WTm.holds [] (.eq .res (.lit (.bool true))) { args := [.list xs], res := some (.bool true), after := [.list xs] }) = true
  exact Bool.and_eq_true_iff.mpr ⟨rfl, by rw [WTm.holds, show WTm.value [] (.eq .res (.lit (.bool true))) { args := [.list xs], res := some (.bool true), after := [.list xs] } = some (.bool (PySem.W.same (.bool true) (.bool true))) from rfl, show PySem.W.same (.bool true) (.bool true) = true from by rw [PySem.W.same]; rfl]⟩
theorem walkX : WalkX := by
  intro w s₀ s₁ mg mb G Y hg args vs as hpre hlay hrd
  obtain ⟨hp1, hp2⟩ := pre_splitW hpre
  obtain ⟨d, r, rfl, h1, h2⟩ := hasAllW_cons hp1
  obtain rfl := hasAllW_nil h2
  obtain ⟨xs, rfl, h3⟩ := hasW_list h1
  have hlen := most63 hp2
  cases hrd with
  | cons hr hn =>
    cases hn
    cases hr with
    | list ho hc hd hx =>
      rename_i l o vs n as
      obtain ⟨ss, hi, hs⟩ := items_int hx h3
      let P : Pk := ⟨w, s₁.gens, s₁.drawn, s₁.os, s₁.heap, mg, mb, kIn_of Y, G.T.g, G.T.b, G.T.builtins, G.T.nolimit⟩
      have hrun : WP P callerA (PySem.call (.ref 225) [.ref l]) (fun v _ _ => v = .bool true) (fun _ => none) [] :=
        law_run (P := P) ⟨by decide +kernel, by decide +kernel, rfl⟩ ⟨[], rfl, .nil⟩ (items := vs.toList) ⟨o, ho, hc, n, by rw [hd]⟩ hi (by (first | lia | omega)) fun _ => rfl
      have hst : St P (fun _ => none) [] s₁.heap := ⟨fun a o e => e, fun a o e => (by cases e), fun f hf => (by cases hf), List.nodup_nil, fun a ha => (by cases ha)⟩
      have := hrun s₁.heap s₁.toks hst
      refine wpX_mono this (fun v s' hv => ?_) fun _ _ f => f
      obtain ⟨kn', frs', h', k', rfl, hst', rfl⟩ := hv
      exact ⟨.inl ⟨.bool true, .bool true, [], rfl, fun _ => rfl, .bool _, post_ok xs, fun _ => ⟨List.nodup_nil, fun a ha => (by cases ha)⟩⟩, .of_keep hst'.base, rfl, .of_eq hg⟩
theorem holds : PySem.Challenge.rw_nq0245_01.Holds := hdX walkX
end
end
end Mine
theorem PySem.Challenge.cw_nq0245_01_holds : PySem.Challenge.rw_nq0245_01.Holds :=
  Mine.holds
