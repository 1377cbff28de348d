import PyProof.Rows.All
import Wide.All
import OpenK.AllK
import Wide.FinOn
import PySem.Challenge.RW_mr0298_01
open PySem PySem.W PySem.Calls PyProof.Rows
set_option Elab.async false
set_option linter.unusedVariables false
set_option maxRecDepth 100000
namespace Mine
section
noncomputable def pick : List Stmt → Nat → Stmt
  | s :: _, 0 => s
  | _ :: r, n + 1 => pick r n
  | [], _ => .Pass default
noncomputable def top (k : Nat) : Stmt := pick PySem.Challenge.pw_mr0298_01.main.body k
noncomputable def sub (c k : Nat) : Stmt := match top c with
  | .ClassDef _ _ _ body .. => pick body k
  | _ => .Pass default
noncomputable def fnObj (s : Stmt) (q : Str) (dflt modu code : Value) : Obj := match s with
  | .FunctionDef name args body _ _ _ scope .. => { cls := .type "function", data := .func { name := name, qualname := q, params := args, body := .stmts body, scope := scope, globals := 3, closure := [], defaults := dflt, kwdefaults := .none, pyModule := modu, code := code } }
  | _ => default
/-- the module's objects -/
noncomputable def HP (P : Params) : Frag := [
  (2, { cls := Value.none, data := Data.dict #[{ hash := PyData.keyHash P (Str.ofString "type.__subclasses__.Exception.0"), key := Value.str (Str.ofString "type.__subclasses__.Exception.0") 212, val := Value.int 31 0 }, { hash := PyData.keyHash P (Str.ofString "type.__subclasses__.Exception.n"), key := Value.str (Str.ofString "type.__subclasses__.Exception.n") 213, val := Value.int 1 0 }] 2 }),
  (3, { cls := Value.type "dict", data := Data.dict #[{ hash := PyData.keyHash P (Str.ofString "__name__"), key := Value.str (Str.ofString "__name__") 165, val := Value.str (Str.ofString "law_mr0298_01") 443 }, { hash := PyData.keyHash P (Str.ofString "__doc__"), key := Value.str (Str.ofString "__doc__") 166, val := Value.none }, { hash := PyData.keyHash P (Str.ofString "__package__"), key := Value.str (Str.ofString "__package__") 167, val := Value.none }, { hash := PyData.keyHash P (Str.ofString "__loader__"), key := Value.str (Str.ofString "__loader__") 168, val := Value.builtin "__main__.__loader__#opaque" }, { hash := PyData.keyHash P (Str.ofString "__spec__"), key := Value.str (Str.ofString "__spec__") 169, val := Value.none }, { hash := PyData.keyHash P (Str.ofString "__annotations__"), key := Value.str (Str.ofString "__annotations__") 170, val := Value.ref 6 }, { hash := PyData.keyHash P (Str.ofString "__builtins__"), key := Value.str (Str.ofString "__builtins__") 171, val := Value.ref 4 }, { hash := PyData.keyHash P (Str.ofString "__file__"), key := Value.str (Str.ofString "__file__") 173, val := Value.str (Str.ofString "/claim/cut.py") 172 }, { hash := PyData.keyHash P (Str.ofString "__cached__"), key := Value.str (Str.ofString "__cached__") 174, val := Value.none }, { hash := PyData.keyHash P (Str.ofString "_wall"), key := Value.str (Str.ofString "_wall") 193, val := Value.ref 21 }, { hash := PyData.keyHash P (Str.ofString "Error"), key := Value.str (Str.ofString "Error") 215, val := Value.ref 31 }, { hash := PyData.keyHash P (Str.ofString "error_reply"), key := Value.str (Str.ofString "error_reply") 231, val := Value.ref 44 }, { hash := PyData.keyHash P (Str.ofString "error_proto"), key := Value.str (Str.ofString "error_proto") 247, val := Value.ref 56 }, { hash := PyData.keyHash P (Str.ofString "parse229"), key := Value.str (Str.ofString "parse229") 260, val := Value.ref 65 }, { hash := PyData.keyHash P (Str.ofString "_NODE_OUT"), key := Value.str (Str.ofString "_NODE_OUT") 265, val := Value.int (-1) 264 }, { hash := PyData.keyHash P (Str.ofString "_NODE_DONE"), key := Value.str (Str.ofString "_NODE_DONE") 268, val := Value.int (-2) 267 }, { hash := PyData.keyHash P (Str.ofString "_NodeInfo"), key := Value.str (Str.ofString "_NodeInfo") 305, val := Value.ref 84 }, { hash := PyData.keyHash P (Str.ofString "CycleError"), key := Value.str (Str.ofString "CycleError") 323, val := Value.ref 99 }, { hash := PyData.keyHash P (Str.ofString "TopologicalSorter"), key := Value.str (Str.ofString "TopologicalSorter") 442, val := Value.ref 181 }, { hash := PyData.keyHash P (Str.ofString "_law_replies"), key := Value.str (Str.ofString "_law_replies") 457, val := Value.ref 192 }, { hash := PyData.keyHash P (Str.ofString "_law_dues"), key := Value.str (Str.ofString "_law_dues") 469, val := Value.ref 199 }, { hash := PyData.keyHash P (Str.ofString "_law_ask"), key := Value.str (Str.ofString "_law_ask") 478, val := Value.ref 206 }, { hash := PyData.keyHash P (Str.ofString "_law_walks"), key := Value.str (Str.ofString "_law_walks") 488, val := Value.ref 213 }, { hash := PyData.keyHash P (Str.ofString "_law_to_the_end"), key := Value.str (Str.ofString "_law_to_the_end") 494, val := Value.ref 218 }, { hash := PyData.keyHash P (Str.ofString "_law_from_afar"), key := Value.str (Str.ofString "_law_from_afar") 500, val := Value.ref 223 }, { hash := PyData.keyHash P (Str.ofString "_law_table"), key := Value.str (Str.ofString "_law_table") 511, val := Value.ref 230 }, { hash := PyData.keyHash P (Str.ofString "_law_ring_stands"), key := Value.str (Str.ofString "_law_ring_stands") 517, val := Value.ref 235 }, { hash := PyData.keyHash P (Str.ofString "_law_rounds"), key := Value.str (Str.ofString "_law_rounds") 527, val := Value.ref 242 }, { hash := PyData.keyHash P (Str.ofString "law"), key := Value.str (Str.ofString "law") 533, val := Value.ref 247 }] 29 }),
  (15, { cls := Value.type "tuple", data := Data.seq #[] }),
  (17, { cls := Value.type "tuple", data := Data.seq #[Value.str (Str.ofString "k") 190] }),
  (18, { cls := Value.type "tuple", data := Data.seq #[] }),
  (20, { cls := Value.type "code", data := Data.fields #[Value.str (Str.ofString "_wall") 187, Value.str (Str.ofString "_wall") 188, Value.str (Str.ofString "/claim/cut.py") 189, Value.int 1 0, Value.int 1 0, Value.int 0 0, Value.int 0 0, Value.int 3 0, Value.ref 15, Value.bool true, Value.int 181 0, Value.ref 16, Value.none, Value.ref 17, Value.ref 18, Value.ref 19, Value.int 191 0, Value.int 1 0, Value.str (Str.ofString "/claim/cut.py") 192] }),
  (21, fnObj (top 0) (Str.ofString "_wall") (Value.none) (Value.str (Str.ofString "__main__") 164) (Value.ref 20)),
  (22, { cls := Value.type "tuple", data := Data.seq #[Value.type "Exception"] }),
  (29, { cls := Value.type "tuple", data := Data.seq #[] }),
  (30, { cls := Value.type "dict", data := Data.dict #[{ hash := PyData.keyHash P (Str.ofString "__module__"), key := Value.str (Str.ofString "__module__") 203, val := Value.str (Str.ofString "cpy313.ftplib") 194 }, { hash := PyData.keyHash P (Str.ofString "__firstlineno__"), key := Value.str (Str.ofString "__firstlineno__") 207, val := Value.int 5 206 }, { hash := PyData.keyHash P (Str.ofString "__static_attributes__"), key := Value.str (Str.ofString "__static_attributes__") 208, val := Value.ref 29 }, { hash := PyData.keyHash P (Str.ofString "__weakref__"), key := Value.str (Str.ofString "__weakref__") 210, val := Value.ref 32 }, { hash := PyData.keyHash P (Str.ofString "__doc__"), key := Value.str (Str.ofString "__doc__") 211, val := Value.none }] 3 }),
  (31, { cls := Value.type "type", data := Data.cls { name := Str.ofString "Error", bases := [Value.type "Exception"], mro := [Value.ref 31, Value.type "Exception", Value.type "BaseException", Value.type "object"], ns := 30, qualname := Str.ofString "Error", subclasses := [Value.ref 44, Value.ref 56] }, slots := #[some (Value.ref 22), none, some (Value.str (Str.ofString "Error") 196), some (Value.str (Str.ofString "Error") 204), some (Value.builtin "Exception.__new__"), some (Value.bool true)] }),
  (32, { cls := Value.type "getset_descriptor", data := Data.fields #[Value.str (Str.ofString "__weakref__") 209, Value.ref 31, Value.builtin "ExceptionGroup.__weakref__", Value.none] }),
  (35, { cls := Value.type "tuple", data := Data.seq #[Value.ref 31] }),
  (42, { cls := Value.type "tuple", data := Data.seq #[] }),
  (43, { cls := Value.type "dict", data := Data.dict #[{ hash := PyData.keyHash P (Str.ofString "__module__"), key := Value.str (Str.ofString "__module__") 223, val := Value.str (Str.ofString "cpy313.ftplib") 194 }, { hash := PyData.keyHash P (Str.ofString "__firstlineno__"), key := Value.str (Str.ofString "__firstlineno__") 227, val := Value.int 7 226 }, { hash := PyData.keyHash P (Str.ofString "__static_attributes__"), key := Value.str (Str.ofString "__static_attributes__") 228, val := Value.ref 42 }, { hash := PyData.keyHash P (Str.ofString "__doc__"), key := Value.str (Str.ofString "__doc__") 229, val := Value.none }] 2 }),
  (44, { cls := Value.type "type", data := Data.cls { name := Str.ofString "error_reply", bases := [Value.ref 31], mro := [Value.ref 44, Value.ref 31, Value.type "Exception", Value.type "BaseException", Value.type "object"], ns := 43, qualname := Str.ofString "error_reply" }, slots := #[some (Value.ref 35), none, some (Value.str (Str.ofString "error_reply") 216), some (Value.str (Str.ofString "error_reply") 224), some (Value.builtin "Exception.__new__"), some (Value.bool true)] }),
  (47, { cls := Value.type "tuple", data := Data.seq #[Value.ref 31] }),
  (54, { cls := Value.type "tuple", data := Data.seq #[] }),
  (55, { cls := Value.type "dict", data := Data.dict #[{ hash := PyData.keyHash P (Str.ofString "__module__"), key := Value.str (Str.ofString "__module__") 239, val := Value.str (Str.ofString "cpy313.ftplib") 194 }, { hash := PyData.keyHash P (Str.ofString "__firstlineno__"), key := Value.str (Str.ofString "__firstlineno__") 243, val := Value.int 9 242 }, { hash := PyData.keyHash P (Str.ofString "__static_attributes__"), key := Value.str (Str.ofString "__static_attributes__") 244, val := Value.ref 54 }, { hash := PyData.keyHash P (Str.ofString "__doc__"), key := Value.str (Str.ofString "__doc__") 245, val := Value.none }] 2 }),
  (56, { cls := Value.type "type", data := Data.cls { name := Str.ofString "error_proto", bases := [Value.ref 31], mro := [Value.ref 56, Value.ref 31, Value.type "Exception", Value.type "BaseException", Value.type "object"], ns := 55, qualname := Str.ofString "error_proto" }, slots := #[some (Value.ref 47), none, some (Value.str (Str.ofString "error_proto") 232), some (Value.str (Str.ofString "error_proto") 240), some (Value.builtin "Exception.__new__"), some (Value.bool true)] }),
  (59, { cls := Value.type "tuple", data := Data.seq #[] }),
  (61, { cls := Value.type "tuple", data := Data.seq #[Value.str (Str.ofString "resp") 251, Value.str (Str.ofString "peer") 252, Value.str (Str.ofString "left") 253, Value.str (Str.ofString "right") 254, Value.str (Str.ofString "parts") 255, Value.str (Str.ofString "host") 256, Value.str (Str.ofString "port") 257] }),
  (62, { cls := Value.type "tuple", data := Data.seq #[] }),
  (64, { cls := Value.type "code", data := Data.fields #[Value.str (Str.ofString "parse229") 248, Value.str (Str.ofString "parse229") 249, Value.str (Str.ofString "/claim/cut.py") 250, Value.int 11 0, Value.int 2 0, Value.int 0 0, Value.int 0 0, Value.int 3 0, Value.ref 59, Value.bool true, Value.int 181 0, Value.ref 60, Value.none, Value.ref 61, Value.ref 62, Value.ref 63, Value.int 258 0, Value.int 11 0, Value.str (Str.ofString "/claim/cut.py") 259] }),
  (65, fnObj (top 5) (Str.ofString "parse229") (Value.none) (Value.str (Str.ofString "cpy313.ftplib") 194) (Value.ref 64)),
  (73, { cls := Value.type "tuple", data := Data.seq #[Value.str (Str.ofString "node") 281, Value.str (Str.ofString "npredecessors") 282, Value.str (Str.ofString "successors") 283] }),
  (74, { cls := Value.type "tuple", data := Data.seq #[] }),
  (76, { cls := Value.type "tuple", data := Data.seq #[Value.str (Str.ofString "self") 288, Value.str (Str.ofString "node") 289] }),
  (77, { cls := Value.type "tuple", data := Data.seq #[] }),
  (79, { cls := Value.type "code", data := Data.fields #[Value.str (Str.ofString "__init__") 285, Value.str (Str.ofString "_NodeInfo.__init__") 286, Value.str (Str.ofString "/claim/cut.py") 287, Value.int 34 0, Value.int 2 0, Value.int 0 0, Value.int 0 0, Value.int 3 0, Value.ref 74, Value.bool true, Value.int 181 0, Value.ref 75, Value.none, Value.ref 76, Value.ref 77, Value.ref 78, Value.int 290 0, Value.int 34 0, Value.str (Str.ofString "/claim/cut.py") 291] }),
  (80, fnObj (sub 9 1) (Str.ofString "_NodeInfo.__init__") (Value.none) (Value.str (Str.ofString "cpy313.graphlib") 261) (Value.ref 79)),
  (81, { cls := Value.type "tuple", data := Data.seq #[Value.str (Str.ofString "node") 293, Value.str (Str.ofString "npredecessors") 294, Value.str (Str.ofString "successors") 295] }),
  (83, { cls := Value.type "dict", data := Data.dict #[{ hash := PyData.keyHash P (Str.ofString "__module__"), key := Value.str (Str.ofString "__module__") 276, val := Value.str (Str.ofString "cpy313.graphlib") 261 }, { hash := PyData.keyHash P (Str.ofString "__firstlineno__"), key := Value.str (Str.ofString "__firstlineno__") 280, val := Value.int 31 279 }, { hash := PyData.keyHash P (Str.ofString "__slots__"), key := Value.str (Str.ofString "__slots__") 284, val := Value.ref 73 }, { hash := PyData.keyHash P (Str.ofString "__init__"), key := Value.str (Str.ofString "__init__") 292, val := Value.ref 80 }, { hash := PyData.keyHash P (Str.ofString "__static_attributes__"), key := Value.str (Str.ofString "__static_attributes__") 296, val := Value.ref 81 }, { hash := PyData.keyHash P (Str.ofString "node"), key := Value.str (Str.ofString "node") 298, val := Value.ref 85 }, { hash := PyData.keyHash P (Str.ofString "npredecessors"), key := Value.str (Str.ofString "npredecessors") 300, val := Value.ref 86 }, { hash := PyData.keyHash P (Str.ofString "successors"), key := Value.str (Str.ofString "successors") 302, val := Value.ref 87 }, { hash := PyData.keyHash P (Str.ofString "__doc__"), key := Value.str (Str.ofString "__doc__") 303, val := Value.none }] 5 }),
  (84, { cls := Value.type "type", data := Data.cls { name := Str.ofString "_NodeInfo", bases := [Value.type "object"], mro := [Value.ref 84, Value.type "object"], ns := 83, qualname := Str.ofString "_NodeInfo", hasDict := false, slotNames := [Str.ofString "node", Str.ofString "npredecessors", Str.ofString "successors"] }, slots := #[none, none, some (Value.str (Str.ofString "_NodeInfo") 269), some (Value.str (Str.ofString "_NodeInfo") 277), some (Value.builtin "object.__new__"), some (Value.bool false)] }),
  (85, { cls := Value.type "member_descriptor", data := Data.fields #[Value.str (Str.ofString "node") 297, Value.ref 84, Value.builtin "proto.slot", Value.builtin "proto.slot#set", Value.int 2 0] }),
  (86, { cls := Value.type "member_descriptor", data := Data.fields #[Value.str (Str.ofString "npredecessors") 299, Value.ref 84, Value.builtin "proto.slot", Value.builtin "proto.slot#set", Value.int 1 0] }),
  (87, { cls := Value.type "member_descriptor", data := Data.fields #[Value.str (Str.ofString "successors") 301, Value.ref 84, Value.builtin "proto.slot", Value.builtin "proto.slot#set", Value.int 0 0] }),
  (90, { cls := Value.type "tuple", data := Data.seq #[Value.type "ValueError"] }),
  (97, { cls := Value.type "tuple", data := Data.seq #[] }),
  (98, { cls := Value.type "dict", data := Data.dict #[{ hash := PyData.keyHash P (Str.ofString "__module__"), key := Value.str (Str.ofString "__module__") 313, val := Value.str (Str.ofString "cpy313.graphlib") 261 }, { hash := PyData.keyHash P (Str.ofString "__firstlineno__"), key := Value.str (Str.ofString "__firstlineno__") 317, val := Value.int 38 316 }, { hash := PyData.keyHash P (Str.ofString "__static_attributes__"), key := Value.str (Str.ofString "__static_attributes__") 318, val := Value.ref 97 }, { hash := PyData.keyHash P (Str.ofString "__weakref__"), key := Value.str (Str.ofString "__weakref__") 320, val := Value.ref 100 }, { hash := PyData.keyHash P (Str.ofString "__doc__"), key := Value.str (Str.ofString "__doc__") 321, val := Value.none }] 3 }),
  (99, { cls := Value.type "type", data := Data.cls { name := Str.ofString "CycleError", bases := [Value.type "ValueError"], mro := [Value.ref 99, Value.type "ValueError", Value.type "Exception", Value.type "BaseException", Value.type "object"], ns := 98, qualname := Str.ofString "CycleError" }, slots := #[some (Value.ref 90), none, some (Value.str (Str.ofString "CycleError") 306), some (Value.str (Str.ofString "CycleError") 314), some (Value.builtin "ValueError.__new__"), some (Value.bool true)] }),
  (100, { cls := Value.type "getset_descriptor", data := Data.fields #[Value.str (Str.ofString "__weakref__") 319, Value.ref 99, Value.builtin "ExceptionGroup.__weakref__", Value.none] }),
  (110, { cls := Value.type "tuple", data := Data.seq #[Value.none] }),
  (111, { cls := Value.type "tuple", data := Data.seq #[] }),
  (113, { cls := Value.type "tuple", data := Data.seq #[Value.str (Str.ofString "self") 339, Value.str (Str.ofString "graph") 340, Value.str (Str.ofString "node") 341, Value.str (Str.ofString "predecessors") 342] }),
  (114, { cls := Value.type "tuple", data := Data.seq #[] }),
  (116, { cls := Value.type "code", data := Data.fields #[Value.str (Str.ofString "__init__") 336, Value.str (Str.ofString "TopologicalSorter.__init__") 337, Value.str (Str.ofString "/claim/cut.py") 338, Value.int 42 0, Value.int 2 0, Value.int 0 0, Value.int 0 0, Value.int 3 0, Value.ref 111, Value.bool true, Value.int 181 0, Value.ref 112, Value.none, Value.ref 113, Value.ref 114, Value.ref 115, Value.int 343 0, Value.int 42 0, Value.str (Str.ofString "/claim/cut.py") 344] }),
  (117, fnObj (sub 11 0) (Str.ofString "TopologicalSorter.__init__") (Value.ref 110) (Value.str (Str.ofString "cpy313.graphlib") 261) (Value.ref 116)),
  (118, { cls := Value.type "tuple", data := Data.seq #[] }),
  (120, { cls := Value.type "tuple", data := Data.seq #[Value.str (Str.ofString "self") 349, Value.str (Str.ofString "node") 350, Value.str (Str.ofString "result") 351] }),
  (121, { cls := Value.type "tuple", data := Data.seq #[] }),
  (123, { cls := Value.type "code", data := Data.fields #[Value.str (Str.ofString "_get_nodeinfo") 346, Value.str (Str.ofString "TopologicalSorter._get_nodeinfo") 347, Value.str (Str.ofString "/claim/cut.py") 348, Value.int 51 0, Value.int 2 0, Value.int 0 0, Value.int 0 0, Value.int 3 0, Value.ref 118, Value.bool true, Value.int 181 0, Value.ref 119, Value.none, Value.ref 120, Value.ref 121, Value.ref 122, Value.int 352 0, Value.int 51 0, Value.str (Str.ofString "/claim/cut.py") 353] }),
  (124, fnObj (sub 11 1) (Str.ofString "TopologicalSorter._get_nodeinfo") (Value.none) (Value.str (Str.ofString "cpy313.graphlib") 261) (Value.ref 123)),
  (125, { cls := Value.type "tuple", data := Data.seq #[] }),
  (127, { cls := Value.type "tuple", data := Data.seq #[Value.str (Str.ofString "self") 358, Value.str (Str.ofString "node") 359, Value.str (Str.ofString "predecessors") 360, Value.str (Str.ofString "nodeinfo") 361, Value.str (Str.ofString "pred") 362, Value.str (Str.ofString "pred_info") 363] }),
  (128, { cls := Value.type "tuple", data := Data.seq #[] }),
  (130, { cls := Value.type "code", data := Data.fields #[Value.str (Str.ofString "add") 355, Value.str (Str.ofString "TopologicalSorter.add") 356, Value.str (Str.ofString "/claim/cut.py") 357, Value.int 56 0, Value.int 2 0, Value.int 0 0, Value.int 0 0, Value.int 7 0, Value.ref 125, Value.bool true, Value.int 181 0, Value.ref 126, Value.none, Value.ref 127, Value.ref 128, Value.ref 129, Value.int 364 0, Value.int 56 0, Value.str (Str.ofString "/claim/cut.py") 365] }),
  (131, fnObj (sub 11 2) (Str.ofString "TopologicalSorter.add") (Value.none) (Value.str (Str.ofString "cpy313.graphlib") 261) (Value.ref 130)),
  (132, { cls := Value.type "tuple", data := Data.seq #[] }),
  (135, { cls := Value.type "code", data := Data.fields #[Value.str (Str.ofString "prepare") 367, Value.str (Str.ofString "TopologicalSorter.prepare") 368, Value.str (Str.ofString "/claim/cut.py") 369, Value.int 65 0, Value.int 1 0, Value.int 0 0, Value.int 0 0, Value.int 3 0, Value.ref 132, Value.bool true, Value.int 181 0, Value.ref 133, Value.none, Value.none, Value.none, Value.ref 134, Value.int 370 0, Value.int 65 0, Value.str (Str.ofString "/claim/cut.py") 371] }),
  (136, fnObj (sub 11 3) (Str.ofString "TopologicalSorter.prepare") (Value.none) (Value.str (Str.ofString "cpy313.graphlib") 261) (Value.ref 135)),
  (137, { cls := Value.type "tuple", data := Data.seq #[] }),
  (139, { cls := Value.type "tuple", data := Data.seq #[Value.str (Str.ofString "self") 376, Value.str (Str.ofString "result") 377, Value.str (Str.ofString "n2i") 378, Value.str (Str.ofString "node") 379] }),
  (140, { cls := Value.type "tuple", data := Data.seq #[] }),
  (142, { cls := Value.type "code", data := Data.fields #[Value.str (Str.ofString "get_ready") 373, Value.str (Str.ofString "TopologicalSorter.get_ready") 374, Value.str (Str.ofString "/claim/cut.py") 375, Value.int 73 0, Value.int 1 0, Value.int 0 0, Value.int 0 0, Value.int 3 0, Value.ref 137, Value.bool true, Value.int 181 0, Value.ref 138, Value.none, Value.ref 139, Value.ref 140, Value.ref 141, Value.int 380 0, Value.int 73 0, Value.str (Str.ofString "/claim/cut.py") 381] }),
  (143, fnObj (sub 11 4) (Str.ofString "TopologicalSorter.get_ready") (Value.none) (Value.str (Str.ofString "cpy313.graphlib") 261) (Value.ref 142)),
  (144, { cls := Value.type "tuple", data := Data.seq #[] }),
  (146, { cls := Value.type "tuple", data := Data.seq #[Value.str (Str.ofString "self") 386] }),
  (147, { cls := Value.type "tuple", data := Data.seq #[] }),
  (149, { cls := Value.type "code", data := Data.fields #[Value.str (Str.ofString "is_active") 383, Value.str (Str.ofString "TopologicalSorter.is_active") 384, Value.str (Str.ofString "/claim/cut.py") 385, Value.int 84 0, Value.int 1 0, Value.int 0 0, Value.int 0 0, Value.int 3 0, Value.ref 144, Value.bool true, Value.int 181 0, Value.ref 145, Value.none, Value.ref 146, Value.ref 147, Value.ref 148, Value.int 387 0, Value.int 84 0, Value.str (Str.ofString "/claim/cut.py") 388] }),
  (150, fnObj (sub 11 5) (Str.ofString "TopologicalSorter.is_active") (Value.none) (Value.str (Str.ofString "cpy313.graphlib") 261) (Value.ref 149)),
  (151, { cls := Value.type "tuple", data := Data.seq #[] }),
  (153, { cls := Value.type "tuple", data := Data.seq #[Value.str (Str.ofString "self") 393] }),
  (154, { cls := Value.type "tuple", data := Data.seq #[] }),
  (156, { cls := Value.type "code", data := Data.fields #[Value.str (Str.ofString "__bool__") 390, Value.str (Str.ofString "TopologicalSorter.__bool__") 391, Value.str (Str.ofString "/claim/cut.py") 392, Value.int 89 0, Value.int 1 0, Value.int 0 0, Value.int 0 0, Value.int 3 0, Value.ref 151, Value.bool true, Value.int 181 0, Value.ref 152, Value.none, Value.ref 153, Value.ref 154, Value.ref 155, Value.int 394 0, Value.int 89 0, Value.str (Str.ofString "/claim/cut.py") 395] }),
  (157, fnObj (sub 11 6) (Str.ofString "TopologicalSorter.__bool__") (Value.none) (Value.str (Str.ofString "cpy313.graphlib") 261) (Value.ref 156)),
  (158, { cls := Value.type "tuple", data := Data.seq #[] }),
  (160, { cls := Value.type "tuple", data := Data.seq #[Value.str (Str.ofString "self") 400, Value.str (Str.ofString "nodes") 401, Value.str (Str.ofString "n2i") 402, Value.str (Str.ofString "node") 403, Value.str (Str.ofString "nodeinfo") 404, Value.str (Str.ofString "stat") 405, Value.str (Str.ofString "successor") 406, Value.str (Str.ofString "successor_info") 407] }),
  (161, { cls := Value.type "tuple", data := Data.seq #[] }),
  (163, { cls := Value.type "code", data := Data.fields #[Value.str (Str.ofString "done") 397, Value.str (Str.ofString "TopologicalSorter.done") 398, Value.str (Str.ofString "/claim/cut.py") 399, Value.int 92 0, Value.int 1 0, Value.int 0 0, Value.int 0 0, Value.int 7 0, Value.ref 158, Value.bool true, Value.int 181 0, Value.ref 159, Value.none, Value.ref 160, Value.ref 161, Value.ref 162, Value.int 408 0, Value.int 92 0, Value.str (Str.ofString "/claim/cut.py") 409] }),
  (164, fnObj (sub 11 7) (Str.ofString "TopologicalSorter.done") (Value.none) (Value.str (Str.ofString "cpy313.graphlib") 261) (Value.ref 163)),
  (165, { cls := Value.type "tuple", data := Data.seq #[] }),
  (167, { cls := Value.type "tuple", data := Data.seq #[Value.str (Str.ofString "self") 414, Value.str (Str.ofString "n2i") 415, Value.str (Str.ofString "stack") 416, Value.str (Str.ofString "itstack") 417, Value.str (Str.ofString "seen") 418, Value.str (Str.ofString "node2stacki") 419, Value.str (Str.ofString "node") 420] }),
  (168, { cls := Value.type "tuple", data := Data.seq #[] }),
  (170, { cls := Value.type "code", data := Data.fields #[Value.str (Str.ofString "_find_cycle") 411, Value.str (Str.ofString "TopologicalSorter._find_cycle") 412, Value.str (Str.ofString "/claim/cut.py") 413, Value.int 115 0, Value.int 1 0, Value.int 0 0, Value.int 0 0, Value.int 3 0, Value.ref 165, Value.bool true, Value.int 181 0, Value.ref 166, Value.none, Value.ref 167, Value.ref 168, Value.ref 169, Value.int 421 0, Value.int 115 0, Value.str (Str.ofString "/claim/cut.py") 422] }),
  (171, fnObj (sub 11 8) (Str.ofString "TopologicalSorter._find_cycle") (Value.none) (Value.str (Str.ofString "cpy313.graphlib") 261) (Value.ref 170)),
  (172, { cls := Value.type "tuple", data := Data.seq #[] }),
  (174, { cls := Value.type "tuple", data := Data.seq #[Value.str (Str.ofString "self") 427] }),
  (175, { cls := Value.type "tuple", data := Data.seq #[] }),
  (177, { cls := Value.type "code", data := Data.fields #[Value.str (Str.ofString "static_order") 424, Value.str (Str.ofString "TopologicalSorter.static_order") 425, Value.str (Str.ofString "/claim/cut.py") 426, Value.int 144 0, Value.int 1 0, Value.int 0 0, Value.int 0 0, Value.int 3 0, Value.ref 172, Value.bool true, Value.int 181 0, Value.ref 173, Value.none, Value.ref 174, Value.ref 175, Value.ref 176, Value.int 428 0, Value.int 144 0, Value.str (Str.ofString "/claim/cut.py") 429] }),
  (178, fnObj (sub 11 9) (Str.ofString "TopologicalSorter.static_order") (Value.none) (Value.str (Str.ofString "cpy313.graphlib") 261) (Value.ref 177)),
  (179, { cls := Value.type "tuple", data := Data.seq #[Value.str (Str.ofString "_nfinished") 431, Value.str (Str.ofString "_node2info") 432, Value.str (Str.ofString "_npassedout") 433, Value.str (Str.ofString "_ready_nodes") 434] }),
  (180, { cls := Value.type "dict", data := Data.dict #[{ hash := PyData.keyHash P (Str.ofString "__module__"), key := Value.str (Str.ofString "__module__") 331, val := Value.str (Str.ofString "cpy313.graphlib") 261 }, { hash := PyData.keyHash P (Str.ofString "__firstlineno__"), key := Value.str (Str.ofString "__firstlineno__") 335, val := Value.int 40 334 }, { hash := PyData.keyHash P (Str.ofString "__init__"), key := Value.str (Str.ofString "__init__") 345, val := Value.ref 117 }, { hash := PyData.keyHash P (Str.ofString "_get_nodeinfo"), key := Value.str (Str.ofString "_get_nodeinfo") 354, val := Value.ref 124 }, { hash := PyData.keyHash P (Str.ofString "add"), key := Value.str (Str.ofString "add") 366, val := Value.ref 131 }, { hash := PyData.keyHash P (Str.ofString "prepare"), key := Value.str (Str.ofString "prepare") 372, val := Value.ref 136 }, { hash := PyData.keyHash P (Str.ofString "get_ready"), key := Value.str (Str.ofString "get_ready") 382, val := Value.ref 143 }, { hash := PyData.keyHash P (Str.ofString "is_active"), key := Value.str (Str.ofString "is_active") 389, val := Value.ref 150 }, { hash := PyData.keyHash P (Str.ofString "__bool__"), key := Value.str (Str.ofString "__bool__") 396, val := Value.ref 157 }, { hash := PyData.keyHash P (Str.ofString "done"), key := Value.str (Str.ofString "done") 410, val := Value.ref 164 }, { hash := PyData.keyHash P (Str.ofString "_find_cycle"), key := Value.str (Str.ofString "_find_cycle") 423, val := Value.ref 171 }, { hash := PyData.keyHash P (Str.ofString "static_order"), key := Value.str (Str.ofString "static_order") 430, val := Value.ref 178 }, { hash := PyData.keyHash P (Str.ofString "__static_attributes__"), key := Value.str (Str.ofString "__static_attributes__") 435, val := Value.ref 179 }, { hash := PyData.keyHash P (Str.ofString "__dict__"), key := Value.str (Str.ofString "__dict__") 437, val := Value.ref 182 }, { hash := PyData.keyHash P (Str.ofString "__weakref__"), key := Value.str (Str.ofString "__weakref__") 439, val := Value.ref 183 }, { hash := PyData.keyHash P (Str.ofString "__doc__"), key := Value.str (Str.ofString "__doc__") 440, val := Value.none }] 4 }),
  (181, { cls := Value.type "type", data := Data.cls { name := Str.ofString "TopologicalSorter", bases := [Value.type "object"], mro := [Value.ref 181, Value.type "object"], ns := 180, qualname := Str.ofString "TopologicalSorter" }, slots := #[none, none, some (Value.str (Str.ofString "TopologicalSorter") 324), some (Value.str (Str.ofString "TopologicalSorter") 332), some (Value.builtin "object.__new__"), some (Value.bool true)] }),
  (182, { cls := Value.type "getset_descriptor", data := Data.fields #[Value.str (Str.ofString "__dict__") 436, Value.ref 181, Value.builtin "function.__dict__", Value.builtin "function.__dict__#set"] }),
  (183, { cls := Value.type "getset_descriptor", data := Data.fields #[Value.str (Str.ofString "__weakref__") 438, Value.ref 181, Value.builtin "ExceptionGroup.__weakref__", Value.none] }),
  (186, { cls := Value.type "tuple", data := Data.seq #[] }),
  (188, { cls := Value.type "tuple", data := Data.seq #[Value.str (Str.ofString "numbers") 448, Value.str (Str.ofString "good") 449, Value.str (Str.ofString "bad") 450, Value.str (Str.ofString "replies") 451, Value.str (Str.ofString "x") 452, Value.str (Str.ofString "port") 453, Value.str (Str.ofString "form") 454] }),
  (189, { cls := Value.type "tuple", data := Data.seq #[] }),
  (191, { cls := Value.type "code", data := Data.fields #[Value.str (Str.ofString "_law_replies") 445, Value.str (Str.ofString "_law_replies") 446, Value.str (Str.ofString "/claim/cut.py") 447, Value.int 147 0, Value.int 1 0, Value.int 0 0, Value.int 0 0, Value.int 3 0, Value.ref 186, Value.bool true, Value.int 181 0, Value.ref 187, Value.none, Value.ref 188, Value.ref 189, Value.ref 190, Value.int 455 0, Value.int 147 0, Value.str (Str.ofString "/claim/cut.py") 456] }),
  (192, fnObj (top 13) (Str.ofString "_law_replies") (Value.none) (Value.str (Str.ofString "law_mr0298_01") 443) (Value.ref 191)),
  (193, { cls := Value.type "tuple", data := Data.seq #[] }),
  (195, { cls := Value.type "tuple", data := Data.seq #[Value.str (Str.ofString "host") 461, Value.str (Str.ofString "numbers") 462, Value.str (Str.ofString "replies") 463, Value.str (Str.ofString "dues") 464, Value.str (Str.ofString "x") 465, Value.str (Str.ofString "reply") 466] }),
  (196, { cls := Value.type "tuple", data := Data.seq #[] }),
  (198, { cls := Value.type "code", data := Data.fields #[Value.str (Str.ofString "_law_dues") 458, Value.str (Str.ofString "_law_dues") 459, Value.str (Str.ofString "/claim/cut.py") 460, Value.int 157 0, Value.int 3 0, Value.int 0 0, Value.int 0 0, Value.int 3 0, Value.ref 193, Value.bool true, Value.int 181 0, Value.ref 194, Value.none, Value.ref 195, Value.ref 196, Value.ref 197, Value.int 467 0, Value.int 157 0, Value.str (Str.ofString "/claim/cut.py") 468] }),
  (199, fnObj (top 14) (Str.ofString "_law_dues") (Value.none) (Value.str (Str.ofString "law_mr0298_01") 443) (Value.ref 198)),
  (200, { cls := Value.type "tuple", data := Data.seq #[] }),
  (202, { cls := Value.type "tuple", data := Data.seq #[Value.str (Str.ofString "reply") 473, Value.str (Str.ofString "peer") 474, Value.str (Str.ofString "problem") 475] }),
  (203, { cls := Value.type "tuple", data := Data.seq #[] }),
  (205, { cls := Value.type "code", data := Data.fields #[Value.str (Str.ofString "_law_ask") 470, Value.str (Str.ofString "_law_ask") 471, Value.str (Str.ofString "/claim/cut.py") 472, Value.int 169 0, Value.int 2 0, Value.int 0 0, Value.int 0 0, Value.int 3 0, Value.ref 200, Value.bool true, Value.int 181 0, Value.ref 201, Value.none, Value.ref 202, Value.ref 203, Value.ref 204, Value.int 476 0, Value.int 169 0, Value.str (Str.ofString "/claim/cut.py") 477] }),
  (206, fnObj (top 15) (Str.ofString "_law_ask") (Value.none) (Value.str (Str.ofString "law_mr0298_01") 443) (Value.ref 205)),
  (207, { cls := Value.type "tuple", data := Data.seq #[] }),
  (209, { cls := Value.type "tuple", data := Data.seq #[Value.str (Str.ofString "numbers") 482, Value.str (Str.ofString "walks") 483, Value.str (Str.ofString "start") 484, Value.str (Str.ofString "walk") 485] }),
  (210, { cls := Value.type "tuple", data := Data.seq #[] }),
  (212, { cls := Value.type "code", data := Data.fields #[Value.str (Str.ofString "_law_walks") 479, Value.str (Str.ofString "_law_walks") 480, Value.str (Str.ofString "/claim/cut.py") 481, Value.int 178 0, Value.int 1 0, Value.int 0 0, Value.int 0 0, Value.int 3 0, Value.ref 207, Value.bool true, Value.int 181 0, Value.ref 208, Value.none, Value.ref 209, Value.ref 210, Value.ref 211, Value.int 486 0, Value.int 178 0, Value.str (Str.ofString "/claim/cut.py") 487] }),
  (213, fnObj (top 16) (Str.ofString "_law_walks") (Value.none) (Value.str (Str.ofString "law_mr0298_01") 443) (Value.ref 212)),
  (214, { cls := Value.type "tuple", data := Data.seq #[] }),
  (217, { cls := Value.type "code", data := Data.fields #[Value.str (Str.ofString "_law_to_the_end") 489, Value.str (Str.ofString "_law_to_the_end") 490, Value.str (Str.ofString "/claim/cut.py") 491, Value.int 186 0, Value.int 1 0, Value.int 0 0, Value.int 0 0, Value.int 3 0, Value.ref 214, Value.bool true, Value.int 181 0, Value.ref 215, Value.none, Value.none, Value.none, Value.ref 216, Value.int 492 0, Value.int 186 0, Value.str (Str.ofString "/claim/cut.py") 493] }),
  (218, fnObj (top 17) (Str.ofString "_law_to_the_end") (Value.none) (Value.str (Str.ofString "law_mr0298_01") 443) (Value.ref 217)),
  (219, { cls := Value.type "tuple", data := Data.seq #[] }),
  (222, { cls := Value.type "code", data := Data.fields #[Value.str (Str.ofString "_law_from_afar") 495, Value.str (Str.ofString "_law_from_afar") 496, Value.str (Str.ofString "/claim/cut.py") 497, Value.int 191 0, Value.int 1 0, Value.int 0 0, Value.int 0 0, Value.int 3 0, Value.ref 219, Value.bool true, Value.int 181 0, Value.ref 220, Value.none, Value.none, Value.none, Value.ref 221, Value.int 498 0, Value.int 191 0, Value.str (Str.ofString "/claim/cut.py") 499] }),
  (223, fnObj (top 18) (Str.ofString "_law_from_afar") (Value.none) (Value.str (Str.ofString "law_mr0298_01") 443) (Value.ref 222)),
  (224, { cls := Value.type "tuple", data := Data.seq #[] }),
  (226, { cls := Value.type "tuple", data := Data.seq #[Value.str (Str.ofString "ports") 504, Value.str (Str.ofString "answers") 505, Value.str (Str.ofString "table") 506, Value.str (Str.ofString "port") 507, Value.str (Str.ofString "answer") 508] }),
  (227, { cls := Value.type "tuple", data := Data.seq #[] }),
  (229, { cls := Value.type "code", data := Data.fields #[Value.str (Str.ofString "_law_table") 501, Value.str (Str.ofString "_law_table") 502, Value.str (Str.ofString "/claim/cut.py") 503, Value.int 200 0, Value.int 2 0, Value.int 0 0, Value.int 0 0, Value.int 3 0, Value.ref 224, Value.bool true, Value.int 181 0, Value.ref 225, Value.none, Value.ref 226, Value.ref 227, Value.ref 228, Value.int 509 0, Value.int 200 0, Value.str (Str.ofString "/claim/cut.py") 510] }),
  (230, fnObj (top 19) (Str.ofString "_law_table") (Value.none) (Value.str (Str.ofString "law_mr0298_01") 443) (Value.ref 229)),
  (231, { cls := Value.type "tuple", data := Data.seq #[] }),
  (234, { cls := Value.type "code", data := Data.fields #[Value.str (Str.ofString "_law_ring_stands") 512, Value.str (Str.ofString "_law_ring_stands") 513, Value.str (Str.ofString "/claim/cut.py") 514, Value.int 205 0, Value.int 3 0, Value.int 0 0, Value.int 0 0, Value.int 3 0, Value.ref 231, Value.bool true, Value.int 181 0, Value.ref 232, Value.none, Value.none, Value.none, Value.ref 233, Value.int 515 0, Value.int 205 0, Value.str (Str.ofString "/claim/cut.py") 516] }),
  (235, fnObj (top 20) (Str.ofString "_law_ring_stands") (Value.none) (Value.str (Str.ofString "law_mr0298_01") 443) (Value.ref 234)),
  (236, { cls := Value.type "tuple", data := Data.seq #[] }),
  (238, { cls := Value.type "tuple", data := Data.seq #[Value.str (Str.ofString "sorter") 521, Value.str (Str.ofString "ringed") 522, Value.str (Str.ofString "rounds") 523, Value.str (Str.ofString "group") 524] }),
  (239, { cls := Value.type "tuple", data := Data.seq #[] }),
  (241, { cls := Value.type "code", data := Data.fields #[Value.str (Str.ofString "_law_rounds") 518, Value.str (Str.ofString "_law_rounds") 519, Value.str (Str.ofString "/claim/cut.py") 520, Value.int 213 0, Value.int 2 0, Value.int 0 0, Value.int 0 0, Value.int 3 0, Value.ref 236, Value.bool true, Value.int 181 0, Value.ref 237, Value.none, Value.ref 238, Value.ref 239, Value.ref 240, Value.int 525 0, Value.int 213 0, Value.str (Str.ofString "/claim/cut.py") 526] }),
  (242, fnObj (top 21) (Str.ofString "_law_rounds") (Value.none) (Value.str (Str.ofString "law_mr0298_01") 443) (Value.ref 241)),
  (243, { cls := Value.type "tuple", data := Data.seq #[] }),
  (246, { cls := Value.type "code", data := Data.fields #[Value.str (Str.ofString "law") 528, Value.str (Str.ofString "law") 529, Value.str (Str.ofString "/claim/cut.py") 530, Value.int 230 0, Value.int 1 0, Value.int 0 0, Value.int 0 0, Value.int 3 0, Value.ref 243, Value.bool true, Value.int 181 0, Value.ref 244, Value.none, Value.none, Value.none, Value.ref 245, Value.int 531 0, Value.int 230 0, Value.str (Str.ofString "/claim/cut.py") 532] }),
  (247, fnObj (top 22) (Str.ofString "law") (Value.none) (Value.str (Str.ofString "law_mr0298_01") 443) (Value.ref 246))
]
/-- the program without its __name__ rows -/
noncomputable def vw : Program := view PySem.Challenge.pw_mr0298_01 [0, 2, 3, 4, 5, 7, 8, 9, 10, 11, 13, 14, 15, 16, 17, 18, 19, 20, 21, 22]
end
section
set_option maxHeartbeats 0
noncomputable def hk : Hook := kHook HP [2, 3, 15, 17, 18, 20, 21, 22, 29, 30, 31, 32, 35, 42, 43, 44, 47, 54, 55, 56, 59, 61, 62, 64, 65, 73, 74, 76, 77, 79, 80, 81, 83, 84, 85, 86, 87, 90, 97, 98, 99, 100, 110, 111, 113, 114, 116, 117, 118, 120, 121, 123, 124, 125, 127, 128, 130, 131, 132, 135, 136, 137, 139, 140, 142, 143, 144, 146, 147, 149, 150, 151, 153, 154, 156, 157, 158, 160, 161, 163, 164, 165, 167, 168, 170, 171, 172, 174, 175, 177, 178, 179, 180, 181, 182, 183, 186, 188, 189, 191, 192, 193, 195, 196, 198, 199, 200, 202, 203, 205, 206, 207, 209, 210, 212, 213, 214, 217, 218, 219, 222, 223, 224, 226, 227, 229, 230, 231, 234, 235, 236, 238, 239, 241, 242, 243, 246, 247] (fun _ => by kernel_rfl)
noncomputable abbrev rwR : RowW := PySem.Challenge.rw_mr0298_01.row.toRowW
/-- the top's run, its objects in a tree -/
noncomputable def runX (ok : Thread → Bool) (st : SharedT → Thread → Option (SharedT × Thread)) : Nat → SharedT → Thread → Option SharedT
  | 0, _, _ => none
  | n + 1, s, t => match through t with
    | true => some s
    | false => match ok t with
      | false => none
      | true => match st s t with
        | some (s', t') => runX ok st n s' t'
        | none => none
theorem runX_spec {p : Program} {w : World} {k : Nat} {ann : Option Value} : ∀ {n : Nat} {s r : SharedT} {t : Thread}, runX (stepOk k ann) (stepT (denote treeTable) p w) n s t = some r → topRun treeTable p w k ann n s.abs t = some r.abs
  | 0, _, _, _, h => nomatch h
  | n + 1, s, r, t, h => by
    unfold runX at h
    unfold topRun
    cases ht : through t with
    | true => rw [ht] at h; cases h; rfl
    | false =>
      rw [ht] at h
      cases hk : stepOk k ann t with
      | false => rw [hk] at h; cases h
      | true =>
        rw [hk] at h
        cases hs : stepT (denote treeTable) p w s t with
        | none => rw [hs] at h; cases h
        | some x => obtain ⟨s', t'⟩ := x; rw [hs] at h; rw [stepT_spec hs]; exact runX_spec h
theorem left_of {p q : Program} {loose : List Str} {Xt : Shared → Bool} {α : Type} {Yf : Shared → α} {Ya : World → α} {N k : Nat} (tree : Params → BT)
    (open_ : ∀ w : World, (fencedOpening treeTable p w N).map (fun s => (s.heap, s.gens, s.drawn, s.toks)) = some (boot_heap w.params, Array.mk [], boot_drawn, boot_toks))
    (habs : ∀ P, absHeap (tree P) k (boot_heap P).life = boot_heap P)
    (size : ∀ P, ((boot_heap P).isNs mainGlobals, (boot_heap P).objs.size, (boot_heap P).nsMap mainGlobals "__annotations__") = (true, k, some (.ref 6)))
    (run : ∀ (w : World) (os : OsState), (runX (stepOk k (some (.ref 6))) (stepT (denote treeTable) p w) N ⟨tree w.params, k, (boot_heap w.params).life, Array.mk [], boot_drawn, boot_toks, os⟩ (topStub p)).map (fun s =>
        (staticsOk (importedModules p.main.body) (boot_heap w.params) s.abs.heap && namesBound p s.abs.heap && gensDone s.abs && laidKept (boot_heap w.params) s.abs.heap, openSeen q loose (importedModules p.main.body) Xt true s.abs, Yf s.abs)) = some (true, openGood q loose, Ya w)) :
    LeftO p q loose Xt Yf Ya N := fun w => by
  obtain ⟨⟨h, gs, d, tk, os⟩, e, e'⟩ := Option.map_eq_some_iff.mp (open_ w)
  obtain ⟨e1, e'⟩ := Prod.mk.inj e'
  obtain ⟨e2, e'⟩ := Prod.mk.inj e'
  obtain ⟨e3, e4⟩ := Prod.mk.inj e'
  subst e1 e2 e3 e4
  obtain ⟨z1, z2⟩ := Prod.mk.inj (size w.params)
  obtain ⟨z2, z3⟩ := Prod.mk.inj z2
  obtain ⟨r, hr, hl⟩ := Option.map_eq_some_iff.mp (run w os)
  obtain ⟨l1, l2⟩ := Prod.mk.inj hl
  have hrun := runX_spec hr
  unfold SharedT.abs at hrun
  dsimp only at hrun
  rw [habs] at hrun
  unfold openEnds
  rw [e]
  show (topFrom treeTable p w N _).map _ = _
  unfold topFrom
  dsimp only
  rw [z1, z2, z3]
  show ((topRun treeTable p w k (some (.ref 6)) N _ _).bind _).map _ = _
  rw [hrun]
  show (match staticsOk (importedModules p.main.body) (boot_heap w.params) r.abs.heap && namesBound p r.abs.heap && gensDone r.abs && laidKept (boot_heap w.params) r.abs.heap with | true => some r.abs | false => _ : Option Shared).map _ = _
  rw [l1]
  exact congrArg some l2
noncomputable def bootT (P : Params) : BT := (.node (boot_o_0 P) (.node (boot_o_1 P) (.node (boot_o_3 P) (.node (boot_o_7 P) .nil .nil) .nil) (.node (boot_o_5 P) (.node (boot_o_9 P) .nil .nil) .nil)) (.node (boot_o_2 P) (.node (boot_o_4 P) (.node (boot_o_8 P) .nil .nil) .nil) (.node (boot_o_6 P) (.node (boot_o_10 P) .nil .nil) .nil)))
theorem opens : ∀ w : World, (fencedOpening treeTable rwR.prog w 4162).map (fun s => (s.heap, s.gens, s.drawn, s.toks)) = some (boot_heap w.params, Array.mk [], boot_drawn, boot_toks) :=
  boot_open (by kernel_rfl) (by decide) (fun _ => by kernel_rfl)
theorem left : LeftO rwR.prog vw [Str.ofString "_NodeInfo"] (fun s => xlAt vw [] s && recOk (RowW.records rwR) s) hk.obs hk.val 4162 := by
  refine left_of (k := 11) bootT opens (fun _ => by rfl) (fun _ => by kernel_rfl) fun w os => ?_
  rw [Fast.te6613529449190102663, Fast.te10156331382660048174, Fast.te11892475500146522536, Fast.te14364793385576792824, Fast.te4187177175401517315]
  kernel_rfl
theorem said : OpenLaw.wellSaid PySem.Challenge.rw_mr0298_01 = true := by
  unfold OpenLaw.wellSaid OpenRow.wellSaid OpenRow.partSaid looksOpen
  repeat' with_reducible apply look_both
  all_goals decide +kernel
end
section
noncomputable abbrev prg : Program := PySem.Challenge.rw_mr0298_01.row.prog
noncomputable abbrev KK (w : World) : Frag := HP w.params

/-- a value without its token -/
noncomputable def cv : Value → Value
  | .int i _ => .int i 0
  | .float b _ => .float b 0
  | .str s _ => .str s 0
  | .bytes b _ => .bytes b 0
  | v => v

noncomputable def Any : Value → (Value → Prop) → Prop
  | .int i _, P => ∀ t, P (.int i t)
  | .float b _, P => ∀ t, P (.float b t)
  | .str s _, P => ∀ t, P (.str s t)
  | .bytes b _, P => ∀ t, P (.bytes b t)
  | v, P => P v

theorem any_cv {v : Value} {P : Value → Prop} (h : Any (cv v) P) : P v := by
  cases v <;> first | exact h _ | exact h
theorem any_of_cv {v c : Value} {P : Value → Prop} (e : cv v = c) (h : Any c P) : P v := by
  subst e; exact any_cv h

noncomputable abbrev Ent := Addr × (Obj → Prop)
noncomputable abbrev Led := List Ent

/-- what does not change over the law's run -/
structure Gd where
  w : World
  h₀ : Heap
  os : OsState
  mg : Str → Option Value
  mb : Str → Option Value
  mean : ExcName → Option Value
  lo : Nat := 0

structure Gd.Ok (G : Gd) : Prop where
  X : (KK G.w).In G.h₀
  T : Top vw (looseW vw [Str.ofString "_NodeInfo"]) G.mean G.mg G.mb G.h₀

structure Mod (G : Gd) (l : Led) (s : Shared) : Prop where
  ok : G.Ok
  keep : ∀ b o, G.h₀.get? b = some o → s.heap.get? b = some o
  led : ∀ p ∈ l, ∃ o, s.heap.get? p.1 = some o ∧ p.2 o ∧ G.h₀.get? p.1 = none
  nd : (l.map (·.1)).Nodup
  gens : s.gens = #[]
  os : s.os = G.os
  tok : G.lo ≤ s.toks

theorem none_of_size {h : Heap} {a : Addr} (ha : h.objs.size ≤ a) : h.get? a = none := by
  cases q : h.get? a with
  | none => rfl
  | some o => exact absurd (Heap.lt_size q) (Nat.not_lt.mpr ha)

/-- l entails l' -/
inductive Le : Led → Led → Prop
  | nil {l} : Le l []
  | keep {a P P' l l'} : (∀ o, P o → P' o) → Le l l' → Le ((a, P) :: l) ((a, P') :: l')
  | drop {e l l'} : Le l l' → Le (e :: l) l'
  | perm {l l' : Led} : l.Perm l' → Le l l'
  | trans {a b c} : Le a b → Le b c → Le a c

theorem Le.refl (l : Led) : Le l l := .perm (.refl l)
theorem Le.sub {l l' : Led} (h : Le l l') : ∀ p ∈ l', ∃ q ∈ l, q.1 = p.1 ∧ ∀ o, q.2 o → p.2 o := by
  induction h with
  | nil => intro p hp; cases hp
  | keep h _ ih =>
    intro p hp
    rcases List.mem_cons.mp hp with rfl | hp
    · exact ⟨_, .head _, rfl, h⟩
    · obtain ⟨q, hq, e⟩ := ih p hp; exact ⟨q, .tail _ hq, e⟩
  | drop _ ih => intro p hp; obtain ⟨q, hq, e⟩ := ih p hp; exact ⟨q, .tail _ hq, e⟩
  | perm h => exact fun p hp => ⟨p, h.mem_iff.mpr hp, rfl, fun _ x => x⟩
  | trans _ _ ih1 ih2 =>
    intro p hp
    obtain ⟨q, hq, e, i⟩ := ih2 p hp
    obtain ⟨r, hr, e', i'⟩ := ih1 q hq
    exact ⟨r, hr, e'.trans e, fun o x => i o (i' o x)⟩
theorem Le.nd {l l' : Led} (h : Le l l') : (l.map (·.1)).Nodup → (l'.map (·.1)).Nodup := by
  induction h with
  | nil => exact fun _ => List.nodup_nil
  | keep h r ih =>
    intro nd
    rw [List.map_cons] at nd ⊢
    have nd' := List.nodup_cons.mp nd
    refine List.nodup_cons.mpr ⟨fun q => ?_, ih nd'.2⟩
    obtain ⟨p, hp, e⟩ := List.mem_map.mp q
    obtain ⟨q, hq, e', _⟩ := r.sub p hp
    exact nd'.1 (List.mem_map.mpr ⟨q, hq, e'.trans e⟩)
  | drop _ ih => exact fun nd => ih (List.nodup_cons.mp nd).2
  | perm h => exact fun nd => (h.map _).nodup_iff.mp nd
  | trans _ _ ih1 ih2 => exact fun nd => ih2 (ih1 nd)
theorem Le.appL : ∀ (c : Led) {a b : Led}, Le a b → Le (c ++ a) (c ++ b)
  | [], _, _, h => h
  | (_, _) :: c, _, _, h => .keep (fun _ h => h) (Le.appL c h)
theorem Le.dropL : ∀ (c : Led) {a b : Led}, Le a b → Le (c ++ a) b
  | [], _, _, h => h
  | _ :: c, _, _, h => .drop (Le.dropL c h)
theorem Le.app (c : Led) {a b : Led} (h : Le a b) : Le (a ++ c) (b ++ c) :=
  .trans (.perm List.perm_append_comm) (.trans (Le.appL c h) (.perm List.perm_append_comm))

theorem Mod.le {G : Gd} {l l' : Led} {s : Shared} (M : Mod G l s) (h : Le l l') : Mod G l' s :=
  ⟨M.ok, M.keep, fun p hp => by
    obtain ⟨q, hq, e, i⟩ := h.sub p hp
    obtain ⟨o, a, b, c⟩ := M.led q hq
    exact ⟨o, e ▸ a, i o b, e ▸ c⟩, h.nd M.nd, M.gens, M.os, M.tok⟩
theorem Mod.perm {G : Gd} {l l' : Led} {s : Shared} (M : Mod G l s) (h : l.Perm l') : Mod G l' s :=
  ⟨M.ok, M.keep, fun p hp => M.led p (h.mem_iff.mpr hp), (h.map _).nodup_iff.mp M.nd, M.gens, M.os, M.tok⟩
theorem Mod.at_ {G : Gd} {l : Led} {s : Shared} {a : Addr} {P : Obj → Prop} (M : Mod G l s) (h : (a, P) ∈ l) : ∃ o, s.heap.get? a = some o ∧ P o :=
  let ⟨o, x, y, _⟩ := M.led _ h; ⟨o, x, y⟩
theorem Mod.toks {G : Gd} {l : Led} {s : Shared} (M : Mod G l s) (tk : Nat) (htk : s.toks ≤ tk := by first | exact Nat.le_refl _ | exact Nat.le_add_right _ _ | omega) : Mod G l { s with toks := tk } := ⟨M.ok, M.keep, M.led, M.nd, M.gens, M.os, Nat.le_trans M.tok htk⟩
theorem Mod.X {G : Gd} {l : Led} {s : Shared} (M : Mod G l s) : (KK G.w).In s.heap := M.ok.X.keeps M.keep
theorem Mod.T {G : Gd} {l : Led} {s : Shared} (M : Mod G l s) : Top vw (looseW vw [Str.ofString "_NodeInfo"]) G.mean G.mg G.mb s.heap := M.ok.T.keeps M.keep

theorem Mod.above {G : Gd} {l : Led} {s : Shared} (M : Mod G l s) {a : Addr} (h : s.heap.objs.size ≤ a) : G.h₀.get? a = none := by
  cases q : G.h₀.get? a with
  | none => rfl
  | some o => exact absurd (Heap.lt_size (M.keep _ _ q)) (Nat.not_lt.mpr h)
theorem Mod.new {G : Gd} {l : Led} {s : Shared} (M : Mod G l s) {a : Addr} (h : s.heap.get? a = none) : G.h₀.get? a = none := by
  cases q : G.h₀.get? a with
  | none => rfl
  | some o => rw [M.keep _ _ q] at h; cases h

theorem Mod.push {G : Gd} {l : Led} {s : Shared} (M : Mod G l s) {o : Obj} {P : Obj → Prop} (hP : P o) (hf : o.isFreed = false) (tk : Nat) (htk : s.toks ≤ tk := by first | exact Nat.le_refl _ | exact Nat.le_add_right _ _ | omega) :
    Mod G ((s.heap.objs.size, P) :: l) { s with heap := s.heap.push o, toks := tk } := by
  refine ⟨M.ok, fun b o' e => Heap.get?_push_of_some _ (M.keep b o' e), fun p hp => ?_, ?_, M.gens, M.os, Nat.le_trans M.tok htk⟩
  · rcases List.mem_cons.mp hp with rfl | hp
    · exact ⟨o, Heap.get?_push_size _ hf, hP, M.above (Nat.le_refl _)⟩
    · obtain ⟨o', a, b, c⟩ := M.led p hp
      exact ⟨o', Heap.get?_push_of_some _ a, b, c⟩
  · refine List.nodup_cons.mpr ⟨fun q => ?_, M.nd⟩
    obtain ⟨p, hp, e⟩ := List.mem_map.mp q
    obtain ⟨o', a, _⟩ := M.led p hp
    have e' : p.1 = s.heap.objs.size := e
    have := Heap.lt_size a
    rw [e'] at this
    exact Nat.lt_irrefl _ this

/-- the entry at a is turned from P into P' -/
inductive Rep (a : Addr) (P P' : Obj → Prop) : Led → Led → Prop
  | head {l} : Rep a P P' ((a, P) :: l) ((a, P') :: l)
  | tail {e l l'} : Rep a P P' l l' → Rep a P P' (e :: l) (e :: l')
theorem Rep.split {a : Addr} {P P' : Obj → Prop} : ∀ {l l' : Led}, Rep a P P' l l' → ∃ x y, l = x ++ (a, P) :: y ∧ l' = x ++ (a, P') :: y
  | _, _, .head => ⟨[], _, rfl, rfl⟩
  | _, _, .tail (e := e) r => let ⟨x, y, h1, h2⟩ := r.split; ⟨e :: x, y, by rw [h1]; rfl, by rw [h2]; rfl⟩
theorem Rep.mem {a : Addr} {P P' : Obj → Prop} {l l' : Led} (h : Rep a P P' l l') : (a, P) ∈ l := by
  obtain ⟨x, y, rfl, _⟩ := h.split; simp
theorem Rep.appL {a : Addr} {P P' : Obj → Prop} : ∀ (c : Led) {l l' : Led}, Rep a P P' l l' → Rep a P P' (c ++ l) (c ++ l')
  | [], _, _, h => h
  | _ :: c, _, _, h => .tail (Rep.appL c h)
theorem Rep.app {a : Addr} {P P' : Obj → Prop} (c : Led) : ∀ {l l' : Led}, Rep a P P' l l' → Rep a P P' (l ++ c) (l' ++ c)
  | _, _, .head => .head
  | _, _, .tail r => .tail (r.app c)

theorem Mod.upd {G : Gd} {l l' : Led} {s : Shared} {a : Addr} {P P' : Obj → Prop} {h' : Heap} (M : Mod G l s) (R : Rep a P P' l l') (hs : Heap.SameBut a s.heap h')
    (ho : ∃ o', h'.get? a = some o' ∧ P' o') (tk : Nat) (htk : s.toks ≤ tk := by first | exact Nat.le_refl _ | exact Nat.le_add_right _ _ | omega) : Mod G l' { s with heap := h', toks := tk } := by
  obtain ⟨x, y, rfl, rfl⟩ := R.split
  have hn : G.h₀.get? a = none := let ⟨_, _, _, c⟩ := M.led (a, P) (by simp); c
  have nd := M.nd
  rw [List.map_append, List.map_cons] at nd
  have hd := (List.nodup_append.mp nd)
  have hx : ∀ p ∈ x, p.1 ≠ a := fun p hp e => hd.2.2 p.1 (List.mem_map_of_mem hp) a (.head _) e
  have hy : ∀ p ∈ y, p.1 ≠ a := fun p hp e => (List.nodup_cons.mp hd.2.1).1 (by rw [← e]; exact List.mem_map_of_mem (f := (·.1)) hp)
  refine ⟨M.ok, fun b o e => (hs.2 b fun q => ?_).trans (M.keep b o e), fun p hp => ?_, ?_, M.gens, M.os, Nat.le_trans M.tok htk⟩
  · rw [q, hn] at e; cases e
  · rcases List.mem_append.mp hp with hp | hp
    · obtain ⟨o, i, j, k⟩ := M.led p (List.mem_append_left _ hp)
      exact ⟨o, (hs.2 _ (hx p hp)).trans i, j, k⟩
    · rcases List.mem_cons.mp hp with rfl | hp
      · obtain ⟨o', i, j⟩ := ho
        exact ⟨o', i, j, hn⟩
      · obtain ⟨o, i, j, k⟩ := M.led p (List.mem_append_right _ (.tail _ hp))
        exact ⟨o, (hs.2 _ (hy p hp)).trans i, j, k⟩
  · rw [List.map_append, List.map_cons]; exact nd
theorem Mod.update {G : Gd} {l l' : Led} {s : Shared} {a : Addr} {P P' : Obj → Prop} {f : Obj → Obj} (M : Mod G l s) (R : Rep a P P' l l')
    (ho : ∀ o, P o → P' (f o) ∧ (f o).isFreed = false) (tk : Nat) (htk : s.toks ≤ tk := by first | exact Nat.le_refl _ | exact Nat.le_add_right _ _ | omega) : Mod G l' { s with heap := s.heap.update a f, toks := tk } := by
  obtain ⟨o, h1, h2⟩ := M.at_ R.mem
  exact M.upd R (.update ..) ⟨f o, Heap.get?_update_self f h1 (ho o h2).2, (ho o h2).1⟩ tk htk

structure TT (G : Gd) (A : Around) {α : Type} (t : Sem α) (Q : α → Led → Prop) (E : Value → Led → Prop) (l : Led) : Prop where
  go : ∀ s, Mod G l s → wpAny (model prg G.w) A t (fun v s' => ∃ l', Mod G l' s' ∧ Q v l') (fun e s' => ∃ l', Mod G l' s' ∧ E e l') s
structure CT (G : Gd) (A : Around) (c : Code) (R : Result → Led → Prop) (l : Led) : Prop where
  go : ∀ s, Mod G l s → codeAny (model prg G.w) A c (fun r s' => ∃ l', Mod G l' s' ∧ R r l') s

noncomputable abbrev Ef : Value → Led → Prop := fun _ _ => False

section
variable {G : Gd} {A : Around} {α β : Type} {E : Value → Led → Prop} {l : Led}

theorem TT.pure {a : α} {Q : α → Led → Prop} (h : Q a l) : TT G A (Pure.pure a) Q E l := ⟨fun _ M => by with_reducible exact wpAny_pure ⟨l, M, h⟩⟩
theorem TT.mono {t : Sem α} {Q Q' : α → Led → Prop} {E' : Value → Led → Prop} (h : TT G A t Q E l) (hq : ∀ a l, Q a l → Q' a l) (he : ∀ e l, E e l → E' e l) : TT G A t Q' E' l :=
  ⟨fun s M => by with_reducible exact wpAny_mono (h.go s M) (fun a _ ⟨l', m, q⟩ => ⟨l', m, hq a l' q⟩) (fun e _ ⟨l', m, q⟩ => ⟨l', m, he e l' q⟩)⟩
theorem TT.noE {t : Sem α} {Q : α → Led → Prop} (h : TT G A t Q Ef l) : TT G A t Q E l := h.mono (fun _ _ x => x) fun _ _ x => x.elim
theorem TT.bind {m : Sem α} {f : α → Sem β} {Q : β → Led → Prop} (h : TT G A m (fun a l' => TT G A (f a) Q E l') E l) : TT G A (m >>= f) Q E l :=
  ⟨fun s M => by with_reducible exact wpAny_bind (wpAny_mono (h.go s M) (fun _ s' ⟨_, m', q⟩ => q.go s' m') fun _ _ x => x)⟩
theorem TT.le {t : Sem α} {Q : α → Led → Prop} {l' : Led} (e : Le l l') (h : TT G A t Q E l') : TT G A t Q E l := ⟨fun s M => h.go s (M.le e)⟩
theorem TT.perm {t : Sem α} {Q : α → Led → Prop} {l' : Led} (e : l.Perm l') (h : TT G A t Q E l') : TT G A t Q E l := ⟨fun s M => h.go s (M.perm e)⟩
theorem TT.as {t : Sem α} {Q : α → Led → Prop} {l' : Led} (e : l = l') (h : TT G A t Q E l') : TT G A t Q E l := e ▸ h
theorem TT.post {t : Sem α} {Q Q' : α → Led → Prop} (h : TT G A t Q' E l) (hq : ∀ a l', Q' a l' → ∃ l'', Le l' l'' ∧ Q a l'') : TT G A t Q E l :=
  ⟨fun s M => by with_reducible exact wpAny_mono (h.go s M) (fun a _ ⟨l', m, q⟩ => let ⟨l'', e, q'⟩ := hq a l' q; ⟨l'', m.le e, q'⟩) fun _ _ x => x⟩
theorem TT.standAt {pos : Pos} {Q : Unit → Led → Prop} (h : Q () l) : TT G A (PySem.standAt pos) Q E l := ⟨fun _ M => by with_reducible exact wpAny_standAt ⟨l, M, h⟩⟩
theorem TT.holding {vs : List Value} {m : Sem α} {Q : α → Led → Prop} (h : TT G A m Q E l) : TT G A (PySem.holding vs m) Q E l := ⟨fun s M => by with_reducible exact wpAny_holding (h.go s M)⟩
theorem TT.point {Q : Unit → Led → Prop} (h : Q () l) : TT G A PySem.point Q E l := ⟨fun _ M => by with_reducible exact wpAny_point ⟨l, M, h⟩⟩
end
end
section
section
variable {G : Gd} {A : Around} {α β : Type} {E : Value → Led → Prop} {l : Led} {s : Shared} {env : Env} {pos : Pos}
noncomputable abbrev Ex (G : Gd) (E : Value → Led → Prop) : Value → Shared → Prop := fun e s' => ∃ l', Mod G l' s' ∧ E e l'
theorem TT.k {t : Sem α} {Q : α → Led → Prop} {P : α → Shared → Prop} (h : TT G A t Q E l) (M : Mod G l s) (k : ∀ a s' l', Mod G l' s' → Q a l' → P a s') :
    wpAny (model prg G.w) A t P (Ex G E) s := by with_reducible exact wpAny_mono (h.go s M) (fun a s' ⟨l', m, q⟩ => k a s' l' m q) fun _ _ x => x

/-- both ways of a test -/
structure Br (b : Bool) (P Q : Prop) : Prop where
  yes : b = true → P
  no : b = false → Q
theorem Br.tt {b : Bool} {P Q : Prop} (e : b = true) (h : P) : Br b P Q := ⟨fun _ => h, fun q => by rw [e] at q; cases q⟩
theorem Br.ff {b : Bool} {P Q : Prop} (e : b = false) (h : Q) : Br b P Q := ⟨fun q => (by rw [e] at q; cases q), fun _ => h⟩
-- statements
theorem T_execs_nil {Q : Flow → Led → Prop} (h : Q .next l) : TT G A (execs [] env) Q E l := ⟨fun _ M => by with_reducible exact wpAny_execs_nil ⟨l, M, h⟩⟩
noncomputable def Then (G : Gd) (A : Around) (rest : List Stmt) (env : Env) (Q : Flow → Led → Prop) (E : Value → Led → Prop) (f : Flow) (l : Led) : Prop :=
  match f with | .next => TT G A (execs rest env) Q E l | f => Q f l
theorem T_execs {st : Stmt} {rest : List Stmt} {Q : Flow → Led → Prop} (h : TT G A (exec st env) (Then G A rest env Q E) E l) : TT G A (execs (st :: rest) env) Q E l :=
  ⟨fun _ M => by with_reducible exact wpAny_execs_cons (h.k M fun f s' l' m q => by
    unfold Then at q
    cases f with
    | next => exact q.go s' m
    | brk => exact ⟨l', m, q⟩
    | cont => exact ⟨l', m, q⟩
    | ret v => exact ⟨l', m, q⟩)⟩
theorem T_If {test : Expr} {body orelse : List Stmt} {Q : Flow → Led → Prop}
    (h : TT G A (isTrue test env (eval test env)) (fun b l' => Br b (TT G A (execs body env) Q E l') (TT G A (execs orelse env) Q E l')) E l) :
    TT G A (exec (.If test body orelse pos) env) Q E l :=
  ⟨fun _ M => by with_reducible exact wpAny_If (h.k M fun b s' l' m q => by
    cases b with
    | true => rw [if_pos rfl]; exact (q.yes rfl).go s' m
    | false => rw [if_neg Bool.false_ne_true]; exact (q.no rfl).go s' m)⟩
theorem T_Return {e : Expr} {Q : Flow → Led → Prop} (h : TT G A (eval e env) (fun v => Q (.ret v)) E l) : TT G A (exec (.Return (some e) pos) env) Q E l :=
  ⟨fun s M => by with_reducible exact wpAny_Return_some (h.go s M)⟩
theorem T_Pass {Q : Flow → Led → Prop} (h : Q .next l) : TT G A (exec (.Pass pos) env) Q E l := ⟨fun _ M => by with_reducible exact wpAny_Pass ⟨l, M, h⟩⟩
theorem T_Break {Q : Flow → Led → Prop} (h : Q .brk l) : TT G A (exec (.Break pos) env) Q E l := ⟨fun _ M => by with_reducible exact wpAny_Break ⟨l, M, h⟩⟩
theorem T_Continue {Q : Flow → Led → Prop} (h : Q .cont l) : TT G A (exec (.Continue pos) env) Q E l := ⟨fun _ M => by with_reducible exact wpAny_Continue ⟨l, M, h⟩⟩
theorem T_Assign {x : Str} {pos' : Pos} {value : Expr} {Q : Flow → Led → Prop}
    (h : TT G A (eval value env) (fun v l₁ => TT G A (storeName env x v) (fun _ => Q .next) E l₁) E l)
    (hs : swapsWith value (some (.Name x pos')) pos.line env = pure false := by rfl) : TT G A (exec (.Assign [.Name x pos'] value pos) env) Q E l :=
  ⟨fun _ M => by with_reducible exact wpAny_Assign_Name (h.k M fun v s' l' m q => q.go s' m) hs⟩
theorem T_AugName {x : Str} {pos' : Pos} {op : Operator} {value : Expr} {Q : Flow → Led → Prop}
    (h : TT G A (loadName env x) (fun old l₁ => TT G A (eval value env) (fun v l₂ => TT G A (inplaceOp op old v) (fun r l₃ => TT G A (storeName env x r) (fun _ => Q .next) E l₃) E l₂) E l₁) E l) :
    TT G A (exec (.AugAssign (.Name x pos') op value pos) env) Q E l :=
  ⟨fun _ M => by with_reducible exact wpAny_AugAssign_Name (h.k M fun _ _ _ m q => q.k m fun _ _ _ m q => q.k m fun _ s' _ m q => q.go s' m)⟩

-- expressions
theorem T_int {i : Int} {k : Nat} {Q : Value → Led → Prop} (h : ∀ t, Q (.int i t) l) : TT G A (eval (.Constant (.int i) k pos) env) Q E l :=
  ⟨fun s M => by with_reducible exact wpAny_Constant_int ⟨l, M.toks _, h _⟩⟩
theorem T_str {x : Str} {k : Nat} {Q : Value → Led → Prop} (h : ∀ t, Q (.str x t) l) : TT G A (eval (.Constant (.str x) k pos) env) Q E l :=
  ⟨fun s M => by with_reducible exact wpAny_Constant_str ⟨l, M.toks _, h _⟩⟩
theorem T_none {k : Nat} {Q : Value → Led → Prop} (h : Q .none l) : TT G A (eval (.Constant .none k pos) env) Q E l := ⟨fun _ M => by with_reducible exact wpAny_Constant_none ⟨l, M, h⟩⟩
theorem T_bool {b : Bool} {k : Nat} {Q : Value → Led → Prop} (h : Q (.bool b) l) : TT G A (eval (.Constant (.bool b) k pos) env) Q E l := ⟨fun _ M => by with_reducible exact wpAny_Constant_bool ⟨l, M, h⟩⟩
theorem T_BinOp {a b : Expr} {op : Operator} {Q : Value → Led → Prop}
    (h : TT G A (eval a env) (fun x l₁ => TT G A (eval b env) (fun y l₂ => TT G A (binaryOp op x y) Q E l₂) E l₁) E l) : TT G A (eval (.BinOp a op b pos) env) Q E l :=
  ⟨fun _ M => by with_reducible exact wpAny_BinOp (h.k M fun _ _ _ m q => q.k m fun _ s' _ m q => q.go s' m)⟩
theorem T_UnaryOp {a : Expr} {op : UnaryOp} {Q : Value → Led → Prop}
    (h : TT G A (eval a env) (fun x l₁ => TT G A (unaryOp op x) Q E l₁) E l) : TT G A (eval (.UnaryOp op a pos) env) Q E l :=
  ⟨fun _ M => by with_reducible exact wpAny_UnaryOp (h.k M fun _ s' _ m q => q.go s' m)⟩
theorem T_Compare {a b : Expr} {op : CmpOp} {Q : Value → Led → Prop}
    (h : TT G A (eval a env) (fun x l₁ => TT G A (eval b env) (fun y l₂ => TT G A (compareOp op x y) Q E l₂) E l₁) E l)
    (hm : behindInMarks op b = false := by with_unfolding_all rfl) : TT G A (eval (.Compare a [op] [b] pos) env) Q E l :=
  ⟨fun _ M => by with_reducible exact wpAny_Compare1 (h.k M fun _ _ _ m q => q.k m fun _ s' _ m q => q.go s' m) hm⟩
theorem T_isCompare {a b : Expr} {op : CmpOp} {whole : Sem Value} {Q : Bool → Led → Prop}
    (h : TT G A (eval a env) (fun x l₁ => TT G A (eval b env) (fun y l₂ => TT G A (compareOp op x y) (fun c l₃ => TT G A (truthy c) Q E l₃) E l₂) E l₁) E l)
    (hm : behindInMarks op b = false := by with_unfolding_all rfl) : TT G A (isTrue (.Compare a [op] [b] pos) env whole) Q E l :=
  ⟨fun _ M => by with_reducible exact wpAny_isTrue_Compare1 (h.k M fun _ _ _ m q => q.k m fun _ _ _ m q => q.k m fun _ s' _ m q => q.go s' m) hm⟩
theorem T_truthy_bool {b : Bool} {Q : Bool → Led → Prop} (h : Q b l) : TT G A (truthy (.bool b)) Q E l := ⟨fun _ M => by with_reducible exact wpAny_truthy_bool ⟨l, M, h⟩⟩
theorem T_isNot {x : Expr} {whole : Sem Value} {Q : Bool → Led → Prop} (h : TT G A (isTrue x env (eval x env)) (fun b l₁ => Q (!b) l₁) E l) : TT G A (isTrue (.UnaryOp .Not x pos) env whole) Q E l :=
  ⟨fun _ M => by with_reducible exact wpAny_isTrue_Not (h.go _ M)⟩
theorem T_isValue {e : Expr} {whole : Sem Value} {Q : Bool → Led → Prop} (h : TT G A whole (fun v l₁ => TT G A (truthy v) Q E l₁) E l)
    (he : isTrue e env whole = (do let v ← whole; standAt e.pos; holding [v] (truthy v)) := by rfl) : TT G A (isTrue e env whole) Q E l :=
  ⟨fun _ M => by with_reducible exact wpAny_isTrue_value (h.k M fun _ s' _ m q => q.go s' m) he⟩
theorem T_isBoolOp {op : BoolOp} {values : List Expr} {whole : Sem Value} {Q : Bool → Led → Prop} (h : TT G A (allTrue op values env) Q E l) : TT G A (isTrue (.BoolOp op values pos) env whole) Q E l :=
  ⟨fun _ M => by with_reducible exact wpAny_isTrue_BoolOp (h.go _ M)⟩
theorem T_and_nil {Q : Bool → Led → Prop} (h : Q true l) : TT G A (allTrue .And [] env) Q E l := ⟨fun _ M => by with_reducible exact wpAny_allTrue_And_nil ⟨l, M, h⟩⟩
theorem T_or_nil {Q : Bool → Led → Prop} (h : Q false l) : TT G A (allTrue .Or [] env) Q E l := ⟨fun _ M => by with_reducible exact wpAny_allTrue_Or_nil ⟨l, M, h⟩⟩
theorem T_and_cons {x : Expr} {rest : List Expr} {Q : Bool → Led → Prop}
    (h : TT G A (isTrue x env (eval x env)) (fun b l₁ => Br b (TT G A (allTrue .And rest env) Q E l₁) (Q false l₁)) E l) : TT G A (allTrue .And (x :: rest) env) Q E l :=
  ⟨fun _ M => by with_reducible exact wpAny_allTrue_And_cons (h.k M fun b s' l' m q => by
    cases b with
    | true => rw [if_pos rfl]; exact (q.yes rfl).go s' m
    | false => rw [if_neg Bool.false_ne_true]; exact ⟨l', m, q.no rfl⟩)⟩
theorem T_or_cons {x : Expr} {rest : List Expr} {Q : Bool → Led → Prop}
    (h : TT G A (isTrue x env (eval x env)) (fun b l₁ => Br b (Q true l₁) (TT G A (allTrue .Or rest env) Q E l₁)) E l) : TT G A (allTrue .Or (x :: rest) env) Q E l :=
  ⟨fun _ M => by with_reducible exact wpAny_allTrue_Or_cons (h.k M fun b s' l' m q => by
    cases b with
    | true => rw [if_pos rfl]; exact ⟨l', m, q.yes rfl⟩
    | false => rw [if_neg Bool.false_ne_true]; exact (q.no rfl).go s' m)⟩
theorem T_Or2 {x y : Expr} {Q : Value → Led → Prop}
    (h : TT G A (eval x env) (fun v l₁ => TT G A (truthy v) (fun t l₂ => Br t (Q v l₂) (TT G A (eval y env) Q E l₂)) E l₁) E l) : TT G A (eval (.BoolOp .Or [x, y] pos) env) Q E l :=
  ⟨fun _ M => by with_reducible exact wpAny_Or2 (h.k M fun v s' l' m q => q.k m fun b s' l' m q => by
    cases b with
    | true => rw [if_pos rfl]; exact ⟨l', m, q.yes rfl⟩
    | false => rw [if_neg Bool.false_ne_true]; exact (q.no rfl).go s' m)⟩
theorem T_IfExp {test body orelse : Expr} {Q : Value → Led → Prop}
    (h : TT G A (isTrue test env (eval test env)) (fun b l' => Br b (TT G A (eval body env) Q E l') (TT G A (eval orelse env) Q E l')) E l) :
    TT G A (eval (.IfExp test body orelse pos) env) Q E l :=
  ⟨fun _ M => by with_reducible exact wpAny_IfExp (h.k M fun b s' l' m q => by
    cases b with
    | true => rw [if_pos rfl]; exact (q.yes rfl).go s' m
    | false => rw [if_neg Bool.false_ne_true]; exact (q.no rfl).go s' m)⟩
theorem T_items_nil {Q : List Value → Led → Prop} (h : Q [] l) : TT G A (spliced (backTo pos (starEach [] env))) Q E l := ⟨fun _ M => by with_reducible exact wpAny_items_nil ⟨l, M, h⟩⟩
theorem T_items {e : Expr} {rest : List Expr} {Q : List Value → Led → Prop}
    (h : TT G A (eval e env) (fun v l₁ => TT G A (spliced (backTo pos (starEach rest env))) (fun vs l₂ => Q (v :: vs) l₂) E l₁) E l)
    (he : starEach (e :: rest) env = (false, eval e env) :: starEach rest env := by rfl) : TT G A (spliced (backTo pos (starEach (e :: rest) env))) Q E l :=
  ⟨fun _ M => by with_reducible exact wpAny_items_cons (h.k M fun _ s' _ m q => q.go s' m) he⟩

-- ints
variable {a b : Int} {t u : Tok} {Q : Value → Led → Prop}
theorem T_add (h : ∀ t, Q (.int (a + b) t) l) : TT G A (binaryOp .Add (.int a t) (.int b u)) Q E l := ⟨fun _ M => by with_reducible exact PyProof.Rows.add_int ⟨l, M.toks _, h _⟩⟩
theorem T_sub (h : ∀ t, Q (.int (a - b) t) l) : TT G A (binaryOp .Sub (.int a t) (.int b u)) Q E l := ⟨fun _ M => by with_reducible exact PyProof.Rows.sub_int ⟨l, M.toks _, h _⟩⟩
theorem T_mul (hm : IntMulOk a b) (h : ∀ t, Q (.int (a * b) t) l) : TT G A (binaryOp .Mult (.int a t) (.int b u)) Q E l := ⟨fun _ M => by with_reducible exact PyProof.Rows.mul_int ⟨l, M.toks _, h _⟩ hm⟩
theorem T_mod (hb : b ≠ 0) (h : ∀ t, Q (.int (a.fmod b) t) l) : TT G A (binaryOp .Mod (.int a t) (.int b u)) Q E l := ⟨fun _ M => by with_reducible exact PyProof.Rows.mod_int' hb ⟨l, M.toks _, h _⟩⟩
theorem T_fdiv (hb : b ≠ 0) (hp : Builtin.divisionGoesByPylong a b = false) (h : ∀ t, Q (.int (a.fdiv b) t) l) : TT G A (binaryOp .FloorDiv (.int a t) (.int b u)) Q E l :=
  ⟨fun _ M => by with_reducible exact PyProof.Rows.floordiv_int hb ⟨l, M.toks _, h _⟩ (.inl hp)⟩
theorem T_iadd (h : ∀ t, Q (.int (a + b) t) l) : TT G A (inplaceOp .Add (.int a t) (.int b u)) Q E l := ⟨fun _ M => by with_reducible exact PyProof.Rows.iadd_int ⟨l, M.toks _, h _⟩⟩
theorem T_isub (h : ∀ t, Q (.int (a - b) t) l) : TT G A (inplaceOp .Sub (.int a t) (.int b u)) Q E l := ⟨fun _ M => by with_reducible exact PyProof.Rows.isub_int ⟨l, M.toks _, h _⟩⟩
theorem T_lt (h : Q (.bool (decide (a < b))) l) : TT G A (compareOp .Lt (.int a t) (.int b u)) Q E l := ⟨fun _ M => by with_reducible exact PyProof.Rows.lt_int ⟨l, M, h⟩⟩
theorem T_gt (h : Q (.bool (decide (b < a))) l) : TT G A (compareOp .Gt (.int a t) (.int b u)) Q E l := ⟨fun _ M => by with_reducible exact PyProof.Rows.gt_int ⟨l, M, h⟩⟩
theorem T_le (h : Q (.bool (decide (a ≤ b))) l) : TT G A (compareOp .LtE (.int a t) (.int b u)) Q E l := ⟨fun _ M => by with_reducible exact PyProof.Rows.le_int ⟨l, M, h⟩⟩
theorem T_ge (h : Q (.bool (decide (b ≤ a))) l) : TT G A (compareOp .GtE (.int a t) (.int b u)) Q E l := ⟨fun _ M => by with_reducible exact PyProof.Rows.ge_int ⟨l, M, h⟩⟩
theorem T_eq (h : Q (.bool (a == b)) l) : TT G A (compareOp .Eq (.int a t) (.int b u)) Q E l := ⟨fun _ M => by with_reducible exact PyProof.Rows.eq_int ⟨l, M, h⟩⟩
theorem T_ne (h : Q (.bool (a != b)) l) : TT G A (compareOp .NotEq (.int a t) (.int b u)) Q E l := ⟨fun _ M => by with_reducible exact PyProof.Rows.ne_int ⟨l, M, h⟩⟩
theorem T_neg (h : ∀ t, Q (.int (-a) t) l) : TT G A (unaryOp .USub (.int a t)) Q E l := ⟨fun _ M => by with_reducible exact PyProof.Rows.neg_int ⟨l, M.toks _, h _⟩⟩
theorem T_is_none {v : Value} (h : Q (.bool (v == .none)) l) : TT G A (compareOp .Is v .none) Q E l := ⟨fun _ M => by with_reducible exact PySem.is_none ⟨l, M, h⟩⟩
theorem T_isnot_none {v : Value} (h : Q (.bool (!(v == .none))) l) : TT G A (compareOp .IsNot v .none) Q E l := ⟨fun _ M => by with_reducible exact PySem.isNot_none ⟨l, M, h⟩⟩
theorem T_str_eq {x y : Str} (h : Q (.bool (x == y)) l) : TT G A (compareOp .Eq (.str x t) (.str y u)) Q E l := ⟨fun _ M => by with_reducible exact PyProof.Rows.eq_str ⟨l, M, h⟩⟩
theorem T_str_ne {x y : Str} (h : Q (.bool (x != y)) l) : TT G A (compareOp .NotEq (.str x t) (.str y u)) Q E l := ⟨fun _ M => by with_reducible exact PyProof.Rows.ne_str ⟨l, M, h⟩⟩
theorem T_str_add {x y : Str} (hsz : x.length + y.length ≤ sizeLine) (h : ∀ t, Q (.str (x ++ y) t) l) : TT G A (binaryOp .Add (.str x t) (.str y u)) Q E l :=
  ⟨fun _ M => by with_reducible exact wpAny_with_toks (Nat.le_refl _) (PyProof.Rows.add_str (fun _ tk htk => ⟨l, M.toks tk htk, h _⟩) hsz)⟩
end
end
section
/-- v without its token is c -/
inductive CV : Value → Value → Prop
  | int {i t} : CV (.int i t) (.int i 0)
  | str {x t} : CV (.str x t) (.str x 0)
  | bool {b} : CV (.bool b) (.bool b)
  | none : CV .none .none
  | ref {a} : CV (.ref a) (.ref a)
  | type {n} : CV (.type n) (.type n)
  | builtin {n} : CV (.builtin n) (.builtin n)
theorem CV.eq {v c : Value} (h : CV v c) : cv v = c := by cases h <;> rfl

/-- a frame's dict: the names ns hold vs (without tokens; none: not told) -/
noncomputable def IsNs (ns : List Str) (vs : List (Option Value)) (o : Obj) : Prop :=
  ∃ es ep, o.data = .dict es ep ∧ StrKeys es ∧ ∀ (i : Nat) x c, ns[i]? = some x → vs[i]? = some (some c) → ∃ v, nsFind es x = some v ∧ cv v = c
inductive At (x : Str) (c : Value) : List Str → List (Option Value) → Prop
  | head {ns vs} : At x c (x :: ns) (some c :: vs)
  | tail {y d ns vs} : At x c ns vs → At x c (y :: ns) (d :: vs)
inductive Put (x : Str) (c : Value) : List Str → List (Option Value) → List (Option Value) → Prop
  | head {d ns vs} : Put x c (x :: ns) (d :: vs) (some c :: vs)
  | tail {y d ns vs vs'} : Put x c ns vs vs' → Put x c (y :: ns) (d :: vs) (d :: vs')
theorem At.idx {x : Str} {c : Value} : ∀ {ns : List Str} {vs : List (Option Value)}, At x c ns vs → ∃ i : Nat, ns[i]? = some x ∧ vs[i]? = some (some c)
  | _, _, .head => ⟨0, rfl, rfl⟩
  | _, _, .tail h => let ⟨i, a, b⟩ := h.idx; ⟨i + 1, a, b⟩
theorem Put.idx {x : Str} {c : Value} : ∀ {ns : List Str} {vs vs' : List (Option Value)}, Put x c ns vs vs' → ∃ i : Nat, ns[i]? = some x ∧ vs' = vs.set i (some c) ∧ i < vs.length
  | _, _, _, .head => ⟨0, rfl, rfl, Nat.zero_lt_succ _⟩
  | _, _, _, .tail h => let ⟨i, a, b, d⟩ := h.idx; ⟨i + 1, a, by rw [b]; rfl, Nat.succ_lt_succ d⟩

/-- the frame's names in env -/
structure Lay (env : Env) (L : Addr) (ns : List Str) : Prop where
  kind : env.scope.kind = .function
  loc : env.locals = L
  glob : env.globals = mainGlobals
  blt : env.builtins = builtinsNs
  names : (ns.all fun x => env.scope.names.lookup x == some .local && !(x == ("__debug__" : Str))) = true
  nd : ns.Nodup
theorem Lay.local_ {env : Env} {L : Addr} {ns : List Str} (F : Lay env L ns) {i : Nat} {x : Str} (h : ns[i]? = some x) : env.kindOf x = some .local ∧ (x == ("__debug__" : Str)) = false := by
  have := List.all_eq_true.mp F.names x (List.mem_of_getElem? h)
  simp only [Bool.and_eq_true, beq_iff_eq, Bool.not_eq_true'] at this
  exact this

theorem ns_at {h : Heap} {L : Addr} {o : Obj} {ns : List Str} {vs : List (Option Value)} (ho : h.get? L = some o) (hn : IsNs ns vs o) :
    ∃ m, h.Ns L m ∧ ∀ (i : Nat) x c, ns[i]? = some x → vs[i]? = some (some c) → ∃ v, m x = some v ∧ cv v = c := by
  obtain ⟨es, ep, hd, hk, hx⟩ := hn
  exact ⟨nsFind es, ⟨o, es, ep, ho, hd, hk, fun _ => rfl⟩, hx⟩

section
variable {G : Gd} {A : Around} {E : Value → Led → Prop} {l l' : Led} {env : Env} {pos : Pos} {L : Addr} {ns : List Str} {vs vs' : List (Option Value)} {x : Str} {c : Value}

theorem T_ldn {Q : Value → Led → Prop} (F : Lay env L ns) (hm : (L, IsNs ns vs) ∈ l) (ha : At x c ns vs) (h : Any c fun v => Q v l) : TT G A (loadName env x) Q E l :=
  ⟨fun s M => by
    obtain ⟨i, h1, h2⟩ := ha.idx
    obtain ⟨o, ho, hn⟩ := M.at_ hm
    obtain ⟨m, hns, hx⟩ := ns_at ho hn
    obtain ⟨v, hv, hc⟩ := hx i x c h1 h2
    have hq := any_of_cv hc h
    have hl := F.loc
    subst hl
    with_reducible exact wpAny_loadName_local F.kind (F.local_ h1).1 hns hv ⟨l, M, hq⟩⟩
theorem T_ld {Q : Value → Led → Prop} (F : Lay env L ns) (hm : (L, IsNs ns vs) ∈ l) (ha : At x c ns vs) (h : Any c fun v => Q v l) : TT G A (eval (.Name x pos) env) Q E l :=
  ⟨fun s M => by
    obtain ⟨i, h1, _⟩ := ha.idx
    with_reducible exact wpAny_Name ((T_ldn F hm ha h).go s M) (F.local_ h1).2⟩
theorem T_st {v : Value} {Q : Unit → Led → Prop} (F : Lay env L ns) (hm : (L, IsNs ns vs) ∈ l) (hc : CV v c) (hp : Put x c ns vs vs') (hr : Rep L (IsNs ns vs) (IsNs ns vs') l l') (h : Q () l') : TT G A (storeName env x v) Q E l :=
  ⟨fun s M => by
    obtain ⟨i, h1, h2, h3⟩ := hp.idx
    obtain ⟨o, ho, hn⟩ := M.at_ hr.mem
    obtain ⟨m, hns, hx⟩ := ns_at ho hn
    have hl := F.loc
    subst hl
    refine wpAny_storeName_local (F.local_ h1).1 hns (fun h' hn' hs' => ⟨l', M.upd hr hs' ?_ _, h⟩) (by rw [F.kind]; rfl)
    obtain ⟨o', es, ep, ho', hd', hk', hf'⟩ := hn'
    refine ⟨o', ho', es, ep, hd', hk', fun j y d hj hd => ?_⟩
    rw [hf' y]
    subst h2
    by_cases e : y = x
    · subst e
      have hij : j = i := by
        have hlt : j < ns.length := by
          rcases Nat.lt_or_ge j ns.length with q | q
          · exact q
          · rw [List.getElem?_eq_none q] at hj; cases hj
        exact (List.getElem?_inj hlt F.nd).mp (hj.trans h1.symm)
      subst hij
      rw [List.getElem?_set_self h3] at hd
      cases hd
      exact ⟨v, if_pos rfl, hc.eq⟩
    · dsimp only
      rw [if_neg e]
      have hij : i ≠ j := fun q => e (by subst q; rw [h1] at hj; exact (Option.some.inj hj).symm)
      rw [List.getElem?_set_ne hij] at hd
      exact hx j y d hj hd⟩

structure Glb (w : World) (x : Str) (v : Value) : Prop where
  e : nsIn (KK w) mainGlobals x = some (some v)
  hd : (x == ("__debug__" : Str)) = false
structure Blt (w : World) (x : Str) (v : Value) : Prop where
  e : nsIn (KK w) mainGlobals x = some none
  hv : bootBuiltins x = some v
  hn : x ≠ "__name__"
  hd : (x == ("__debug__" : Str)) = false
theorem T_glob {v : Value} {Q : Value → Led → Prop} (F : Lay env L ns) (g : Glb G.w x v) (hx : env.kindOf x = some .globalImplicit) (h : Q v l) : TT G A (eval (.Name x pos) env) Q E l :=
  ⟨fun s M => by
    with_reducible exact Name_function_global F.kind hx (loadGlobal_global (env := env) (by rw [F.glob]; exact M.T.g) (mg_of M.X M.T.g g.e) ⟨l, M, h⟩) g.hd⟩
theorem T_blt {v : Value} {Q : Value → Led → Prop} (F : Lay env L ns) (g : Blt G.w x v) (hx : env.kindOf x = some .globalImplicit) (h : Q v l) : TT G A (eval (.Name x pos) env) Q E l :=
  ⟨fun s M => by
    with_reducible exact Name_function_global F.kind hx (loadGlobal_builtin (env := env) (by rw [F.glob]; exact M.T.g) (mg_none_of M.X M.T.g g.e) (by rw [F.blt]; exact M.T.b) ((M.T.builtins x g.hn).trans g.hv) ⟨l, M, h⟩) g.hd⟩

noncomputable def Cel (v : Option Value) (o : Obj) : Prop := ∃ w, o.data = .cell w ∧ w.map cv = v
theorem T_cell {a : Addr} {Q : Value → Led → Prop} (F : Lay env L ns) (hx : env.kindOf x = some .cell) (hc : env.cells.lookup x = some a) (hm : (a, Cel (some c)) ∈ l) (h : Any c fun v => Q v l)
    (hd : (x == ("__debug__" : Str)) = false := by decide) : TT G A (eval (.Name x pos) env) Q E l :=
  ⟨fun s M => by
    obtain ⟨o, ho, w, hw, hv⟩ := M.at_ hm
    cases w with
    | none => cases hv
    | some v =>
      have hq := any_of_cv (Option.some.inj hv) h
      have hi : s.heap.IsCell a (some v) := ⟨o, ho, hw⟩
      with_reducible exact wpAny_Name (wpAny_loadName_cell F.kind hx hc hi ⟨l, M, hq⟩) hd⟩
theorem T_stc {a : Addr} {v : Value} {v₀ : Option Value} {Q : Unit → Led → Prop} (F : Lay env L ns) (hx : env.kindOf x = some .cell) (hc : env.cells.lookup x = some a) (hv : CV v c) (hr : Rep a (Cel v₀) (Cel (some c)) l l') (h : Q () l') :
    TT G A (storeName env x v) Q E l :=
  ⟨fun s M => by
    obtain ⟨o, ho, w, hw, _⟩ := M.at_ hr.mem
    refine wpAny_storeName_cell F.kind hx hc ⟨o, ho, hw⟩ fun h' hi hs => ⟨l', ?_, h⟩
    obtain ⟨o', ho', hd'⟩ := hi
    exact M.upd hr hs ⟨o', ho', some v, hd', by rw [Option.map_some, hv.eq]⟩ _⟩
end
theorem b_len {w : World} : Blt w (Str.ofString "len") (.builtin "len") := ⟨by kernel_rfl, by decide +kernel, by decide +kernel, by decide +kernel⟩
theorem b_str {w : World} : Blt w (Str.ofString "str") (.type "str") := ⟨by kernel_rfl, by decide +kernel, by decide +kernel, by decide +kernel⟩
theorem b_sum {w : World} : Blt w (Str.ofString "sum") (.builtin "sum") := ⟨by kernel_rfl, by decide +kernel, by decide +kernel, by decide +kernel⟩
theorem b_range {w : World} : Blt w (Str.ofString "range") (.type "range") := ⟨by kernel_rfl, by decide +kernel, by decide +kernel, by decide +kernel⟩
theorem b_max {w : World} : Blt w (Str.ofString "max") (.builtin "max") := ⟨by kernel_rfl, by decide +kernel, by decide +kernel, by decide +kernel⟩
theorem b_zip {w : World} : Blt w (Str.ofString "zip") (.type "zip") := ⟨by kernel_rfl, by decide +kernel, by decide +kernel, by decide +kernel⟩
theorem b_set {w : World} : Blt w (Str.ofString "set") (.type "set") := ⟨by kernel_rfl, by decide +kernel, by decide +kernel, by decide +kernel⟩
theorem b_iter {w : World} : Blt w (Str.ofString "iter") (.builtin "iter") := ⟨by kernel_rfl, by decide +kernel, by decide +kernel, by decide +kernel⟩
theorem b_tuple {w : World} : Blt w (Str.ofString "tuple") (.type "tuple") := ⟨by kernel_rfl, by decide +kernel, by decide +kernel, by decide +kernel⟩
theorem b_sorted {w : World} : Blt w (Str.ofString "sorted") (.builtin "sorted") := ⟨by kernel_rfl, by decide +kernel, by decide +kernel, by decide +kernel⟩
theorem b_type {w : World} : Blt w (Str.ofString "type") (.type "type") := ⟨by kernel_rfl, by decide +kernel, by decide +kernel, by decide +kernel⟩
theorem b_list {w : World} : Blt w (Str.ofString "list") (.type "list") := ⟨by kernel_rfl, by decide +kernel, by decide +kernel, by decide +kernel⟩
theorem b_bool {w : World} : Blt w (Str.ofString "bool") (.type "bool") := ⟨by kernel_rfl, by decide +kernel, by decide +kernel, by decide +kernel⟩
theorem b_int {w : World} : Blt w (Str.ofString "int") (.type "int") := ⟨by kernel_rfl, by decide +kernel, by decide +kernel, by decide +kernel⟩
theorem b_ValueError {w : World} : Blt w (Str.ofString "ValueError") (.type "ValueError") := ⟨by kernel_rfl, by decide +kernel, by decide +kernel, by decide +kernel⟩
theorem b_StopIteration {w : World} : Blt w (Str.ofString "StopIteration") (.type "StopIteration") := ⟨by kernel_rfl, by decide +kernel, by decide +kernel, by decide +kernel⟩
theorem g_error_reply {w : World} : Glb w (Str.ofString "error_reply") (.ref 44) := ⟨by kernel_rfl, by decide +kernel⟩
theorem g_error_proto {w : World} : Glb w (Str.ofString "error_proto") (.ref 56) := ⟨by kernel_rfl, by decide +kernel⟩
theorem g_parse229 {w : World} : Glb w (Str.ofString "parse229") (.ref 65) := ⟨by kernel_rfl, by decide +kernel⟩
theorem g_NodeInfo {w : World} : Glb w (Str.ofString "_NodeInfo") (.ref 84) := ⟨by kernel_rfl, by decide +kernel⟩
theorem g_CycleError {w : World} : Glb w (Str.ofString "CycleError") (.ref 99) := ⟨by kernel_rfl, by decide +kernel⟩
theorem g_TopologicalSorter {w : World} : Glb w (Str.ofString "TopologicalSorter") (.ref 181) := ⟨by kernel_rfl, by decide +kernel⟩
theorem g_law_replies {w : World} : Glb w (Str.ofString "_law_replies") (.ref 192) := ⟨by kernel_rfl, by decide +kernel⟩
theorem g_law_dues {w : World} : Glb w (Str.ofString "_law_dues") (.ref 199) := ⟨by kernel_rfl, by decide +kernel⟩
theorem g_law_ask {w : World} : Glb w (Str.ofString "_law_ask") (.ref 206) := ⟨by kernel_rfl, by decide +kernel⟩
theorem g_law_walks {w : World} : Glb w (Str.ofString "_law_walks") (.ref 213) := ⟨by kernel_rfl, by decide +kernel⟩
theorem g_law_to_the_end {w : World} : Glb w (Str.ofString "_law_to_the_end") (.ref 218) := ⟨by kernel_rfl, by decide +kernel⟩
theorem g_law_from_afar {w : World} : Glb w (Str.ofString "_law_from_afar") (.ref 223) := ⟨by kernel_rfl, by decide +kernel⟩
theorem g_law_table {w : World} : Glb w (Str.ofString "_law_table") (.ref 230) := ⟨by kernel_rfl, by decide +kernel⟩
theorem g_law_ring_stands {w : World} : Glb w (Str.ofString "_law_ring_stands") (.ref 235) := ⟨by kernel_rfl, by decide +kernel⟩
theorem g_law_rounds {w : World} : Glb w (Str.ofString "_law_rounds") (.ref 242) := ⟨by kernel_rfl, by decide +kernel⟩
theorem g_NODE_OUT {w : World} : Glb w (Str.ofString "_NODE_OUT") (.int (-1) 264) := ⟨by kernel_rfl, by decide +kernel⟩
theorem g_NODE_DONE {w : World} : Glb w (Str.ofString "_NODE_DONE") (.int (-2) 267) := ⟨by kernel_rfl, by decide +kernel⟩
end
section
noncomputable def emptyHeap : Heap := { objs := #[] }
theorem emptyHeap_none (a : Addr) : emptyHeap.get? a = none := none_of_size (Nat.zero_le _)
/-- all the objects of a heap -/
noncomputable def allOf (h : Heap) : List (Addr × Obj) := (List.range h.objs.size).filterMap fun a => (h.get? a).map fun o => (a, o)
theorem mem_allOf {h : Heap} {p : Addr × Obj} : p ∈ allOf h ↔ h.get? p.1 = some p.2 := by
  unfold allOf
  rw [List.mem_filterMap]
  constructor
  · rintro ⟨a, _, e⟩
    obtain ⟨o, ho, rfl⟩ := Option.map_eq_some_iff.mp e
    exact ho
  · intro e
    exact ⟨p.1, List.mem_range.mpr (Heap.lt_size e), by rw [e]; rfl⟩
theorem choose_news {h : Heap} {h₀ : Heap} {L : Addr} : ∀ (x : Led), (∀ p ∈ x, ∃ o, h.get? p.1 = some o ∧ p.2 o ∧ h₀.get? p.1 = none) →
    ∃ news : List (Addr × Obj), News emptyHeap L h news ∧ (∀ q ∈ news, q.1 ∈ x.map (·.1)) ∧ ∀ p ∈ x, p.1 ≠ L → ∃ o, (p.1, o) ∈ news ∧ p.2 o
  | [], _ => ⟨[], News.nil, fun _ h => (nomatch h), fun _ h => (nomatch h)⟩
  | p :: x, hx => by
    obtain ⟨news, N, h1, h2⟩ := choose_news (L := L) x fun q hq => hx q (.tail _ hq)
    by_cases e : p.1 = L
    · refine ⟨news, N, fun q hq => .tail _ (h1 q hq), fun q hq hn => ?_⟩
      rcases List.mem_cons.mp hq with rfl | hq
      · exact absurd e hn
      · exact h2 q hq hn
    · obtain ⟨o, a, b, c⟩ := hx p (.head _)
      refine ⟨(p.1, o) :: news, fun q hq => ?_, fun q hq => ?_, fun q hq hn => ?_⟩
      · rcases List.mem_cons.mp hq with rfl | hq
        · exact ⟨a, e, emptyHeap_none _⟩
        · exact N q hq
      · rcases List.mem_cons.mp hq with rfl | hq
        · exact .head _
        · exact .tail _ (h1 q hq)
      · rcases List.mem_cons.mp hq with rfl | hq
        · exact ⟨o, .head _, b⟩
        · obtain ⟨o', i, j⟩ := h2 q hq hn; exact ⟨o', .tail _ i, j⟩

theorem isNs_of {h : Heap} {L : Addr} {m : Str → Option Value} {ns : List Str} {vs : List (Option Value)} (hn : h.Ns L m) (hx : ∀ (i : Nat) x c, ns[i]? = some x → vs[i]? = some (some c) → ∃ v, m x = some v ∧ cv v = c) :
    ∃ o, h.get? L = some o ∧ IsNs ns vs o := by
  obtain ⟨o, es, ep, ho, hd, hk, hf⟩ := hn
  exact ⟨o, ho, es, ep, hd, hk, fun i x c a b => by rw [hf x]; exact hx i x c a b⟩

/-- the library's frame and ledger, with one entry in hand -/
theorem Mod.bridge {G : Gd} {l l' : Led} {s : Shared} {L a : Addr} {ns : List Str} {vs : List (Option Value)} {P P' : Obj → Prop} (M : Mod G l s) (hL : (L, IsNs ns vs) ∈ l) (R : Rep a P P' l l') (hne : a ≠ L) :
    ∃ m pre o post, Fr emptyHeap L s.heap m ∧ News emptyHeap L s.heap (pre ++ (a, o) :: post) ∧ P o ∧ (∀ p ∈ pre, p.1 ≠ a) ∧ (∀ p ∈ post, p.1 ≠ a) ∧ s.heap.get? a = some o ∧
      ∀ h' o' tk, P' o' → Fr emptyHeap L h' m → News emptyHeap L h' (pre ++ (a, o') :: post) → s.toks ≤ tk → Mod G l' { s with heap := h', toks := tk } := by
  obtain ⟨oL, hoL, hnL⟩ := M.at_ hL
  obtain ⟨m, hns, hx⟩ := ns_at hoL hnL
  have hLs : G.h₀.get? L = none := let ⟨_, _, _, c⟩ := M.led _ hL; c
  obtain ⟨x, y, rfl, rfl⟩ := R.split
  have nd := M.nd
  rw [List.map_append, List.map_cons] at nd
  have hd := List.nodup_append.mp nd
  obtain ⟨pre, N1, A1, B1⟩ := choose_news (h₀ := G.h₀) (L := L) x fun p hp => M.led p (List.mem_append_left _ hp)
  obtain ⟨post, N2, A2, B2⟩ := choose_news (h₀ := G.h₀) (L := L) y fun p hp => M.led p (List.mem_append_right _ (.tail _ hp))
  obtain ⟨o, ho, hP, hs⟩ := M.led (a, P) (by simp)
  have hold : ∀ p ∈ allOf G.h₀, s.heap.get? p.1 = some p.2 ∧ p.1 ≠ L ∧ p.1 ≠ a := fun p hp => by
    have e := mem_allOf.mp hp
    exact ⟨M.keep _ _ e, fun q => (by rw [q, hLs] at e; cases e), fun q => (by rw [q] at e; rw [show G.h₀.get? a = none from hs] at e; cases e)⟩
  refine ⟨m, pre, o, post ++ allOf G.h₀, ⟨hns, fun b o e => (by rw [emptyHeap_none] at e; cases e), Nat.zero_le _⟩, ?_, hP, ?_, ?_, ho, fun h' o' tk hP' F' N' htk => ?_⟩
  · intro p hp
    rcases List.mem_append.mp hp with hp | hp
    · exact N1 p hp
    · rcases List.mem_cons.mp hp with rfl | hp
      · exact ⟨ho, hne, emptyHeap_none _⟩
      · rcases List.mem_append.mp hp with hp | hp
        · exact N2 p hp
        · exact ⟨(hold p hp).1, (hold p hp).2.1, emptyHeap_none _⟩
  · exact fun p hp e => hd.2.2 p.1 (A1 p hp) a (.head _) e
  · intro p hp
    rcases List.mem_append.mp hp with hp | hp
    · exact fun e => (List.nodup_cons.mp hd.2.1).1 (e ▸ A2 p hp)
    · exact (hold p hp).2.2
  · refine ⟨M.ok, fun b o e => (N' (b, o) (List.mem_append_right _ (.tail _ (List.mem_append_right _ (mem_allOf.mpr e))))).1, fun p hp => ?_, by rw [List.map_append, List.map_cons]; exact nd, M.gens, M.os, Nat.le_trans M.tok htk⟩
    have old : ∀ p ∈ x ++ (a, P) :: y, p.1 ≠ a → ∃ o, h'.get? p.1 = some o ∧ p.2 o ∧ G.h₀.get? p.1 = none := by
      intro p hp hna
      by_cases e : p.1 = L
      · have : p = (L, IsNs ns vs) := by
          have ndl : ((x ++ (a, P) :: y).map (·.1)).Nodup := M.nd
          exact inj_of_nodup ndl hp hL e
        subst this
        obtain ⟨o2, i, j⟩ := isNs_of F'.ns hx
        exact ⟨o2, i, j, hLs⟩
      · have hs' : G.h₀.get? p.1 = none := let ⟨_, _, _, c⟩ := M.led p hp; c
        rcases List.mem_append.mp hp with hp | hp
        · obtain ⟨o2, i, j⟩ := B1 p hp e
          exact ⟨o2, (N' _ (List.mem_append_left _ i)).1, j, hs'⟩
        · rcases List.mem_cons.mp hp with rfl | hp
          · exact absurd rfl hna
          · obtain ⟨o2, i, j⟩ := B2 p hp e
            exact ⟨o2, (N' _ (List.mem_append_right _ (.tail _ (List.mem_append_left _ i)))).1, j, hs'⟩
    rcases List.mem_append.mp hp with hp | hp
    · exact old p (List.mem_append_left _ hp) fun e => hd.2.2 p.1 (List.mem_map_of_mem (f := (·.1)) hp) a (.head _) e
    · rcases List.mem_cons.mp hp with rfl | hp
      · exact ⟨o', (N' (a, o') (by simp)).1, hP', hs⟩
      · exact old p (List.mem_append_right _ (.tail _ hp)) fun e => (List.nodup_cons.mp hd.2.1).1 (by rw [← e]; exact List.mem_map_of_mem (f := (·.1)) hp)
where
  inj_of_nodup {l : Led} (nd : (l.map (·.1)).Nodup) {p q : Ent} (hp : p ∈ l) (hq : q ∈ l) (e : p.1 = q.1) : p = q := by
    induction l with
    | nil => cases hp
    | cons r l ih =>
      rw [List.map_cons] at nd
      have nd' := List.nodup_cons.mp nd
      rcases List.mem_cons.mp hp with h1 | h1
      · rcases List.mem_cons.mp hq with h2 | h2
        · rw [h1, h2]
        · exact absurd (by rw [← h1, e]; exact List.mem_map_of_mem (f := (·.1)) h2) nd'.1
      · rcases List.mem_cons.mp hq with h2 | h2
        · exact absurd (by rw [← h2, ← e]; exact List.mem_map_of_mem (f := (·.1)) h1) nd'.1
        · exact ih nd'.2 h1 h2

/-- a and b stand at two places -/
inductive Apart (a b : Addr) : Led → Prop
  | here1 {P P' l} : (b, P') ∈ l → Apart a b ((a, P) :: l)
  | here2 {P P' l} : (a, P') ∈ l → Apart a b ((b, P) :: l)
  | tail {e l} : Apart a b l → Apart a b (e :: l)
theorem Apart.ne {G : Gd} {a b : Addr} {s : Shared} : ∀ {l : Led}, Apart a b l → Mod G l s → a ≠ b
  | _, .here1 h, M => fun e => by
    have := (List.nodup_cons.mp M.nd).1
    exact this (e ▸ List.mem_map_of_mem (f := (·.1)) h)
  | _, .here2 h, M => fun e => by
    have := (List.nodup_cons.mp M.nd).1
    exact this (e ▸ List.mem_map_of_mem (f := (·.1)) h)
  | _, .tail r, M => r.ne (M.le (.drop (Le.refl _)))
end
section
section
variable {G : Gd} {A : Around} {E : Value → Led → Prop} {l l' : Led} {env : Env} {pos : Pos}

theorem T_Attr {value : Expr} {attr : Str} {Q : Value → Led → Prop} (h : TT G A (eval value env) (fun o l₁ => TT G A (getAttr o attr true) Q E l₁) E l)
    (he : attributeBase value attr env (eval value env) = eval value env := by rfl) : TT G A (eval (.Attribute value attr pos) env) Q E l :=
  ⟨fun s M => by with_reducible exact Attribute_any_ (h.k M fun _ s' _ m q => q.go s' m) (by rw [arm_eval_Attribute, he])⟩
theorem T_AssignAttr {o value : Expr} {attr : Str} {pos' : Pos} {Q : Flow → Led → Prop}
    (h : TT G A (eval value env) (fun v l₁ => TT G A (eval o env) (fun ov l₂ => TT G A (setAttr ov attr v) (fun _ => Q .next) E l₂) E l₁) E l)
    (hs : swapsWith value (some (.Attribute o attr pos')) pos.line env = pure false := by rfl) : TT G A (exec (.Assign [.Attribute o attr pos'] value pos) env) Q E l :=
  ⟨fun s M => by with_reducible exact plainObj_wpAny_Assign_Attribute (h.k M fun _ _ _ m q => q.k m fun _ s' _ m q => q.go s' m) hs⟩
theorem T_AssignSub {o i value : Expr} {pos' : Pos} {Q : Flow → Led → Prop}
    (h : TT G A (eval value env) (fun v l₁ => TT G A (eval o env) (fun ov l₂ => TT G A (eval i env) (fun iv l₃ => TT G A (setItem ov iv v) (fun _ => Q .next) E l₃) E l₂) E l₁) E l)
    (hs : swapsWith value (some (.Subscript o i pos')) pos.line env = pure false := by rfl) : TT G A (exec (.Assign [.Subscript o i pos'] value pos) env) Q E l :=
  ⟨fun s M => by with_reducible exact wpAny_Assign_Subscript (h.k M fun _ _ _ m q => q.k m fun _ _ _ m q => q.k m fun _ s' _ m q => q.go s' m) hs⟩
theorem T_AugAttr {o value : Expr} {attr : Str} {tpos : Pos} {op : Operator} {Q : Flow → Led → Prop}
    (h : TT G A (eval o env) (fun ov l₁ => TT G A (getAttr ov attr true) (fun old l₂ => TT G A (eval value env) (fun v l₃ => TT G A (inplaceOp op old v) (fun new l₄ => TT G A (setAttr ov attr new) (fun _ => Q .next) E l₄) E l₃) E l₂) E l₁) E l) :
    TT G A (exec (.AugAssign (.Attribute o attr tpos) op value pos) env) Q E l :=
  ⟨fun s M => by with_reducible exact wpAny_AugAssign_AttributeAny (h.k M fun _ _ _ m q => q.k m fun _ _ _ m q => q.k m fun _ _ _ m q => q.k m fun _ s' _ m q => q.go s' m)⟩
theorem T_Delete1 {o i : Expr} {tpos : Pos} {Q : Flow → Led → Prop}
    (h : TT G A (eval o env) (fun ov l₁ => TT G A (eval i env) (fun iv l₂ => TT G A (delItem ov iv) (fun _ => Q .next) E l₂) E l₁) E l) : TT G A (exec (.Delete [.Subscript o i tpos] pos) env) Q E l :=
  ⟨fun s M => by with_reducible exact wpAny_Delete (wpAny_deleteEach_cons (wpAny_delete_Subscript (h.k M fun _ _ _ m q => q.k m fun _ s' _ m q => wpAny_mono (q.go s' m) (fun _ _ x => wpAny_deleteEach_nil x) fun _ _ x => x)))⟩
theorem T_Expr {e : Expr} {Q : Flow → Led → Prop} (h : TT G A (eval e env) (fun v l₁ => (∀ a, v ≠ .ref a) ∧ Q .next l₁) E l)
    (hi : interactive env = false := by rfl) (hs : swapsWith e none pos.line env = pure false := by rfl) : TT G A (exec (.Expr e pos) env) Q E l :=
  ⟨fun s M => by
    with_reducible refine wpAny_Expr (h.k M fun v s' l' m q => ?_) hi hs
    cases v <;> first | exact absurd rfl (q.1 _) | exact ⟨l', m, q.2⟩⟩
theorem T_Sub {value slice : Expr} {Q : Value → Led → Prop} (h : TT G A (eval value env) (fun o l₁ => TT G A (eval slice env) (fun i l₂ => TT G A (subscriptTail value slice o i) Q E l₂) E l₁) E l) :
    TT G A (eval (.Subscript value slice pos) env) Q E l :=
  ⟨fun s M => by with_reducible exact Subscript_ (h.k M fun _ _ _ m q => q.k m fun _ s' _ m q => q.go s' m)⟩
theorem T_Named {x : Str} {tpos : Pos} {value : Expr} {Q : Value → Led → Prop} (h : TT G A (eval value env) (fun v l₁ => TT G A (storeName env x v) (fun _ l₂ => Q v l₂) E l₁) E l) :
    TT G A (eval (.NamedExpr (.Name x tpos) value pos) env) Q E l :=
  ⟨fun s M => by
    rw [arm_eval_NamedExpr]
    with_reducible refine wpAny_bind (h.k M fun v s' l' m q => wpAny_bind (wpAny_holding ?_))
    rw [arm_assign_Name]
    with_reducible exact wpAny_bind (wpAny_standAt (wpAny_bindName (q.k m fun _ s'' l'' m' q' => wpAny_pure ⟨l'', m', q'⟩)))⟩

-- calls
theorem T_Call {func : Expr} {args : List Expr} {Q : Value → Led → Prop} (h : TT G A (eval func env) (fun f l₁ => TT G A (callWith pos f [] (backTo pos (starEach args env)) []) Q E l₁) E l)
    (he : eval (.Call func args [] pos) env = (do callWith pos (← eval func env) [] (backTo pos (starEach args env)) (backToKw pos (keywordEach [] env))) := by rfl) :
    TT G A (eval (.Call func args [] pos) env) Q E l :=
  ⟨fun s M => by with_reducible exact PyProof.Rows.Call_ (h.k M fun _ s' _ m q => q.go s' m) he⟩
theorem T_MCall {o : Expr} {name : Str} {apos : Pos} {args : List Expr} {pl : Sem Bool} {Q : Value → Led → Prop}
    (h : TT G A (eval o env) (fun ov l₁ => TT G A (getMethod ov name pl) (fun fx l₂ => TT G A (callWith pos fx.1 fx.2 (backTo pos (starEach args env)) []) Q E l₂) E l₁) E l)
    (he : eval (.Call (.Attribute o name apos) args [] pos) env = (do
      let ov ← eval o env
      standAt apos.atName
      let (f, first) ← holding [ov] (getMethod ov name pl)
      callWith pos f first (backTo pos (starEach args env)) []) := by rfl) :
    TT G A (eval (.Call (.Attribute o name apos) args [] pos) env) Q E l :=
  ⟨fun s M => by with_reducible exact MethodCall_ (h.k M fun _ _ _ m q => q.k m fun _ s' _ m q => q.go s' m) he⟩

/-- f is called as the machine or a frame keeps it -/
noncomputable def Callee (G : Gd) (f : Value) : Prop := ∀ h, (KK G.w).In h → ∃ k, (k = Keeper.frame ∨ k = Keeper.machine ∨ k = Keeper.boundFrame) ∧ Looks (model prg G.w) h (keeperOf f) k
theorem Callee.K {f : Value} (hk : keepIn (KK G.w) f = true) : Callee G f := fun h X => keeps_K hk h X
theorem Callee.builtin {id : String} : Callee G (.builtin id) := fun h X => ⟨.machine, .inr (.inl rfl), Looks.of_pure rfl⟩
theorem Callee.type {id : String} : Callee G (.type id) := fun h X => ⟨.machine, .inr (.inl rfl), Looks.of_pure rfl⟩
theorem T_cw {f : Value} {first : List Value} {e : Expr} {rest : List Expr} {Q : Value → Led → Prop} (hk : Callee G f)
    (h : TT G A (spliced (backTo pos (starEach (e :: rest) env))) (fun vs l₁ => TT G A (call f (first ++ vs)) Q E l₁) E l)
    (he : starEach (e :: rest) env = (false, eval e env) :: starEach rest env := by rfl) (hplain : (backTo pos (starEach rest env)).any (·.1) = false := by rfl) :
    TT G A (callWith pos f first (backTo pos (starEach (e :: rest) env)) []) Q E l :=
  ⟨fun s M => by
    have h' := h.k M (P := fun vs s₁ => (KK G.w).In s₁.heap ∧ wpAny (model prg G.w) A (call f (first ++ vs)) (fun v s' => ∃ l', Mod G l' s' ∧ Q v l') (Ex G E) s₁) fun vs s' l' m q => ⟨m.X, q.go s' m⟩
    rw [he] at h' ⊢
    exact callWith_of (P := (KK G.w).In) (by show ((false || (backTo pos (starEach rest env)).any (·.1)) || false) = false; rw [hplain]; rfl) hk (evalArgs_plain h')⟩
theorem T_cw0 {f : Value} {first : List Value} {Q : Value → Led → Prop} (hk : Callee G f) (h : TT G A (call f (first ++ [])) Q E l) :
    TT G A (callWith pos f first (backTo pos (starEach [] env)) []) Q E l :=
  ⟨fun s M => by exact callWith_of (P := (KK G.w).In) rfl hk (evalArgs_nil3 ⟨M.X, h.go s M⟩)⟩

/-- what a call of a def gives back -/
noncomputable def retv : Flow → Value
  | .ret v => v
  | _ => .none
theorem lookup_nd {β : Type} : ∀ {cs : List (Str × β)} {n : Str} {c : β}, (cs.map (·.1)).Nodup → (n, c) ∈ cs → cs.lookup n = some c
  | (m, d) :: r, n, c, nd, h => by
    rw [List.map_cons] at nd
    have nd' := List.nodup_cons.mp nd
    rw [List.lookup_cons]
    rcases List.mem_cons.mp h with e | e
    · cases e; simp
    · have hne : (n == m) = false := by
        cases q : n == m with
        | false => rfl
        | true => exact absurd (by rw [← eq_of_beq q]; exact List.mem_map_of_mem (f := (·.1)) e) nd'.1
      rw [hne]
      exact lookup_nd nd'.2 e
theorem binds_at {binds : List (Str × Value)} {ns rest : List Str} {vs : List (Option Value)} (hpre : binds.map (·.1) ++ rest = ns) (hvs : vs = binds.map (fun b => some (cv b.2)) ++ List.replicate rest.length none) (hnd : ns.Nodup) :
    ∀ (i : Nat) x c, ns[i]? = some x → vs[i]? = some (some c) → ∃ v, binds.reverse.lookup x = some v ∧ cv v = c := by
  intro i x c hi hc
  subst hvs hpre
  have hlt : i < binds.length := by
    rcases Nat.lt_or_ge i binds.length with q | q
    · exact q
    · rw [List.getElem?_append_right (by simpa using q)] at hc
      have := List.mem_of_getElem? hc
      rw [List.mem_replicate] at this
      cases this.2
  rw [List.getElem?_append_left (by simpa using hlt)] at hi hc
  rw [List.getElem?_map, List.getElem?_eq_getElem hlt] at hi hc
  have e1 := Option.some.inj hi
  have e2 := Option.some.inj (Option.some.inj hc)
  refine ⟨binds[i].2, ?_, e2⟩
  have nd : (binds.map (·.1)).Nodup := (List.nodup_append.mp hnd).1
  have hmem : (x, binds[i].2) ∈ binds := by rw [← e1]; exact List.getElem_mem hlt
  have ndr : (binds.reverse.map (·.1)).Nodup := by rw [List.map_reverse]; exact (List.reverse_perm _).nodup_iff.mpr nd
  exact lookup_nd ndr (List.mem_reverse.mpr hmem)
theorem C_def {f : Addr} {fd : FuncData} {body : List Stmt} {args : List Value} {binds : List (Str × Value)} {oc : Value} {od : Option Addr} {osl : Array (Option Value)} (rest : List Str) {ns : List Str} {vs : List (Option Value)} {Q : Value → Led → Prop}
    (hroom : A.depth < recursionLimit) (ho : (KK G.w).lookup f = some ⟨oc, od, .func fd, osl⟩) (hb : fd.body = .stmts body)
    (hbind : ∀ s, (KK G.w).In s.heap → BindsTo s fd ⟨args, []⟩ binds) (hns : binds.map (·.1) ++ rest = ns) (hvs : binds.map (fun b => some (cv b.2)) ++ List.replicate rest.length none = vs)
    (hok : (codeIn (KK G.w) fd.code fd.qualname && (ns.all fun x => fd.scope.names.lookup x == some .local && !(x == ("__debug__" : Str))) && (fd.scope.names.all fun x => decide (x.2 ≠ .cell)) && decide ns.Nodup) = true)
    (hsc : fd.scope.isCoroutine = false ∧ fd.scope.isGenerator = false ∧ fd.scope.kind = .function ∧ fd.globals = mainGlobals ∧ fd.builtins = builtinsNs)
    (h : ∀ L, Lay (callEnv fd L f) L ns → TT G (A.deeper (callEnv fd L f)) (execs body (callEnv fd L f)) (fun fl l' => ∃ l'', Le l' l'' ∧ Q (retv fl) l'') Ef ((L, IsNs ns vs) :: l)) :
    CT G A (.call (.ref f) ⟨args, []⟩) (fun r l' => ∃ v, r = .ok (.ret v) ∧ Q v l') l :=
  ⟨fun s M => by
    simp only [Bool.and_eq_true, decide_eq_true_eq] at hok
    obtain ⟨⟨⟨hcd, hnames⟩, hcell⟩, hnd⟩ := hok
    have hbn : ∀ x ∈ binds, fd.scope.names.lookup x.1 = some .local := fun x hx => by
      have hmem : x.1 ∈ ns := by rw [← hns]; exact List.mem_append_left _ (List.mem_map_of_mem (f := (·.1)) hx)
      have := List.all_eq_true.mp hnames x.1 hmem
      simp only [Bool.and_eq_true, beq_iff_eq] at this
      exact this.1
    refine (codeAny_call_def hroom (M.X _ _ ho) rfl M.T.nolimit (codeRec_of M.X hcd) hb (hbind s M.X) (fun x hx => of_decide_eq_true (List.all_eq_true.mp hcell x hx))
      hbn (fun h₁ hns₁ hk => ?_) hsc.1 hsc.2.1 hsc.2.2.1)
    have hlt : s.heap.objs.size < h₁.objs.size := hns₁.lt
    have F : Lay (callEnv fd s.heap.objs.size f) s.heap.objs.size ns := ⟨hsc.2.2.1, rfl, hsc.2.2.2.1, hsc.2.2.2.2, hnames, hnd⟩
    have M₁ : Mod G ((s.heap.objs.size, IsNs ns vs) :: l) { s with heap := h₁, toks := s.toks + binds.length } := by
      refine ⟨M.ok, fun b o e => hk b o (M.keep b o e), fun p hp => ?_, ?_, M.gens, M.os, Nat.le_trans M.tok (by first | exact Nat.le_add_right _ _ | (dsimp only; omega))⟩
      · rcases List.mem_cons.mp hp with rfl | hp
        · obtain ⟨o, a, b⟩ := isNs_of hns₁ (binds_at hns hvs.symm hnd)
          exact ⟨o, a, b, M.above (Nat.le_refl _)⟩
        · obtain ⟨o, a, b, c⟩ := M.led p hp
          exact ⟨o, hk _ _ a, b, c⟩
      · refine List.nodup_cons.mpr ⟨fun q => ?_, M.nd⟩
        obtain ⟨p, hp, e⟩ := List.mem_map.mp q
        obtain ⟨o, a, _⟩ := M.led p hp
        have := Heap.lt_size a
        rw [show p.1 = s.heap.objs.size from e] at this
        exact Nat.lt_irrefl _ this
    refine wpAny_mono ((h s.heap.objs.size F).go _ M₁) (fun fl s' hq => ?_) fun e s' hq => ?_
    · obtain ⟨l', m, l'', le, q⟩ := hq
      cases fl <;> exact ⟨l'', m.le le, _, rfl, q⟩
    · obtain ⟨_, _, hf⟩ := hq
      exact hf.elim⟩
theorem CT.call {f : Value} {args : List Value} {Q : Value → Led → Prop} (h : CT G A (.call f ⟨args, []⟩) (fun r l' => ∃ v, r = .ok (.ret v) ∧ Q v l') l) : TT G A (PySem.call f args) Q E l :=
  ⟨fun s M => by
    refine wpAny_call (codeAny_mono (h.go s M) fun r s' q => ?_)
    obtain ⟨l', m, v, rfl, q⟩ := q
    exact ⟨l', m, q⟩⟩
theorem T_def {f : Addr} {fd : FuncData} {body : List Stmt} {args : List Value} {binds : List (Str × Value)} {oc : Value} {od : Option Addr} {osl : Array (Option Value)} (rest : List Str) {ns : List Str} {vs : List (Option Value)} {Q : Value → Led → Prop}
    (hroom : A.depth < recursionLimit) (ho : (KK G.w).lookup f = some ⟨oc, od, .func fd, osl⟩) (hb : fd.body = .stmts body)
    (hbind : bindArgs fd ⟨args, []⟩ = pure binds) (hns : binds.map (·.1) ++ rest = ns) (hvs : binds.map (fun b => some (cv b.2)) ++ List.replicate rest.length none = vs)
    (hok : (codeIn (KK G.w) fd.code fd.qualname && (ns.all fun x => fd.scope.names.lookup x == some .local && !(x == ("__debug__" : Str))) && (fd.scope.names.all fun x => decide (x.2 ≠ .cell)) && decide ns.Nodup) = true)
    (hsc : fd.scope.isCoroutine = false ∧ fd.scope.isGenerator = false ∧ fd.scope.kind = .function ∧ fd.globals = mainGlobals ∧ fd.builtins = builtinsNs)
    (h : ∀ L, Lay (callEnv fd L f) L ns → TT G (A.deeper (callEnv fd L f)) (execs body (callEnv fd L f)) (fun fl l' => ∃ l'', Le l' l'' ∧ Q (retv fl) l'') Ef ((L, IsNs ns vs) :: l)) :
    TT G A (call (.ref f) args) Q E l := (C_def rest hroom ho hb (fun s _ => BindsTo.of_eq hbind) hns hvs hok hsc h).call
end
end
section
/-- an object of a class of the text, its dict at d -/
noncomputable def Inst (C d : Addr) (o : Obj) : Prop := o = instObj C d
inductive F2 : List DictEntry → List (Str × Value) → Prop
  | nil : F2 [] []
  | cons {e es k c kvs} : (∃ t, e.key = .str k t) → cv e.val = c → F2 es kvs → F2 (e :: es) ((k, c) :: kvs)
/-- the dict of such an object -/
noncomputable def AD (kvs : List (Str × Value)) (o : Obj) : Prop := ∃ es n, o = dictOf es n ∧ F2 es kvs
theorem F2.len {es : List DictEntry} {kvs : List (Str × Value)} (h : F2 es kvs) : es.length = kvs.length := by
  induction h with
  | nil => rfl
  | cons _ _ _ ih => rw [List.length_cons, List.length_cons, ih]
theorem F2.noRef {es : List DictEntry} {kvs : List (Str × Value)} (h : F2 es kvs) : es.any (·.refKey) = false := by
  induction h with
  | nil => rfl
  | cons hk _ _ ih => obtain ⟨t, ht⟩ := hk; rw [List.any_cons, ih]; simp [DictEntry.refKey, ht]
theorem F2.get {es : List DictEntry} {kvs : List (Str × Value)} {name : Str} (h : F2 es kvs) :
    (∃ kv v, kvs.find? (fun p => p.1 == name) = some kv ∧ getL name es = some (some v) ∧ cv v = kv.2) ∨ (kvs.find? (fun p => p.1 == name) = none ∧ getL name es = some none) := by
  unfold getL
  rw [h.noRef]
  induction h with
  | nil => exact .inr ⟨rfl, rfl⟩
  | @cons e es k c kvs hk hv hr ih =>
    obtain ⟨t, ht⟩ := hk
    rw [List.find?_cons, List.find?_cons]
    have : e.key.isStr name = (k == name) := by rw [ht]; rfl
    rw [this]
    cases q : (k == name) with
    | true => exact .inl ⟨(k, c), e.val, rfl, rfl, hv⟩
    | false => exact ih
noncomputable def putK (name : Str) (c : Value) : List (Str × Value) → List (Str × Value)
  | [] => [(name, c)]
  | p :: r => if p.1 == name then (p.1, c) :: r else p :: putK name c r
theorem F2.put {es : List DictEntry} {kvs : List (Str × Value)} {name : Str} {hs : Int} {tk : Tok} {v c : Value} (h : F2 es kvs) (hc : cv v = c) : F2 (putL name hs (.str name tk) v es) (putK name c kvs) := by
  induction h with
  | nil => exact .cons ⟨tk, rfl⟩ hc .nil
  | @cons e es k d kvs hk hv hr ih =>
    obtain ⟨t, ht⟩ := hk
    have : e.key.isStr name = (k == name) := by rw [ht]; rfl
    rw [putL, putK, this]
    dsimp only
    cases q : (k == name) with
    | true => rw [if_pos rfl, if_pos rfl]; exact .cons ⟨t, ht⟩ hc hr
    | false => rw [if_neg Bool.false_ne_true, if_neg Bool.false_ne_true]; exact .cons ⟨t, ht⟩ hv ih
theorem handed_cv {v c : Value} (e : cv v = c) (h : handedIn c = true) : handedIn v = true := by
  subst e; cases v <;> first | rfl | exact h

section
variable {G : Gd} {A : Around} {E : Value → Led → Prop} {l l' : Led} {env : Env} {pos : Pos} {x d C L : Addr} {kvs kvs' : List (Str × Value)} {name : Str} {c : Value} {ns : List Str} {vs : List (Option Value)}

theorem inst_at {s : Shared} (M : Mod G l s) (h1 : (x, Inst C d) ∈ l) (h2 : (d, AD kvs) ∈ l) : ∃ es n, W.InstAt s.heap x (instObj C d) C (some (dictOf es n)) ∧ F2 es kvs := by
  obtain ⟨o, ho, rfl⟩ := M.at_ h1
  obtain ⟨o', ho', es, n, rfl, hf⟩ := M.at_ h2
  exact ⟨es, n, ⟨ho, rfl, rfl, ho'⟩, hf⟩
theorem T_getown {expr : Bool} {Q : Value → Led → Prop} (h1 : (x, Inst C d) ∈ l) (h2 : (d, AD kvs) ∈ l) (hg : plainGet (KK G.w) C name = true) (hh : hasDictIn (KK G.w) C = true) (ha : findIn (KK G.w) (.ref C) name = some none)
    (hf : kvs.find? (fun p => p.1 == name) = some (name, c)) (hc : handedIn c = true) (h : Any c fun v => Q v l) : TT G A (getAttr (.ref x) name expr) Q E l :=
  ⟨fun s M => by
    obtain ⟨es, n, I, F⟩ := inst_at M h1 h2
    rcases F.get (name := name) with ⟨kv, v, a, b, e⟩ | ⟨a, _⟩
    · rw [hf] at a
      cases a
      have hfo : findObj (KK G.w) C (some (dictOf es n)) name = some (.value v) := findObj_own (attr := none) hh ha rfl b
      have hq := any_of_cv e h
      with_reducible exact get_value M.X I (plainGet_of hg).1 hfo (handed_cv e hc) ⟨l, M.toks _, hq⟩
    · rw [hf] at a; cases a⟩
theorem T_method {pl : Sem Bool} {f : Addr} {Q : Value × List Value → Led → Prop} (h1 : (x, Inst C d) ∈ l) (h2 : (d, AD kvs) ∈ l) (hg : plainGet (KK G.w) C name = true) (hf : findIn (KK G.w) (.ref C) name = some (some (.ref f))) (ht : isFn (KK G.w) (.ref f) = true)
    (hn : kvs.find? (fun p => p.1 == name) = none) (h : Q (.ref f, [.ref x]) l) : TT G A (getMethod (.ref x) name pl) Q E l :=
  ⟨fun s M => by
    obtain ⟨es, n, I, F⟩ := inst_at M h1 h2
    rcases F.get (name := name) with ⟨kv, v, a, _⟩ | ⟨_, b⟩
    · rw [hn] at a; cases a
    · have hty : typeIn (KK G.w) (.ref f) = some (.type "function") := beq_iff_eq.mp ht
      have hsh : shadowIn (some (dictOf es n)) name = some false := by show (lookIn name (dictOf es n)).map _ = _; rw [lookIn_dict, b]; rfl
      with_reducible exact method_fn M.X I (plainGet_of hg).1 (plainGet_of hg).2 hf hty hsh ⟨l, M, h⟩⟩
theorem T_setown {v : Value} {Q : Unit → Led → Prop} (hL : (L, IsNs ns vs) ∈ l) (h1 : (x, Inst C d) ∈ l) (hr : Rep d (AD kvs) (AD (putK name c kvs)) l l') (hap : Apart d L l) (hv : CV v c)
    (hs : findIn (KK G.w) (.ref C) "__setattr__" = some (some (.builtin "object.__setattr__"))) (hp : plainOver (KK G.w) C = true) (ht : takerIn (KK G.w) C name = some none) (hh : hasDictIn (KK G.w) C = true) (hz : kvs.length ≤ 900)
    (h : Q () l') : TT G A (setAttr (.ref x) name v) Q E l :=
  ⟨fun s M => by
    obtain ⟨m, pre, o, post, F, N, hP, a1, a2, ho, back⟩ := M.bridge hL hr (hap.ne M)
    obtain ⟨es, n, rfl, hf⟩ := hP
    obtain ⟨ox, hox, rfl⟩ := M.at_ h1
    have I : W.InstAt s.heap x (instObj C d) C (some (dictOf es n)) := ⟨hox, rfl, rfl, ho⟩
    have hl : (lookIn name (dictOf es n)).isSome = true := by
      rw [lookIn_dict]
      rcases hf.get (name := name) with ⟨_, _, _, b, _⟩ | ⟨_, b⟩ <;> rw [b] <;> rfl
    have hput : F2 (putL name (PyData.keyHash G.w.params name) (.str name (s.toks + 1)) v es) (putK name c kvs) := hf.put hv.eq
    have hlen : (putL name (PyData.keyHash G.w.params name) (.str name (s.toks + 1)) v es).length ≤ 1000 := by
      rw [hput.len]
      have : ∀ k : List (Str × Value), (putK name c k).length ≤ k.length + 1 := by
        intro k
        induction k with
        | nil => simp [putK]
        | cons p r ih => rw [putK]; split <;> simp only [List.length_cons] <;> omega
      have := this kvs
      omega
    refine set_plain M.X I hs (osa_dict (s := { s with toks := s.toks + 1 }) (ox := instObj C d) (es := putL name (PyData.keyHash G.w.params name) (.str name (s.toks + 1)) v es) (n := putN name es n) F N M.X I rfl hp ht hh hl a1 a2 (putName_dict ..) rfl hlen fun h' F' N' => ?_)
    exact ⟨l', (back h' _ _ ⟨_, _, rfl, hput⟩ F' N' (by first | exact Nat.le_add_right _ _ | (dsimp only; omega))), h⟩⟩
end
end
section
/-- a list of these (without tokens) -/
noncomputable def Lst (vs : List Value) (o : Obj) : Prop := ∃ xs n, o = listOf xs n ∧ xs.toList.map cv = vs
noncomputable def Tup (vs : List Value) (o : Obj) : Prop := ∃ xs n, o = ({ cls := .type "tuple", data := .seq xs n } : Obj) ∧ xs.toList.map cv = vs

theorem Lst.new (its : List Value) : Lst (its.map cv) { cls := .type "list", data := .seq its.toArray } := ⟨its.toArray, 0, rfl, by simp⟩
theorem Tup.new (its : List Value) : Tup (its.map cv) { cls := .type "tuple", data := .seq its.toArray } := ⟨its.toArray, 0, rfl, by simp⟩
section
variable {G : Gd} {A : Around} {E : Value → Led → Prop} {l l' : Led} {env : Env} {pos : Pos} {a : Addr} {vs : List Value}
theorem lst_at {s : Shared} (M : Mod G l s) (h : (a, Lst vs) ∈ l) : ∃ xs n, IsL s.heap a xs n ∧ xs.toList.map cv = vs ∧ xs.size = vs.length := by
  obtain ⟨o, ho, xs, n, rfl, e⟩ := M.at_ h
  exact ⟨xs, n, ho, e, by rw [← e]; simp⟩

theorem T_newList {its : List Value} {Q : Value → Led → Prop} (hsz : its.length ≤ sizeLine) (h : ∀ a, Q (.ref a) ((a, Lst (its.map cv)) :: l)) : TT G A (newList its) Q E l :=
  ⟨fun s M => by with_reducible exact wpAny_newList ⟨_, M.push (Lst.new its) rfl _, h _⟩ hsz⟩
theorem T_List {elts : List Expr} {Q : Value → Led → Prop} (h : TT G A (spliced (backTo pos (starEach elts env))) (fun its l₁ => its.length ≤ sizeLine ∧ ∀ a, Q (.ref a) ((a, Lst (its.map cv)) :: l₁)) E l) :
    TT G A (eval (.List elts pos) env) Q E l :=
  ⟨fun s M => by with_reducible exact wpAny_List (h.k M fun its s' l' m q => ⟨q.1, _, m.push (Lst.new its) rfl _, q.2 _⟩)⟩
theorem T_Tuple {elts : List Expr} {k : Nat} {Q : Value → Led → Prop} (h : TT G A (spliced (backTo pos (starEach elts env))) (fun its l₁ => its.length ≤ sizeLine ∧ ∀ a, Q (.ref a) ((a, Tup (its.map cv)) :: l₁)) E l) :
    TT G A (eval (.Tuple elts k pos) env) Q E l :=
  ⟨fun s M => by with_reducible exact wpAny_Tuple (h.k M fun its s' l' m q => ⟨q.1, _, m.push (Tup.new its) rfl _, q.2 _⟩)⟩
theorem fit63 {i n : Nat} (h : i < n) (hn : n ≤ 30) : ((0 + i : Nat) : Int) < 2 ^ 63 := by omega
theorem fitZ {a : Int} {n : Nat} (h : a < n) (hn : n ≤ 30) : a < 2 ^ 63 := by omega
theorem toNat0 (i : Nat) : ((0 + i : Nat) : Int).toNat = i := by omega
theorem cast0 (i : Nat) : ((0 + i : Nat) : Int) = i := by omega
theorem le1000 {a : Int} {n : Nat} (h : a < n) (hn : n ≤ 20) : a ≤ 1000 := by omega
theorem neg1 (n : Nat) : (-1 + ((n + 1 : Nat) : Int)).toNat = n := by omega
theorem negle (n : Nat) : -((n + 1 : Nat) : Int) ≤ -1 := by omega
theorem toNatLt {a : Int} {n : Nat} (h0 : 0 ≤ a) (h : a < n) : a.toNat < n := by omega
theorem castne {n : Nat} (h : 0 < n) : (n : Int) ≠ 0 := by omega
theorem succ_of {m w n : Nat} (hm : m + w = n) (h : ((w + 1 : Nat) : Int) ≤ n) : ∃ k, m = k + 1 := ⟨m - 1, by omega⟩
theorem zero_of {m w n : Nat} (hm : m + w = n) (h : ¬ ((w + 1 : Nat) : Int) ≤ n) : m = 0 := by omega
theorem addR {m w n : Nat} (h : m + 1 + w = n) : m + (w + 1) = n := by omega
theorem lenE {n i : Nat} (h : (n : Int) = ((0 + i : Nat) : Int) + 1) : n = i + 1 := by omega
theorem lenE' {n i : Nat} (h : n = i + 1) : (n : Int) = ((0 + i : Nat) : Int) + 1 := by omega
theorem subR {n d r k : Nat} (hn : n + d = k) (h : d + r ≤ k) (hr : 0 < r) : n - r < n := by omega
theorem subR' {n d r k : Nat} (hn : n + d = k) (h : d + r ≤ k) : n - r + (d + r) = k := by omega
theorem s7b {W c i S k : Nat} (h : i < c) (hk : k = W + (c - i + 1 + S)) : W + (c - (i + 1) + 1 + S) < k := by omega
theorem s7c {W x S k : Nat} (hk : k = W + (x + 1 + S)) : W + S < k := by omega
theorem s7d {W x S k n : Nat} (hk : k = W + (x + 1 + S)) (h : k ≤ n) : W + S ≤ n := by omega
theorem addR' (a b : Nat) : a + 1 + b = a + (b + 1) := by omega
theorem T_len {Q : Value → Led → Prop} (hm : (a, Lst vs) ∈ l) (hz : vs.length ≤ sizeLine) (h : ∀ t, Q (.int vs.length t) l) : TT G A (call (.builtin "len") [.ref a]) Q E l :=
  ⟨fun s M => by
    obtain ⟨xs, n, hl, e, hn⟩ := lst_at M hm
    have hq : ∀ t, Q (.int xs.size t) l := by rw [hn]; exact h
    have hfit : (xs.size : Int) < 2 ^ 63 := by
      have : sizeLine < 2 ^ 63 := by decide
      omega
    with_reducible exact call_len_list hl.isList hfit ⟨l, M.toks _, hq _⟩⟩
theorem T_truthy_list {Q : Bool → Led → Prop} (hm : (a, Lst vs) ∈ l) (hz : vs.length ≤ sizeLine) (h : Q (!vs.isEmpty) l) : TT G A (truthy (.ref a)) Q E l :=
  ⟨fun s M => by
    obtain ⟨xs, n, hl, e, hn⟩ := lst_at M hm
    have hfit : (xs.size : Int) < 2 ^ 63 := by
      have : sizeLine < 2 ^ 63 := by decide
      omega
    have hq : Q (!xs.isEmpty) l := by
      have : xs.isEmpty = vs.isEmpty := by rw [← e]; cases xs with | mk q => cases q <;> rfl
      rw [this]; exact h
    with_reducible exact wpAny_truthy_list hl.isList hfit ⟨l, M.toks _, hq⟩⟩
theorem T_item {value slice : Expr} {k : Int} {u : Tok} {c : Value} {Q : Value → Led → Prop} (hm : (a, Lst vs) ∈ l) (h0 : 0 ≤ k) (hfit : k < 2 ^ 63) (hx : vs[k.toNat]? = some c) (h : Any c fun v => Q v l)
    (hs : subscripted slice false (.ref a) (.int k u) = operate [.ref a, .int k u] (getItem (.ref a) (.int k u)) := by with_unfolding_all rfl) :
    TT G A (subscriptTail value slice (.ref a) (.int k u)) Q E l :=
  ⟨fun s M => by
    obtain ⟨xs, n, hl, e, hn⟩ := lst_at M hm
    rw [← e, List.getElem?_map] at hx
    obtain ⟨v, hv, hc⟩ := Option.map_eq_some_iff.mp hx
    have hv' : xs[k.toNat]? = some v := by rw [← Array.getElem?_toList]; exact hv
    have hq := any_of_cv hc h
    exact tail_any hl.isList.typeIs slot_list_getitem.lookup (wpAny_getItem_list hl.isList h0 hfit hv' ⟨l, M, hq⟩) hs⟩
theorem T_append {v c : Value} {Q : Value → Led → Prop} (hr : Rep a (Lst vs) (Lst (vs ++ [c])) l l') (hv : CV v c) (hz : vs.length ≤ sizeLine) (h : Q .none l') : TT G A (call (.builtin "list.append") [.ref a, v]) Q E l :=
  ⟨fun s M => by
    obtain ⟨xs, n, hl, e, hn⟩ := lst_at M hr.mem
    have M' := M.update (f := Obj.mapSeq fun xs => xs.push v) hr (fun o ho => by
      obtain ⟨ys, n', rfl, e'⟩ := ho
      exact ⟨⟨ys.push v, _, rfl, by rw [Array.toList_push, List.map_append, e', List.map_singleton, hv.eq]⟩, rfl⟩) s.toks
    exact call_meets F.slot_list_append ⟨_, hl, rfl⟩ F.entry_list_append (F.args_list_append_2 _ _) (list_append a xs n v (by omega)) ⟨hl, ⟨l', M', h⟩⟩⟩
end
end
section
/-- vs' tells no more than vs -/
inductive Wk : List (Option Value) → List (Option Value) → Prop
  | nil : Wk [] []
  | same {v vs vs'} : Wk vs vs' → Wk (v :: vs) (v :: vs')
  | none {v vs vs'} : Wk vs vs' → Wk (v :: vs) (none :: vs')
theorem Wk.get : ∀ {vs vs' : List (Option Value)}, Wk vs vs' → ∀ (i : Nat) c, vs'[i]? = some (some c) → vs[i]? = some (some c)
  | _, _, .nil, _, _, h => by simp at h
  | _, _, .same r, 0, _, h => h
  | _, _, .same r, i + 1, c, h => r.get i c h
  | _, _, .none r, 0, _, h => by cases h
  | _, _, .none r, i + 1, c, h => r.get i c h
theorem IsNs.wk {ns : List Str} {vs vs' : List (Option Value)} {o : Obj} (w : Wk vs vs') (h : IsNs ns vs o) : IsNs ns vs' o := by
  obtain ⟨es, ep, hd, hk, hx⟩ := h
  exact ⟨es, ep, hd, hk, fun i x c hi hc => hx i x c hi (w.get i c hc)⟩
theorem Le.ns {L : Addr} {ns : List Str} {vs vs' : List (Option Value)} {l l' : Led} (w : Wk vs vs') (h : Le l l') : Le ((L, IsNs ns vs) :: l) ((L, IsNs ns vs') :: l') := .keep (fun _ => IsNs.wk w) h

/-- the entry of a is taken out -/
inductive Del (a : Addr) (P : Obj → Prop) : Led → Led → Prop
  | head {l} : Del a P ((a, P) :: l) l
  | tail {e l l'} : Del a P l l' → Del a P (e :: l) (e :: l')
theorem Del.perm {a : Addr} {P : Obj → Prop} : ∀ {l l' : Led}, Del a P l l' → l.Perm ((a, P) :: l')
  | _, _, .head => .refl _
  | _, _, .tail (e := e) r => (r.perm.cons e).trans (.swap ..)

theorem Mod.extBut {G : Gd} {a : Addr} {P : Obj → Prop} {l : Led} {s : Shared} {h' : Heap} {p : Ent} (M : Mod G ((a, P) :: l) s) (hx : Heap.ExtBut a s.heap h') (hp : p ∈ l) (tk : Nat) (htk : s.toks ≤ tk := by first | exact Nat.le_refl _ | exact Nat.le_add_right _ _ | omega) : Mod G l { s with heap := h', toks := tk } := by
  have nd := List.nodup_cons.mp M.nd
  have ha : G.h₀.get? a = none := let ⟨_, _, _, c⟩ := M.led (a, P) (.head _); c
  refine ⟨M.ok, fun b o e => hx b o (fun q => ?_) (M.keep b o e), fun p hp => ?_, nd.2, M.gens, M.os, Nat.le_trans M.tok htk⟩
  · rw [q, ha] at e; cases e
  · obtain ⟨o, i, j, k⟩ := M.led p (.tail _ hp)
    exact ⟨o, hx _ _ (fun q => nd.1 (q ▸ List.mem_map_of_mem (f := (·.1)) hp)) i, j, k⟩

structure Iter where
  n : Nat
  seg : Nat → Led
  need : Led → Prop
  item : Nat → (Value → Led → Prop) → Led → Prop

structure Iter.Ok (I : Iter) (G : Gd) (A : Around) (target : Expr) (it : Addr) : Prop where
  next : ∀ i l K, i < I.n → I.need l → I.item i K l →
    TT G A (pyNext (.ref it)) (fun r l₁ => ∃ v, r = some v ∧ TT G A (letOwnedTupleGo target (.ref it) v) (fun _ l₂ => ∃ l₃, l₂ = I.seg (i + 1) ++ l₃ ∧ K v l₃) Ef l₁) Ef (I.seg i ++ l)
  stop : ∀ l, I.need l → TT G A (pyNext (.ref it)) (fun r l₁ => r = none ∧ l₁ = l) Ef (I.seg I.n ++ l)

noncomputable def LoopEnd (Q : Flow → Led → Prop) (sg : Led) (Inv' : Led → Prop) (f : Flow) (l : Led) : Prop := match f with
  | .next => ∃ l', Le l (sg ++ l') ∧ Inv' l'
  | .cont => ∃ l', Le l (sg ++ l') ∧ Inv' l'
  | .brk => ∃ l', Le l l' ∧ Q .next l'
  | .ret v => ∃ l', Le l l' ∧ Q (.ret v) l'

structure Loop (G : Gd) (A : Around) (target : Expr) (env : Env) (body : List Stmt) (Q : Flow → Led → Prop) (v : Value) (l : Led) : Prop where
  go : ∃ (it : Addr) (I : Iter) (Inv : Nat → Led → Prop) (lo : Led), v = .ref it ∧ I.Ok G A target it ∧ Le l (I.seg 0 ++ lo) ∧ Inv 0 lo ∧ (∀ i l, Inv i l → I.need l) ∧
    (∀ i l, i < I.n → Inv i l → I.item i (fun v l₁ => TT G A (assign target env v) (fun _ l₂ => TT G A (execs body env) (LoopEnd Q (I.seg (i + 1)) (Inv (i + 1))) Ef l₂) Ef (I.seg (i + 1) ++ l₁)) l) ∧
    (∀ l, Inv I.n l → Q .next l)

section
variable {G : Gd} {A : Around} {E : Value → Led → Prop} {l l' : Led} {env : Env} {pos : Pos}
theorem Loop.le {target : Expr} {body : List Stmt} {Q : Flow → Led → Prop} {v : Value} (e : Le l l') (h : Loop G A target env body Q v l') : Loop G A target env body Q v l := by
  obtain ⟨it, I, Inv, lo, h1, h2, h3, h4⟩ := h.go
  exact ⟨it, I, Inv, lo, h1, h2, e.trans h3, h4⟩

theorem T_for {target iter : Expr} {body : List Stmt} {Q : Flow → Led → Prop}
    (h : TT G A (eval iter env) (fun x l₁ => TT G A (pyIter x) (Loop G A target env body Q) E l₁) E l) (hs : ∀ x, foldedSetIterable iter env x = pure x := by intro _; rfl) :
    TT G A (exec (.For target iter body [] pos) env) Q E l :=
  ⟨fun s M => by
    refine wpAny_For (h.k M fun x s₁ l₁ m₁ q₁ => q₁.k m₁ fun v s₂ l₂ m₂ q₂ => ?_) hs
    obtain ⟨it, I, Inv, lo, rfl, ok, hle, h0, hneed, turn, done⟩ := q₂.go
    refine codeAny_forLoop_any (fun k s => ∃ i l, k + i = I.n ∧ Mod G (I.seg i ++ l) s ∧ Inv i l) (fun k s hI => ?_) I.n ⟨0, lo, rfl, m₂.le hle, h0⟩
    obtain ⟨i, l, hk, m, hi⟩ := hI
    rcases Nat.lt_or_ge i I.n with hlt | hge
    · refine wpAny_mono ((ok.next i l _ hlt (hneed i l hi) (turn i l hlt hi)).go s m) (fun r s₁ q => ?_) fun e s' q => (by obtain ⟨_, _, hf⟩ := q; exact hf.elim)
      obtain ⟨l₁, m₁, v, rfl, q⟩ := q
      refine wpAny_mono (q.go s₁ m₁) (fun _ s₂ q₂ => ?_) fun e s' q => (by obtain ⟨_, _, hf⟩ := q; exact hf.elim)
      obtain ⟨l₂, m₂, l₃, rfl, q₂⟩ := q₂
      refine wpAny_mono (q₂.go s₂ m₂) (fun _ s₃ q₃ => ?_) fun e s' q => (by obtain ⟨_, _, hf⟩ := q; exact hf.elim)
      obtain ⟨l₄, m₄, q₄⟩ := q₃
      refine wpAny_mono (q₄.go s₃ m₄) (fun f s₄ q₅ => ?_) fun e s' q => (by obtain ⟨_, _, hf⟩ := q; exact hf.elim)
      obtain ⟨l₅, m₅, q₅⟩ := q₅
      cases f with
      | next =>
        obtain ⟨l₆, le, hq⟩ := q₅
        exact ⟨k - 1, by omega, i + 1, l₆, by omega, m₅.le le, hq⟩
      | cont =>
        obtain ⟨l₆, le, hq⟩ := q₅
        exact ⟨k - 1, by omega, i + 1, l₆, by omega, m₅.le le, hq⟩
      | brk =>
        obtain ⟨l₆, le, hq⟩ := q₅
        exact ⟨l₆, m₅.le le, hq⟩
      | ret v =>
        obtain ⟨l₆, le, hq⟩ := q₅
        exact ⟨l₆, m₅.le le, hq⟩
    · have hin : i = I.n := by omega
      subst hin
      refine wpAny_mono ((ok.stop l (hneed _ l hi)).go s m) (fun r s₁ q => ?_) fun e s' q => (by obtain ⟨_, _, hf⟩ := q; exact hf.elim)
      obtain ⟨l₁, m₁, rfl, rfl⟩ := q
      exact wpAny_execs_nil ⟨l₁, m₁, done l₁ hi⟩⟩

theorem T_assignName {x : Str} {p : Pos} {v : Value} {Q : Unit → Led → Prop} (h : TT G A (storeName env x v) Q E l) : TT G A (assign (.Name x p) env v) Q E l :=
  ⟨fun s M => by with_reducible exact wpAny_assign_Name (h.go s M)⟩

noncomputable def WhileEnd (Q : Flow → Led → Prop) (Inv : Nat → Led → Prop) (n : Nat) (f : Flow) (l : Led) : Prop := match f with
  | .next => ∃ m l', m < n ∧ Le l l' ∧ Inv m l'
  | .cont => ∃ m l', m < n ∧ Le l l' ∧ Inv m l'
  | .brk => ∃ l', Le l l' ∧ Q .next l'
  | .ret v => ∃ l', Le l l' ∧ Q (.ret v) l'
theorem T_while {test : Expr} {body orelse : List Stmt} {Q : Flow → Led → Prop} (Inv : Nat → Led → Prop) (n : Nat) (h0 : Inv n l)
    (turn : ∀ n l, Inv n l → TT G A (isTrue test env (eval test env)) (fun b l₂ => Br b (TT G A (execs body env) (WhileEnd Q Inv n) Ef l₂) (TT G A (execs orelse env) Q Ef l₂)) Ef l) :
    TT G A (exec (.While test body orelse pos) env) Q E l :=
  ⟨fun s M => by
    refine wpAny_While (codeAny_whileLoop (fun n s => ∃ l, Mod G l s ∧ Inv n l) (fun n s hI => ?_) n ⟨l, M, h0⟩)
    obtain ⟨l, m, hi⟩ := hI
    refine wpAny_mono ((turn n l hi).go s m) (fun b s₂ q => ?_) fun e s' q => (by obtain ⟨_, _, hf⟩ := q; exact hf.elim)
    obtain ⟨l₂, m₂, q⟩ := q
    cases b with
    | true =>
      rw [if_pos rfl]
      refine wpAny_mono ((q.yes rfl).go s₂ m₂) (fun f s₃ q => ?_) fun e s' q => (by obtain ⟨_, _, hf⟩ := q; exact hf.elim)
      obtain ⟨l₃, m₃, q⟩ := q
      cases f with
      | next => obtain ⟨k, l₄, hk, le, hq⟩ := q; exact ⟨k, hk, l₄, m₃.le le, hq⟩
      | cont => obtain ⟨k, l₄, hk, le, hq⟩ := q; exact ⟨k, hk, l₄, m₃.le le, hq⟩
      | brk => obtain ⟨l₄, le, hq⟩ := q; exact ⟨l₄, m₃.le le, hq⟩
      | ret v => obtain ⟨l₄, le, hq⟩ := q; exact ⟨l₄, m₃.le le, hq⟩
    | false =>
      rw [if_neg Bool.false_ne_true]
      refine wpAny_mono ((q.no rfl).go s₂ m₂) (fun f s₃ q => q) fun e s' q => (by obtain ⟨_, _, hf⟩ := q; exact hf.elim)⟩

-- lists, tuples
noncomputable def LIt (a : Addr) (i : Nat) (o : Obj) : Prop := o.cls = .type "list_iterator" ∧ o.data = .fields #[.ref a, .int i 0]
noncomputable def listIter (it a : Addr) (vs : List Value) : Iter where
  n := vs.length
  seg := fun i => [(it, LIt a i)]
  need := fun l => (a, Lst vs) ∈ l
  item := fun i K l => ∀ c, vs[i]? = some c → Any c fun v => K v l
theorem listIter_ok {a it : Addr} {vs : List Value} {target : Expr} (hh : A.handled = none) (ht : ∀ v, letOwnedTupleGo target (.ref it) v = pure () := by intro _; rfl) : (listIter it a vs).Ok G A target it where
  next i l K hi hn hK := ⟨fun s M => by
    obtain ⟨o, ho, hc, hd⟩ := M.at_ (a := it) (P := LIt a i) (.head _)
    obtain ⟨xs, n, hl, e, hsz⟩ := lst_at M (List.mem_cons_of_mem _ hn)
    have hlt : i < xs.size := by rw [hsz]; exact hi
    have hx : xs[i]? = some xs[i] := Array.getElem?_eq_getElem hlt
    have hv : vs[i]? = some (cv xs[i]) := by rw [← e, List.getElem?_map, Array.getElem?_toList, hx]; rfl
    refine wpAny_pyNext_list_item ⟨o, ho, hc, hd⟩ hl.isList hx fun h' hit hs => ⟨(it, LIt a (i + 1)) :: l, ?_, _, rfl, ?_⟩
    · obtain ⟨o', ho', hc', hd'⟩ := hit
      exact M.upd (P' := LIt a (i + 1)) .head hs ⟨o', ho', hc', hd'⟩ _
    · rw [ht]; exact TT.pure ⟨l, rfl, any_cv (hK _ hv)⟩⟩
  stop l hn := ⟨fun s M => by
    obtain ⟨o, ho, hc, hd⟩ := M.at_ (a := it) (P := LIt a vs.length) (.head _)
    obtain ⟨xs, n, hl, e, hsz⟩ := lst_at M (List.mem_cons_of_mem _ hn)
    exact wpAny_pyNext_list_end hh ⟨o, ho, hc, hd⟩ hl.isList (Array.getElem?_eq_none (by omega)) fun h' hx => ⟨l, M.extBut hx hn _, rfl, rfl⟩⟩
theorem T_iter_list {a : Addr} {vs : List Value} {Q : Value → Led → Prop} (hm : (a, Lst vs) ∈ l) (h : ∀ it, Q (.ref it) ((it, LIt a 0) :: l)) : TT G A (pyIter (.ref a)) Q E l :=
  ⟨fun s M => by
    obtain ⟨xs, n, hl, e, hsz⟩ := lst_at M hm
    exact wpAny_pyIter_list hl.isList ⟨_, M.push (P := LIt a 0) ⟨rfl, rfl⟩ rfl _, h _⟩⟩
/-- a loop over a list: what holds of the ledger between the turns -/
theorem Loop.list {a it : Addr} {vs : List Value} {target : Expr} {body : List Stmt} {Q : Flow → Led → Prop} (Inv : Nat → Led → Prop) (hh : A.handled = none) (h0 : Inv 0 l) (hn : ∀ i l, Inv i l → (a, Lst vs) ∈ l)
    (turn : ∀ i l c, vs[i]? = some c → Inv i l → Any c fun v => TT G A (assign target env v) (fun _ l₂ => TT G A (execs body env) (LoopEnd Q [(it, LIt a (i + 1))] (Inv (i + 1))) Ef l₂) Ef ((it, LIt a (i + 1)) :: l))
    (done : ∀ l, Inv vs.length l → Q .next l) (ht : ∀ v, letOwnedTupleGo target (.ref it) v = pure () := by intro _; rfl) : Loop G A target env body Q (.ref it) ((it, LIt a 0) :: l) :=
  ⟨it, listIter it a vs, Inv, l, rfl, listIter_ok hh ht, Le.refl _, h0, hn, fun i l hi hI c hc => turn i l c hc hI, done⟩
end
end
section
noncomputable abbrev ck (kvs : List (Int × Value)) : List (Int × Value) := kvs.map fun p => (p.1, cv p.2)
/-- a dict with int keys, at this epoch -/
noncomputable def DctE (w : World) (d : Addr) (kvs : List (Int × Value)) (ep : Nat) (o : Obj) : Prop :=
  (d == sysModules) = false ∧ ∃ es kvs', o.ExactDict ∧ o.data = .dict es ep ∧ KeysOf (intKind prg w) es ∧ Pairs (intKind prg w) es.toList kvs' ∧ (kvs'.map (·.1)).Nodup ∧ ck kvs' = kvs
noncomputable def Dct (w : World) (d : Addr) (kvs : List (Int × Value)) (o : Obj) : Prop := ∃ ep, DctE w d kvs ep o
theorem ck_len (k : List (Int × Value)) : (ck k).length = k.length := by simp [ck]
theorem ck_find (k : Int) (kvs : List (Int × Value)) : valueAt (ck kvs) k = (valueAt kvs k).map cv := by
  unfold valueAt
  induction kvs with
  | nil => rfl
  | cons p r ih =>
    rw [ck, List.map_cons, List.find?_cons, List.find?_cons]
    by_cases h : p.1 = k
    · simp [h]
    · simp only [h, decide_false]; exact ih
theorem ck_stored (k : Int) (v : Value) (kvs : List (Int × Value)) : ck (stored kvs k v) = stored (ck kvs) k (cv v) := by
  unfold stored
  have e : (ck kvs).any (fun kv => decide (kv.1 = k)) = kvs.any (fun kv => decide (kv.1 = k)) := by simp [ck, List.any_map, Function.comp_def]
  rw [e]
  split
  · simp only [ck, List.map_map]
    apply List.map_congr_left
    intro p _
    by_cases h : p.1 = k <;> simp [h]
  · simp [ck]
theorem ck_without (k : Int) (kvs : List (Int × Value)) : ck (without kvs k) = without (ck kvs) k := by
  unfold without ck
  rw [List.filter_map]
  rfl

section
variable {G : Gd} {A : Around} {E : Value → Led → Prop} {l l' : Led} {env : Env} {pos : Pos} {d : Addr} {kvs : List (Int × Value)} {k : Int} {t : Tok} {c : Value}

theorem Mod.big {s : Shared} (M : Mod G l s) : 247 < s.heap.objs.size := by
  have h : ((KK G.w).lookup 247).isSome = true := by kernel_rfl
  obtain ⟨o, ho⟩ := Option.isSome_iff_exists.mp h
  exact Heap.lt_size (M.X _ _ ho)
theorem Mod.newDict {s : Shared} (M : Mod G l s) : (s.heap.objs.size == sysModules) = false := by
  have := M.big
  have h1 : s.heap.objs.size ≠ sysModules := fun e => by
    have e1 : s.heap.objs.size = 1 := e
    omega
  simpa using h1
theorem dct_at {s : Shared} (M : Mod G l s) (h : (d, Dct G.w d kvs) ∈ l) : ∃ kvs', s.heap.DictOf (intKind prg G.w) d kvs' ∧ ck kvs' = kvs ∧ (d == sysModules) = false := by
  obtain ⟨o, ho, ep, a0, es, kvs', a1, a2, a3, a4, a5, e⟩ := M.at_ h
  exact ⟨kvs', ⟨o, es, ep, ho, a1, a2, a3, a4, a5⟩, e, a0⟩
theorem dct_of {h : Heap} {w : World} {kvs' : List (Int × Value)} (x : h.DictOf (intKind prg w) d kvs') (e : ck kvs' = kvs) (a0 : (d == sysModules) = false) : ∃ o, h.get? d = some o ∧ Dct w d kvs o := by
  obtain ⟨o, es, ep, ho, a1, a2, a3, a4, a5⟩ := x
  exact ⟨o, ho, ep, a0, es, kvs', a1, a2, a3, a4, a5, e⟩

theorem T_dnew {Q : Value → Led → Prop} (h : ∀ a, Q (.ref a) ((a, Dct G.w a []) :: l)) : TT G A (eval (.Dict [] [] pos) env) Q E l :=
  ⟨fun s M => by
    have hp : Dct G.w s.heap.objs.size [] { cls := .type "dict", data := .dict #[] } := ⟨0, M.newDict, #[], [], ⟨rfl, rfl, rfl⟩, rfl, fun e he => absurd he (by simp), .nil, List.nodup_nil, rfl⟩
    exact wpAny_Dict_empty ⟨_, M.push hp rfl _, h _⟩⟩
theorem T_dget {Q : Value → Led → Prop} (hm : (d, Dct G.w d kvs) ∈ l) (h : match valueAt kvs k with | some c => Any c fun v => Q v l | none => Q .none l) : TT G A (call (.builtin "dict.get") [.ref d, .int k t]) Q E l :=
  ⟨fun s M => by
    obtain ⟨kvs', hd, e, a0⟩ := dct_at M hm
    have hf : Q ((valueAt kvs' k).getD .none) l := by
      rw [← e, ck_find] at h
      cases q : valueAt kvs' k with
      | none => rw [q] at h; exact h
      | some v => rw [q] at h; exact any_cv h
    exact call_meetsIn F.slot_dict_get hd.typeIs F.entry_dict_get (F.args_dict_get_2 _ _) (meets_dict_get (intKind prg G.w) d (intKind_is _ _ _ _) a0) ⟨_, hd.mapOf, l, M.toks _, hf⟩⟩
theorem T_ditem {value slice : Expr} {Q : Value → Led → Prop} (hm : (d, Dct G.w d kvs) ∈ l) (hv : valueAt kvs k = some c) (h : Any c fun v => Q v l)
    (hs : subscripted slice false (.ref d) (.int k t) = operate [.ref d, .int k t] (getItem (.ref d) (.int k t)) := by with_unfolding_all rfl) : TT G A (subscriptTail value slice (.ref d) (.int k t)) Q E l :=
  ⟨fun s M => by
    obtain ⟨kvs', hd, e, a0⟩ := dct_at M hm
    rw [← e, ck_find] at hv
    obtain ⟨v, hv', hc⟩ := Option.map_eq_some_iff.mp hv
    exact tail_any hd.typeIs slot_dict_getitem.lookup (wpAny_getItem_of (intKind_is _ _ _ _) hd.mapOf hv' ⟨l, M.toks _, any_of_cv hc h⟩) hs⟩
theorem T_din {Q : Value → Led → Prop} (hm : (d, Dct G.w d kvs) ∈ l) (h : Q (.bool (valueAt kvs k).isSome) l) : TT G A (compareOp .In (.int k t) (.ref d)) Q E l :=
  ⟨fun s M => by
    obtain ⟨kvs', hd, e, a0⟩ := dct_at M hm
    have hf : Q (.bool (valueAt kvs' k).isSome) l := by
      rw [← e, ck_find, Option.isSome_map] at h; exact h
    exact wpAny_in_of (intKind_is _ _ _ _) a0 hd.mapOf ⟨l, M.toks _, hf⟩⟩
theorem T_dset {v : Value} {Q : Unit → Led → Prop} (hr : Rep d (Dct G.w d kvs) (Dct G.w d (stored kvs k c)) l l') (hv : CV v c) (hz : kvs.length ≤ sizeLine) (h : Q () l') : TT G A (setItem (.ref d) (.int k t) v) Q E l :=
  ⟨fun s M => by
    obtain ⟨kvs', hd, e, a0⟩ := dct_at M hr.mem
    refine wpAny_setItem_pairs (intKind_is _ _ _ _) hd (fun h' hm' hs' => ⟨l', M.upd hr hs' (dct_of hm' ?_ a0) _, h⟩) (by rw [← ck_len, e]; exact hz)
    rw [ck_stored, e, hv.eq]⟩
theorem T_ddel {Q : Unit → Led → Prop} (hr : Rep d (Dct G.w d kvs) (Dct G.w d (without kvs k)) l l') (hv : (valueAt kvs k).isSome = true) (hz : kvs.length ≤ sizeLine) (h : Q () l') : TT G A (delItem (.ref d) (.int k t)) Q E l :=
  ⟨fun s M => by
    obtain ⟨kvs', hd, e, a0⟩ := dct_at M hr.mem
    have hv' : (valueAt kvs' k).isSome = true := by rw [← e, ck_find, Option.isSome_map] at hv; exact hv
    unfold delItem
    try with_reducible refine wpAny_holding ?_
    refine wpAny_bind (wpAny_sequenceKey hd.typeIs (by decide) ?_)
    refine wpAny_bind (wpAny_callSpecial?_slot (name := Str.ofString "__delitem__") hd.typeIs PySem.F.slot_dict_delitem
      (call_meetsIn PySem.F.slot_dict_delitem hd.typeIs PySem.F.entry_dict_delitem (PySem.F.args_dict_delitem_2 _ _) (meets_dict_delitem_pairs (intKind prg G.w) d (intKind_is _ _ _ _)) ⟨kvs', hd, (by rw [← ck_len, e]; exact hz), hv', fun h' hmm hs => ?_⟩))
    exact wpAny_pure ⟨l', M.upd hr hs (dct_of hmm (by rw [ck_without, e]) a0) _, h⟩⟩
end
end
section
/-- room for k more calls, and no exception is being handled -/
structure Ax (A : Around) (k : Nat) : Prop where
  depth : A.depth + k < recursionLimit
  units : A.units + 10 * k < cLine
  hd : A.handled = none
theorem Ax.deeper {A : Around} {k : Nat} {env : Env} (h : Ax A (k + 1)) : Ax (A.deeper env) k :=
  ⟨by show A.depth + 1 + k < _; have := h.depth; omega, by show A.units + 3 + 10 * k < _; have := h.units; omega, h.hd⟩
theorem Ax.le {A : Around} {k m : Nat} (h : Ax A k) (e : m ≤ k) : Ax A m := ⟨by have := h.depth; omega, by have := h.units; omega, h.hd⟩
theorem Ax.make {A : Around} {k : Nat} {C : Addr} {pos : List Value} {kw : List (Str × Value)} (h : Ax A (k + 1)) : Ax (A.under (.builtin "type.__call__" ⟨.ref C :: pos, kw⟩)) k :=
  ⟨by show A.depth + 1 + k < _; have := h.depth; omega, by
    have e : (A.under (.builtin "type.__call__" ⟨.ref C :: pos, kw⟩)).units = A.units + 1 := rfl
    rw [e]; have := h.units; omega, h.hd⟩
theorem Ax.room {A : Around} {k : Nat} (h : Ax A (k + 1)) : A.depth < recursionLimit := by have := h.depth; omega
theorem Ax.unit {A : Around} {k : Nat} (h : Ax A k) : A.units < cLine := by have := h.units; omega

section
variable {G : Gd} {A : Around} {E : Value → Led → Prop} {l l' : Led} {env : Env} {pos : Pos}
/-- a class of the text is called: the new object, then its __init__ -/
theorem C_make {C fI : Addr} {args : List Value} {Q : Value → Led → Prop} (hm : makesIn (KK G.w) C = true) (hi : findIn (KK G.w) (.ref C) "__init__" = some (some (.ref fI))) (hf : isFn (KK G.w) (.ref fI) = true)
    (h : ∀ x d, CT G (A.under (.builtin "type.__call__" ⟨.ref C :: args, []⟩)) (.call (.ref fI) ⟨.ref x :: args, []⟩) (fun r l' => ∃ v, r = .ok (.ret v) ∧ v = .none ∧ Q (.ref x) l') ((x, Inst C d) :: (d, AD []) :: l)) :
    CT G A (.call (.ref C) ⟨args, []⟩) (fun r l' => ∃ v, r = .ok (.ret v) ∧ Q v l') l :=
  ⟨fun s M => by
    obtain ⟨hh, g, dr, t, os⟩ := s
    have hty : typeIn (KK G.w) (.ref fI) = some (.type "function") := beq_iff_eq.mp hf
    refine make_core (makes_of M.X hm) (looks_findIn M.X hi) (fun self => bind_fn M.X self hty) (.inl rfl) ?_
    have M1 := M.push (o := emptyDict) (P := AD []) ⟨[], 0, rfl, .nil⟩ rfl t
    have M2 := M1.push (o := instObj C hh.objs.size) (P := Inst C hh.objs.size) rfl rfl t
    have hsz : (hh.push emptyDict).objs.size = hh.objs.size + 1 := Heap.size_push _ _
    simp only [hsz] at M2
    refine codeAny_mono ((h (hh.objs.size + 1) hh.objs.size).go _ M2) fun r s' q => ?_
    obtain ⟨l', m, v, rfl, rfl, q⟩ := q
    exact ⟨rfl, l', m, _, rfl, q⟩⟩

-- _NodeInfo
noncomputable def NodeS (sl : List (Option Value)) (d : Addr) (o : Obj) : Prop := ∃ arr : Array (Option Value), o = { cls := .ref 84, dict := some d, data := .plain, slots := arr } ∧ arr.toList.map (Option.map cv) = sl
noncomputable def Node (p np : Int) (sa d : Addr) : Obj → Prop := NodeS [some (.int p 0), some (.int np 0), some (.ref sa)] d
theorem pg84 {w : World} {n : Str} : plainGet (KK w) 84 n = true := by kernel_rfl
theorem cl84 {w : World} : isClsIn (KK w) 84 = true := by kernel_rfl
theorem po84 {w : World} : plainOver (KK w) 84 = true := by kernel_rfl
theorem sa84 {w : World} : findIn (KK w) (.ref 84) "__setattr__" = some (some (.builtin "object.__setattr__")) := by kernel_rfl
theorem inst84 {s : Shared} {x d : Addr} {sl : List (Option Value)} {kvs : List (Str × Value)} (M : Mod G l s) (h1 : (x, NodeS sl d) ∈ l) (h2 : (d, AD kvs) ∈ l) :
    ∃ ox es n, W.InstAt s.heap x ox 84 (some (dictOf es n)) ∧ ox.slots.toList.map (Option.map cv) = sl := by
  obtain ⟨o, ho, arr, rfl, e⟩ := M.at_ h1
  obtain ⟨o', ho', es, n, rfl, hf⟩ := M.at_ h2
  exact ⟨_, es, n, ⟨ho, rfl, rfl, ho'⟩, e⟩
structure SlotOf (w : World) (name : Str) (p i : Nat) : Prop where
  ha : findIn (KK w) (.ref 84) name = some (some (.ref p))
  hn : specialIn (KK w) (.ref p) "__get__" = some (some (.builtin "member_descriptor.__get__"))
  ht : takesIn (KK w) (.ref p) = some true
  hp : slotIn (KK w) p 84 = some i
  hk : takerIn (KK w) 84 name = some (some (.ref p))
  hT : typeIn (KK w) (.ref p) = some (.type "member_descriptor")
theorem sl_node {w : World} : SlotOf w (Str.ofString "node") 85 0 := ⟨by kernel_rfl, by kernel_rfl, by kernel_rfl, by kernel_rfl, by kernel_rfl, by kernel_rfl⟩
theorem sl_np {w : World} : SlotOf w (Str.ofString "npredecessors") 86 1 := ⟨by kernel_rfl, by kernel_rfl, by kernel_rfl, by kernel_rfl, by kernel_rfl, by kernel_rfl⟩
theorem sl_succ {w : World} : SlotOf w (Str.ofString "successors") 87 2 := ⟨by kernel_rfl, by kernel_rfl, by kernel_rfl, by kernel_rfl, by kernel_rfl, by kernel_rfl⟩
theorem T_getslot {x d : Addr} {name : Str} {p i : Nat} {sl : List (Option Value)} {kvs : List (Str × Value)} {c : Value} {expr : Bool} {Q : Value → Led → Prop} (S : SlotOf G.w name p i) (h1 : (x, NodeS sl d) ∈ l) (h2 : (d, AD kvs) ∈ l)
    (hv : sl[i]? = some (some c)) (hc : handedIn c = true) (h : Any c fun v => Q v l) : TT G A (getAttr (.ref x) name expr) Q E l :=
  ⟨fun s M => by
    obtain ⟨ox, es, n, I, e⟩ := inst84 M h1 h2
    rw [← e, List.getElem?_map] at hv
    obtain ⟨ov, ho, hov⟩ := Option.map_eq_some_iff.mp hv
    cases ov with
    | none => cases hov
    | some v =>
      have hcv : cv v = c := Option.some.inj hov
      have hj : (ox.slots[i]?).join = some v := by rw [← Array.getElem?_toList, ho]; rfl
      have hfo : findObj (KK G.w) 84 (some (dictOf es n)) name = some (.bind (.builtin "member_descriptor.__get__") (.ref p)) := findObj_data cl84 S.ha S.hn S.ht
      have hq := any_of_cv hcv h
      exact get_bind M.X I (plainGet_of pg84 (name := name)).1 hfo (plainGet_of pg84 (name := name)).2 (wpAny_call (slot_get (s := { s with toks := s.toks + 1 }) M.X I S.hp hj (handed_on (handed_cv hcv hc) ⟨l, M.toks _, hq⟩)))⟩
noncomputable def setS (i : Nat) (c : Value) (sl : List (Option Value)) : List (Option Value) := (sl ++ List.replicate (i + 1 - sl.length) none).set i (some c)
theorem T_setslot {x d L : Addr} {name : Str} {p i : Nat} {sl : List (Option Value)} {kvs : List (Str × Value)} {v c : Value} {ns : List Str} {vs : List (Option Value)} {Q : Unit → Led → Prop} (S : SlotOf G.w name p i) (hL : (L, IsNs ns vs) ∈ l)
    (hr : Rep x (NodeS sl d) (NodeS (setS i c sl) d) l l') (h2 : (d, AD kvs) ∈ l) (hv : CV v c) (hi : i < 1000) (h : Q () l') : TT G A (setAttr (.ref x) name v) Q E l :=
  ⟨fun s M => by
    have hne : x ≠ L := fun e => by
      obtain ⟨o, ho, arr, rfl, _⟩ := M.at_ hr.mem
      obtain ⟨o', ho', es, ep, hd, _⟩ := M.at_ hL
      rw [e, ho'] at ho
      cases ho
      cases hd
    obtain ⟨m, pre, o, post, F, N, hP, a1, a2, ho, back⟩ := M.bridge hL hr hne
    obtain ⟨arr, rfl, e⟩ := hP
    obtain ⟨od, hod, es, n, rfl, hf⟩ := M.at_ h2
    have I : W.InstAt s.heap x { cls := .ref 84, dict := some d, data := .plain, slots := arr } 84 (some (dictOf es n)) := ⟨ho, rfl, rfl, hod⟩
    refine set_plain M.X I sa84 (osa_descr (s := { s with toks := s.toks + 1 }) KF.slot_mset M.X I po84 S.hk S.hT (slot_set (s := { s with toks := s.toks + 1 }) F N M.X I S.hp hi a1 a2 rfl rfl fun h' F' N' => ?_))
    refine ⟨l', (back h' _ _ ⟨_, rfl, ?_⟩ F' N' (by first | exact Nat.le_add_right _ _ | (dsimp only; omega))), h⟩
    rw [setS, ← e]
    simp [hv.eq]⟩
end
end
section
section
variable {G : Gd} {A : Around} {E : Value → Led → Prop} {l l' : Led} {env : Env} {pos : Pos} {a : Addr} {vs : List Value} {pl : Sem Bool}

theorem T_gm {P : Obj → Prop} {T : String} {name : Str} {id : String} {Q : Value × List Value → Led → Prop} (pa : PlainAttrs T) (slot : Slot T name id) (ty : typeOf (.builtin id) = pure (.type "method_descriptor"))
    (hP : ∀ o, P o → o.cls = .type T ∧ o.dict = none) (hm : (a, P) ∈ l) (h : Q (.builtin id, [.ref a]) l) : TT G A (getMethod (.ref a) name pl) Q E l :=
  ⟨fun s M => by
    obtain ⟨o, ho, hp⟩ := M.at_ hm
    exact getMethod_builtin ⟨o, ho, (hP o hp).1⟩ pa slot ty (fun b e => by cases e; exact ⟨o, ho, (hP o hp).2⟩) ⟨l, M, h⟩⟩
theorem lst_cls : ∀ o, Lst vs o → o.cls = .type "list" ∧ o.dict = none := by rintro o ⟨xs, n, rfl, _⟩; exact ⟨rfl, rfl⟩
theorem dct_cls {w : World} {d : Addr} {kvs : List (Int × Value)} : ∀ o, Dct w d kvs o → o.cls = .type "dict" ∧ o.dict = none := by rintro o ⟨ep, _, es, kvs', a1, _⟩; exact ⟨a1.1, a1.2.1⟩
theorem gm_append {Q : Value × List Value → Led → Prop} (hm : (a, Lst vs) ∈ l) (h : Q (.builtin "list.append", [.ref a]) l) : TT G A (getMethod (.ref a) (Str.ofString "append") pl) Q E l :=
  T_gm F.plainAttrs_list F.slot_list_append F.type_list_append lst_cls hm h
theorem gm_pop {Q : Value × List Value → Led → Prop} (hm : (a, Lst vs) ∈ l) (h : Q (.builtin "list.pop", [.ref a]) l) : TT G A (getMethod (.ref a) (Str.ofString "pop") pl) Q E l :=
  T_gm F.plainAttrs_list F.slot_list_pop F.type_list_pop lst_cls hm h
theorem gm_clear {Q : Value × List Value → Led → Prop} (hm : (a, Lst vs) ∈ l) (h : Q (.builtin "list.clear", [.ref a]) l) : TT G A (getMethod (.ref a) (Str.ofString "clear") pl) Q E l :=
  T_gm F.plainAttrs_list F.slot_list_clear F.type_list_clear lst_cls hm h
theorem gm_get {kvs : List (Int × Value)} {Q : Value × List Value → Led → Prop} (hm : (a, Dct G.w a kvs) ∈ l) (h : Q (.builtin "dict.get", [.ref a]) l) : TT G A (getMethod (.ref a) (Str.ofString "get") pl) Q E l :=
  T_gm F.plainAttrs_dict F.slot_dict_get F.type_dict_get dct_cls hm h
theorem gm_items {kvs : List (Int × Value)} {Q : Value × List Value → Led → Prop} (hm : (a, Dct G.w a kvs) ∈ l) (h : Q (.builtin "dict.items", [.ref a]) l) : TT G A (getMethod (.ref a) (Str.ofString "items") pl) Q E l :=
  T_gm F.plainAttrs_dict F.slot_dict_items F.type_dict_items dct_cls hm h
theorem gm_values {kvs : List (Int × Value)} {Q : Value × List Value → Led → Prop} (hm : (a, Dct G.w a kvs) ∈ l) (h : Q (.builtin "dict.values", [.ref a]) l) : TT G A (getMethod (.ref a) (Str.ofString "values") pl) Q E l :=
  T_gm F.plainAttrs_dict F.slot_dict_values F.type_dict_values dct_cls hm h

theorem T_pop {c : Value} {Q : Value → Led → Prop} (hr : Rep a (Lst (vs ++ [c])) (Lst vs) l l') (hz : vs.length < sizeLine) (h : Any c fun v => Q v l') : TT G A (call (.builtin "list.pop") [.ref a]) Q E l :=
  ⟨fun s M => by
    obtain ⟨xs, n, hl, e, hn⟩ := lst_at M hr.mem
    have hsz : xs.size = vs.length + 1 := by rw [hn, List.length_append, List.length_singleton]
    have hlt : xs.size - 1 < xs.size := by omega
    have hx : xs[xs.size - 1]? = some xs[xs.size - 1] := Array.getElem?_eq_getElem hlt
    have hc : cv xs[xs.size - 1] = c := by
      have h1 : (xs.toList.map cv)[xs.size - 1]? = some (cv xs[xs.size - 1]) := by rw [List.getElem?_map, Array.getElem?_toList, hx]; rfl
      generalize xs[xs.size - 1] = y at h1 ⊢
      rw [e, hsz] at h1
      simpa using h1.symm
    have M' := M.update (f := Obj.mapSeq fun xs' => xs'.eraseIdxIfInBounds (xs.size - 1)) hr (fun o ho => by
      obtain ⟨ys, n', rfl, e'⟩ := ho
      have hys : ys.size = xs.size := by
        have := congrArg List.length e'
        simp at this
        omega
      refine ⟨⟨ys.eraseIdxIfInBounds (xs.size - 1), _, rfl, ?_⟩, rfl⟩
      rw [Array.eraseIdxIfInBounds, dif_pos (by omega), Array.toList_eraseIdx, ← hys]
      have : ys.toList.eraseIdx (ys.size - 1) = ys.toList.dropLast := by
        rw [← Array.length_toList, List.eraseIdx_length_sub_one]
      rw [this, List.map_dropLast, e', List.dropLast_concat]) s.toks
    exact call_meets F.slot_list_pop ⟨_, hl, rfl⟩ F.entry_list_pop (F.args_list_pop_1 _) (MeetsSeq.list_pop_last a xs n _ hx (by omega)) ⟨hl, ⟨l', M', any_of_cv hc h⟩⟩⟩
theorem T_clear {Q : Value → Led → Prop} (hr : Rep a (Lst vs) (Lst []) l l') (hz : vs.length ≤ sizeLine) (h : Q .none l') : TT G A (call (.builtin "list.clear") [.ref a]) Q E l :=
  ⟨fun s M => by
    obtain ⟨xs, n, hl, e, hn⟩ := lst_at M hr.mem
    have M' := M.update (f := Obj.mapSeq fun _ => #[]) hr (fun o ho => by
      obtain ⟨ys, n', rfl, e'⟩ := ho
      exact ⟨⟨#[], _, rfl, rfl⟩, rfl⟩) s.toks
    exact call_meets F.slot_list_clear ⟨_, hl, rfl⟩ F.entry_list_clear (F.args_list_clear_1 _) (AutoSeq1.list_clear_list_0 a xs n (by omega)) ⟨hl, ⟨l', M', h⟩⟩⟩

theorem T_Assign2 {t₁ t₂ value : Expr} {Q : Flow → Led → Prop}
    (h : TT G A (eval value env) (fun v l₁ => TT G A (assign t₁ env v) (fun _ l₂ => TT G A (assign t₂ env v) (fun _ => Q .next) E l₂) E l₁) E l)
    (he : (assignEach [t₁, t₂] env).map (·.2) = [assign t₁ env, assign t₂ env] := by rfl) (hw : swappedStores [t₁, t₂] value env = pure none := by rfl) : TT G A (exec (.Assign [t₁, t₂] value pos) env) Q E l :=
  ⟨fun s M => by with_reducible exact wpAny_Assign_two (h.k M fun _ _ _ m q => q.k m fun _ s' _ m q => q.go s' m) he hw⟩
theorem T_assignSub {o i : Expr} {v : Value} {Q : Unit → Led → Prop} (h : TT G A (eval o env) (fun ov l₁ => TT G A (eval i env) (fun iv l₂ => TT G A (setItem ov iv v) Q E l₂) E l₁) E l) : TT G A (assign (.Subscript o i pos) env v) Q E l :=
  ⟨fun s M => by
    rw [arm_assign_Subscript]
    with_reducible exact wpAny_bind (wpAny_holding (h.k M fun _ _ _ m q => wpAny_bind (wpAny_holding (q.k m fun _ s' _ m q => wpAny_bind (wpAny_standAt (wpAny_bind (wpAny_holding (wpAny_mono (q.go s' m) (fun _ _ x => wpAny_release x) fun _ _ x => x))))))))⟩
end
end
section
section
variable {G : Gd} {A : Around} {E : Value → Led → Prop} {l : Led}
theorem C_defV {f : Addr} {fd : FuncData} {body : List Stmt} {args more : List Value} {binds : List (Str × Value)} {vn : Str} {oc : Value} {od : Option Addr} {osl : Array (Option Value)} (rest : List Str) {ns : List Str} (vs : Addr → List (Option Value)) {Q : Value → Led → Prop}
    (hroom : A.depth < recursionLimit) (ho : (KK G.w).lookup f = some ⟨oc, od, .func fd, osl⟩) (hb : fd.body = .stmts body)
    (hbind : bindArgs fd ⟨args, []⟩ = (newTuple more >>= fun t => pure (binds ++ [(vn, t)]))) (hns : (binds.map (·.1) ++ [vn]) ++ rest = ns) (hvs : ∀ t, binds.map (fun b => some (cv b.2)) ++ [some (.ref t)] ++ List.replicate rest.length none = vs t)
    (hok : (codeIn (KK G.w) fd.code fd.qualname && (ns.all fun x => fd.scope.names.lookup x == some .local && !(x == ("__debug__" : Str))) && (fd.scope.names.all fun x => decide (x.2 ≠ .cell)) && decide ns.Nodup) = true)
    (hsc : fd.scope.isCoroutine = false ∧ fd.scope.isGenerator = false ∧ fd.scope.kind = .function ∧ fd.globals = mainGlobals ∧ fd.builtins = builtinsNs) (hz : more.length ≤ sizeLine)
    (h : ∀ L t, Lay (callEnv fd L f) L ns → TT G (A.deeper (callEnv fd L f)) (execs body (callEnv fd L f)) (fun fl l' => ∃ l'', Le l' l'' ∧ Q (retv fl) l'') Ef ((L, IsNs ns (vs t)) :: (t, Tup (more.map cv)) :: l)) :
    CT G A (.call (.ref f) ⟨args, []⟩) (fun r l' => ∃ v, r = .ok (.ret v) ∧ Q v l') l :=
  ⟨fun s M => by
    simp only [Bool.and_eq_true, decide_eq_true_eq] at hok
    obtain ⟨⟨⟨hcd, hnames⟩, hcell⟩, hnd⟩ := hok
    refine codeAny_call_function hroom (M.X _ _ ho) rfl hsc.1 hsc.2.1 hb (codeRec_of M.X hcd) ?_
    rw [hbind]
    have Mt := M.push (o := { cls := .type "tuple", data := .seq more.toArray }) (P := Tup (more.map cv)) (Tup.new more) rfl s.toks
    refine wpAny_bind (wpAny_newObj_type (wpAny_pure ?_) (by show more.toArray.size ≤ sizeLine; rw [List.size_toArray]; exact hz))
    have hbn : ∀ x ∈ binds ++ [(vn, Value.ref s.heap.objs.size)], fd.scope.names.lookup x.1 = some .local := fun x hx => by
      have hmem : x.1 ∈ ns := by
        rw [← hns]
        refine List.mem_append_left _ ?_
        have := List.mem_map_of_mem (f := (·.1)) hx
        simpa using this
      have := List.all_eq_true.mp hnames x.1 hmem
      simp only [Bool.and_eq_true, beq_iff_eq] at this
      exact this.1
    refine wpAny_newFunctionEnv (fun x hx => of_decide_eq_true (List.all_eq_true.mp hcell x hx)) hbn (fun h₁ hns₁ hsb => ?_) hsc.2.2.1
    have hk : ∀ b o, (s.heap.push { cls := .type "tuple", data := .seq more.toArray }).get? b = some o → h₁.get? b = some o := fun b o e =>
      hsb.extBut b o (Nat.ne_of_lt (Heap.lt_size e)) (Heap.get?_push_of_some _ e)
    have M₁ : Mod G (((s.heap.push { cls := .type "tuple", data := .seq more.toArray }).objs.size, IsNs ns (vs s.heap.objs.size)) :: (s.heap.objs.size, Tup (more.map cv)) :: l) { s with heap := h₁, toks := s.toks + (binds ++ [(vn, Value.ref s.heap.objs.size)]).length } := by
      refine ⟨M.ok, fun b o e => hk b o (Mt.keep b o e), fun p hp => ?_, ?_, M.gens, M.os, Nat.le_trans M.tok (by first | exact Nat.le_add_right _ _ | (dsimp only; omega))⟩
      · rcases List.mem_cons.mp hp with rfl | hp
        · obtain ⟨o, a, b⟩ := isNs_of (ns := ns) (vs := vs s.heap.objs.size) hns₁ (binds_at (rest := rest) (by rw [← hns]; simp) (by rw [← hvs]; simp [cv]) hnd)
          exact ⟨o, a, b, Mt.above (Nat.le_refl _)⟩
        · obtain ⟨o, a, b, c⟩ := Mt.led p hp
          exact ⟨o, hk _ _ a, b, c⟩
      · refine List.nodup_cons.mpr ⟨fun q => ?_, Mt.nd⟩
        obtain ⟨p, hp, e⟩ := List.mem_map.mp q
        obtain ⟨o, a, _⟩ := Mt.led p hp
        have := Heap.lt_size a
        rw [show p.1 = _ from e] at this
        exact Nat.lt_irrefl _ this
    refine ⟨M₁.T.nolimit, codeAny_func ?_⟩
    have F : Lay (callEnv fd (s.heap.push { cls := .type "tuple", data := .seq more.toArray }).objs.size f) _ ns := ⟨hsc.2.2.1, rfl, hsc.2.2.2.1, hsc.2.2.2.2, hnames, hnd⟩
    refine wpAny_mono ((h _ s.heap.objs.size F).go _ M₁) (fun fl s' hq => ?_) fun e s' hq => ?_
    · obtain ⟨l', m, l'', le, q⟩ := hq
      cases fl <;> exact ⟨l'', m.le le, _, rfl, q⟩
    · obtain ⟨_, _, hf⟩ := hq
      exact hf.elim⟩
end
end
section
section
variable {G : Gd} {A : Around} {E : Value → Led → Prop} {l l' : Led} {env : Env} {pos : Pos} {a : Addr} {vs : List Value}
-- tuples
theorem tup_at {s : Shared} (M : Mod G l s) (h : (a, Tup vs) ∈ l) : ∃ xs, s.heap.IsTuple a xs ∧ xs.toList.map cv = vs ∧ xs.size = vs.length := by
  obtain ⟨o, ho, xs, n, rfl, e⟩ := M.at_ h
  exact ⟨xs, ⟨_, ho, rfl, n, rfl⟩, e, by rw [← e]; simp⟩
noncomputable def TIt (a : Addr) (i : Nat) (o : Obj) : Prop := o.cls = .type "tuple_iterator" ∧ o.data = .fields #[.ref a, .int i 0]
noncomputable def tupIter (it a : Addr) (vs : List Value) : Iter where
  n := vs.length
  seg := fun i => [(it, TIt a i)]
  need := fun l => (a, Tup vs) ∈ l
  item := fun i K l => ∀ c, vs[i]? = some c → Any c fun v => K v l
theorem tupIter_ok {it : Addr} {target : Expr} (hh : A.handled = none) (ht : ∀ v, letOwnedTupleGo target (.ref it) v = pure () := by intro _; rfl) : (tupIter it a vs).Ok G A target it where
  next i l K hi hn hK := ⟨fun s M => by
    obtain ⟨o, ho, hc, hd⟩ := M.at_ (a := it) (P := TIt a i) (.head _)
    obtain ⟨xs, hl, e, hsz⟩ := tup_at M (List.mem_cons_of_mem _ hn)
    have hlt : i < xs.size := by rw [hsz]; exact hi
    have hx : xs[i]? = some xs[i] := Array.getElem?_eq_getElem hlt
    have hv : vs[i]? = some (cv xs[i]) := by rw [← e, List.getElem?_map, Array.getElem?_toList, hx]; rfl
    refine wpAny_pyNext_tuple_item ⟨o, ho, hc, hd⟩ hl hx fun h' hit hs => ⟨(it, TIt a (i + 1)) :: l, ?_, _, rfl, ?_⟩
    · obtain ⟨o', ho', hc', hd'⟩ := hit
      exact M.upd (P' := TIt a (i + 1)) .head hs ⟨o', ho', hc', hd'⟩ _
    · rw [ht]; exact TT.pure ⟨l, rfl, any_cv (hK _ hv)⟩⟩
  stop l hn := ⟨fun s M => by
    obtain ⟨o, ho, hc, hd⟩ := M.at_ (a := it) (P := TIt a vs.length) (.head _)
    obtain ⟨xs, hl, e, hsz⟩ := tup_at M (List.mem_cons_of_mem _ hn)
    exact wpAny_pyNext_tuple_end hh ⟨o, ho, hc, hd⟩ hl (Array.getElem?_eq_none (by omega)) fun h' hx => ⟨l, M.extBut hx hn _, rfl, rfl⟩⟩
theorem T_iter_tup {Q : Value → Led → Prop} (hm : (a, Tup vs) ∈ l) (h : ∀ it, Q (.ref it) ((it, TIt a 0) :: l)) : TT G A (pyIter (.ref a)) Q E l :=
  ⟨fun s M => by
    obtain ⟨xs, hl, e, hsz⟩ := tup_at M hm
    exact wpAny_pyIter_tuple hl ⟨_, M.push (P := TIt a 0) ⟨rfl, rfl⟩ rfl _, h _⟩⟩
theorem Loop.tup {it : Addr} {target : Expr} {body : List Stmt} {Q : Flow → Led → Prop} (Inv : Nat → Led → Prop) (hh : A.handled = none) (h0 : Inv 0 l) (hn : ∀ i l, Inv i l → (a, Tup vs) ∈ l)
    (turn : ∀ i l c, vs[i]? = some c → Inv i l → Any c fun v => TT G A (assign target env v) (fun _ l₂ => TT G A (execs body env) (LoopEnd Q [(it, TIt a (i + 1))] (Inv (i + 1))) Ef l₂) Ef ((it, TIt a (i + 1)) :: l))
    (done : ∀ l, Inv vs.length l → Q .next l) (ht : ∀ v, letOwnedTupleGo target (.ref it) v = pure () := by intro _; rfl) : Loop G A target env body Q (.ref it) ((it, TIt a 0) :: l) :=
  ⟨it, tupIter it a vs, Inv, l, rfl, tupIter_ok hh ht, Le.refl _, h0, hn, fun i l hi hI c hc => turn i l c hc hI, done⟩
theorem T_len_tup {Q : Value → Led → Prop} (hm : (a, Tup vs) ∈ l) (hz : vs.length ≤ sizeLine) (h : ∀ t, Q (.int vs.length t) l) : TT G A (call (.builtin "len") [.ref a]) Q E l :=
  ⟨fun s M => by
    obtain ⟨o, ho, xs, n, rfl, e⟩ := M.at_ hm
    have hn : xs.size = vs.length := by rw [← e]; simp
    have hq : ∀ t, Q (.int xs.size t) l := by rw [hn]; exact h
    have hfit : (xs.size : Int) < 2 ^ 63 := by
      have : sizeLine < 2 ^ 63 := by decide
      omega
    exact len_tuple ⟨_, ho, rfl, n, rfl⟩ hfit ⟨l, M.toks _, hq _⟩⟩

-- a dict's keys
noncomputable def KIt (d : Addr) (n ep i : Nat) (o : Obj) : Prop := o.cls = .type "dict_keyiterator" ∧ o.data = .fields #[.ref d, .int i 0, .int n 0, .int ep 0]
theorem T_ep {α : Type} {t : Sem α} {kvs : List (Int × Value)} {Q : α → Led → Prop} (hm : (a, Dct G.w a kvs) ∈ l) (h : ∀ ep l', Rep a (Dct G.w a kvs) (DctE G.w a kvs ep) l l' → TT G A t Q E l') : TT G A t Q E l :=
  ⟨fun s M => by
    obtain ⟨o, ho, ep, hE⟩ := M.at_ hm
    obtain ⟨x, y, rfl⟩ := List.append_of_mem hm
    have R : Rep a (Dct G.w a kvs) (DctE G.w a kvs ep) (x ++ (a, Dct G.w a kvs) :: y) (x ++ (a, DctE G.w a kvs ep) :: y) := Rep.appL x .head
    have M' := M.upd R (Heap.SameBut.refl a s.heap) ⟨o, ho, hE⟩ s.toks
    exact (h ep _ R).go s M'⟩
noncomputable def keyIter (it d : Addr) (w : World) (kvs : List (Int × Value)) (ep : Nat) : Iter where
  n := kvs.length
  seg := fun i => [(it, KIt d kvs.length ep i)]
  need := fun l => (d, DctE w d kvs ep) ∈ l
  item := fun i K l => ∀ k c, kvs[i]? = some (k, c) → ∀ t, K (.int k t) l
theorem dctE_at {s : Shared} {kvs : List (Int × Value)} {ep : Nat} (M : Mod G l s) (h : (a, DctE G.w a kvs ep) ∈ l) : ∃ kvs', s.heap.DictAt (intKind prg G.w) a kvs' ep ∧ ck kvs' = kvs ∧ (a == sysModules) = false := by
  obtain ⟨o, ho, a0, es, kvs', a1, a2, a3, a4, a5, e⟩ := M.at_ h
  exact ⟨kvs', ⟨o, es, ho, a1, a2, a3, a4, a5⟩, e, a0⟩
theorem int_key {w : World} {k : Int} {key : Value} (h : (intKind prg w).is k key = true) : ∃ t, key = .int k t := Value.isInt_shape h
theorem keyIter_ok {it : Addr} {kvs : List (Int × Value)} {ep : Nat} {target : Expr} (hh : A.handled = none) (ht : ∀ v, letOwnedTupleGo target (.ref it) v = pure () := by intro _; rfl) : (keyIter it a G.w kvs ep).Ok G A target it where
  next i l K hi hn hK := ⟨fun s M => by
    obtain ⟨o, ho, hc, hd⟩ := M.at_ (a := it) (P := KIt a kvs.length ep i) (.head _)
    obtain ⟨kvs', hD, e, a0⟩ := dctE_at M (List.mem_cons_of_mem _ hn)
    have hlen : kvs.length = kvs'.length := by rw [← e, ck_len]
    have hlt : i < kvs'.length := by rw [← hlen]; exact hi
    have hx : kvs'[i]? = some (kvs'[i].1, kvs'[i].2) := List.getElem?_eq_getElem hlt
    have hv : kvs[i]? = some (kvs'[i].1, cv kvs'[i].2) := by rw [← e, ck, List.getElem?_map, hx]; rfl
    rw [hlen] at hd
    refine wpAny_pyNext_dict_item ⟨o, ho, hc, hd⟩ hD hx fun key h' hkey hit hs => ⟨(it, KIt a kvs.length ep (i + 1)) :: l, ?_, _, rfl, ?_⟩
    · obtain ⟨o', ho', hc', hd'⟩ := hit
      rw [← hlen] at hd'
      exact M.upd (P' := KIt a kvs.length ep (i + 1)) .head hs ⟨o', ho', hc', hd'⟩ _
    · obtain ⟨t, rfl⟩ := int_key hkey
      rw [ht]; exact TT.pure ⟨l, rfl, hK _ _ hv t⟩⟩
  stop l hn := ⟨fun s M => by
    obtain ⟨o, ho, hc, hd⟩ := M.at_ (a := it) (P := KIt a kvs.length ep kvs.length) (.head _)
    obtain ⟨kvs', hD, e, a0⟩ := dctE_at M (List.mem_cons_of_mem _ hn)
    have hlen : kvs.length = kvs'.length := by rw [← e, ck_len]
    rw [hlen] at hd
    exact wpAny_pyNext_dict_end hh ⟨o, ho, hc, hd⟩ hD (List.getElem?_eq_none (Nat.le_refl _)) fun h' hx => ⟨l, M.extBut hx hn _, rfl, rfl⟩⟩
theorem T_iter_dict {kvs : List (Int × Value)} {ep : Nat} {Q : Value → Led → Prop} (hm : (a, DctE G.w a kvs ep) ∈ l) (h : ∀ it, Q (.ref it) ((it, KIt a kvs.length ep 0) :: l)) : TT G A (pyIter (.ref a)) Q E l :=
  ⟨fun s M => by
    obtain ⟨kvs', hD, e, a0⟩ := dctE_at M hm
    have hlen : kvs.length = kvs'.length := by rw [← e, ck_len]
    exact wpAny_pyIter_dict a0 hD ⟨_, M.push (P := KIt a kvs.length ep 0) ⟨rfl, by rw [hlen]; rfl⟩ rfl _, h _⟩⟩
theorem Loop.keys {it : Addr} {kvs : List (Int × Value)} {ep : Nat} {target : Expr} {body : List Stmt} {Q : Flow → Led → Prop} (Inv : Nat → Led → Prop) (hh : A.handled = none) (h0 : Inv 0 l) (hn : ∀ i l, Inv i l → (a, DctE G.w a kvs ep) ∈ l)
    (turn : ∀ i l k c, kvs[i]? = some (k, c) → Inv i l → ∀ t, TT G A (assign target env (.int k t)) (fun _ l₂ => TT G A (execs body env) (LoopEnd Q [(it, KIt a kvs.length ep (i + 1))] (Inv (i + 1))) Ef l₂) Ef ((it, KIt a kvs.length ep (i + 1)) :: l))
    (done : ∀ l, Inv kvs.length l → Q .next l) (ht : ∀ v, letOwnedTupleGo target (.ref it) v = pure () := by intro _; rfl) : Loop G A target env body Q (.ref it) ((it, KIt a kvs.length ep 0) :: l) :=
  ⟨it, keyIter it a G.w kvs ep, Inv, l, rfl, keyIter_ok hh ht, Le.refl _, h0, hn, fun i l hi hI k c hc t => turn i l k c hc hI t, done⟩
end
end
section
section
variable {G : Gd} {A : Around} {E : Value → Led → Prop} {l l' : Led} {env : Env} {pos : Pos} {a : Addr} {vs : List Value}

theorem Mod.keeps {s : Shared} {h' : Heap} {p : Ent} (M : Mod G l s) (hk : ∀ b o, s.heap.get? b = some o → h'.get? b = some o) (hp : p ∈ l) (tk : Nat) (htk : s.toks ≤ tk := by first | exact Nat.le_refl _ | exact Nat.le_add_right _ _ | omega) : Mod G l { s with heap := h', toks := tk } := by
  refine ⟨M.ok, fun b o e => hk _ _ (M.keep b o e), fun p hp => ?_, M.nd, M.gens, M.os, Nat.le_trans M.tok htk⟩
  obtain ⟨o, i, j, k⟩ := M.led p hp
  exact ⟨o, hk _ _ i, j, k⟩

-- starred arguments
theorem T_star_tup {Q : List Value → Led → Prop} {e : Expr} {p : Pos} {rest : List Expr} (h : TT G A (eval e env) (fun v l₁ => ∃ a vs, v = .ref a ∧ (a, Tup vs) ∈ l₁ ∧ vs.length ≤ sizeLine ∧ ∀ xs, xs.map cv = vs → TT G A (spliced (backTo pos (starEach rest env))) (fun ys l₂ => Q (xs ++ ys) l₂) E l₁) E l)
    (he : starEach (.Starred e p :: rest) env = (true, eval e env) :: starEach rest env := by rfl) : TT G A (spliced (backTo pos (starEach (.Starred e p :: rest) env))) Q E l :=
  ⟨fun s M => by
    refine items_star (h.k M fun v s' l₁ m q => ?_) he
    obtain ⟨a, vs, rfl, hm, hz, q⟩ := q
    obtain ⟨o, ho, xs, n, rfl, e⟩ := m.at_ hm
    have hT : s'.TypeIs (.ref a) "tuple" := ⟨_, ho, rfl⟩
    have hsz : xs.size ≤ sizeLine := by rw [show xs.size = vs.length from by rw [← e]; simp]; exact hz
    unfold StarOf notIterableAtAll
    refine wpAny_bind (wpAny_specialOf hT PySem.F.slot_tuple_iter.lookup (wpAny_pure ⟨rfl, ?_⟩))
    exact wpAny_collect_seq a (.inr rfl) ho rfl rfl (fun h' hk => (q xs.toList e).go _ (m.keeps hk hm s'.toks)) hsz⟩
theorem T_star_list {Q : List Value → Led → Prop} {e : Expr} {p : Pos} {rest : List Expr} (h : TT G A (eval e env) (fun v l₁ => ∃ a vs, v = .ref a ∧ (a, Lst vs) ∈ l₁ ∧ vs.length ≤ sizeLine ∧ ∀ xs, xs.map cv = vs → TT G A (spliced (backTo pos (starEach rest env))) (fun ys l₂ => Q (xs ++ ys) l₂) E l₁) E l)
    (he : starEach (.Starred e p :: rest) env = (true, eval e env) :: starEach rest env := by rfl) : TT G A (spliced (backTo pos (starEach (.Starred e p :: rest) env))) Q E l :=
  ⟨fun s M => by
    refine items_star (h.k M fun v s' l₁ m q => ?_) he
    obtain ⟨a, vs, rfl, hm, hz, q⟩ := q
    obtain ⟨o, ho, xs, n, rfl, e⟩ := m.at_ hm
    have hT : s'.TypeIs (.ref a) "list" := ⟨_, ho, rfl⟩
    have hsz : xs.size ≤ sizeLine := by rw [show xs.size = vs.length from by rw [← e]; simp]; exact hz
    unfold StarOf notIterableAtAll
    refine wpAny_bind (wpAny_specialOf hT PySem.F.slot_list_iter.lookup (wpAny_pure ⟨rfl, ?_⟩))
    exact wpAny_collect_seq a (.inl rfl) ho rfl rfl (fun h' hk => (q xs.toList e).go _ (m.keeps hk hm s'.toks)) hsz⟩
/-- a call with a starred argument behind plain ones -/
theorem T_cwS {f : Value} {first : List Value} {e : Expr} {rest : List Expr} {Q : Value → Led → Prop} (hk : Callee G f)
    (h : TT G A (spliced (backTo pos (starEach (e :: rest) env))) (fun vs l₁ => TT G A (call f (first ++ vs)) Q E l₁) E l)
    (he : starEach (e :: rest) env = (false, eval e env) :: starEach rest env := by rfl) (hst : (backTo pos (starEach rest env)).any (·.1) = true := by rfl) :
    TT G A (callWith pos f first (backTo pos (starEach (e :: rest) env)) []) Q E l :=
  ⟨fun s M => by
    have h' := h.k M (P := fun vs s₁ => (KK G.w).In s₁.heap ∧ wpAny (model prg G.w) A (call f (first ++ vs)) (fun v s' => ∃ l', Mod G l' s' ∧ Q v l') (Ex G E) s₁) fun vs s' l' m q => ⟨m.X, q.go s' m⟩
    rw [he] at h' ⊢
    exact ks_call (P := (KK G.w).In) (by show (false || (backTo pos (starEach rest env)).any (·.1)) = true; rw [hst]; rfl) hk (evalArgs_plain h')⟩
/-- a call with one starred argument alone -/
theorem T_cwS1 {f : Value} {first : List Value} {e : Expr} {p : Pos} {Q : Value → Led → Prop} (hk : Callee G f)
    (h : TT G A (eval e env) (fun v l₁ => ∃ a vs, v = .ref a ∧ (a, Tup vs) ∈ l₁ ∧ vs.length ≤ sizeLine ∧ ∀ xs, xs.map cv = vs → TT G A (call f (first ++ xs)) Q E l₁) E l)
    (he : starEach [.Starred e p] env = [(true, eval e env)] := by rfl) :
    TT G A (callWith pos f first (backTo pos (starEach [.Starred e p] env)) []) Q E l :=
  ⟨fun s M => by
    rw [he]
    refine ks_call (P := (KK G.w).In) rfl hk (ks_lone (h.k M fun v s' l₁ m q => ?_))
    obtain ⟨a, vs, rfl, hm, hz, q⟩ := q
    obtain ⟨o, ho, xs, n, rfl, e⟩ := m.at_ hm
    have hT : s'.TypeIs (.ref a) "tuple" := ⟨_, ho, rfl⟩
    have hsz : xs.size ≤ sizeLine := by rw [show xs.size = vs.length from by rw [← e]; simp]; exact hz
    unfold StarOf notIterableAtAll
    refine wpAny_bind (wpAny_specialOf hT PySem.F.slot_tuple_iter.lookup (wpAny_pure ⟨rfl, ?_⟩))
    refine wpAny_collect_seq a (.inr rfl) ho rfl rfl (fun h' hk => ?_) hsz
    have m' := m.keeps hk hm s'.toks
    exact ⟨m'.X, (q xs.toList e).go _ m'⟩⟩

-- unpacking a pair
theorem len2 {α : Type} {l : List α} (h : l.length = 2) : ∃ a b, l = [a, b] := by
  cases l with
  | nil => cases h
  | cons a l => cases l with
    | nil => cases h
    | cons b l => cases l with
      | nil => exact ⟨a, b, rfl⟩
      | cons c l => exact absurd h (by simp)
theorem T_assignPair {t₁ t₂ : Expr} {k : Nat} {p : Pos} {c₁ c₂ : Value} {Q : Unit → Led → Prop} (hh : A.handled = none) (hm : (a, Tup [c₁, c₂]) ∈ l)
    (h : Any c₁ fun v₁ => Any c₂ fun v₂ => TT G A (assign t₁ env v₁) (fun _ l₁ => TT G A (assign t₂ env v₂) Q E l₁) E l)
    (he : assignEach [t₁, t₂] env = [(false, assign t₁ env), (false, assign t₂ env)] := by rfl) : TT G A (assign (.Tuple [t₁, t₂] k p) env (.ref a)) Q E l :=
  ⟨fun s M => by
    obtain ⟨xs, hl, e, hsz⟩ := tup_at M hm
    obtain ⟨v₁, v₂, hx⟩ : ∃ v₁ v₂, xs.toList = [v₁, v₂] := by
      have : xs.toList.length = 2 := by simpa using hsz
      exact len2 this
    rw [hx] at e
    have e1 : cv v₁ = c₁ := (List.cons.inj e).1
    have e2 : cv v₂ = c₂ := (List.cons.inj (List.cons.inj e).2).1
    refine wpAny_assign_Tuple hh hl (by rw [he, hsz]; rfl) (by rw [he]; rfl) fun h' hx' => ?_
    rw [he, hx]
    have M' := M.push (o := { cls := .type "list", data := .seq #[] }) (P := fun _ => True) trivial rfl s.toks
    have hk : ∀ b o, s.heap.get? b = some o → h'.get? b = some o := fun b o q => hx' b o (Nat.ne_of_lt (Heap.lt_size q)) q
    have M'' := M.keeps hk hm s.toks
    refine assignInOrder_cons (((any_of_cv e2 (any_of_cv e1 h)).k M'' fun _ s' l₁ m q => ?_))
    exact assignInOrder_cons (wpAny_mono (q.go s' m) (fun _ _ x => assignInOrder_nil x) fun _ _ x => x)⟩

-- a dict's items, by pairs
noncomputable def IView (d : Addr) (o : Obj) : Prop := o.cls = .type "dict_items" ∧ o.data = .fields #[.ref d]
noncomputable def VView (d : Addr) (o : Obj) : Prop := o.cls = .type "dict_values" ∧ o.data = .fields #[.ref d]
theorem T_items_call {d : Addr} {kvs : List (Int × Value)} {ep : Nat} {Q : Value → Led → Prop} (hm : (d, DctE G.w d kvs ep) ∈ l) (h : ∀ v, Q (.ref v) ((v, IView d) :: l)) : TT G A (call (.builtin "dict.items") [.ref d]) Q E l :=
  ⟨fun s M => by
    obtain ⟨kvs', hD, e, a0⟩ := dctE_at M hm
    exact call_meetsIn F.slot_dict_items hD.dictOf.typeIs F.entry_dict_items (F.args_dict_items_1 _) (meets_dict_items (intKind prg G.w) d a0) ⟨⟨_, hD.dictOf⟩, _, M.push (P := IView d) ⟨rfl, rfl⟩ rfl _, h _⟩⟩
theorem T_values_call {d : Addr} {kvs : List (Int × Value)} {ep : Nat} {Q : Value → Led → Prop} (hm : (d, DctE G.w d kvs ep) ∈ l) (h : ∀ v, Q (.ref v) ((v, VView d) :: l)) : TT G A (call (.builtin "dict.values") [.ref d]) Q E l :=
  ⟨fun s M => by
    obtain ⟨kvs', hD, e, a0⟩ := dctE_at M hm
    exact call_meetsIn F.slot_dict_values hD.dictOf.typeIs F.entry_dict_values (F.args_dict_values_1 _) (meets_dict_values (intKind prg G.w) d a0) ⟨⟨_, hD.dictOf⟩, _, M.push (P := VView d) ⟨rfl, rfl⟩ rfl _, h _⟩⟩
noncomputable def IIt (d : Addr) (n ep i : Nat) (o : Obj) : Prop := ∃ ok ov, o = ({ cls := .type "dict_itemiterator", dict := none, data := .fields #[.none, .bool false, .ref d, .int i 0, .int n 0, .int ep 0, ok, ov], slots := #[] } : Obj)
noncomputable def itemIter (it d : Addr) (w : World) (kvs : List (Int × Value)) (ep : Nat) : Iter where
  n := kvs.length
  seg := fun i => [(it, IIt d kvs.length ep i)]
  need := fun l => (d, DctE w d kvs ep) ∈ l
  item := fun i K l => ∀ k c, kvs[i]? = some (k, c) → ∀ tu, K (.ref tu) ((tu, Tup [.int k 0, c]) :: l)
theorem itemIter_ok {it d : Addr} {kvs : List (Int × Value)} {ep : Nat} {elts : List Expr} {k : Nat} {p : Pos} (hh : A.handled = none) : (itemIter it d G.w kvs ep).Ok G A (.Tuple elts k p) it where
  next i l K hi hn hK := ⟨fun s M => by
    obtain ⟨o, ho, ok, ov, rfl⟩ := M.at_ (a := it) (P := IIt d kvs.length ep i) (.head _)
    obtain ⟨kvs', hD, e, a0⟩ := dctE_at M (List.mem_cons_of_mem _ hn)
    have hlen : kvs.length = kvs'.length := by rw [← e, ck_len]
    have hlt : i < kvs'.length := by rw [← hlen]; exact hi
    have hx : kvs'[i]? = some (kvs'[i].1, kvs'[i].2) := List.getElem?_eq_getElem hlt
    have hv : kvs[i]? = some (kvs'[i].1, cv kvs'[i].2) := by rw [← e, ck, List.getElem?_map, hx]; rfl
    rw [hlen] at ho
    refine wpAny_pyNext_items_item ho hD hx fun key h' hkey hout htup hsize hkeep => ?_
    obtain ⟨t, rfl⟩ := int_key hkey
    have hn0 := List.nodup_cons.mp M.nd
    have hP : Tup [.int kvs'[i].1 0, cv kvs'[i].2] ({ cls := .type "tuple", data := .seq #[.int kvs'[i].1 t, kvs'[i].2] } : Obj) := ⟨_, 0, rfl, rfl⟩
    have ha : G.h₀.get? it = none := let ⟨_, _, _, c⟩ := M.led (it, IIt d kvs.length ep i) (.head _); c
    have M' : Mod G ((it, fun o => o = ({ cls := .type "dict_itemiterator", dict := none, data := .fields #[rawInt s.heap.objs.size, .bool false, .ref d, .int (i + 1 : Nat) 0, .int kvs'.length 0, .int ep 0, .int kvs'[i].1 t, kvs'[i].2], slots := #[] } : Obj)) :: (s.heap.objs.size, Tup [.int kvs'[i].1 0, cv kvs'[i].2]) :: l) { s with heap := h' } := by
      refine ⟨M.ok, fun b o q => hkeep b o (fun z => ?_) (M.keep b o q), fun p hp => ?_, ?_, M.gens, M.os, M.tok⟩
      · rw [z, ha] at q; cases q
      · rcases List.mem_cons.mp hp with rfl | hp
        · exact ⟨_, hout, rfl, ha⟩
        · rcases List.mem_cons.mp hp with rfl | hp
          · exact ⟨_, htup, hP, M.above (Nat.le_refl _)⟩
          · obtain ⟨o, x, y, z⟩ := M.led p (.tail _ hp)
            exact ⟨o, hkeep _ _ (fun q => hn0.1 (q ▸ List.mem_map_of_mem (f := (·.1)) hp)) x, y, z⟩
      · have fresh : ∀ p ∈ (it, IIt d kvs.length ep i) :: l, p.1 ≠ s.heap.objs.size := fun p hp q => by
          obtain ⟨o, x, _⟩ := M.led p hp
          have := Heap.lt_size x
          rw [q] at this; exact Nat.lt_irrefl _ this
        refine List.nodup_cons.mpr ⟨fun q => ?_, List.nodup_cons.mpr ⟨fun q => ?_, hn0.2⟩⟩
        · rcases List.mem_cons.mp q with q | q
          · exact fresh _ (.head _) q
          · exact hn0.1 q
        · obtain ⟨p, hp, z⟩ := List.mem_map.mp q
          exact fresh p (.tail _ hp) z
    refine ⟨_, M', _, rfl, ⟨fun s₂ M₂ => ?_⟩⟩
    obtain ⟨o₂, ho₂, rfl⟩ := M₂.at_ (.head _)
    refine wpAny_letOwnedTupleGo_items ho₂ fun h₂ hit hs => ⟨(it, IIt d kvs.length ep (i + 1)) :: (s.heap.objs.size, Tup [.int kvs'[i].1 0, cv kvs'[i].2]) :: l, ?_, _, rfl, hK _ _ hv _⟩
    exact M₂.upd (P' := IIt d kvs.length ep (i + 1)) .head hs ⟨_, hit, _, _, by rw [hlen]⟩ _⟩
  stop l hn := ⟨fun s M => by
    obtain ⟨o, ho, ok, ov, rfl⟩ := M.at_ (a := it) (P := IIt d kvs.length ep kvs.length) (.head _)
    obtain ⟨kvs', hD, e, a0⟩ := dctE_at M (List.mem_cons_of_mem _ hn)
    have hlen : kvs.length = kvs'.length := by rw [← e, ck_len]
    rw [hlen] at ho
    exact wpAny_pyNext_items_end hh ho hD (List.getElem?_eq_none (Nat.le_refl _)) fun h' hx => ⟨l, M.extBut hx hn _, rfl, rfl⟩⟩
theorem T_iter_items {v d : Addr} {kvs : List (Int × Value)} {ep : Nat} {Q : Value → Led → Prop} (hv : (v, IView d) ∈ l) (hm : (d, DctE G.w d kvs ep) ∈ l) (h : ∀ it, Q (.ref it) ((it, IIt d kvs.length ep 0) :: l)) : TT G A (pyIter (.ref v)) Q E l :=
  ⟨fun s M => by
    obtain ⟨o, ho, hc, hd⟩ := M.at_ hv
    obtain ⟨kvs', hD, e, a0⟩ := dctE_at M hm
    have hlen : kvs.length = kvs'.length := by rw [← e, ck_len]
    exact wpAny_pyIter_items ⟨o, ho, hc, hd⟩ hD ⟨_, M.push (P := IIt d kvs.length ep 0) ⟨.none, .none, by rw [hlen]; rfl⟩ rfl _, h _⟩⟩
theorem Loop.items {it d : Addr} {kvs : List (Int × Value)} {ep : Nat} {elts : List Expr} {k : Nat} {p : Pos} {body : List Stmt} {Q : Flow → Led → Prop} (Inv : Nat → Led → Prop) (hh : A.handled = none) (h0 : Inv 0 l) (hn : ∀ i l, Inv i l → (d, DctE G.w d kvs ep) ∈ l)
    (turn : ∀ i l k₁ c, kvs[i]? = some (k₁, c) → Inv i l → ∀ tu, TT G A (assign (.Tuple elts k p) env (.ref tu)) (fun _ l₂ => TT G A (execs body env) (LoopEnd Q [(it, IIt d kvs.length ep (i + 1))] (Inv (i + 1))) Ef l₂) Ef ((it, IIt d kvs.length ep (i + 1)) :: (tu, Tup [.int k₁ 0, c]) :: l))
    (done : ∀ l, Inv kvs.length l → Q .next l) : Loop G A (.Tuple elts k p) env body Q (.ref it) ((it, IIt d kvs.length ep 0) :: l) :=
  ⟨it, itemIter it d G.w kvs ep, Inv, l, rfl, itemIter_ok hh, Le.refl _, h0, hn, fun i l hi hI k c hc t => turn i l k c hc hI t, done⟩
end
end
section
/-- one entry, or a block of entries, taken out of a ledger -/
inductive Tk (a : Addr) (P : Obj → Prop) : Led → Led → Prop
  | head {l} : Tk a P ((a, P) :: l) l
  | tail {e l l'} : Tk a P l l' → Tk a P (e :: l) (e :: l')
  | app {c l l'} : Tk a P l l' → Tk a P (c ++ l) (c ++ l')
inductive Blk (c : Led) : Led → Led → Prop
  | head {l} : Blk c (c ++ l) l
  | all : Blk c c []
  | tail {e l l'} : Blk c l l' → Blk c (e :: l) (e :: l')
  | app {d l l'} : Blk c l l' → Blk c (d ++ l) (d ++ l')
theorem Tk.perm {a : Addr} {P : Obj → Prop} : ∀ {l l' : Led}, Tk a P l l' → l.Perm ((a, P) :: l')
  | _, _, .head => .refl _
  | _, _, .tail (e := e) r => (r.perm.cons e).trans (.swap ..)
  | _, _, .app (c := c) r => (r.perm.append_left c).trans (List.perm_append_comm_assoc c [_] _)
theorem Blk.perm {c : Led} : ∀ {l l' : Led}, Blk c l l' → l.Perm (c ++ l')
  | _, _, .head => .refl _
  | _, _, .all => by rw [List.append_nil]
  | _, _, .tail (e := e) r => (r.perm.cons e).trans (List.perm_append_comm_assoc [e] c _)
  | _, _, .app (d := d) r => (r.perm.append_left d).trans (List.perm_append_comm_assoc d c _)
theorem Le.pick {a : Addr} {P : Obj → Prop} {l l' r : Led} (h : Tk a P l l') (k : Le l' r) : Le l ((a, P) :: r) := .trans (.perm h.perm) (.keep (fun _ h => h) k)
theorem Le.pickNs {a : Addr} {ns : List Str} {vs vs' : List (Option Value)} {l l' r : Led} (h : Tk a (IsNs ns vs) l l') (w : Wk vs vs') (k : Le l' r) : Le l ((a, IsNs ns vs') :: r) := .trans (.perm h.perm) (Le.ns w k)
theorem Le.pickI {a : Addr} {P P' : Obj → Prop} {l l' r : Led} (h : Tk a P l l') (w : ∀ o, P o → P' o) (k : Le l' r) : Le l ((a, P') :: r) := .trans (.perm h.perm) (.keep w k)
theorem Le.pickB {c : Led} {l l' r : Led} (h : Blk c l l') (k : Le l' r) : Le l (c ++ r) := .trans (.perm h.perm) (Le.appL c k)
theorem Le.one {a : Addr} {P : Obj → Prop} {l r : Led} (h : Le l ((a, P) :: r)) : Le l ([(a, P)] ++ r) := h
theorem Le.last {c l l' : Led} (h : Blk c l l') : Le l c := .trans (.perm h.perm) (by have := Le.appL c (Le.nil (l := l')); rwa [List.append_nil] at this)
end
-- places
local macro_rules | `(tactic| walk_at "mem") => `(tactic| with_reducible first | assumption | exact List.mem_cons_self | (apply List.mem_cons_of_mem; walk_at "mem") | (apply List.mem_append_left; assumption) | (apply List.mem_append_right; walk_at "mem"))
local macro_rules | `(tactic| walk_at "at") => `(tactic| with_reducible first | exact At.head | (apply At.tail; walk_at "at"))
local macro_rules | `(tactic| walk_at "put") => `(tactic| with_reducible first | exact Put.head | (apply Put.tail; walk_at "put"))
local macro_rules | `(tactic| walk_at "rep") => `(tactic| with_reducible first | assumption | exact Rep.head | (apply Rep.tail; walk_at "rep") | (apply Rep.app; assumption) | (apply Rep.appL; walk_at "rep"))
local macro_rules | `(tactic| walk_at "cv") => `(tactic| with_reducible first | exact CV.int | exact CV.ref | exact CV.str | exact CV.bool | exact CV.none)
local macro_rules | `(tactic| walk_at "apart") => `(tactic| first | exact Apart.here1 (by walk_at "mem") | exact Apart.here2 (by walk_at "mem") | (apply Apart.tail; walk_at "apart"))
local macro_rules | `(tactic| walk_at "wk") => `(tactic| with_reducible first | exact Wk.nil | (apply Wk.same; walk_at "wk") | (apply Wk.none; walk_at "wk"))
local macro_rules | `(tactic| walk_at "tk") => `(tactic| with_reducible first | exact Tk.head | (apply Tk.tail; walk_at "tk") | (apply Tk.app; walk_at "tk"))
local macro_rules | `(tactic| walk_at "blk") => `(tactic| with_reducible first | exact Blk.head | exact Blk.all | (apply Blk.tail; walk_at "blk") | (apply Blk.app; walk_at "blk"))
local macro_rules | `(tactic| walk_at "ds") => `(tactic| with_reducible first | exact Le.refl _ | (apply Le.drop; walk_at "ds"))
local macro_rules | `(tactic| walk_at "le") => `(tactic| first | with_reducible exact Le.refl _ | with_reducible exact Le.nil | walk_at "ds" | (with_reducible apply Le.pick; walk_at "tk"; walk_at "le") | (with_reducible apply Le.pickNs; walk_at "tk"; walk_at "wk"; walk_at "le") | (with_reducible apply Le.one; walk_at "le") | (with_reducible apply Le.pickB; walk_at "blk"; walk_at "le") | (with_reducible apply Le.last; walk_at "blk"))

section
theorem meets_bool_list (a : Addr) (xs : Array Value) (n : Nat) (hfit : (xs.size : Int) < 2 ^ 63) : Meets (Builtin.«bool.__new__» ⟨[.type "bool", .ref a], []⟩) (fun _ R s => IsL s.heap a xs n ∧ R (.ok (.ret (.bool (!xs.isEmpty)))) { s with toks := s.toks + 1 + 1 }) :=
  Meets.of_wp fun prog w A R s hs => by
    obtain ⟨hp, g, d, tk, os⟩ := s
    obtain ⟨hl, hs⟩ := hs
    have f1 := F.conv_sub_bool
    have hi : hp.IsList a xs := hl.isList
    repeat (any_goals (first | assumption | with_reducible apply wpAny_truthy_list hi hfit | wp_step))
    all_goals first | exact ⟨_, rfl, hs⟩ | skip
theorem T_bool_list {G : Gd} {A : Around} {E : Value → Led → Prop} {l : Led} {a : Addr} {vs : List Value} {Q : Value → Led → Prop} (hm : (a, Lst vs) ∈ l) (hz : vs.length ≤ sizeLine) (h : Q (.bool (!vs.isEmpty)) l) : TT G A (call (.type "bool") [.ref a]) Q E l :=
  ⟨fun s M => by
    obtain ⟨xs, n, hl, e, hn⟩ := lst_at M hm
    have hfit : (xs.size : Int) < 2 ^ 63 := by
      have : sizeLine < 2 ^ 63 := by decide
      omega
    have hq : Q (.bool (!xs.isEmpty)) l := by
      have : xs.isEmpty = vs.isEmpty := by rw [← e]; cases xs with | mk q => cases q <;> rfl
      rw [this]; exact h
    exact call_bool_1 (meets_bool_list a xs n hfit) ⟨hl, PySem.typeIs_bool _ _, l, M.toks _, hq⟩⟩


section
variable {G : Gd} {A : Around} {E : Value → Led → Prop} {l : Led}
noncomputable abbrev sdK (a b c d : Value) : List (Str × Value) := [(Str.ofString "_node2info", a), (Str.ofString "_ready_nodes", b), (Str.ofString "_npassedout", c), (Str.ofString "_nfinished", d)]
noncomputable def SD (a b c d : Value) : Obj → Prop := AD (sdK a b c d)

theorem pg181 {w : World} {n : Str} : plainGet (KK w) 181 n = true := by kernel_rfl
theorem hd181 {w : World} : hasDictIn (KK w) 181 = true := by kernel_rfl

theorem get_n2i {x d : Addr} {a b c e : Value} {expr : Bool} {Q : Value → Led → Prop} (h1 : (x, Inst 181 d) ∈ l) (h2 : (d, SD a b c e) ∈ l) (hh : handedIn a = true) (h : Any a fun v => Q v l) : TT G A (getAttr (.ref x) (Str.ofString "_node2info") expr) Q E l :=
  T_getown h1 h2 pg181 hd181 (by kernel_rfl) (by kernel_rfl) hh h
theorem get_ready {x d : Addr} {a b c e : Value} {expr : Bool} {Q : Value → Led → Prop} (h1 : (x, Inst 181 d) ∈ l) (h2 : (d, SD a b c e) ∈ l) (hh : handedIn b = true) (h : Any b fun v => Q v l) : TT G A (getAttr (.ref x) (Str.ofString "_ready_nodes") expr) Q E l :=
  T_getown h1 h2 pg181 hd181 (by kernel_rfl) (by kernel_rfl) hh h
theorem get_npo {x d : Addr} {a b c e : Value} {expr : Bool} {Q : Value → Led → Prop} (h1 : (x, Inst 181 d) ∈ l) (h2 : (d, SD a b c e) ∈ l) (hh : handedIn c = true) (h : Any c fun v => Q v l) : TT G A (getAttr (.ref x) (Str.ofString "_npassedout") expr) Q E l :=
  T_getown h1 h2 pg181 hd181 (by kernel_rfl) (by kernel_rfl) hh h
theorem get_nfin {x d : Addr} {a b c e : Value} {expr : Bool} {Q : Value → Led → Prop} (h1 : (x, Inst 181 d) ∈ l) (h2 : (d, SD a b c e) ∈ l) (hh : handedIn e = true) (h : Any e fun v => Q v l) : TT G A (getAttr (.ref x) (Str.ofString "_nfinished") expr) Q E l :=
  T_getown h1 h2 pg181 hd181 (by kernel_rfl) (by kernel_rfl) hh h

theorem is_active_spec {x d rn n2i : Addr} {npo nf : Int} {rs : List Value} {Q : Value → Led → Prop} {k : Nat} (ax : Ax A (k + 1)) (h1 : (x, Inst 181 d) ∈ l) (h2 : (d, SD (.ref n2i) (.ref rn) (.int npo 0) (.int nf 0)) ∈ l) (h3 : (rn, Lst rs) ∈ l) (hz : rs.length ≤ sizeLine)
    (h : Q (.bool (decide (nf < npo) || !rs.isEmpty)) l) : TT G A (call (.ref 150) [.ref x]) Q E l := by
  refine T_def [] (ns := [Str.ofString "self"]) (vs := [some (.ref x)]) ax.room (by exact rfl) rfl rfl rfl rfl (by kernel_rfl) ⟨rfl, rfl, rfl, rfl, rfl⟩ fun L F => ?_
  · skip
    refine T_execs (T_If (T_isCompare (T_Attr (T_ld F (by walk_at "mem") (by walk_at "at") ?_))))
    refine get_ready (by walk_at "mem") (by walk_at "mem") rfl ?_
    refine T_none (T_is_none (T_truthy_bool (Br.ff rfl (T_execs_nil ?_))))
    refine T_execs (T_Return (T_Or2 (T_Compare (T_Attr (T_ld F (by walk_at "mem") (by walk_at "at") ?_)))))
    refine get_nfin (by walk_at "mem") (by walk_at "mem") rfl ?_
    intro t1
    refine T_Attr (T_ld F (by walk_at "mem") (by walk_at "at") ?_)
    refine get_npo (by walk_at "mem") (by walk_at "mem") rfl ?_
    intro t2
    refine T_lt (T_truthy_bool ⟨fun e => ?_, fun e => ?_⟩)
    · rw [e] at h
      exact ⟨l, .drop (Le.refl _), by rw [e]; exact h⟩
    · refine T_Call (T_blt F b_bool (by rfl) ?_)
      refine T_cw Callee.type (T_items (T_Attr (T_ld F (by walk_at "mem") (by walk_at "at") ?_)))
      refine get_ready (by walk_at "mem") (by walk_at "mem") rfl ?_
      refine T_items_nil (T_bool_list (by walk_at "mem") hz ?_)
      rw [e] at h
      exact ⟨l, .drop (Le.refl _), h⟩
end
end
section
noncomputable abbrev iv (i : Int) : Value := .int i 0
/-- a node of the sorter's -/
structure NR where
  na : Addr
  da : Addr
  sa : Addr
  port : Int
  np : Int
  succ : List Int
noncomputable def nodesL : List NR → Led
  | [] => []
  | r :: rs => (r.sa, Lst (r.succ.map iv)) :: (r.na, Node r.port r.np r.sa r.da) :: (r.da, AD []) :: nodesL rs
theorem nodesL_append : ∀ a b : List NR, nodesL (a ++ b) = nodesL a ++ nodesL b
  | [], _ => rfl
  | r :: a, b => by rw [List.cons_append, nodesL, nodesL, nodesL_append a b]; rfl

section
variable {G : Gd} {A : Around} {E : Value → Led → Prop} {l : Led}

theorem ninit_spec {x d : Addr} {p : Int} {t : Tok} {Q : Value → Led → Prop} (ax : Ax A 1) (h : ∀ sa, Q (.ref x) ((sa, Lst []) :: (x, Node p 0 sa d) :: (d, AD []) :: l)) :
    CT G A (.call (.ref 80) ⟨[.ref x, .int p t], []⟩) (fun r l' => ∃ v, r = .ok (.ret v) ∧ v = .none ∧ Q (.ref x) l') ((x, Inst 84 d) :: (d, AD []) :: l) := by
  refine C_def [] (Q := fun v l' => v = .none ∧ Q (.ref x) l') (ns := [Str.ofString "self", Str.ofString "node"]) (vs := [some (.ref x), some (.int p 0)]) ax.room (by exact rfl) rfl (fun s _ => BindsTo.of_eq rfl) rfl rfl (by kernel_rfl) ⟨rfl, rfl, rfl, rfl, rfl⟩ fun L F => ?_
  refine TT.le (l' := (L, IsNs [Str.ofString "self", Str.ofString "node"] [some (.ref x), some (.int p 0)]) :: (x, NodeS [] d) :: (d, AD []) :: l) (.keep (fun _ h => h) (.keep (fun o h => ⟨#[], h, rfl⟩) (Le.refl _))) ?_
  refine T_execs (T_AssignAttr (T_ld F (by walk_at "mem") (by walk_at "at") ?_)); intro t1
  refine T_ld F (by walk_at "mem") (by walk_at "at") ?_
  refine T_setslot sl_node (by walk_at "mem") (by walk_at "rep") (by walk_at "mem") (by walk_at "cv") (by decide) ?_
  refine T_execs (T_AssignAttr (T_int fun t2 => ?_))
  refine T_ld F (by walk_at "mem") (by walk_at "at") ?_
  refine T_setslot sl_np (by walk_at "mem") (by walk_at "rep") (by walk_at "mem") (by walk_at "cv") (by decide) ?_
  refine T_execs (T_AssignAttr (T_List (T_items_nil ⟨by decide, fun sa => ?_⟩)))
  refine T_ld F (by walk_at "mem") (by walk_at "at") ?_
  refine T_setslot sl_succ (by walk_at "mem") (by walk_at "rep") (by walk_at "mem") (by walk_at "cv") (by decide) ?_
  refine T_execs_nil ⟨_, .keep (fun _ h => h) (.drop (.keep (fun _ h => h) (Le.refl _))), rfl, h sa⟩

theorem mk84 {w : World} : makesIn (KK w) 84 = true := by kernel_rfl
theorem in84 {w : World} : findIn (KK w) (.ref 84) "__init__" = some (some (.ref 80)) := by kernel_rfl
theorem fn80 {w : World} : isFn (KK w) (.ref 80) = true := by kernel_rfl
theorem NodeInfo_spec {p : Int} {t : Tok} {Q : Value → Led → Prop} (ax : Ax A 2) (h : ∀ na da sa, Q (.ref na) ((sa, Lst []) :: (na, Node p 0 sa da) :: (da, AD []) :: l)) : TT G A (call (.ref 84) [.int p t]) Q E l :=
  (C_make mk84 in84 fn80 fun x d => ninit_spec (Q := Q) ax.make fun sa => h x d sa).call

noncomputable abbrev n2iK (rs : List NR) : List (Int × Value) := rs.map fun r => (r.port, .ref r.na)
theorem fn124 {w : World} : keepIn (KK w) (.ref 124) = true := by kernel_rfl
theorem kp84 {w : World} : keepIn (KK w) (.ref 84) = true := by kernel_rfl

theorem n2i_at {rs : List NR} {p : Int} {c : Value} (h : valueAt (n2iK rs) p = some c) : ∃ (i : Nat) (r : NR), rs[i]? = some r ∧ r.port = p ∧ c = .ref r.na := by
  unfold valueAt at h
  obtain ⟨kv, h1, rfl⟩ := Option.map_eq_some_iff.mp h
  have h2 := List.mem_of_find?_eq_some h1
  have h3 := List.find?_some h1
  obtain ⟨r, hr, rfl⟩ := List.mem_map.mp h2
  obtain ⟨i, hi⟩ := List.mem_iff_getElem?.mp hr
  exact ⟨i, r, hi, by simpa using h3, rfl⟩
theorem stored_new {kvs : List (Int × Value)} {k : Int} {v : Value} (h : valueAt kvs k = none) : stored kvs k v = kvs ++ [(k, v)] := by
  unfold stored
  rw [if_neg]
  unfold valueAt at h
  rw [Option.map_eq_none_iff, List.find?_eq_none] at h
  intro q
  obtain ⟨x, hx, hq⟩ := List.any_eq_true.mp q
  exact h x hx hq
theorem perm_mv (a p n r : Led) : (a ++ (p ++ (n ++ r))).Perm (p ++ (n ++ (a ++ r))) :=
  (List.perm_append_comm_assoc a p (n ++ r)).trans ((List.perm_append_comm_assoc a n r).append_left p)

theorem get_nodeinfo_spec {x d n2i : Addr} {rv npv nfv : Value} {rs : List NR} {pre post : Led} {p : Int} {t : Tok} {Q : Value → Led → Prop} (ax : Ax A 3) (hz : rs.length ≤ 1000)
    (h1 : ∀ (i : Nat) r, rs[i]? = some r → r.port = p → Q (.ref r.na) (pre ++ (x, Inst 181 d) :: (d, SD (.ref n2i) rv npv nfv) :: (n2i, Dct G.w n2i (n2iK rs)) :: (nodesL rs ++ post)))
    (h2 : valueAt (n2iK rs) p = none → ∀ na da sa, Q (.ref na) (pre ++ (x, Inst 181 d) :: (d, SD (.ref n2i) rv npv nfv) :: (n2i, Dct G.w n2i (n2iK (rs ++ [⟨na, da, sa, p, 0, []⟩]))) :: (nodesL (rs ++ [⟨na, da, sa, p, 0, []⟩]) ++ post))) :
    TT G A (call (.ref 124) [.ref x, .int p t]) Q E (pre ++ (x, Inst 181 d) :: (d, SD (.ref n2i) rv npv nfv) :: (n2i, Dct G.w n2i (n2iK rs)) :: (nodesL rs ++ post)) := by
  refine T_def [Str.ofString "result"] (ns := [Str.ofString "self", Str.ofString "node", Str.ofString "result"]) (vs := [some (.ref x), some (.int p 0), none]) ax.room (by exact rfl) rfl rfl rfl rfl (by kernel_rfl) ⟨rfl, rfl, rfl, rfl, rfl⟩ fun L F => ?_
  refine T_execs (T_If (T_isCompare (T_Named (T_MCall (pl := pure false) (T_Attr (T_ld F (by walk_at "mem") (by walk_at "at") ?_))))))
  refine get_n2i (by walk_at "mem") (by walk_at "mem") rfl ?_
  refine gm_get (by walk_at "mem") ?_
  refine T_cw Callee.builtin (T_items (T_ld F (by walk_at "mem") (by walk_at "at") ?_)); intro t1
  refine T_items_nil (T_dget (by walk_at "mem") ?_)
  cases hv : valueAt (n2iK rs) p with
  | some c =>
    obtain ⟨i, r, hi, hp, rfl⟩ := n2i_at hv
    refine T_st F (by walk_at "mem") (by walk_at "cv") (by walk_at "put") (by walk_at "rep") ?_
    refine T_none (T_is_none (T_truthy_bool (Br.ff rfl (T_execs_nil ?_))))
    refine T_execs (T_Return (T_ld F (by walk_at "mem") (by walk_at "at") ?_))
    exact ⟨_, .drop (Le.refl _), h1 i r hi hp⟩
  | none =>
    refine T_st F (by walk_at "mem") (by walk_at "cv") (by walk_at "put") (by walk_at "rep") ?_
    refine T_none (T_is_none (T_truthy_bool (Br.tt rfl ?_)))
    refine T_execs (T_Assign2 (T_Call (T_glob F g_NodeInfo (by rfl) ?_)))
    refine T_cw (Callee.K kp84) (T_items (T_ld F (by walk_at "mem") (by walk_at "at") ?_)); intro t2
    refine T_items_nil (NodeInfo_spec ax.deeper fun na da sa => ?_)
    refine T_assignSub (T_Attr (T_ld F (by walk_at "mem") (by walk_at "at") ?_))
    refine get_n2i (by walk_at "mem") (by walk_at "mem") rfl ?_
    refine T_ld F (by walk_at "mem") (by walk_at "at") ?_; intro t3
    refine T_dset (by walk_at "rep") (by walk_at "cv") (by rw [List.length_map]; exact Nat.le_trans hz (by decide)) ?_
    refine T_assignName (T_st F (by walk_at "mem") (by walk_at "cv") (by walk_at "put") (by walk_at "rep") ?_)
    refine T_execs_nil ?_
    refine T_execs (T_Return (T_ld F (by walk_at "mem") (by walk_at "at") ?_))
    refine ⟨_, ?_, h2 hv na da sa⟩
    have e1 : n2iK (rs ++ [⟨na, da, sa, p, 0, []⟩]) = n2iK rs ++ [(p, .ref na)] := by simp [n2iK]
    rw [stored_new hv, nodesL_append, e1]
    refine .trans (.keep (fun _ h => h) (.keep (fun _ h => h) (.keep (fun _ h => h) (.drop (Le.refl _))))) (.perm ?_)
    have := perm_mv [(sa, Lst []), (na, Node p 0 sa da), (da, AD [])] (pre ++ [(x, Inst 181 d), (d, SD (.ref n2i) rv npv nfv), (n2i, Dct G.w n2i (n2iK rs ++ [(p, .ref na)]))]) (nodesL rs) post
    simpa [List.append_assoc, nodesL] using this

theorem T_get_np {x d sa : Addr} {p np : Int} {expr : Bool} {Q : Value → Led → Prop} (h1 : (x, Node p np sa d) ∈ l) (h2 : (d, AD []) ∈ l) (h : ∀ t, Q (.int np t) l) : TT G A (getAttr (.ref x) (Str.ofString "npredecessors") expr) Q E l :=
  T_getslot sl_np h1 h2 rfl rfl h
theorem T_get_port {x d sa : Addr} {p np : Int} {expr : Bool} {Q : Value → Led → Prop} (h1 : (x, Node p np sa d) ∈ l) (h2 : (d, AD []) ∈ l) (h : ∀ t, Q (.int p t) l) : TT G A (getAttr (.ref x) (Str.ofString "node") expr) Q E l :=
  T_getslot sl_node h1 h2 rfl rfl h
theorem T_get_succ {x d sa : Addr} {p np : Int} {expr : Bool} {Q : Value → Led → Prop} (h1 : (x, Node p np sa d) ∈ l) (h2 : (d, AD []) ∈ l) (h : Q (.ref sa) l) : TT G A (getAttr (.ref x) (Str.ofString "successors") expr) Q E l :=
  T_getslot sl_succ h1 h2 rfl rfl h
theorem T_set_np {x d sa L : Addr} {p np np' : Int} {t : Tok} {ns : List Str} {vs : List (Option Value)} {l' : Led} {Q : Unit → Led → Prop} (hL : (L, IsNs ns vs) ∈ l) (hr : Rep x (Node p np sa d) (Node p np' sa d) l l') (h2 : (d, AD []) ∈ l)
    (h : Q () l') : TT G A (setAttr (.ref x) (Str.ofString "npredecessors") (.int np' t)) Q E l :=
  T_setslot sl_np hL hr h2 .int (by decide) h

/-- a node without its places -/
structure AN where
  port : Int
  np : Int
  succ : List Int
noncomputable def NR.abs (r : NR) : AN := ⟨r.port, r.np, r.succ⟩
noncomputable def ens (p : Int) (g : List AN) : List AN := if g.any (fun a => a.port == p) then g else g ++ [⟨p, 0, []⟩]
noncomputable def updA (p : Int) (f : AN → AN) (g : List AN) : List AN := g.map fun a => if a.port = p then f a else a
noncomputable abbrev absL (rs : List NR) : List AN := rs.map NR.abs
noncomputable abbrev portsA (g : List AN) : List Int := g.map (·.port)

theorem nodes_na : ∀ {rs : List NR} {i : Nat} {r : NR}, rs[i]? = some r → (r.na, Node r.port r.np r.sa r.da) ∈ nodesL rs
  | q :: rs, 0, r, h => by cases h; simp [nodesL]
  | q :: rs, i + 1, r, h => by have := nodes_na (rs := rs) (i := i) (r := r) h; simp [nodesL, this]
theorem nodes_da : ∀ {rs : List NR} {i : Nat} {r : NR}, rs[i]? = some r → (r.da, AD []) ∈ nodesL rs
  | q :: rs, 0, r, h => by cases h; simp [nodesL]
  | q :: rs, i + 1, r, h => by have := nodes_da (rs := rs) (i := i) (r := r) h; simp [nodesL, this]
theorem nodes_sa : ∀ {rs : List NR} {i : Nat} {r : NR}, rs[i]? = some r → (r.sa, Lst (r.succ.map iv)) ∈ nodesL rs
  | q :: rs, 0, r, h => by cases h; simp [nodesL]
  | q :: rs, i + 1, r, h => by have := nodes_sa (rs := rs) (i := i) (r := r) h; simp [nodesL, this]
theorem rep_na {np' : Int} : ∀ {rs : List NR} {i : Nat} {r : NR}, rs[i]? = some r → Rep r.na (Node r.port r.np r.sa r.da) (Node r.port np' r.sa r.da) (nodesL rs) (nodesL (rs.set i { r with np := np' }))
  | q :: rs, 0, r, h => by cases h; exact .tail .head
  | q :: rs, i + 1, r, h => .tail (.tail (.tail (rep_na (rs := rs) (i := i) (r := r) h)))
theorem rep_sa {s' : List Int} : ∀ {rs : List NR} {i : Nat} {r : NR}, rs[i]? = some r → Rep r.sa (Lst (r.succ.map iv)) (Lst (s'.map iv)) (nodesL rs) (nodesL (rs.set i { r with succ := s' }))
  | q :: rs, 0, r, h => by cases h; exact .head
  | q :: rs, i + 1, r, h => .tail (.tail (.tail (rep_sa (rs := rs) (i := i) (r := r) h)))
theorem abs_set {rs : List NR} {i : Nat} {r r' : NR} {f : AN → AN} (hi : rs[i]? = some r) (hr : r'.abs = f r.abs) (hnd : (portsA (absL rs)).Nodup) : absL (rs.set i r') = updA r.port f (absL rs) := by
  have hlt : i < rs.length := by
    rcases Nat.lt_or_ge i rs.length with q | q
    · exact q
    · rw [List.getElem?_eq_none q] at hi; cases hi
  have e : rs[i] = r := by rw [List.getElem?_eq_getElem hlt] at hi; exact Option.some.inj hi
  apply List.ext_getElem?
  intro j
  simp only [absL, updA, List.map_set, List.getElem?_map]
  by_cases hj : i = j
  · subst hj
    rw [List.getElem?_set_self (by simpa using hlt), hi]
    simp only [Option.map_some]
    have hp : r.abs.port = r.port := rfl
    rw [if_pos hp, hr]
  · rw [List.getElem?_set_ne hj, List.getElem?_map]
    cases hq : rs[j]? with
    | none => rfl
    | some q =>
      simp only [Option.map_some]
      have hne : q.abs.port ≠ r.port := fun h => hj (by
        have h1 : (portsA (absL rs))[i]? = some r.port := by simp [portsA, absL, hi, NR.abs]
        have h2 : (portsA (absL rs))[j]? = some r.port := by simp [portsA, absL, hq]; exact h
        exact (List.getElem?_inj (by simpa using hlt) hnd).mp (h1.trans h2.symm))
      rw [if_neg hne]
theorem ports_upd {p : Int} {f : AN → AN} (hf : ∀ a, (f a).port = a.port) (g : List AN) : portsA (updA p f g) = portsA g := by
  simp only [portsA, updA, List.map_map]
  apply List.map_congr_left
  intro a _
  simp only [Function.comp]
  split <;> simp [hf]
theorem ports_ens {p : Int} {g : List AN} (h : (portsA g).Nodup) : (portsA (ens p g)).Nodup ∧ p ∈ portsA (ens p g) := by
  unfold ens
  split
  · rename_i q
    refine ⟨h, ?_⟩
    obtain ⟨a, ha, e⟩ := List.any_eq_true.mp q
    exact List.mem_map.mpr ⟨a, ha, by simpa using e⟩
  · rename_i q
    refine ⟨?_, by simp⟩
    have hp : p ∉ portsA g := fun hp => q (by
      obtain ⟨a, ha, e⟩ := List.mem_map.mp hp
      exact List.any_eq_true.mpr ⟨a, ha, by simpa using e⟩)
    simp only [portsA, List.map_append, List.map_cons, List.map_nil]
    exact List.nodup_append.mpr ⟨h, by simp, fun a ha b hb e => hp (by simp at hb; rw [← hb, ← e]; exact ha)⟩
theorem len_ens (p : Int) (g : List AN) : (ens p g).length ≤ g.length + 1 := by
  unfold ens; split <;> simp
theorem len_upd (p : Int) (f : AN → AN) (g : List AN) : (updA p f g).length = g.length := by simp [updA]
theorem n2i_none {rs : List NR} {p : Int} (h : valueAt (n2iK rs) p = none) : (absL rs).any (fun a => a.port == p) = false := by
  unfold valueAt at h
  rw [Option.map_eq_none_iff, List.find?_eq_none] at h
  rw [List.any_eq_false]
  intro a ha
  obtain ⟨r, hr, rfl⟩ := List.mem_map.mp ha
  have := h (r.port, .ref r.na) (List.mem_map.mpr ⟨r, hr, rfl⟩)
  simpa [NR.abs] using this

theorem get_node {x d n2i : Addr} {rv npv nfv : Value} {rs : List NR} {pre post : Led} {p : Int} {t : Tok} {Q : Value → Led → Prop} (ax : Ax A 3) (hz : rs.length ≤ 1000)
    (h : ∀ rs1 (i : Nat) r, absL rs1 = ens p (absL rs) → rs1[i]? = some r → r.port = p → Q (.ref r.na) (pre ++ (x, Inst 181 d) :: (d, SD (.ref n2i) rv npv nfv) :: (n2i, Dct G.w n2i (n2iK rs1)) :: (nodesL rs1 ++ post))) :
    TT G A (call (.ref 124) [.ref x, .int p t]) Q E (pre ++ (x, Inst 181 d) :: (d, SD (.ref n2i) rv npv nfv) :: (n2i, Dct G.w n2i (n2iK rs)) :: (nodesL rs ++ post)) := by
  refine get_nodeinfo_spec ax hz (fun i r hi hp => h rs i r ?_ hi hp) fun hv na da sa => h (rs ++ [⟨na, da, sa, p, 0, []⟩]) rs.length ⟨na, da, sa, p, 0, []⟩ ?_ (by simp) rfl
  · unfold ens
    rw [if_pos]
    exact List.any_eq_true.mpr ⟨r.abs, List.mem_map_of_mem (List.mem_of_getElem? hi), by simpa [NR.abs] using hp⟩
  · unfold ens
    rw [if_neg (by rw [n2i_none hv]; decide)]
    simp [absL, NR.abs]
end
end
section
section
variable {G : Gd} {A : Around} {E : Value → Led → Prop} {l : Led}
theorem fn131 {w : World} : keepIn (KK w) (.ref 131) = true := by kernel_rfl
structure Meth (w : World) (name : Str) (f : Addr) : Prop where
  find : findIn (KK w) (.ref 181) name = some (some (.ref f))
  fn : isFn (KK w) (.ref f) = true
  keep : keepIn (KK w) (.ref f) = true
  own : ∀ a b c d, (sdK a b c d).find? (fun p => p.1 == name) = none
theorem m_get_nodeinfo {w : World} : Meth w (Str.ofString "_get_nodeinfo") 124 := ⟨by kernel_rfl, by kernel_rfl, by kernel_rfl, fun _ _ _ _ => by kernel_rfl⟩
theorem m_add {w : World} : Meth w (Str.ofString "add") 131 := ⟨by kernel_rfl, by kernel_rfl, by kernel_rfl, fun _ _ _ _ => by kernel_rfl⟩
theorem m_prepare {w : World} : Meth w (Str.ofString "prepare") 136 := ⟨by kernel_rfl, by kernel_rfl, by kernel_rfl, fun _ _ _ _ => by kernel_rfl⟩
theorem m_get_ready {w : World} : Meth w (Str.ofString "get_ready") 143 := ⟨by kernel_rfl, by kernel_rfl, by kernel_rfl, fun _ _ _ _ => by kernel_rfl⟩
theorem m_is_active {w : World} : Meth w (Str.ofString "is_active") 150 := ⟨by kernel_rfl, by kernel_rfl, by kernel_rfl, fun _ _ _ _ => by kernel_rfl⟩
theorem m_done {w : World} : Meth w (Str.ofString "done") 164 := ⟨by kernel_rfl, by kernel_rfl, by kernel_rfl, fun _ _ _ _ => by kernel_rfl⟩
theorem m_find_cycle {w : World} : Meth w (Str.ofString "_find_cycle") 171 := ⟨by kernel_rfl, by kernel_rfl, by kernel_rfl, fun _ _ _ _ => by kernel_rfl⟩
theorem T_smeth {x d f : Addr} {name : Str} {a b c e : Value} {pl : Sem Bool} {Q : Value × List Value → Led → Prop} (m : Meth G.w name f) (h1 : (x, Inst 181 d) ∈ l) (h2 : (d, SD a b c e) ∈ l) (h : Q (.ref f, [.ref x]) l) : TT G A (getMethod (.ref x) name pl) Q E l :=
  T_method h1 h2 pg181 m.find m.fn (m.own _ _ _ _) h

noncomputable def npAdd (k : Int) (a : AN) : AN := ⟨a.port, a.np + k, a.succ⟩
noncomputable def suAdd (p : Int) (a : AN) : AN := ⟨a.port, a.np, a.succ ++ [p]⟩
noncomputable def addS (p : Int) (g : List AN) (q : Int) : List AN := updA q (suAdd p) (ens q g)
noncomputable def addA (p : Int) (preds : List Int) (g : List AN) : List AN := preds.foldl (addS p) (updA p (npAdd preds.length) (ens p g))

theorem n2i_set {rs : List NR} {i : Nat} {r r' : NR} (hi : rs[i]? = some r) (h1 : r'.port = r.port) (h2 : r'.na = r.na) : n2iK (rs.set i r') = n2iK rs := by
  apply List.ext_getElem?
  intro j
  simp only [n2iK, List.map_set, List.getElem?_map]
  by_cases hj : i = j
  · subst hj
    have hlt : i < rs.length := by
      rcases Nat.lt_or_ge i rs.length with q | q
      · exact q
      · rw [List.getElem?_eq_none q] at hi; cases hi
    rw [List.getElem?_set_self (by simpa using hlt), hi, h1, h2]; rfl
  · rw [List.getElem?_set_ne hj, List.getElem?_map]
noncomputable def SuccLe (k : Nat) (g : List AN) : Prop := ∀ a ∈ g, a.succ.length ≤ k
theorem SuccLe.ens {k : Nat} {g : List AN} {p : Int} (h : SuccLe k g) : SuccLe k (ens p g) := by
  unfold Mine.ens
  split
  · exact h
  · intro a ha
    rcases List.mem_append.mp ha with ha | ha
    · exact h a ha
    · rw [List.mem_singleton.mp ha]; exact Nat.zero_le _
theorem SuccLe.addS {k : Nat} {g : List AN} {p q : Int} (h : SuccLe k g) : SuccLe (k + 1) (addS p g q) := by
  intro a ha
  obtain ⟨b, hb, rfl⟩ := List.mem_map.mp ha
  have := h.ens b hb
  split
  · simp [suAdd]; omega
  · omega
theorem SuccLe.np {k : Nat} {g : List AN} {p : Int} {f : AN → AN} (hf : ∀ a, (f a).succ = a.succ) (h : SuccLe k g) : SuccLe k (updA p f g) := by
  intro a ha
  obtain ⟨b, hb, rfl⟩ := List.mem_map.mp ha
  have := h b hb
  split
  · rw [hf]; exact this
  · exact this

theorem ports_addS {p q : Int} {g : List AN} (h : (portsA g).Nodup) : (portsA (addS p g q)).Nodup := by
  rw [addS, ports_upd (f := suAdd p) (fun _ => rfl)]; exact (ports_ens h).1
theorem fold_addS {p : Int} : ∀ (m : List Int) (g : List AN) (k : Nat), (portsA g).Nodup → SuccLe k g → (portsA (m.foldl (addS p) g)).Nodup ∧ SuccLe (k + m.length) (m.foldl (addS p) g) ∧ (m.foldl (addS p) g).length ≤ g.length + m.length
  | [], g, k, h1, h2 => ⟨h1, h2, Nat.le_refl _⟩
  | q :: m, g, k, h1, h2 => by
    obtain ⟨a, b, c⟩ := fold_addS m (addS p g q) (k + 1) (ports_addS h1) h2.addS
    refine ⟨a, ?_, ?_⟩
    · rw [List.length_cons]; exact (by rwa [Nat.add_assoc, Nat.add_comm 1] at b)
    · have := len_ens q g
      rw [addS, len_upd] at c
      simp only [List.foldl_cons, List.length_cons, addS] at c ⊢
      omega
/-- the sorter in the ledger -/
noncomputable abbrev SL (w : World) (x d n2i : Addr) (rv npv nfv : Value) (rs : List NR) (post : Led) : Led := (x, Inst 181 d) :: (d, SD (.ref n2i) rv npv nfv) :: (n2i, Dct w n2i (n2iK rs)) :: (nodesL rs ++ post)

theorem add_spec {x d n2i : Addr} {npv nfv : Value} {rs : List NR} {pre post : Led} {p : Int} {t : Tok} {preds : List Int} {vals : List Value} {Q : Value → Led → Prop} (ax : Ax A 4) (hvals : vals.map cv = preds.map iv) (hz : rs.length + preds.length ≤ 99) (hnd : (portsA (absL rs)).Nodup)
    (hsucc : SuccLe 900 (absL rs))
    (h : ∀ rs', absL rs' = addA p preds (absL rs) → Q .none (pre ++ SL G.w x d n2i .none npv nfv rs' post)) :
    CT G A (.call (.ref 131) ⟨.ref x :: .int p t :: vals, []⟩) (fun r l' => ∃ v, r = .ok (.ret v) ∧ Q v l') (pre ++ SL G.w x d n2i .none npv nfv rs post) := by
  refine C_defV (binds := [(Str.ofString "self", .ref x), (Str.ofString "node", .int p t)]) (vn := Str.ofString "predecessors") (more := vals) [Str.ofString "nodeinfo", Str.ofString "pred", Str.ofString "pred_info"]
    (ns := [Str.ofString "self", Str.ofString "node", Str.ofString "predecessors", Str.ofString "nodeinfo", Str.ofString "pred", Str.ofString "pred_info"])
    (fun tp => [some (.ref x), some (.int p 0), some (.ref tp), none, none, none]) ax.room (by exact rfl) rfl ?_ rfl (fun _ => rfl) (by kernel_rfl) ⟨rfl, rfl, rfl, rfl, rfl⟩ ?_ fun L tp F => ?_
  · unfold bindArgs
    dsimp only [List.map, List.append, List.zip, List.zipWith, List.length]
    simp only [Option.isNone_some, Bool.and_false, Bool.false_eq_true, if_false]
    rfl
  · have := congrArg List.length hvals
    rw [List.length_map, List.length_map] at this
    rw [this]
    exact Nat.le_trans (Nat.le_of_add_left_le hz) (by decide)
  have hlen : vals.length = preds.length := by
    have := congrArg List.length hvals
    rwa [List.length_map, List.length_map] at this
  refine T_execs (T_If (T_isCompare (T_Attr (T_ld F (by walk_at "mem") (by walk_at "at") ?_))))
  refine get_ready (by walk_at "mem") (by walk_at "mem") rfl ?_
  refine T_none (T_isnot_none (T_truthy_bool (Br.ff rfl (T_execs_nil ?_))))
  refine T_execs (T_Assign (T_MCall (T_ld F (by walk_at "mem") (by walk_at "at") ?_)))
  refine T_smeth m_get_nodeinfo (by walk_at "mem") (by walk_at "mem") ?_
  refine T_cw (Callee.K m_get_nodeinfo.keep) (T_items (T_ld F (by walk_at "mem") (by walk_at "at") ?_)); intro t1
  refine T_items_nil (get_node (pre := (L, _) :: (tp, _) :: pre) ax.deeper (by omega) fun rs1 i r he hi hp => ?_)
  refine TT.as (l' := _ :: _ :: (pre ++ _)) rfl ?_
  refine T_st F (by walk_at "mem") (by walk_at "cv") (by walk_at "put") (by walk_at "rep") ?_
  have hnd1 : (portsA (absL rs1)).Nodup := by rw [he]; exact (ports_ens hnd).1
  refine T_execs (T_AugAttr (T_ld F (by walk_at "mem") (by walk_at "at") ?_))
  have m_na : (r.na, Node r.port r.np r.sa r.da) ∈ nodesL rs1 ++ post := List.mem_append_left _ (nodes_na hi)
  have m_da : (r.da, AD []) ∈ nodesL rs1 ++ post := List.mem_append_left _ (nodes_da hi)
  refine T_get_np (by walk_at "mem") (by walk_at "mem") fun t2 => ?_
  refine T_Call (T_blt F b_len (by rfl) ?_)
  refine T_cw Callee.builtin (T_items (T_ld F (by walk_at "mem") (by walk_at "at") ?_))
  refine T_items_nil (T_len_tup (by walk_at "mem") (by rw [List.length_map, hlen]; exact Nat.le_trans (Nat.le_of_add_left_le hz) (by decide)) fun t3 => ?_)
  refine T_iadd fun t4 => ?_
  have R1 := (rep_na (np' := r.np + ((vals.map cv).length : Nat)) hi).app post
  refine T_set_np (by walk_at "mem") (by walk_at "rep") (by walk_at "mem") ?_
  have hn2 : n2iK (rs1.set i { r with np := r.np + ((vals.map cv).length : Nat) }) = n2iK rs1 := n2i_set hi rfl rfl
  rw [← hn2]
  have he2 : absL (rs1.set i { r with np := r.np + ((vals.map cv).length : Nat) }) = updA p (npAdd preds.length) (ens p (absL rs)) := by
    rw [← he, ← hp]
    exact abs_set hi (by rw [List.length_map, hlen]; rfl) hnd1
  generalize rs1.set i { r with np := r.np + ((vals.map cv).length : Nat) } = rs2 at he2
  have g1nd : (portsA (updA p (npAdd preds.length) (ens p (absL rs)))).Nodup := by
    rw [ports_upd (f := npAdd preds.length) (fun _ => rfl)]; exact (ports_ens hnd).1
  have g1s : SuccLe 900 (updA p (npAdd preds.length) (ens p (absL rs))) := SuccLe.np (f := npAdd preds.length) (fun _ => rfl) hsucc.ens
  have g1l : (updA p (npAdd preds.length) (ens p (absL rs))).length ≤ rs.length + 1 := by
    rw [len_upd]; have := len_ens p (absL rs); simpa using this
  refine TT.le (l' := (L, IsNs _ [some (.ref x), some (.int p 0), some (.ref tp), none, none, none]) :: _) (Le.ns (by walk_at "wk") (Le.refl _)) ?_
  refine T_execs (T_for (T_ld F (by walk_at "mem") (by walk_at "at") ?_))
  refine T_iter_tup (by walk_at "mem") fun it => ?_
  refine Loop.tup (vs := vals.map cv) (fun j l => ∃ rs3, absL rs3 = (preds.take j).foldl (addS p) (updA p (npAdd preds.length) (ens p (absL rs))) ∧
    l = (L, IsNs _ [some (.ref x), some (.int p 0), some (.ref tp), none, none, none]) :: (tp, Tup (vals.map cv)) :: (pre ++ SL G.w x d n2i .none npv nfv rs3 post)) ax.hd ⟨rs2, he2, rfl⟩ ?_ ?_ ?_
  · rintro j l ⟨rs3, _, rfl⟩
    walk_at "mem"
  · rintro j l c hc ⟨rs3, he3, rfl⟩
    rw [hvals, List.getElem?_map] at hc
    obtain ⟨q, hq, rfl⟩ := Option.map_eq_some_iff.mp hc
    intro tq
    obtain ⟨f1, f2, f3⟩ := fold_addS (p := p) (preds.take j) _ 900 g1nd g1s
    rw [← he3] at f1 f2 f3
    have hjl : (preds.take j).length ≤ preds.length := by rw [List.length_take]; omega
    refine T_assignName (T_st F (by walk_at "mem") (by walk_at "cv") (by walk_at "put") (by walk_at "rep") ?_)
    refine T_execs (T_Assign (T_MCall (T_ld F (by walk_at "mem") (by walk_at "at") ?_)))
    refine T_smeth m_get_nodeinfo (by walk_at "mem") (by walk_at "mem") ?_
    refine T_cw (Callee.K m_get_nodeinfo.keep) (T_items (T_ld F (by walk_at "mem") (by walk_at "at") ?_)); intro t5
    refine T_items_nil (get_node (pre := (it, _) :: (L, _) :: (tp, _) :: pre) ax.deeper (by rw [List.length_map] at f3; omega) fun rs4 i4 r4 he4 hi4 hp4 => ?_)
    refine TT.as (l' := _ :: _ :: _ :: (pre ++ _)) rfl ?_
    refine T_st F (by walk_at "mem") (by walk_at "cv") (by walk_at "put") (by walk_at "rep") ?_
    have m_na : (r4.na, Node r4.port r4.np r4.sa r4.da) ∈ nodesL rs4 ++ post := List.mem_append_left _ (nodes_na hi4)
    have m_da : (r4.da, AD []) ∈ nodesL rs4 ++ post := List.mem_append_left _ (nodes_da hi4)
    have m_sa : (r4.sa, Lst (r4.succ.map iv)) ∈ nodesL rs4 ++ post := List.mem_append_left _ (nodes_sa hi4)
    refine T_execs (T_Expr (T_MCall (T_Attr (T_ld F (by walk_at "mem") (by walk_at "at") ?_))))
    refine T_get_succ (by walk_at "mem") (by walk_at "mem") ?_
    refine gm_append (by walk_at "mem") ?_
    refine T_cw Callee.builtin (T_items (T_ld F (by walk_at "mem") (by walk_at "at") ?_)); intro t6
    have hs4 : r4.succ.length ≤ 999 := by
      have := f2.ens (p := q) r4.abs (by rw [← he4]; exact List.mem_map_of_mem (List.mem_of_getElem? hi4))
      have h' : r4.abs.succ = r4.succ := rfl
      rw [h'] at this
      omega
    have R4 := (rep_sa (s' := r4.succ ++ [p]) hi4).app post
    rw [List.map_append, List.map_singleton] at R4
    refine T_items_nil (T_append (by walk_at "rep") (by walk_at "cv") (by rw [List.length_map]; exact Nat.le_trans hs4 (by decide)) ?_)
    refine ⟨fun a e => (by cases e), T_execs_nil ?_⟩
    have hn4 : n2iK (rs4.set i4 { r4 with succ := r4.succ ++ [p] }) = n2iK rs4 := n2i_set hi4 rfl rfl
    refine ⟨_, ?_, rs4.set i4 { r4 with succ := r4.succ ++ [p] }, ?_, rfl⟩
    · show Le _ (_ :: (L, _) :: (tp, _) :: (pre ++ _))
      rw [SL, hn4]
      walk_at "le"
    · have hnd4 : (portsA (absL rs4)).Nodup := by rw [he4]; exact (ports_ens f1).1
      rw [abs_set (f := suAdd p) hi4 rfl hnd4, he4, he3, hp4, List.take_add_one, hq]
      simp [addS]
  · rintro l ⟨rs3, he3, rfl⟩
    refine T_execs_nil ⟨_, ?_, h rs3 ?_⟩
    · walk_at "le"
    · rw [he3, List.take_of_length_le (by rw [List.length_map]; omega)]; rfl
end
end
section
section
variable {G : Gd} {A : Around} {E : Value → Led → Prop} {l l' : Led} {env : Env} {pos : Pos}
noncomputable def BM (f x : Addr) (o : Obj) : Prop := o = methodObj (.ref f) (.ref x)
structure MethB (w : World) (name : Str) (f : Addr) : Prop where
  find : findIn (KK w) (.ref 181) name = some (some (.ref f))
  fn : isFn (KK w) (.ref f) = true
  fnI : fnIn (KK w) f = true
  own : ∀ a b c d, (sdK a b c d).find? (fun p => p.1 == name) = none
  get : specialIn (KK w) (.ref f) "__get__" = some (some (.builtin "function.__get__"))
  tk : takesIn (KK w) (.ref f) = some false
  cp : copiedNames.contains name = false
theorem mb_add {w : World} : MethB w (Str.ofString "add") 131 := ⟨by kernel_rfl, by kernel_rfl, by kernel_rfl, fun _ _ _ _ => by kernel_rfl, by kernel_rfl, by kernel_rfl, by decide +kernel⟩
theorem mb_done {w : World} : MethB w (Str.ofString "done") 164 := ⟨by kernel_rfl, by kernel_rfl, by kernel_rfl, fun _ _ _ _ => by kernel_rfl, by kernel_rfl, by kernel_rfl, by decide +kernel⟩
theorem T_bound {x d f : Addr} {name : Str} {a b c e : Value} {expr : Bool} {Q : Value → Led → Prop} (m : MethB G.w name f) (h1 : (x, Inst 181 d) ∈ l) (h2 : (d, SD a b c e) ∈ l) (h : ∀ q, Q (.ref q) ((q, BM f x) :: l)) : TT G A (getAttr (.ref x) name expr) Q E l :=
  ⟨fun s M => by
    obtain ⟨es, n, I, F⟩ := inst_at M h1 h2
    rcases F.get (name := name) with ⟨kv, v, z, _⟩ | ⟨_, b⟩
    · rw [m.own] at z; cases z
    · exact get_bind M.X I (plainGet_of (pg181 (n := name))).1 (findObj_fn hd181 m.find m.get m.tk m.cp (by show lookIn name (dictOf es n) = _; rw [lookIn_dict, b])) (plainGet_of (pg181 (n := name))).2
        (wpAny_call (fn_get (s := { s with toks := s.toks + 1 }) M.X (beq_iff_eq.mp m.fn) (handed_on rfl ⟨_, M.push (P := BM f x) rfl rfl _, h _⟩)))⟩
theorem T_MCallS {o : Expr} {name : Str} {apos : Pos} {args : List Expr} {Q : Value → Led → Prop}
    (h : TT G A (eval o env) (fun ov l₁ => TT G A (getAttr ov name true) (fun f l₂ => TT G A (callWith pos f [] (backTo pos (starEach args env)) []) Q E l₂) E l₁) E l)
    (he : eval (.Call (.Attribute o name apos) args [] pos) env = (do
      let ov ← eval o env
      standAt apos.atName
      let fx ← holding [ov] (do pure (← getAttr ov name true, ([] : List Value)))
      callWith pos fx.1 fx.2 (backTo pos (starEach args env)) []) := by rfl) :
    TT G A (eval (.Call (.Attribute o name apos) args [] pos) env) Q E l := by
  rw [he]
  exact TT.bind (h.mono (fun ov l₁ q => TT.bind (TT.standAt (TT.bind (TT.holding (TT.bind (q.mono (fun f l₂ q₂ => TT.pure q₂) fun _ _ x => x)))))) fun _ _ x => x)
theorem T_cwSB {q f x : Addr} {e : Expr} {rest : List Expr} {Q : Value → Led → Prop} (hf : fnIn (KK G.w) f = true)
    (h : TT G A (spliced (backTo pos (starEach (e :: rest) env))) (fun vs l₁ => (q, BM f x) ∈ l₁ ∧ CT G A (.call (.ref f) ⟨.ref x :: vs, []⟩) (fun r l' => ∃ v, r = .ok (.ret v) ∧ Q v l') l₁) E l)
    (he : starEach (e :: rest) env = (false, eval e env) :: starEach rest env := by rfl) (hst : (backTo pos (starEach rest env)).any (·.1) = true := by rfl) :
    TT G A (callWith pos (.ref q) [] (backTo pos (starEach (e :: rest) env)) []) Q E l :=
  ⟨fun s M => by
    have h' := h.k M (P := fun vs s₁ => MethP (KK G.w) q f (.ref x) s₁.heap ∧ wpAny (model prg G.w) A (call (.ref q) ([] ++ vs)) (fun v s' => ∃ l', Mod G l' s' ∧ Q v l') (Ex G E) s₁) fun vs s' l' m z => by
      obtain ⟨o, ho, rfl⟩ := m.at_ z.1
      refine ⟨⟨ho, m.X⟩, ?_⟩
      refine wpAny_call (method_call ho (codeAny_mono (z.2.go s' m) fun r s' q => ?_))
      obtain ⟨l', m, v, rfl, q⟩ := q
      exact ⟨l', m, q⟩
    rw [he] at h' ⊢
    exact ks_call (P := MethP (KK G.w) q f (.ref x)) (by show (false || (backTo pos (starEach rest env)).any (·.1)) = true; rw [hst]; rfl) (keeps_M hf) (evalArgs_plain h')⟩

/-- one starred argument alone, of a bound method -/
theorem T_cwSB1 {q f x : Addr} {e : Expr} {p : Pos} {Q : Value → Led → Prop} (hf : fnIn (KK G.w) f = true)
    (h : TT G A (eval e env) (fun v l₁ => ∃ a vs, v = .ref a ∧ (a, Tup vs) ∈ l₁ ∧ (q, BM f x) ∈ l₁ ∧ vs.length ≤ sizeLine ∧ ∀ xs, xs.map cv = vs → CT G A (.call (.ref f) ⟨.ref x :: xs, []⟩) (fun r l' => ∃ v, r = .ok (.ret v) ∧ Q v l') l₁) E l)
    (he : starEach [.Starred e p] env = [(true, eval e env)] := by rfl) :
    TT G A (callWith pos (.ref q) [] (backTo pos (starEach [.Starred e p] env)) []) Q E l :=
  ⟨fun s M => by
    rw [he]
    refine ks_call (P := MethP (KK G.w) q f (.ref x)) rfl (keeps_M hf) (ks_lone (h.k M fun v s' l₁ m z => ?_))
    obtain ⟨a, vs, rfl, hm, hq, hz, z⟩ := z
    obtain ⟨o, ho, xs, n, rfl, e⟩ := m.at_ hm
    have hT : s'.TypeIs (.ref a) "tuple" := ⟨_, ho, rfl⟩
    have hsz : xs.size ≤ sizeLine := by rw [show xs.size = vs.length from by rw [← e]; simp]; exact hz
    unfold StarOf notIterableAtAll
    refine wpAny_bind (wpAny_specialOf hT PySem.F.slot_tuple_iter.lookup (wpAny_pure ⟨rfl, ?_⟩))
    refine wpAny_collect_seq a (.inr rfl) ho rfl rfl (fun h' hk => ?_) hsz
    have m' := m.keeps hk hm s'.toks
    obtain ⟨o, ho, rfl⟩ := m'.at_ hq
    refine ⟨⟨ho, m'.X⟩, wpAny_call (method_call ho (codeAny_mono ((z xs.toList e).go _ m') fun r s' q => ?_))⟩
    obtain ⟨l', m, v, rfl, q⟩ := q
    exact ⟨l', m, q⟩⟩

end
end
section
section
variable {G : Gd} {A : Around} {E : Value → Led → Prop} {l l' : Led} {env : Env} {pos : Pos}
/-- the frames of the calls that run stand in the ledger -/
structure Frs (A : Around) (l : Led) : Prop where
  go : ∃ fs, A.frames = some fs ∧ ∀ env ∈ fs, env.scope.kind ≠ .module ∧ ∃ L ns vs, env.frame = some L ∧ (L, IsNs ns vs) ∈ l
theorem Frs.sub (h : Frs A l) (e : ∀ p ∈ l, p ∈ l') : Frs A l' := by
  obtain ⟨fs, h1, h2⟩ := h.go
  exact ⟨fs, h1, fun env he => let ⟨a, L, ns, vs, b, c⟩ := h2 env he; ⟨a, L, ns, vs, b, e _ c⟩⟩
theorem Frs.deeper {fd : FuncData} {L f : Addr} {ns : List Str} {vs : List (Option Value)} (h : Frs A l) (hk : fd.scope.kind = .function) : Frs (A.deeper (callEnv fd L f)) ((L, IsNs ns vs) :: l) := by
  obtain ⟨fs, h1, h2⟩ := h.go
  refine ⟨callEnv fd L f :: fs, Around.frames_deeper h1, fun env he => ?_⟩
  rcases List.mem_cons.mp he with rfl | he
  · refine ⟨?_, L, ns, vs, rfl, .head _⟩
    show fd.scope.kind ≠ _
    rw [hk]; decide
  · obtain ⟨a, L', ns', vs', b, c⟩ := h2 env he
    exact ⟨a, L', ns', vs', b, .tail _ c⟩
theorem IsNs.data {ns : List Str} {vs : List (Option Value)} {o o' : Obj} (h : IsNs ns vs o) (e : o'.data = o.data) : IsNs ns vs o' := by
  obtain ⟨es, ep, a, b⟩ := h
  exact ⟨es, ep, e.trans a, b⟩
theorem Mod.inj {s : Shared} {p q : Ent} (M : Mod G l s) (hp : p ∈ l) (hq : q ∈ l) (e : p.1 = q.1) : p = q := Mod.bridge.inj_of_nodup M.nd hp hq e
theorem Mod.frames {s : Shared} {fs : List Env} (M : Mod G l s) (h : ∀ env ∈ fs, env.scope.kind ≠ .module ∧ ∃ L ns vs, env.frame = some L ∧ (L, IsNs ns vs) ∈ l) : s.heap.FunFrames G.h₀ fs := by
  induction fs with
  | nil => trivial
  | cons env fs ih =>
    obtain ⟨a, L, ns, vs, b, c⟩ := h env (.head _)
    obtain ⟨o, ho, hP, hs⟩ := M.led _ c
    obtain ⟨es, ep, hd, _⟩ := hP
    exact ⟨a, ⟨L, o, b, hs, ho, fun vs q => by rw [hd] at q; cases q⟩, ih fun env he => h env (.tail _ he)⟩
/-- the frames' slots are filled; beside them all stays -/
theorem Mod.slots {s : Shared} {fs : List Env} {h' : Heap} (M : Mod G l s) (h : ∀ env ∈ fs, env.scope.kind ≠ .module ∧ ∃ L ns vs, env.frame = some L ∧ (L, IsNs ns vs) ∈ l) (hs : Heap.SlotsOnly (fs.filterMap (·.frame)) s.heap h') (tk : Nat) (htk : s.toks ≤ tk := by first | exact Nat.le_refl _ | exact Nat.le_add_right _ _ | omega) : Mod G l { s with heap := h', toks := tk } := by
  have key : ∀ b, b ∈ fs.filterMap (·.frame) → ∃ ns vs, (b, IsNs ns vs) ∈ l := fun b hb => by
    obtain ⟨env, he, hf⟩ := List.mem_filterMap.mp hb
    obtain ⟨_, L, ns, vs, e, m⟩ := h env he
    rw [e] at hf; cases hf
    exact ⟨ns, vs, m⟩
  refine ⟨M.ok, fun b o e => ?_, fun p hp => ?_, M.nd, M.gens, M.os, Nat.le_trans M.tok htk⟩
  · show h'.get? b = _
    rw [hs.2.1 b fun hb => ?_]
    · exact M.keep b o e
    · obtain ⟨ns, vs, m⟩ := key b hb
      obtain ⟨_, _, _, c⟩ := M.led _ m
      rw [show G.h₀.get? b = none from c] at e; cases e
  · obtain ⟨o, ho, hP, hsz⟩ := M.led p hp
    by_cases hb : p.1 ∈ fs.filterMap (·.frame)
    · obtain ⟨ns, vs, m⟩ := key _ hb
      have := M.inj hp m rfl
      obtain ⟨sl, e⟩ := hs.2.2 _ _ ho
      refine ⟨_, e, ?_, hsz⟩
      rw [this] at hP ⊢
      exact IsNs.data hP rfl
    · exact ⟨o, (hs.2.1 _ hb).trans ho, hP, hsz⟩

/-- an exception: new (no frame noted), or noted with its traceback's entry at T -/
noncomputable def ExN (c : Value) (as : Option Addr) (o : Obj) : Prop := ∃ vs, o.cls = c ∧ o.data = .fields vs ∧ vs[1]? = some .none ∧ (∀ a, as = some a → vs[0]? = some (.ref a))
noncomputable def ExT (c : Value) (as : Option Addr) (T : Addr) (o : Obj) : Prop := ∃ vs, o.cls = c ∧ o.data = .fields vs ∧ vs[1]? = some (.ref T) ∧ (∀ a, as = some a → vs[0]? = some (.ref a))
noncomputable def Trc (f : Value) (o : Obj) : Prop := ∃ ts, o.data = .fields ts ∧ ts[3]? = some f

/-- a frame's note -/
theorem T_entry {e L : Addr} {c head : Value} {as : Option Addr} {P : Obj → Prop} {hadNext : Bool} {outer : List Env} {l' : Addr → Led} {Q : Unit → Led → Prop}
    (hfr : A.frames = some (env :: outer)) (hf : env.frame = some L) (hin : ∀ env' ∈ env :: outer, env'.scope.kind ≠ .module ∧ ∃ L ns vs, env'.frame = some L ∧ (L, IsNs ns vs) ∈ l)
    (hP : ∀ o, P o → ∃ vs, o.cls = c ∧ o.data = .fields vs ∧ 1 < vs.size ∧ (∀ a, as = some a → vs[0]? = some (.ref a)))
    (hr : ∀ T, Rep e P (ExT c as T) l (l' T)) (h : ∀ T, Q () ((T, Trc (rawInt L)) :: l' T)) :
    TT G A (do let a ← frameOf env; let pl ← entryPlaceOf L hadNext; let b ← EntryCells.newEntry head a .none (rawInt L) .none pl; setField (.ref e) 1 b) Q E l :=
  ⟨fun s M => by
    refine wpAny_bind (wpAny_frameOf_fun hfr (M.frames hin) hf fun h₁ hs₁ => ?_)
    have M₁ := M.slots hin hs₁ s.toks
    refine wpAny_bind (wpAny_entryPlaceOf fun pl hpl => ?_)
    unfold EntryCells.newEntry newFields
    refine wpAny_bind (wpAny_newObj_type ?_ (hpl.sizeOk5 _ _ _ _ _))
    have hT : Trc (rawInt L) ({ cls := .type "traceback", dict := none, data := .fields ([head, .ref L, .none, rawInt L, .none] ++ (if pl.isEmpty then List.replicate 6 Value.none else pl)).toArray } : Obj) := ⟨_, rfl, by simp⟩
    have M₂ := M₁.push hT rfl s.toks
    obtain ⟨oe, he, hPe⟩ := M₂.at_ (.tail _ (hr 0).mem)
    obtain ⟨vs, hc, hd, hsz, hva⟩ := hP oe hPe
    refine wpAny_setField he hd hsz ⟨_, M₂.upd (.tail (hr h₁.objs.size)) (.update ..) ⟨_, Heap.get?_update_self _ he (Obj.isFreed_of_fields (Obj.data_mapFields hd _)), ?_⟩ s.toks, h _⟩
    refine ⟨_, (Obj.cls_mapFields ..).trans hc, Obj.data_mapFields hd _, by simp [hsz], fun a ha => ?_⟩
    have := hva a ha
    rw [Array.getElem?_setIfInBounds_ne (by decide)]; exact this⟩
theorem T_noteN {e L : Addr} {c : Value} {as : Option Addr} {l' : Addr → Led} {Q : Unit → Led → Prop} (hF : Frs A l) (he : ∃ outer, A.frames = some (env :: outer)) (hf : env.frame = some L)
    (hr : ∀ T, Rep e (ExN c as) (ExT c as T) l (l' T)) (h : ∀ T, Q () ((T, Trc (rawInt L)) :: l' T)) : TT G A (noteFrame (.ref e) env) Q E l :=
  ⟨fun s M => by
    obtain ⟨fs, h1, h2⟩ := hF.go
    obtain ⟨outer, h3⟩ := he
    rw [h3] at h1; cases h1
    obtain ⟨oe, he, vs, hc, hd, h1, hva⟩ := M.at_ (hr 0).mem
    unfold noteFrame
    simp only [hf]
    refine wpAny_bind (wpAny_field he hd h1 ?_)
    rw [if_neg (by decide)]
    exact (T_entry h3 hf h2 (fun o ⟨vs, a, b, c, d⟩ => ⟨vs, a, b, (Array.getElem?_eq_some_iff.mp c).1, d⟩) hr h).go s M⟩
theorem T_noteT {e L T₀ : Addr} {c : Value} {as : Option Addr} {l' : Addr → Led} {Q : Unit → Led → Prop} (hF : Frs A l) (he : ∃ outer, A.frames = some (env :: outer)) (hf : env.frame = some L) (hT : (T₀, Trc .none) ∈ l)
    (hr : ∀ T, Rep e (ExT c as T₀) (ExT c as T) l (l' T)) (h : ∀ T, Q () ((T, Trc (rawInt L)) :: l' T)) : TT G A (noteFrame (.ref e) env) Q E l :=
  ⟨fun s M => by
    obtain ⟨fs, h1, h2⟩ := hF.go
    obtain ⟨outer, h3⟩ := he
    rw [h3] at h1; cases h1
    obtain ⟨oe, he, vs, hc, hd, h1, hva⟩ := M.at_ (hr 0).mem
    obtain ⟨oT, hoT, ts, hdT, h3T⟩ := M.at_ hT
    unfold noteFrame
    simp only [hf]
    refine wpAny_bind (wpAny_field he hd h1 ?_)
    rw [if_pos (show (Value.ref T₀ != Value.none) = true from by simp)]
    refine wpAny_bind (wpAny_field hoT hdT h3T ?_)
    rw [if_neg (show ¬ ((Value.none == rawInt L) = true) from by simp [rawInt])]
    refine wpAny_bind (wpAny_setField hoT hdT (Array.getElem?_eq_some_iff.mp h3T).1 ?_)
    have M' : Mod G l { s with heap := s.heap.update T₀ (Obj.mapFields (·.setIfInBounds 3 .none)), toks := s.toks } := by
      obtain ⟨x, y, e⟩ := List.append_of_mem hT
      have R : Rep T₀ (Trc .none) (Trc .none) l l := by rw [e]; exact Rep.appL x .head
      refine M.upd R (.update ..) ⟨_, Heap.get?_update_self _ hoT (Obj.isFreed_of_fields (Obj.data_mapFields hdT _)), _, Obj.data_mapFields hdT _, ?_⟩ s.toks
      have hsz := (Array.getElem?_eq_some_iff.mp h3T).1
      simp [hsz]
    exact (T_entry h3 hf h2 (fun o ⟨vs, a, b, c, d⟩ => ⟨vs, a, b, (Array.getElem?_eq_some_iff.mp c).1, d⟩) hr h).go _ M'⟩
theorem T_flight {e T : Addr} {c f : Value} {as : Option Addr} {Q : Unit → Led → Prop} (he : (e, ExT c as T) ∈ l) (hr : Rep T (Trc f) (Trc .none) l l') (h : Q () l') : TT G A (setFlight (.ref e) none) Q E l :=
  ⟨fun s M => by
    obtain ⟨oe, ho, vs, hc, hd, h1, hva⟩ := M.at_ he
    obtain ⟨oT, hoT, ts, hdT, h3T⟩ := M.at_ hr.mem
    have hsz := (Array.getElem?_eq_some_iff.mp h3T).1
    refine wpAny_setFlight_none ho hd h1 hoT hdT hsz ⟨_, M.upd hr (.update ..) ⟨_, Heap.get?_update_self _ hoT (Obj.isFreed_of_fields (Obj.data_mapFields hdT _)), _, Obj.data_mapFields hdT _, ?_⟩ s.toks, h⟩
    simp [hsz]⟩

end
end
section
namespace FN
theorem slot_ga : Slot "list_iterator" "__getattribute__" "object.__getattribute__" := .of (owner := "object") (n := "__getattribute__") (by rw [typeLookup_type, builtinLookup_eq_fast]; kernel_rfl) (by decide +kernel) (by decide +kernel) (by decide +kernel)
    (by first | exact .inl (by decide +kernel) | exact .inr (by decide +kernel)) (by rw [isSubtype_type]; kernel_rfl)
theorem entry_ga : entryFor table "object.__getattribute__" = some Builtin.«object.__getattribute__» := entryFor_of_tree (by kernel_rfl)
theorem args_ga (a b : Value) : argsOk "object.__getattribute__" ⟨[a, b], []⟩ := by unfold argsOk; kernel_rfl
theorem lk : typeLookup (.type "list_iterator") "__next__" = pure (some (.builtin "list_iterator.__next__")) := by rw [typeLookup_type, builtinLookup_eq_fast]; kernel_rfl
theorem ty : typeOf (.builtin "list_iterator.__next__") = pure (.type "wrapper_descriptor") := by kernel_rfl
theorem slot_get : Slot "wrapper_descriptor" "__get__" "wrapper_descriptor.__get__" := .of (owner := "wrapper_descriptor") (n := "__get__") (by rw [typeLookup_type, builtinLookup_eq_fast]; kernel_rfl) (by decide +kernel) (by decide +kernel) (by decide +kernel)
    (by first | exact .inl (by decide +kernel) | exact .inr (by decide +kernel)) (by rw [isSubtype_type]; kernel_rfl)
theorem no_set : typeLookup (.type "wrapper_descriptor") "__set__" = pure none := by rw [typeLookup_type, builtinLookup_eq_fast]; kernel_rfl
theorem no_del : typeLookup (.type "wrapper_descriptor") "__delete__" = pure none := by rw [typeLookup_type, builtinLookup_eq_fast]; kernel_rfl
theorem entry_get : entryFor table "wrapper_descriptor.__get__" = some Builtin.«wrapper_descriptor.__get__» := entryFor_of_tree (by kernel_rfl)
theorem args_get (a b c : Value) : argsOk "wrapper_descriptor.__get__" ⟨[a, b, c], []⟩ := by unfold argsOk; kernel_rfl
theorem own : (".".intercalate ("list_iterator.__next__".cutAt '.').dropLast) = "list_iterator" := by
  have e0 : "list_iterator.__next__".cutAt '.' = ["list_iterator", "__next__"] := by first | rfl | decide +kernel
  rw [e0]; decide +kernel
theorem sub_own : isSubtype (.type "list_iterator") (.type (".".intercalate ("list_iterator.__next__".cutAt '.').dropLast)) = pure true := by rw [own, isSubtype_type]; kernel_rfl
end FN
noncomputable abbrev mwObj (it : Addr) : Obj := { cls := .type "method-wrapper", data := .fields #[.builtin "list_iterator.__next__", .ref it] }
section
variable {prog : Program} {w : World} {A : Around} {E : Value → Shared → Prop} {h : Heap} {g : Array GenState} {d : Drawn} {t : Nat} {os : OsState} {a : Addr} {o : Obj}
theorem next_get {R : Result → Shared → Prop} (hx : h.get? a = some o) (hc : o.cls = .type "list_iterator") (hq : R (.ok (.ret (.ref h.objs.size))) ⟨h.push (mwObj a), g, d, t, os⟩) :
    codeAny (model prog w) A (.call (.builtin "wrapper_descriptor.__get__") ⟨[.builtin "list_iterator.__next__", .ref a, .type "list_iterator"], []⟩) R ⟨h, g, d, t, os⟩ := by
  have hT : (⟨h, g, d, t, os⟩ : Shared).TypeIs (.ref a) "list_iterator" := ⟨_, hx, hc⟩
  have hT5 : (⟨h, g, d, t, os⟩ : Shared).TypeIs (.builtin "list_iterator.__next__") "wrapper_descriptor" := FN.ty
  have f8 := FN.sub_own
  refine codeAny_call_builtin FN.slot_get.plain FN.entry_get (FN.slot_get.check _ _ _ _ _ _ _ _ hT5 (FN.args_get _ _ _) ?_)
  unfold Builtin.«wrapper_descriptor.__get__»
  repeat (any_goals (first | assumption | wp_step))
theorem next_entry {tk : Tok} {fs : Array Value} {Q : Fin → Shared → Prop} (hx : h.get? a = some { cls := .type "list_iterator", dict := none, data := .fields fs, slots := #[] }) (hq : Q (.done (.ret (.ref h.objs.size))) ⟨h.push (mwObj a), g, d, t, os⟩) :
    wpAny (model prog w) A (Builtin.«object.__getattribute__» ⟨[.ref a, .str "__next__" tk], []⟩) Q E ⟨h, g, d, t, os⟩ := by
  have hT : (⟨h, g, d, t, os⟩ : Shared).TypeIs (.ref a) "list_iterator" := ⟨_, hx, rfl⟩
  have hT5 : (⟨h, g, d, t, os⟩ : Shared).TypeIs (.builtin "list_iterator.__next__") "wrapper_descriptor" := FN.ty
  have f4 := FN.lk
  have f5 := FN.ty
  have f6 := FN.slot_get.lookup
  have f7 := FN.no_set
  have f8 := FN.no_del
  repeat (any_goals (first | assumption | wp_step))
  refine next_get hx rfl ?_
  repeat (any_goals (first | assumption | wp_step))
theorem next_call {tk : Tok} {fs : Array Value} {R : Result → Shared → Prop} (hx : h.get? a = some { cls := .type "list_iterator", dict := none, data := .fields fs, slots := #[] }) (hq : R (.ok (.ret (.ref h.objs.size))) ⟨h.push (mwObj a), g, d, t, os⟩) :
    codeAny (model prog w) A (.call (.builtin "object.__getattribute__") ⟨[.ref a, .str "__next__" tk], []⟩) R ⟨h, g, d, t, os⟩ :=
  codeAny_call_builtin FN.slot_ga.plain FN.entry_ga (FN.slot_ga.check _ _ _ _ _ _ _ _ (show (⟨h, g, d, t, os⟩ : Shared).TypeIs (.ref a) "list_iterator" from ⟨_, hx, rfl⟩) (FN.args_ga _ _) (next_entry hx hq))
theorem next_attr {fs : Array Value} {Q : Value → Shared → Prop} (hx : h.get? a = some { cls := .type "list_iterator", dict := none, data := .fields fs, slots := #[] }) (hq : Q (.ref h.objs.size) ⟨h.push (mwObj a), g, d, t + 1, os⟩) :
    wpAny (model prog w) A (getAttr (.ref a) (Str.ofString "__next__") true) Q E ⟨h, g, d, t, os⟩ := by
  have hT : ∀ t, (⟨h, g, d, t, os⟩ : Shared).TypeIs (.ref a) "list_iterator" := fun _ => ⟨_, hx, rfl⟩
  have f2 := FN.slot_ga.lookup
  have f3 := FN.slot_ga.bind (.ref a)
  unfold getAttr getAttrBy
  repeat (any_goals (first | assumption | exact hT _ | wp_step))
  refine next_call hx ?_
  exact wpAny_pure hq
end
end
section
section
variable {G : Gd} {A : Around} {E : Value → Led → Prop} {l l' : Led} {env : Env} {pos : Pos}
theorem Ax.mark_room {k : Nat} {v : Option Value} (h : A.depth + k < recursionLimit) : (A.mark v).depth + k < recursionLimit := h
theorem Frs.mark {v : Option Value} (h : Frs A l) : Frs (A.mark v) l := ⟨h.go⟩
theorem T_try {body orelse : List Stmt} {h₀ : ExceptHandler} {hs : List ExceptHandler} {Q : Flow → Led → Prop}
    (h : TT G A (execs body env) (Then G A orelse env Q E) (fun v l₁ => TT G A (noteFrame v env) (fun _ l₂ => TT G A (setFlight v none) (fun _ l₃ => TT G A (handleBy v env (h₀ :: hs)) Q E l₃) E l₂) E l₁) l) :
    TT G A (exec (.Try body (h₀ :: hs) orelse [] pos) env) Q E l :=
  ⟨fun s M => by
    refine wpAny_Try_except (wpAny_mono (h.go s M) (fun f s₁ q => ?_) fun v s₁ q => ?_)
    · obtain ⟨l₁, m, q⟩ := q
      unfold Then at q
      cases f with
      | next => exact q.go s₁ m
      | brk => exact ⟨l₁, m, q⟩
      | cont => exact ⟨l₁, m, q⟩
      | ret v => exact ⟨l₁, m, q⟩
    · obtain ⟨l₁, m, q⟩ := q
      exact q.k m fun _ s₂ l₂ m₂ q₂ => q₂.k m₂ fun _ s₃ l₃ m₃ q₃ => q₃.go s₃ m₃⟩
theorem noteFalse {v : Value} {s : Shared} {E' : Value → Shared → Prop} (h : ∃ l, Mod G l s ∧ Ef v l) : E' v s := by obtain ⟨_, _, hf⟩ := h; exact hf.elim
theorem T_handleB {e T₀ : Addr} {X T : String} {b : Bool} {as : Option Addr} {t : Expr} {b₀ : Stmt} {suite : List Stmt} {rest : List ExceptHandler} {Q : Flow → Led → Prop}
    (hexc : isSubtype (.type T) (.type "BaseException") = pure true) (hnt : isSubtype (.type ((Manifest.find? T).elim "type" fun x => x.metatype)) (.type "tuple") = pure false) (hsub : isSubtype (.type X) (.type T) = pure b)
    (h : TT G (A.mark (some (.ref e))) (eval t env) (fun c l₁ => c = .type T ∧ (e, ExT (.type X) as T₀) ∈ l₁ ∧ Br b (TT G (A.mark (some (.ref e))) (setFlight (.ref e) none) (fun _ l₂ => TT G (A.mark (some (.ref e))) (execs (b₀ :: suite) env) Q Ef l₂) Ef l₁) (TT G A (handleBy (.ref e) env rest) Q E l₁)) Ef l) :
    TT G A (handleBy (.ref e) env (.ExceptHandler (some t) none (b₀ :: suite) pos :: rest)) Q E l :=
  ⟨fun s M => by
    refine wpAny_handleBy_builtin hexc hnt hsub (wpAny_mono (h.go s M) (fun c s₁ q => ?_) fun _ _ q => noteFalse q)
    obtain ⟨l₁, m, rfl, he, q⟩ := q
    obtain ⟨o, ho, vs, hc, _⟩ := m.at_ he
    refine ⟨rfl, ⟨o, ho, hc⟩, ?_⟩
    cases b with
    | true =>
      rw [if_pos rfl]
      refine wpAny_mono ((q.yes rfl).go s₁ m) (fun _ s₂ q₂ => ?_) fun _ _ q => noteFalse q
      obtain ⟨l₂, m₂, q₂⟩ := q₂
      exact wpAny_mono (q₂.go s₂ m₂) (fun _ _ q => q) fun _ _ q => noteFalse q
    | false => rw [if_neg Bool.false_ne_true]; exact (q.no rfl).go s₁ m⟩

-- a list's iterator's __next__, kept
noncomputable def MW (it : Addr) (o : Obj) : Prop := o = mwObj it
noncomputable def LItN (a : Addr) (o : Obj) : Prop := o = ({ cls := .type "list_iterator", dict := none, data := .fields #[.ref a, .int 0 0], slots := #[] } : Obj)
noncomputable def Dead (o : Obj) : Prop := True
theorem T_iterCall {a : Addr} {vs : List Value} {Q : Value → Led → Prop} (hm : (a, Lst vs) ∈ l) (h : ∀ it, Q (.ref it) ((it, LItN a) :: l)) : TT G A (call (.builtin "iter") [.ref a]) Q E l :=
  ⟨fun s M => by
    obtain ⟨xs, n, hl, e, hsz⟩ := lst_at M hm
    refine call_function_entry (by decide +kernel) (by decide +kernel) kdk_entry_iter (kdk_args_iter _) ?_
    unfold Builtin.«iter»
    refine wpAny_bind (m := someArgs "iter" 1 2 _) (wpAny_of_eq (a := [Value.ref a]) (by first | rfl | kernel_rfl) ?_)
    show wpAny _ _ (pyIter (.ref a) >>= _) _ _ _
    refine wpAny_bind (wpAny_pyIter_list hl.isList ?_)
    exact wpAny_pure ⟨_, rfl, _, M.push (P := LItN a) rfl rfl _, h _⟩⟩
theorem T_nextAttr {it a : Addr} {Q : Value → Led → Prop} (hm : (it, LItN a) ∈ l) (h : ∀ mw, Q (.ref mw) ((mw, MW it) :: l)) : TT G A (getAttr (.ref it) (Str.ofString "__next__") true) Q E l :=
  ⟨fun s M => by
    obtain ⟨o, ho, rfl⟩ := M.at_ hm
    obtain ⟨hp, g, d, tk, os⟩ := s
    exact next_attr ho ⟨_, M.push (P := MW it) rfl rfl _, h _⟩⟩
theorem T_cw0M {mw it : Addr} {Q : Value → Led → Prop} (hm : (mw, MW it) ∈ l) (h : TT G A (call (.ref mw) []) Q E l) :
    TT G A (callWith pos (.ref mw) [] (backTo pos (starEach [] env)) []) Q E l :=
  ⟨fun s M => by
    obtain ⟨o, ho, rfl⟩ := M.at_ hm
    refine callWith_of (P := fun h => h.get? mw = some (mwObj it)) rfl (fun h hh => ⟨.machine, .inr (.inl rfl), ?_⟩) (evalArgs_nil3 ⟨ho, h.go s M⟩)
    exact (Looks.ld (part := none) hh).andThen .now⟩
theorem mw_code {prog : Program} {w : World} {s : Shared} {mw it : Addr} {R : Result → Shared → Prop} {o : Obj} (hm : s.heap.get? mw = some (mwObj it)) (hi : s.heap.get? it = some o) (hc : o.cls = .type "list_iterator")
    (h : codeAny (model prog w) A (.builtin "list_iterator.__next__" ⟨[.ref it], []⟩) R s) : codeAny (model prog w) A (.call (.ref mw) ⟨[], []⟩) R s := by
  obtain ⟨hp, g, d, tk, os⟩ := s
  refine codeAny_of_tree ?_
  show wpAny _ _ (callAny (.ref mw) _) _ _ _
  have hm' : hp.get? mw = some (mwObj it) := hm
  have hi' : hp.get? it = some o := hi
  unfold callAny
  refine wpAny_bind (wpAny_load hm ?_)
  show wpAny _ _ (checkBoundCall "list_iterator.__next__" ⟨[.ref it], []⟩ >>= _) _ _ _
  refine wpAny_bind (wpAny_of_eq (a := ()) (by first | rfl | kernel_rfl) ?_)
  exact wpAny_pure ⟨Code.quiet_builtin _ (by decide +kernel), h⟩
theorem T_mwItem {mw it a : Addr} {vs : List Value} {i : Nat} {c : Value} {Q : Value → Led → Prop} (hm : (mw, MW it) ∈ l) (ha : (a, Lst vs) ∈ l) (hr : Rep it (LIt a i) (LIt a (i + 1)) l l') (hx : vs[i]? = some c) (h : Any c fun v => Q v l') : TT G A (call (.ref mw) []) Q E l :=
  ⟨fun s M => by
    obtain ⟨om, hom, rfl⟩ := M.at_ hm
    obtain ⟨o, ho, hc, hd⟩ := M.at_ hr.mem
    obtain ⟨xs, n, hl, e, hsz⟩ := lst_at M ha
    rw [← e, List.getElem?_map, Array.getElem?_toList] at hx
    obtain ⟨v, hv, hcv⟩ := Option.map_eq_some_iff.mp hx
    refine wpAny_call (mw_code hom ho hc (codeAny_builtin entry_listiter_next ?_))
    show wpAny _ _ (field (.ref it) 0 >>= _) _ _ s
    refine wpAny_bind (wpAny_field ho hd (x := .ref a) rfl ?_)
    show wpAny _ _ (if (Value.ref a == Value.none) = true then _ else _) _ _ s
    rw [if_neg (show ¬ ((Value.ref a == Value.none) = true) from Bool.false_ne_true)]
    show wpAny _ _ (field (.ref it) 1 >>= _) _ _ s
    refine wpAny_bind (wpAny_field ho hd (x := .int i 0) rfl ?_)
    show wpAny _ _ (seqItems? (.ref a) >>= _) _ _ s
    refine wpAny_bind (wpAny_seqItems (o := listOf xs n) hl rfl ?_)
    simp only [Int.toNat_natCast, hv]
    refine wpAny_bind (wpAny_setField ho hd (by simp) (wpAny_pure ⟨l', M.upd hr (.update ..) ⟨_, Heap.get?_update_self _ ho (Obj.isFreed_of_fields (Obj.data_mapFields hd _)), (Obj.cls_mapFields ..).trans hc, ?_⟩ s.toks, any_of_cv hcv h⟩))
    rw [Obj.data_mapFields hd]; simp [rawInt]⟩
theorem T_mwStop {mw it a : Addr} {vs : List Value} {i : Nat} {Q : Value → Led → Prop} (hh : A.handled = none) (hm : (mw, MW it) ∈ l) (ha : (a, Lst vs) ∈ l) (hr : Rep it (LIt a i) Dead l l') (hx : vs[i]? = none) (h : ∀ e, E (.ref e) ((e, ExN (.type "StopIteration") none) :: l')) : TT G A (call (.ref mw) []) Q E l :=
  ⟨fun s M => by
    obtain ⟨om, hom, rfl⟩ := M.at_ hm
    obtain ⟨o, ho, hc, hd⟩ := M.at_ hr.mem
    obtain ⟨xs, n, hl, e, hsz⟩ := lst_at M ha
    rw [← e, List.getElem?_map, Array.getElem?_toList, Option.map_eq_none_iff] at hx
    refine wpAny_call (mw_code hom ho hc (codeAny_builtin entry_listiter_next ?_))
    show wpAny _ _ (field (.ref it) 0 >>= _) _ _ s
    refine wpAny_bind (wpAny_field ho hd (x := .ref a) rfl ?_)
    show wpAny _ _ (if (Value.ref a == Value.none) = true then _ else _) _ _ s
    rw [if_neg (show ¬ ((Value.ref a == Value.none) = true) from Bool.false_ne_true)]
    show wpAny _ _ (field (.ref it) 1 >>= _) _ _ s
    refine wpAny_bind (wpAny_field ho hd (x := .int i 0) rfl ?_)
    show wpAny _ _ (seqItems? (.ref a) >>= _) _ _ s
    refine wpAny_bind (wpAny_seqItems (o := listOf xs n) hl rfl ?_)
    simp only [Int.toNat_natCast, hx]
    have M' := M.upd hr (.update (a := it) (f := Obj.mapFields (·.setIfInBounds 0 .none)) ..) ⟨_, Heap.get?_update_self _ ho (Obj.isFreed_of_fields (Obj.data_mapFields hd _)), trivial⟩ s.toks
    refine wpAny_bind (wpAny_rule (wpAny_bind (wpAny_setField ho hd (by simp) ?_)))
    show wpAny _ _ (newExc (.type "StopIteration") [] >>= _) _ _ _
    refine wpAny_bind ?_
    simp only [newExc, newTuple]
    refine wpAny_bind (wpAny_newObj_type ?_ (by size_fits))
    refine wpAny_bind (m := firstArgMember _ _) (wpAny_of_eq (a := Value.none) (by first | rfl | (simp only [firstArgMember]; rfl)) ?_)
    refine wpAny_newObj_type ?_ (by size_fits)
    simp only [raiseNew]
    refine wpAny_bind (wpAny_handled ?_)
    rw [show (A.under (Code.builtin "list_iterator.__next__" { pos := [Value.ref it] })).handled = none from hh]
    refine wpAny_throw ?_
    have M₁ := M'.push (o := { cls := .type "tuple", data := .seq #[] }) (P := fun _ => True) trivial rfl s.toks
    refine ⟨_, (M₁.push (P := ExN (.type "StopIteration") none) ⟨_, rfl, rfl, rfl, fun a h => nomatch h⟩ rfl s.toks).le (.keep (fun _ h => h) (.drop (Le.refl _))), h _⟩⟩

end
end
section
section
variable {G : Gd} {A : Around} {E : Value → Led → Prop} {l l' : Led} {env : Env} {pos : Pos}
-- sets of ints
noncomputable def ISet (w : World) (S : Int → Bool) (n : Nat) (o : Obj) : Prop := o.SetObjOf (intKind prg w) S n
theorem T_set0 {Q : Value → Led → Prop} (h : ∀ a, Q (.ref a) ((a, ISet G.w (fun _ => false) 0) :: l)) : TT G A (call (.type "set") []) Q E l :=
  ⟨fun s M => by exact call_set_0 fun led => ⟨_, M.push (P := ISet G.w (fun _ => false) 0) (setObjOf_fresh led) rfl _, h _⟩⟩
theorem set_at {s : Shared} {a : Addr} {S : Int → Bool} {n : Nat} (M : Mod G l s) (h : (a, ISet G.w S n) ∈ l) (hn : n < scanBound) : s.heap.SetOf (intKind prg G.w) a S n := by
  obtain ⟨o, ho, hs⟩ := M.at_ h
  exact hs.setOf ho hn
theorem T_inSet {a : Addr} {S : Int → Bool} {n : Nat} {k : Int} {t : Tok} {Q : Value → Led → Prop} (hm : (a, ISet G.w S n) ∈ l) (hn : n < scanBound) (h : Q (.bool (S k)) l) : TT G A (compareOp .In (.int k t) (.ref a)) Q E l :=
  ⟨fun s M => by exact wpAny_inSet_of (intKind_is _ _ _ _) rfl (set_at M hm hn) ⟨l, M.toks _, h⟩⟩
theorem gm_add {a : Addr} {S : Int → Bool} {n : Nat} {pl : Sem Bool} {Q : Value × List Value → Led → Prop} (hm : (a, ISet G.w S n) ∈ l) (h : Q (.builtin "set.add", [.ref a]) l) : TT G A (getMethod (.ref a) (Str.ofString "add") pl) Q E l :=
  T_gm F.plainAttrs_set F.slot_set_add F.type_set_add (fun o ho => ⟨ho.1.1, ho.1.2.1⟩) hm h
theorem T_setadd {a : Addr} {S : Int → Bool} {n : Nat} {k : Int} {t : Tok} {Q : Value → Led → Prop} (hn : n + 1 < scanBound) (hr : Rep a (ISet G.w S n) (ISet G.w (fun k' => S k' || decide (k' = k)) (if S k then n else n + 1)) l l') (h : Q .none l') :
    TT G A (call (.builtin "set.add") [.ref a, .int k t]) Q E l :=
  ⟨fun s M => by
    refine call_set_add (intKind_is _ _ _ _) rfl (set_at M hr.mem (by omega)) hn fun h' hs hS => ⟨l', M.upd hr hs ?_ _, h⟩
    exact hS.objOf⟩
-- lists
theorem T_itemNeg {a : Addr} {vs : List Value} {value slice : Expr} {k : Int} {u : Tok} {c : Value} {Q : Value → Led → Prop} (hm : (a, Lst vs) ∈ l) (h0 : k < 0) (h1 : -(vs.length : Int) ≤ k) (hfit : -(2 ^ 63) ≤ k) (hx : vs[(k + vs.length).toNat]? = some c) (h : Any c fun v => Q v l)
    (hs : subscripted slice false (.ref a) (.int k u) = operate [.ref a, .int k u] (getItem (.ref a) (.int k u)) := by with_unfolding_all rfl) :
    TT G A (subscriptTail value slice (.ref a) (.int k u)) Q E l :=
  ⟨fun s M => by
    obtain ⟨xs, n, hl, e, hn⟩ := lst_at M hm
    rw [← hn] at h1 hx
    rw [← e, List.getElem?_map] at hx
    obtain ⟨v, hv, hc⟩ := Option.map_eq_some_iff.mp hx
    rw [Array.getElem?_toList] at hv
    have hq := any_of_cv hc h
    exact tail_any hl.isList.typeIs slot_list_getitem.lookup (wpAny_getItem_list_neg hl.isList h0 h1 hfit hv ⟨l, M, hq⟩) hs⟩
theorem T_addList {a b : Addr} {xs ys : List Value} {Q : Value → Led → Prop} (h1 : (a, Lst xs) ∈ l) (h2 : (b, Lst ys) ∈ l) (hz : xs.length + ys.length ≤ sizeLine) (h : ∀ r, Q (.ref r) ((r, Lst (xs ++ ys)) :: l)) : TT G A (binaryOp .Add (.ref a) (.ref b)) Q E l :=
  ⟨fun s M => by
    obtain ⟨us, n, hl, e, hn⟩ := lst_at M h1
    obtain ⟨ws, n', hl', e', hn'⟩ := lst_at M h2
    exact P.add_list hl hl' ⟨_, M.push (P := Lst (xs ++ ys)) ⟨us ++ ws, 0, rfl, by simp [e, e']⟩ rfl _, h _⟩ (by omega)⟩
theorem T_part_none {Q : Value → Led → Prop} (h : Q .none l) : TT G A (evalPart none env) Q E l := ⟨fun s M => by with_reducible exact wpAny_evalPart_none ⟨l, M, h⟩⟩
theorem T_part {e : Expr} {Q : Value → Led → Prop} (h : TT G A (eval e env) Q E l) : TT G A (evalPart (some e) env) Q E l := ⟨fun s M => by with_reducible exact wpAny_evalPart_some (h.go s M)⟩
theorem T_slice {value : Expr} {lower upper : Option Expr} {p : Pos} {Q : Value → Led → Prop}
    (h : TT G A (eval value env) (fun o l₁ => TT G A (evalPart lower env) (fun vl l₂ => TT G A (evalPart upper env) (fun vu l₃ =>
      ∃ a vs lo hi, o = .ref a ∧ (a, Lst vs) ∈ l₃ ∧ vs.length ≤ sizeLine ∧ IsPart vl lo ∧ IsPart vu hi ∧ ∀ D, Q (.ref D) ((D, Lst (slicePick vs.toArray lo hi none).toList) :: l₃)) E l₂) E l₁) E l)
    (ht : ∀ o r, letTemporaryGo value o r = pure () := by intro _ _; rfl) : TT G A (eval (.Subscript value (.Slice lower upper none p) pos) env) Q E l :=
  ⟨fun s M => by
    refine wpAny_Subscript_list_slice (h.k M fun o s₁ l₁ m₁ q => q.k m₁ fun vl s₂ l₂ m₂ q => q.k m₂ fun vu s₃ l₃ m₃ q => ?_) ht
    obtain ⟨a, vs, lo, hi, rfl, hm, hz, pl, pu, q⟩ := q
    obtain ⟨xs, n, hl, e, hn⟩ := lst_at m₃ hm
    refine ⟨a, xs, lo, hi, rfl, hl.isList, by omega, pl, pu, ?_⟩
    have M₁ := m₃.push (o := { cls := .type "slice", data := .fields #[vl, vu, .none] }) (P := fun _ => True) trivial rfl s₃.toks
    have M₂ := M₁.push (o := { cls := .type "list", data := .seq (slicePick xs lo hi none) }) (P := Lst (slicePick vs.toArray lo hi none).toList) ⟨_, 0, rfl, ?_⟩ rfl s₃.toks
    · simp only [Heap.size_push] at M₂
      exact ⟨_, M₂.le (.keep (fun _ h => h) (.drop (Le.refl _))), q _⟩
    · have hsz : vs.toArray.size = xs.size := by simp [hn]
      unfold slicePick
      rw [hsz]
      generalize sliceRange _ _ _ = r
      simp only []
      rw [List.map_filterMap]
      congr 1
      funext i
      rw [← e]
      simp⟩

end
end
section
section
variable {G : Gd} {A : Around} {E : Value → Led → Prop} {l l' : Led} {env : Env} {pos : Pos}
theorem Mod.sameDrop {a : Addr} {P : Obj → Prop} {s : Shared} {h' : Heap} (M : Mod G ((a, P) :: l) s) (hs : Heap.SameBut a s.heap h') : Mod G l { s with heap := h' } := by
  have nd := List.nodup_cons.mp M.nd
  have ha : G.h₀.get? a = none := let ⟨_, _, _, c⟩ := M.led (a, P) (.head _); c
  refine ⟨M.ok, fun b o e => (hs.2 b fun q => ?_).trans (M.keep b o e), fun p hp => ?_, nd.2, M.gens, M.os, M.tok⟩
  · rw [q, ha] at e; cases e
  · obtain ⟨o, i, j, k⟩ := M.led p (.tail _ hp)
    exact ⟨o, (hs.2 _ fun q => nd.1 (q ▸ List.mem_map_of_mem (f := (·.1)) hp)).trans i, j, k⟩
noncomputable abbrev testsOf (ifs : List Expr) (env : Env) : Sem Bool := forIn ifs true fun c r => if r = true then do let ok ← isTrue c env (eval c env); pure (ForInStep.yield ok) else pure (ForInStep.yield r)
theorem T_tests0 {Q : Bool → Led → Prop} (h : Q true l) : TT G A (testsOf [] env) Q E l := ⟨fun s M => wpAny_tests_nil ⟨l, M, h⟩⟩
theorem T_tests1 {c : Expr} {Q : Bool → Led → Prop} (h : TT G A (isTrue c env (eval c env)) Q E l) : TT G A (testsOf [c] env) Q E l := ⟨fun s M => wpAny_tests_one (h.go s M)⟩
/-- a comprehension's work behind its first iterator -/
structure Comp (G : Gd) (A : Around) (target elt : Expr) (ifs : List Expr) (ns : List Str) (vn : List (Option Value)) (cenv : Addr → Env) (R : Addr → List Value → Led → Prop) (v : Value) (l : Led) : Prop where
  go : ∃ (it : Addr) (I : Iter) (Inv : Nat → List Value → Led → Prop) (lo : Led), v = .ref it ∧ I.Ok G A target it ∧ Le l (I.seg 0 ++ lo) ∧ Inv 0 [] lo ∧
    (∀ l Q, Q (.ref it) (I.seg 0 ++ l) → TT G A (pyIter (.ref it)) Q Ef (I.seg 0 ++ l)) ∧
    (∀ i acc l D C, Inv i acc l → acc.length ≤ sizeLine ∧ I.need ((D, Lst acc) :: (C, IsNs ns vn) :: l)) ∧
    (∀ i acc l D C, i < I.n → Inv i acc l → I.item i (fun v l₁ => TT G A (assign target (cenv C) v) (fun _ l₂ => TT G A (testsOf ifs (cenv C)) (fun ok l₃ => Br ok
        (TT G A (eval elt (cenv C)) (fun x l₄ => ∃ c l₅, CV x c ∧ Le l₄ (I.seg (i + 1) ++ (D, Lst acc) :: (C, IsNs ns vn) :: l₅) ∧ Inv (i + 1) (acc ++ [c]) l₅) Ef l₃)
        (∃ l₅, Le l₃ (I.seg (i + 1) ++ (D, Lst acc) :: (C, IsNs ns vn) :: l₅) ∧ Inv (i + 1) acc l₅)) Ef l₂) Ef (I.seg (i + 1) ++ l₁)) ((D, Lst acc) :: (C, IsNs ns vn) :: l)) ∧
    (∀ acc l D, Inv I.n acc l → R D acc l)
theorem compLoop_any {prog : Program} {w : World} {R : Result → Shared → Prop} {s : Shared} {elt target iter : Expr} {ifs : List Expr} {scope : Scope} {it acc : Value} (I : Nat → Shared → Prop)
    (turn : ∀ n s, I n s → wpAny (model prog w) A (pyNext it) (fun r s₁ => match r with
      | none => R (.ok .next) s₁
      | some v => wpAny (model prog w) A (letOwnedTupleGo target it v) (fun _ s₁' => wpAny (model prog w) A (assign target env v) (fun _ s₂ =>
          wpAny (model prog w) A (testsOf ifs env) (fun ok s₃ =>
            if ok = true then wpAny (model prog w) A (eval elt env) (fun x s₄ =>
              wpAny (model prog w) A (call (.builtin "list.append") [acc, x]) (fun _ s₅ => ∃ m, m < n ∧ I m s₅) (notedBy (model prog w) A env fun e s' => R (.error e) s') s₄) (notedBy (model prog w) A env fun e s' => R (.error e) s') s₃
            else ∃ m, m < n ∧ I m s₃) (notedBy (model prog w) A env fun e s' => R (.error e) s') s₂) (notedBy (model prog w) A env fun e s' => R (.error e) s') s₁') (notedBy (model prog w) A env fun e s' => R (.error e) s') s₁) (notedBy (model prog w) A env fun e s' => R (.error e) s') s)
    (n : Nat) (h : I n s) :
    codeAny (model prog w) A (.compLoop (.ListComp elt [⟨target, iter, ifs, 0⟩] scope pos) 0 it acc env) R s := by
  refine codeAny_loop rfl I (fun n s hI => ?_) n h
  show wpAny _ A ((compTurn (.ListComp elt [⟨target, iter, ifs, 0⟩] scope pos) 0 it acc env).onRaise (fun x => do noteFrame x env; theTreesLotGoes x)) _ _ s
  refine wpAny_noted ?_
  rw [compTurn_list]
  refine wpAny_bind (wpAny_standAt (wpAny_bind (wpAny_mono (turn n s hI) (fun r s₁ h₁ => ?_) fun _ _ h' => h')))
  cases r with
  | none => exact wpAny_pure h₁
  | some v =>
    refine wpAny_bind (wpAny_mono h₁ (fun _ s₁' h₁ => ?_) fun _ _ h' => h')
    refine wpAny_bind (wpAny_mono h₁ (fun _ s₂ h₂ => wpAny_bind (wpAny_mono h₂ (fun ok s₃ h₃ => ?_) fun _ _ h' => h')) fun _ _ h' => h')
    cases ok with
    | false => exact wpAny_pure ⟨rfl, h₃⟩
    | true =>
      exact wpAny_bind (wpAny_bind (wpAny_mono h₃ (fun x s₄ h₄ => wpAny_bind (wpAny_mono h₄ (fun _ s₅ h₅ => wpAny_pure (wpAny_pure ⟨rfl, h₅⟩)) fun _ _ h' => h')) fun _ _ h' => h'))
theorem compCore {elt iter target : Expr} {ifs : List Expr} {scope : Scope} {cl : List (Str × Addr)} {use : Option (Value → Sem Unit)} {ns : List Str} {vn : List (Option Value)} {Q : Value → Led → Prop} {p' : Pos} (hvn : vn = List.replicate ns.length none)
    (hclos : closureFor scope env = pure cl) (hcell : ∀ y ∈ scope.names, y.2 ≠ .cell) (hkind : scope.kind = .function) (hnames : ∀ y ∈ scope.names, y.2 = .local → scope.names.lookup y.1 = some .local)
    (h : TT G A (eval iter env) (fun xv l₁ => TT G A (pyIter xv) (Comp G A target elt ifs ns vn (fun C => compEnvC scope cl C env) (fun D acc l₂ => match use with
      | none => Q (.ref D) ((D, Lst acc) :: l₂)
      | some u => ∀ C, TT G A (u (.ref D)) (fun _ l₃ => ∃ l₄, Le l₃ ((C, IsNs ns vn) :: l₄) ∧ Q .none l₄) E ((D, Lst acc) :: (C, IsNs ns vn) :: l₂))) E l₁) E l)
    (hs : ∀ x, foldedSetIterable iter env x = pure x) :
    TT G A (comprehension (.ListComp elt [⟨target, iter, ifs, 0⟩] scope pos) scope env p' (newList []) false (eval iter env) use) Q E l :=
  ⟨fun s M => by
    refine wpAny_comprehension_free (use := use) rfl hs hclos hkind hnames (h.k M fun xv s₁ l₁ m₁ q₁ => q₁.k m₁ fun it s₂ l₂ m₂ q₂ => ?_)
    obtain ⟨it, I, Inv, lo, rfl, ok, hle, h0, hself, hneed, turn, done⟩ := q₂.go
    have m₂ := m₂.le hle
    refine wpAny_newObj_type (wpAny_newFunctionEnv hcell (by intro y hy; simp at hy) (fun h₁ hns₁ hsb₁ => ?_) hkind)
    have M₃ := m₂.push (o := { cls := .type "list", data := .seq ([] : List Value).toArray }) (P := Lst []) ⟨#[], 0, rfl, rfl⟩ rfl s₂.toks
    have M₄ := (M₃.push (o := { cls := .type "dict", data := .dict #[] }) (P := fun _ => True) trivial rfl s₂.toks).upd (P' := IsNs ns vn) .head hsb₁ (isNs_of hns₁ fun i x c _ hc => by
      have := List.mem_of_getElem? hc
      rw [hvn, List.mem_replicate] at this
      cases this.2) (s₂.toks + 0)
    generalize (s₂.heap.push { cls := .type "list", data := .seq ([] : List Value).toArray }).objs.size = C at M₄ hns₁ hsb₁ ⊢
    generalize s₂.heap.objs.size = D at M₄ ⊢
    have loop : ∀ s : Shared, Mod G (I.seg 0 ++ (D, Lst []) :: (C, IsNs ns vn) :: lo) s →
        codeAny (model prg G.w) A (.compLoop (.ListComp elt [⟨target, iter, ifs, 0⟩] scope pos) 0 (.ref it) (.ref D) (compEnvC scope cl C env)) (compPost (model prg G.w) A (Ex G E) use (fun v s' => ∃ l', Mod G l' s' ∧ Q v l') (.ref D) C) s := by
      intro s m
      refine compLoop_any (fun k s => ∃ i acc l, k + i = I.n ∧ Mod G (I.seg i ++ (D, Lst acc) :: (C, IsNs ns vn) :: l) s ∧ Inv i acc l) (fun k s hI => ?_) I.n ⟨0, [], lo, rfl, m, h0⟩
      obtain ⟨i, acc, l, hk, m, hi⟩ := hI
      obtain ⟨hz, hn⟩ := hneed i acc l D C hi
      rcases Nat.lt_or_ge i I.n with hlt | hge
      · refine wpAny_mono ((ok.next i _ _ hlt hn (turn i acc l D C hlt hi)).go s m) (fun r s₁ q => ?_) fun e s' q => noteFalse q
        obtain ⟨l₁, m₁, v, rfl, q⟩ := q
        refine wpAny_mono (q.go s₁ m₁) (fun _ s₂ q₂ => ?_) fun e s' q => noteFalse q
        obtain ⟨l₂, m₂, l₃, rfl, q₂⟩ := q₂
        refine wpAny_mono (q₂.go s₂ m₂) (fun _ s₃ q₃ => ?_) fun e s' q => noteFalse q
        obtain ⟨l₄, m₄, q₄⟩ := q₃
        refine wpAny_mono (q₄.go s₃ m₄) (fun b s₄ q₅ => ?_) fun e s' q => noteFalse q
        obtain ⟨l₅, m₅, q₅⟩ := q₅
        cases b with
        | true =>
          rw [if_pos rfl]
          refine wpAny_mono ((q₅.yes rfl).go s₄ m₅) (fun x s₅ q₆ => ?_) fun e s' q => noteFalse q
          obtain ⟨l₆, m₆, c, l₇, hc, le, hi'⟩ := q₆
          have := (T_append (G := G) (A := A) (E := Ef) (v := x) (c := c) (a := D) (Q := fun _ l' => l' = I.seg (i + 1) ++ (D, Lst (acc ++ [c])) :: (C, IsNs ns vn) :: l₇) (Rep.appL _ .head) hc hz rfl).go s₅ (m₆.le le)
          refine wpAny_mono this (fun _ s₆ q₇ => ?_) fun e s' q => noteFalse q
          obtain ⟨l₈, m₈, rfl⟩ := q₇
          exact ⟨k - 1, by omega, i + 1, acc ++ [c], l₇, by omega, m₈, hi'⟩
        | false =>
          rw [if_neg Bool.false_ne_true]
          obtain ⟨l₇, le, hi'⟩ := q₅.no rfl
          exact ⟨k - 1, by omega, i + 1, acc, l₇, by omega, m₅.le le, hi'⟩
      · have hin : i = I.n := by omega
        subst hin
        refine wpAny_mono ((ok.stop _ hn).go s m) (fun r s₁ q => ?_) fun e s' q => noteFalse q
        obtain ⟨l₁, m₁, rfl, rfl⟩ := q
        have hR := done acc l D hi
        have key : ∀ {l₃ : Led} {s₃ : Shared} {v : Value}, Mod G ((C, IsNs ns vn) :: l₃) s₃ → Q v l₃ → ∃ m, s₃.heap.Ns C m ∧ ∀ h', Heap.SameBut C s₃.heap h' → ∃ l', Mod G l' { s₃ with heap := h' } ∧ Q v l' := fun m₃ hq => by
          obtain ⟨o, ho, hN⟩ := m₃.at_ (.head _)
          obtain ⟨mm, hNs, _⟩ := ns_at ho hN
          exact ⟨mm, hNs, fun h' hs => ⟨_, m₃.sameDrop hs, hq⟩⟩
        cases use with
        | none => exact key (m₁.perm (.swap ..)) hR
        | some u =>
          refine wpAny_mono ((hR C).go s₁ m₁) (fun _ s₂ q => ?_) fun _ _ q => q
          obtain ⟨l₃, m₃, l₄, le, q⟩ := q
          exact key (m₃.le le) q
    have M₅ : Mod G (I.seg 0 ++ (D, Lst []) :: (C, IsNs ns vn) :: lo) _ := M₄.perm (by
      refine (List.Perm.swap ..).trans ?_
      exact List.perm_append_comm_assoc [_, _] (I.seg 0) lo)
    refine codeAny_compStart_list (loop _ M₅) ?_
    refine wpAny_mono ((hself _ (fun v l' => v = .ref it ∧ l' = I.seg 0 ++ (D, Lst []) :: (C, IsNs ns vn) :: lo) ⟨rfl, rfl⟩).go _ M₅) (fun v s' q => ?_) fun e s' q => noteFalse q
    obtain ⟨l', m', rfl, rfl⟩ := q
    exact loop _ m'⟩

end
end
section
section
variable {G : Gd} {A : Around} {E : Value → Led → Prop} {l l' : Led} {env : Env} {pos : Pos}
-- ranges
noncomputable def Rng (a b : Nat) (o : Obj) : Prop := ∃ t u v, o = ({ cls := .type "range", dict := none, data := .fields #[.int a t, .int b u, .int 1 v], slots := #[] } : Obj)
noncomputable def RIt (a b i : Nat) (o : Obj) : Prop := o = ({ cls := .type "range_iterator", dict := none, data := .fields #[rawInt (a + i : Nat), rawInt ((b : Int) - a - i), rawInt 1], slots := #[] } : Obj)
theorem T_range1 {n : Nat} {t : Tok} {Q : Value → Led → Prop} (h : ∀ r, Q (.ref r) ((r, Rng 0 n) :: l)) : TT G A (call (.type "range") [.int n t]) Q E l :=
  ⟨fun s M => by exact call_range_1 ⟨_, M.push (P := Rng 0 n) ⟨_, _, _, rfl⟩ rfl _, h _⟩⟩
theorem T_range2 {a b : Nat} {t u : Tok} {Q : Value → Led → Prop} (h : ∀ r, Q (.ref r) ((r, Rng a b) :: l)) : TT G A (call (.type "range") [.int a t, .int b u]) Q E l :=
  ⟨fun s M => by exact call_range_2 ⟨_, M.push (P := Rng a b) ⟨_, _, _, rfl⟩ rfl _, h _⟩⟩
theorem range_size {a b : Nat} (h : a ≤ b) : Builtin.Range.rangeSize a b 1 = (b : Int) - a := by
  unfold Builtin.Range.rangeSize
  rw [if_pos (by decide)]
  split
  · rw [Int.ediv_one]; omega
  · omega
theorem range_small {a b : Nat} (h : a ≤ b) (hb : b ≤ 10000) : Builtin.Range.small a b 1 = true := by
  unfold Builtin.Range.small
  rw [range_size h]
  simp [Builtin.Range.rangeFitsLong]
  omega
theorem T_iter_range {r : Addr} {a b : Nat} {Q : Value → Led → Prop} (hm : (r, Rng a b) ∈ l) (hab : a ≤ b) (hb : b ≤ 10000) (h : ∀ it, Q (.ref it) ((it, RIt a b 0) :: l)) : TT G A (pyIter (.ref r)) Q E l :=
  ⟨fun s M => by
    obtain ⟨o, ho, t, u, v, rfl⟩ := M.at_ hm
    refine wpAny_pyIter_range ho (range_small hab hb) ⟨_, M.push (P := RIt a b 0) ?_ rfl _, h _⟩
    rw [RIt, range_size hab]
    simp⟩
noncomputable def rngIter (it : Addr) (a b : Nat) : Iter where
  n := b - a
  seg := fun i => [(it, RIt a b i)]
  need := fun l => ∃ p, p ∈ l
  item := fun i K l => ∀ t, K (.int (a + i : Nat) t) l
theorem rngIter_ok {it : Addr} {a b : Nat} {target : Expr} (hh : A.handled = none) (hab : a ≤ b) (ht : ∀ v, letOwnedTupleGo target (.ref it) v = pure () := by intro _; rfl) : (rngIter it a b).Ok G A target it where
  next i l K hi hn hK := ⟨fun s M => by
    obtain ⟨o, ho, rfl⟩ := M.at_ (a := it) (P := RIt a b i) (.head _)
    have hi' : i < b - a := hi
    refine wpAny_pyNext_range_item ho (by omega) fun h' hit hs => ⟨(it, RIt a b (i + 1)) :: l, M.upd (P' := RIt a b (i + 1)) .head hs ⟨_, hit, ?_⟩ _, _, rfl, ?_⟩
    · have e1 : ((a + i : Nat) : Int) + 1 = ((a + (i + 1) : Nat) : Int) := by omega
      have e2 : (b : Int) - a - i - 1 = (b : Int) - a - (i + 1 : Nat) := by omega
      rw [RIt, ← e1, ← e2]
    · rw [ht]; exact TT.pure ⟨l, rfl, hK _⟩⟩
  stop l hn := ⟨fun s M => by
    obtain ⟨o, ho, rfl⟩ := M.at_ (a := it) (P := RIt a b (b - a)) (.head _)
    obtain ⟨p, hp⟩ := hn
    exact wpAny_pyNext_range_end hh ho (by omega) fun h' hx => ⟨l, M.extBut hx hp _, rfl, rfl⟩⟩
theorem Loop.range {it : Addr} {a b : Nat} {target : Expr} {body : List Stmt} {Q : Flow → Led → Prop} (Inv : Nat → Led → Prop) (hh : A.handled = none) (hab : a ≤ b) (h0 : Inv 0 l) (hn : ∀ i l, Inv i l → ∃ p, p ∈ l)
    (turn : ∀ i l, i < b - a → Inv i l → ∀ t, TT G A (assign target env (.int (a + i : Nat) t)) (fun _ l₂ => TT G A (execs body env) (LoopEnd Q [(it, RIt a b (i + 1))] (Inv (i + 1))) Ef l₂) Ef ((it, RIt a b (i + 1)) :: l))
    (done : ∀ l, Inv (b - a) l → Q .next l) (ht : ∀ v, letOwnedTupleGo target (.ref it) v = pure () := by intro _; rfl) : Loop G A target env body Q (.ref it) ((it, RIt a b 0) :: l) :=
  ⟨it, rngIter it a b, Inv, l, rfl, rngIter_ok hh hab ht, Le.refl _, h0, hn, fun i l hi hI t => turn i l hi hI t, done⟩
-- a dict's values
noncomputable def VIt (d : Addr) (n ep i : Nat) (o : Obj) : Prop := o.cls = .type "dict_valueiterator" ∧ o.data = .fields #[.ref d, .int i 0, .int n 0, .int ep 0]
noncomputable def valIter (it d : Addr) (w : World) (kvs : List (Int × Value)) (ep : Nat) : Iter where
  n := kvs.length
  seg := fun i => [(it, VIt d kvs.length ep i)]
  need := fun l => (d, DctE w d kvs ep) ∈ l
  item := fun i K l => ∀ k c, kvs[i]? = some (k, c) → Any c fun v => K v l
theorem valIter_ok {it d : Addr} {kvs : List (Int × Value)} {ep : Nat} {target : Expr} (hh : A.handled = none) (ht : ∀ v, letOwnedTupleGo target (.ref it) v = pure () := by intro _; rfl) : (valIter it d G.w kvs ep).Ok G A target it where
  next i l K hi hn hK := ⟨fun s M => by
    obtain ⟨o, ho, hc, hd⟩ := M.at_ (a := it) (P := VIt d kvs.length ep i) (.head _)
    obtain ⟨kvs', hD, e, a0⟩ := dctE_at M (List.mem_cons_of_mem _ hn)
    have hlen : kvs.length = kvs'.length := by rw [← e, ck_len]
    have hlt : i < kvs'.length := by rw [← hlen]; exact hi
    have hx : kvs'[i]? = some (kvs'[i].1, kvs'[i].2) := List.getElem?_eq_getElem hlt
    have hv : kvs[i]? = some (kvs'[i].1, cv kvs'[i].2) := by rw [← e, ck, List.getElem?_map, hx]; rfl
    rw [hlen] at hd
    refine wpAny_pyNext_values_item ⟨o, ho, hc, hd⟩ hD hx fun h' hit hs => ⟨(it, VIt d kvs.length ep (i + 1)) :: l, ?_, _, rfl, ?_⟩
    · obtain ⟨o', ho', hc', hd'⟩ := hit
      rw [← hlen] at hd'
      exact M.upd (P' := VIt d kvs.length ep (i + 1)) .head hs ⟨o', ho', hc', hd'⟩ _
    · rw [ht]; exact TT.pure ⟨l, rfl, any_cv (hK _ _ hv)⟩⟩
  stop l hn := ⟨fun s M => by
    obtain ⟨o, ho, hc, hd⟩ := M.at_ (a := it) (P := VIt d kvs.length ep kvs.length) (.head _)
    obtain ⟨kvs', hD, e, a0⟩ := dctE_at M (List.mem_cons_of_mem _ hn)
    have hlen : kvs.length = kvs'.length := by rw [← e, ck_len]
    rw [hlen] at hd
    exact wpAny_pyNext_values_end hh ⟨o, ho, hc, hd⟩ hD (List.getElem?_eq_none (Nat.le_refl _)) fun h' hx => ⟨l, M.extBut hx hn _, rfl, rfl⟩⟩
theorem T_iter_values {v d : Addr} {kvs : List (Int × Value)} {ep : Nat} {Q : Value → Led → Prop} (hv : (v, VView d) ∈ l) (hm : (d, DctE G.w d kvs ep) ∈ l) (h : ∀ it, Q (.ref it) ((it, VIt d kvs.length ep 0) :: l)) : TT G A (pyIter (.ref v)) Q E l :=
  ⟨fun s M => by
    obtain ⟨o, ho, hc, hd⟩ := M.at_ hv
    obtain ⟨kvs', hD, e, a0⟩ := dctE_at M hm
    have hlen : kvs.length = kvs'.length := by rw [← e, ck_len]
    exact wpAny_pyIter_values ⟨o, ho, hc, hd⟩ hD ⟨_, M.push (P := VIt d kvs.length ep 0) ⟨rfl, by rw [hlen]; rfl⟩ rfl _, h _⟩⟩
-- comprehensions over these
noncomputable abbrev CTurn (G : Gd) (A : Around) (elt : Expr) (ifs : List Expr) (ns : List Str) (vn : List (Option Value)) (cenv : Env) (D C : Addr) (acc : List Value) (sg : Led) (Inv : List Value → Led → Prop) (l₂ : Led) : Prop :=
  TT G A (testsOf ifs cenv) (fun ok l₃ => Br ok
        (TT G A (eval elt cenv) (fun x l₄ => ∃ c l₅, CV x c ∧ Le l₄ (sg ++ (D, Lst acc) :: (C, IsNs ns vn) :: l₅) ∧ Inv (acc ++ [c]) l₅) Ef l₃)
        (∃ l₅, Le l₃ (sg ++ (D, Lst acc) :: (C, IsNs ns vn) :: l₅) ∧ Inv acc l₅)) Ef l₂
variable {target elt : Expr} {ifs : List Expr} {ns : List Str} {vn : List (Option Value)} {cenv : Addr → Env} {R : Addr → List Value → Led → Prop}
theorem Comp.list {a it : Addr} {vs : List Value} (Inv : Nat → List Value → Led → Prop) (hh : A.handled = none) (h0 : Inv 0 [] l) (hn : ∀ i acc l, Inv i acc l → acc.length ≤ sizeLine ∧ (a, Lst vs) ∈ l)
    (turn : ∀ i acc l D C c, vs[i]? = some c → Inv i acc l → Any c fun v => TT G A (assign target (cenv C) v) (fun _ => CTurn G A elt ifs ns vn (cenv C) D C acc [(it, LIt a (i + 1))] (Inv (i + 1))) Ef ((it, LIt a (i + 1)) :: (D, Lst acc) :: (C, IsNs ns vn) :: l))
    (done : ∀ acc l D, Inv vs.length acc l → R D acc l) (ht : ∀ v, letOwnedTupleGo target (.ref it) v = pure () := by intro _; rfl) : Comp G A target elt ifs ns vn cenv R (.ref it) ((it, LIt a 0) :: l) :=
  ⟨it, listIter it a vs, Inv, l, rfl, listIter_ok hh ht, Le.refl _, h0, fun l Q hq => ⟨fun s M => by
      obtain ⟨o, ho, hc, hd⟩ := M.at_ (a := it) (P := LIt a 0) (.head _)
      exact wpAny_pyIter_listiter ⟨o, ho, hc, hd⟩ ⟨_, M, hq⟩⟩,
    fun i acc l D C hI => ⟨(hn i acc l hI).1, .tail _ (.tail _ (hn i acc l hI).2)⟩, fun i acc l D C hi hI c hc => turn i acc l D C c hc hI, done⟩
theorem Comp.range {it : Addr} {a b : Nat} (Inv : Nat → List Value → Led → Prop) (hh : A.handled = none) (hab : a ≤ b) (h0 : Inv 0 [] l) (hn : ∀ i acc l, Inv i acc l → acc.length ≤ sizeLine)
    (turn : ∀ i acc l D C, i < b - a → Inv i acc l → ∀ t, TT G A (assign target (cenv C) (.int (a + i : Nat) t)) (fun _ => CTurn G A elt ifs ns vn (cenv C) D C acc [(it, RIt a b (i + 1))] (Inv (i + 1))) Ef ((it, RIt a b (i + 1)) :: (D, Lst acc) :: (C, IsNs ns vn) :: l))
    (done : ∀ acc l D, Inv (b - a) acc l → R D acc l) (ht : ∀ v, letOwnedTupleGo target (.ref it) v = pure () := by intro _; rfl) : Comp G A target elt ifs ns vn cenv R (.ref it) ((it, RIt a b 0) :: l) :=
  ⟨it, rngIter it a b, Inv, l, rfl, rngIter_ok hh hab ht, Le.refl _, h0, fun l Q hq => ⟨fun s M => by
      obtain ⟨o, ho, rfl⟩ := M.at_ (a := it) (P := RIt a b 0) (.head _)
      exact wpAny_pyIter_rangeiter ho ⟨_, M, hq⟩⟩,
    fun i acc l D C hI => ⟨hn i acc l hI, _, .head _⟩, fun i acc l D C hi hI t => turn i acc l D C hi hI t, done⟩
theorem Comp.values {it d : Addr} {kvs : List (Int × Value)} {ep : Nat} (Inv : Nat → List Value → Led → Prop) (hh : A.handled = none) (h0 : Inv 0 [] l) (hn : ∀ i acc l, Inv i acc l → acc.length ≤ sizeLine ∧ (d, DctE G.w d kvs ep) ∈ l)
    (turn : ∀ i acc l D C k c, kvs[i]? = some (k, c) → Inv i acc l → Any c fun v => TT G A (assign target (cenv C) v) (fun _ => CTurn G A elt ifs ns vn (cenv C) D C acc [(it, VIt d kvs.length ep (i + 1))] (Inv (i + 1))) Ef ((it, VIt d kvs.length ep (i + 1)) :: (D, Lst acc) :: (C, IsNs ns vn) :: l))
    (done : ∀ acc l D, Inv kvs.length acc l → R D acc l) (ht : ∀ v, letOwnedTupleGo target (.ref it) v = pure () := by intro _; rfl) : Comp G A target elt ifs ns vn cenv R (.ref it) ((it, VIt d kvs.length ep 0) :: l) :=
  ⟨it, valIter it d G.w kvs ep, Inv, l, rfl, valIter_ok hh ht, Le.refl _, h0, fun l Q hq => ⟨fun s M => by
      obtain ⟨o, ho, hc, hd⟩ := M.at_ (a := it) (P := VIt d kvs.length ep 0) (.head _)
      exact wpAny_pyIter_valiter ⟨o, ho, hc, hd⟩ ⟨_, M, hq⟩⟩,
    fun i acc l D C hI => ⟨(hn i acc l hI).1, .tail _ (.tail _ (hn i acc l hI).2)⟩, fun i acc l D C hi hI k c hc => turn i acc l D C k c hc hI, done⟩
theorem T_ListComp {iter : Expr} {scope : Scope} {cl : List (Str × Addr)} {Q : Value → Led → Prop} (ns : List Str) (vn : List (Option Value))
    (hclos : closureFor scope env = pure cl) (hok : (scope.names.all fun y => decide (y.2 ≠ .cell) && (decide (y.2 ≠ .local) || scope.names.lookup y.1 == some .local)) = true) (hkind : scope.kind = .function)
    (h : TT G A (eval iter env) (fun xv l₁ => TT G A (pyIter xv) (Comp G A target elt ifs ns vn (fun C => compEnvC scope cl C env) (fun D acc l₂ => Q (.ref D) ((D, Lst acc) :: l₂))) E l₁) E l)
    (hs : ∀ x, foldedSetIterable iter env x = pure x := by intro _; rfl) (hvn : vn = List.replicate ns.length none := by rfl) : TT G A (eval (.ListComp elt [⟨target, iter, ifs, 0⟩] scope pos) env) Q E l := by
  rw [eval_ListComp]
  refine compCore (use := none) (p' := firstIterPos [⟨target, iter, ifs, 0⟩] pos) hvn hclos (fun y hy => ?_) hkind (fun y hy e => ?_) h hs
  · have := List.all_eq_true.mp hok y hy
    simp only [Bool.and_eq_true, decide_eq_true_eq] at this
    exact this.1
  · have := List.all_eq_true.mp hok y hy
    simp only [Bool.and_eq_true, decide_eq_true_eq, Bool.or_eq_true, beq_iff_eq] at this
    exact this.2.resolve_left fun q => q e

end
end
section
section
variable {G : Gd} {A : Around} {E : Value → Led → Prop} {l l' : Led} {env : Env} {pos : Pos}
theorem Mod.made {s : Shared} {h' : Heap} {e : Addr} {cls : Value} {vs : List Value} (M : Mod G l s) (hx : Heap.MadeExcOf s.heap h' e cls vs) (tk : Nat) (htk : s.toks ≤ tk := by first | exact Nat.le_refl _ | exact Nat.le_add_right _ _ | omega) : ∃ t, Mod G ((e, ExN cls (some t)) :: (t, Tup (vs.map cv)) :: l) { s with heap := h', toks := tk } := by
  obtain ⟨t, he, hn, ht⟩ := hx.there
  have fresh : ∀ {a : Addr}, s.heap.get? a = none → a ∉ l.map (·.1) := fun ha q => by
    obtain ⟨p, hp, e⟩ := List.mem_map.mp q
    obtain ⟨o, ho, _⟩ := M.led p hp
    rw [e, ha] at ho; cases ho
  have hne : e ≠ t := fun q => by rw [q, ht] at he; cases he
  refine ⟨t, M.ok, fun b o q => hx.keeps b o (M.keep b o q), fun p hp => ?_, ?_, M.gens, M.os, Nat.le_trans M.tok (by first | exact Nat.le_add_right _ _ | (dsimp only; omega))⟩
  · rcases List.mem_cons.mp hp with rfl | hp
    · exact ⟨_, he, ⟨_, rfl, rfl, rfl, fun a ha => by cases ha; rfl⟩, M.new hx.new⟩
    · rcases List.mem_cons.mp hp with rfl | hp
      · exact ⟨_, ht, Tup.new vs, M.new hn⟩
      · obtain ⟨o, a, b, c⟩ := M.led p hp
        exact ⟨o, hx.keeps _ _ a, b, c⟩
  · refine List.nodup_cons.mpr ⟨fun q => ?_, List.nodup_cons.mpr ⟨fresh hn, M.nd⟩⟩
    rcases List.mem_cons.mp q with q | q
    · exact hne q
    · exact fresh hx.new q
theorem T_RaiseOwn {L : Addr} {ns : List Str} {x : Str} {C : Addr} {np cpos : Pos} {e₀ : Expr} {rest : List Expr} {B newId initId : String} {bm : List Value} {Q : Flow → Led → Prop} (F : Lay env L ns) (g : Glb G.w x (.ref C)) (hx : env.kindOf x = some .globalImplicit)
    (FB : ExcBaseFacts B newId initId bm) (hex : excIn (KK G.w) C bm newId = true) (hh : A.handled = none)
    (h : TT G A (spliced (backTo cpos (starEach (e₀ :: rest) env))) (fun vs l₁ => vs.length ≤ sizeLine ∧ ∀ e t, E (.ref e) ((e, ExN (.ref C) (some t)) :: (t, Tup (vs.map cv)) :: l₁)) E l)
    (he : starEach (e₀ :: rest) env = (false, eval e₀ env) :: starEach rest env := by rfl) (hplain : (backTo cpos (starEach rest env)).any (·.1) = false := by rfl) :
    TT G A (exec (.Raise (some (.Call (.Name x np) (e₀ :: rest) [] cpos)) none pos) env) Q E l :=
  ⟨fun s M => by
    have O := own_of_in (x := x) M.ok.X (topRead_of M.ok.T) g.e hex
    obtain ⟨tl, N, nm, q, bs, hdct, sn, sub, ab, col, dd, k0, k1, k2, k3, k5, mN, hC, hN, hni, T⟩ := O.obj
    refine wpAny_Raise_call_subT (C := C) (nm := nm) (q := q) (N := N) (bs := bs) (bm := tl) (hdct := hdct) (sn := sn) (sub := sub) (ab := ab) (col := col) (dd := dd) (k0 := k0) (k1 := k1) (k2 := k2) (k3 := k3) (k5 := k5)
      FB (mN := mN) (T.hasType FB.hasBase) hh (by rw [he]; show (false || (backTo cpos (starEach rest env)).any (·.1)) = false; rw [hplain]; rfl) hni ?_
    refine (T_glob (G := G) (A := A) (E := E) (pos := np) (Q := fun f l' => f = .ref C ∧ l' = l) F g hx ⟨rfl, rfl⟩).k M fun f s₁ l₁ m₁ q₁ => ?_
    obtain ⟨rfl, rfl⟩ := q₁
    refine ⟨rfl, ?_⟩
    have h' := h.k m₁ (P := fun vs s₂ => vs.length ≤ sizeLine ∧ (∀ b o, G.h₀.get? b = some o → s₂.heap.get? b = some o) ∧ ∀ h' e, Heap.MadeExcOf s₂.heap h' e (.ref C) vs → Ex G E (.ref e) { s₂ with heap := h' }) fun vs s₂ l₂ m₂ q₂ => by
      refine ⟨q₂.1, m₂.keep, fun h' e hm => ?_⟩
      obtain ⟨t, m₃⟩ := m₂.made hm s₂.toks
      exact ⟨_, m₃, q₂.2 e t⟩
    rw [he] at h' ⊢
    exact evalArgs_plain (wpAny_mono h' (fun vs s₂ h₂ => ⟨rfl, h₂.1, h₂.2.1 _ _ hC, hN.keeps h₂.2.1, T.keeps h₂.2.1, h₂.2.2⟩) fun _ _ y => y)⟩
theorem ex99 {w : World} : ∃ nid iid bm, ExcBaseFacts "ValueError" nid iid bm ∧ excIn (KK w) 99 bm nid = true := ⟨_, _, _, PySem.F.excBase_ValueError, by kernel_rfl⟩
theorem ex44 {w : World} : ∃ nid iid bm, ExcBaseFacts "Exception" nid iid bm ∧ excIn (KK w) 44 bm nid = true := ⟨_, _, _, PySem.F.excBase_Exception, by kernel_rfl⟩
theorem ex56 {w : World} : ∃ nid iid bm, ExcBaseFacts "Exception" nid iid bm ∧ excIn (KK w) 56 bm nid = true := ⟨_, _, _, PySem.F.excBase_Exception, by kernel_rfl⟩
theorem T_leaveN {e L : Addr} {c : Value} {as : Option Addr} {l' : Addr → Led} {Q : Unit → Led → Prop} (hF : Frs A l) (he : ∃ outer, A.frames = some (env :: outer)) (hf : env.frame = some L)
    (hr : ∀ T, Rep e (ExN c as) (ExT c as T) l (l' T)) (h : ∀ T, Q () ((T, Trc .none) :: l' T)) : TT G A (leaving env (.ref e)) Q E l := by
  unfold leaving
  refine TT.bind (T_noteN hF he hf hr fun T => T_flight (T := T) (c := c) (as := as) (.tail _ ?_) .head (h T))
  obtain ⟨x, y, e1, e2⟩ := (hr T).split
  rw [e2]; exact List.mem_append_right _ (.head _)
theorem C_defE {f : Addr} {fd : FuncData} {body : List Stmt} {args : List Value} {binds : List (Str × Value)} {oc : Value} {od : Option Addr} {osl : Array (Option Value)} (rest : List Str) {ns : List Str} {vs : List (Option Value)} {Q X : Value → Led → Prop}
    (hroom : A.depth < recursionLimit) (ho : (KK G.w).lookup f = some ⟨oc, od, .func fd, osl⟩) (hb : fd.body = .stmts body)
    (hbind : ∀ s, (KK G.w).In s.heap → BindsTo s fd ⟨args, []⟩ binds) (hns : binds.map (·.1) ++ rest = ns) (hvs : binds.map (fun b => some (cv b.2)) ++ List.replicate rest.length none = vs)
    (hok : (codeIn (KK G.w) fd.code fd.qualname && (ns.all fun x => fd.scope.names.lookup x == some .local && !(x == ("__debug__" : Str))) && (fd.scope.names.all fun x => decide (x.2 ≠ .cell)) && decide ns.Nodup) = true)
    (hsc : fd.scope.isCoroutine = false ∧ fd.scope.isGenerator = false ∧ fd.scope.kind = .function ∧ fd.globals = mainGlobals ∧ fd.builtins = builtinsNs)
    (h : ∀ L, Lay (callEnv fd L f) L ns → TT G (A.deeper (callEnv fd L f)) (execs body (callEnv fd L f)) (fun fl l' => ∃ l'', Le l' l'' ∧ Q (retv fl) l'')
      (fun e l' => TT G (A.deeper (callEnv fd L f)) (leaving (callEnv fd L f) e) (fun _ l₂ => ∃ l₃, Le l₂ l₃ ∧ X e l₃) Ef l') ((L, IsNs ns vs) :: l)) :
    CT G A (.call (.ref f) ⟨args, []⟩) (fun r l' => (∃ v, r = .ok (.ret v) ∧ Q v l') ∨ (∃ e, r = .error e ∧ X e l')) l :=
  ⟨fun s M => by
    simp only [Bool.and_eq_true, decide_eq_true_eq] at hok
    obtain ⟨⟨⟨hcd, hnames⟩, hcell⟩, hnd⟩ := hok
    have hbn : ∀ x ∈ binds, fd.scope.names.lookup x.1 = some .local := fun x hx => by
      have hmem : x.1 ∈ ns := by rw [← hns]; exact List.mem_append_left _ (List.mem_map_of_mem (f := (·.1)) hx)
      have := List.all_eq_true.mp hnames x.1 hmem
      simp only [Bool.and_eq_true, beq_iff_eq] at this
      exact this.1
    refine (codeAny_call_def hroom (M.X _ _ ho) rfl M.T.nolimit (codeRec_of M.X hcd) hb (hbind s M.X) (fun x hx => of_decide_eq_true (List.all_eq_true.mp hcell x hx))
      hbn (fun h₁ hns₁ hk => ?_) hsc.1 hsc.2.1 hsc.2.2.1)
    have F : Lay (callEnv fd s.heap.objs.size f) s.heap.objs.size ns := ⟨hsc.2.2.1, rfl, hsc.2.2.2.1, hsc.2.2.2.2, hnames, hnd⟩
    have M₁ : Mod G ((s.heap.objs.size, IsNs ns vs) :: l) { s with heap := h₁, toks := s.toks + binds.length } := by
      refine ⟨M.ok, fun b o e => hk b o (M.keep b o e), fun p hp => ?_, ?_, M.gens, M.os, Nat.le_trans M.tok (by first | exact Nat.le_add_right _ _ | (dsimp only; omega))⟩
      · rcases List.mem_cons.mp hp with rfl | hp
        · obtain ⟨o, a, b⟩ := isNs_of hns₁ (binds_at hns hvs.symm hnd)
          exact ⟨o, a, b, M.above (Nat.le_refl _)⟩
        · obtain ⟨o, a, b, c⟩ := M.led p hp
          exact ⟨o, hk _ _ a, b, c⟩
      · refine List.nodup_cons.mpr ⟨fun q => ?_, M.nd⟩
        obtain ⟨p, hp, e⟩ := List.mem_map.mp q
        obtain ⟨o, a, _⟩ := M.led p hp
        have := Heap.lt_size a
        rw [show p.1 = s.heap.objs.size from e] at this
        exact Nat.lt_irrefl _ this
    refine wpAny_mono ((h s.heap.objs.size F).go _ M₁) (fun fl s' hq => ?_) fun e s' hq => ?_
    · obtain ⟨l', m, l'', le, q⟩ := hq
      cases fl <;> exact ⟨l'', m.le le, .inl ⟨_, rfl, q⟩⟩
    · obtain ⟨l', m, q⟩ := hq
      refine wpAny_mono (q.go s' m) (fun _ s'' q₂ => ?_) fun _ _ q => (by obtain ⟨_, _, hf⟩ := q; exact hf.elim)
      obtain ⟨l₂, m₂, l₃, le, q₃⟩ := q₂
      exact ⟨l₃, m₂.le le, .inr ⟨_, rfl, q₃⟩⟩⟩
theorem CT.callE {f : Value} {args : List Value} {Q X : Value → Led → Prop} (h : CT G A (.call f ⟨args, []⟩) (fun r l' => (∃ v, r = .ok (.ret v) ∧ Q v l') ∨ (∃ e, r = .error e ∧ X e l')) l) : TT G A (PySem.call f args) Q X l :=
  ⟨fun s M => by
    refine wpAny_call (codeAny_mono (h.go s M) fun r s' q => ?_)
    obtain ⟨l', m, ⟨v, rfl, q⟩ | ⟨e, rfl, q⟩⟩ := q
    · exact ⟨l', m, q⟩
    · exact ⟨l', m, q⟩⟩
theorem compLay {scope : Scope} {cl : List (Str × Addr)} {C L : Addr} {ns ns₀ : List Str} (F : Lay env L ns₀) (hk : scope.kind = .function) (hn : (ns.all fun x => (relabel scope env).names.lookup x == some .local && !(x == ("__debug__" : Str))) = true) (hnd : ns.Nodup) : Lay (compEnvC scope cl C env) C ns :=
  ⟨hk, rfl, F.glob, F.blt, hn, hnd⟩

end
end
section
section
variable {G : Gd} {A : Around} {E : Value → Led → Prop} {l l' : Led} {env : Env} {pos : Pos}
/-- an except clause: the exception's class against the clause's, both known -/
theorem T_handleO {e T₀ : Addr} {cls c : Value} {b : Bool} {as : Option Addr} {t : Expr} {b₀ : Stmt} {suite : List Stmt} {rest : List ExceptHandler} {Q : Flow → Led → Prop} (hx : exmOne (KK G.w) cls c = some b)
    (h : TT G (A.mark (some (.ref e))) (eval t env) (fun c' l₁ => c' = c ∧ (e, ExT cls as T₀) ∈ l₁ ∧ Br b (TT G (A.mark (some (.ref e))) (setFlight (.ref e) none) (fun _ l₂ => TT G (A.mark (some (.ref e))) (execs (b₀ :: suite) env) Q Ef l₂) Ef l₁) (TT G A (handleBy (.ref e) env rest) Q E l₁)) Ef l) :
    TT G A (handleBy (.ref e) env (.ExceptHandler (some t) none (b₀ :: suite) pos :: rest)) Q E l :=
  ⟨fun s M => by
    refine wpAny_handleBy_cons (codeAny_handlers_test (wpAny_mono (h.go s M) (fun c' s₁ q => ?_) fun _ _ q => noteFalse q)) (by intro q; cases q)
    obtain ⟨l₁, m, rfl, he, q⟩ := q
    obtain ⟨o, ho, vs, hc, _⟩ := m.at_ he
    have LT : Looks (model prg G.w) s₁.heap (typeOf (.ref e)) cls := (Looks.ld ho).andThen (by rw [hc]; exact .now)
    refine (exm_one m.X LT hx).here ?_
    cases b with
    | true =>
      refine codeAny_handlers_suite (wpAny_mono ((q.yes rfl).go s₁ m) (fun _ s₂ q₂ => ?_) fun _ _ q => noteFalse q)
      obtain ⟨l₂, m₂, q₂⟩ := q₂
      exact wpAny_mono (q₂.go s₂ m₂) (fun _ _ q => q) fun _ _ q => noteFalse q
    | false => exact (q.no rfl).go s₁ m⟩
theorem T_is {a b : Value} {Q : Value → Led → Prop} (hp : plainIs a b = true) (h : Q (.bool (a == b)) l) : TT G A (compareOp .Is a b) Q E l := ⟨fun s M => by with_reducible exact wpAny_is_plain hp ⟨l, M, h⟩⟩
theorem T_isn {a b : Value} {Q : Value → Led → Prop} (hp : plainIs a b = true) (h : Q (.bool (!(a == b))) l) : TT G A (compareOp .IsNot a b) Q E l := ⟨fun s M => by with_reducible exact wpAny_isNot_plain hp ⟨l, M, h⟩⟩
theorem T_type {a : Addr} {P : Obj → Prop} {T : String} {Q : Value → Led → Prop} (hm : (a, P) ∈ l) (hP : ∀ o, P o → o.cls = .type T) (hT : (Value.type T == Value.type "builtin_function_or_method") = false) (h : Q (.type T) l) : TT G A (call (.type "type") [.ref a]) Q E l :=
  ⟨fun s M => by
    obtain ⟨o, ho, hp⟩ := M.at_ hm
    exact call_type_of ⟨o, ho, hP o hp⟩ hT ⟨l, M, h⟩⟩
theorem tup_cls {vs : List Value} : ∀ o, Tup vs o → o.cls = .type "tuple" := by rintro o ⟨xs, n, rfl, _⟩; rfl
theorem ints_of : ∀ {vs : List Value} {ns : List Int}, vs.map cv = ns.map iv → IntsAre vs ns
  | [], [], _ => .nil
  | [], _ :: _, h => by cases h
  | _ :: _, [], h => by cases h
  | v :: vs, n :: ns, h => by
    have h1 := (List.cons.inj h).1
    have h2 := ints_of (List.cons.inj h).2
    cases v <;> simp [cv] at h1
    subst h1
    exact .cons _ _ h2
theorem ints_cv : ∀ {vs : List Value} {ns : List Int}, IntsAre vs ns → vs.map cv = ns.map iv
  | _, _, .nil => rfl
  | _, _, .cons n u h => by rw [List.map_cons, List.map_cons, ints_cv h]; rfl
theorem Mod.extUpd {a : Addr} {P P' : Obj → Prop} {s : Shared} {h' : Heap} (M : Mod G ((a, P) :: l) s) (hx : ∀ b o, b ≠ a → s.heap.get? b = some o → h'.get? b = some o) (ho : ∃ o, h'.get? a = some o ∧ P' o) (tk : Nat) (htk : s.toks ≤ tk := by first | exact Nat.le_refl _ | exact Nat.le_add_right _ _ | omega) : Mod G ((a, P') :: l) { s with heap := h', toks := tk } := by
  have nd := List.nodup_cons.mp M.nd
  have ha : G.h₀.get? a = none := let ⟨_, _, _, c⟩ := M.led (a, P) (.head _); c
  refine ⟨M.ok, fun b o e => hx b o (fun q => ?_) (M.keep b o e), fun p hp => ?_, M.nd, M.gens, M.os, Nat.le_trans M.tok htk⟩
  · rw [q, ha] at e; cases e
  · rcases List.mem_cons.mp hp with rfl | hp
    · obtain ⟨o, h1, h2⟩ := ho
      exact ⟨o, h1, h2, ha⟩
    · obtain ⟨o, i, j, k⟩ := M.led p (.tail _ hp)
      exact ⟨o, hx _ _ (fun q => nd.1 (q ▸ List.mem_map_of_mem (f := (·.1)) hp)) i, j, k⟩
theorem T_sorted {a : Addr} {ns : List Int} {Q : Value → Led → Prop} (hm : (a, Tup (ns.map iv)) ∈ l) (h64 : ns.length < 64) (h : ∀ D (ns' : List Int), ns'.Perm ns → ns'.Pairwise (· ≤ ·) → Q (.ref D) ((D, Lst (ns'.map iv)) :: l)) : TT G A (call (.builtin "sorted") [.ref a]) Q E l :=
  ⟨fun s M => by
    obtain ⟨o, ho, xs, n, rfl, e⟩ := M.at_ hm
    have hsz : xs.size = ns.length := by have := congrArg List.length e; simpa using this
    have hI : IntsAre xs.toList ns := ints_of e
    have hz : xs.size ≤ sizeLine := by rw [hsz]; exact Nat.le_trans (Nat.le_of_lt h64) (by decide)
    refine call_function_entry kind_sorted plain_sorted entry_sorted (args_sorted1 _) ?_
    unfold Builtin.«sorted»
    refine wpAny_bind (m := checkCount "sorted" 1 1 _) (wpAny_pure ?_)
    refine wpAny_bind (wpAny_collect_seq a (.inr rfl) ho rfl rfl (fun h' hk => ?_) hz)
    have M₁ := M.keeps hk hm s.toks
    refine wpAny_bind (wpAny_newList ?_ (by simpa using hz))
    have M₂ := M₁.push (o := { cls := .type "list", data := .seq xs.toList.toArray }) (P := fun o => o = seqObj "list" xs.toList.toArray 0) rfl rfl s.toks
    have hoL : (h'.push { cls := .type "list", data := .seq xs.toList.toArray }).get? h'.objs.size = some (seqObj "list" xs.toList.toArray 0) := Heap.get?_push_size _ rfl
    refine wpAny_bind (wpAny_holding (wpAny_call_entry PyProof.Rows.slot_list_sort ⟨_, hoL, rfl⟩ PyProof.Rows.entry_list_sort (list_sort_tree hoL hI (by simpa [hsz] using h64) fun out ns' a1 a2 a3 => ⟨_, rfl, ?_⟩) (args_list_sort _)))
    refine wpAny_pure ⟨_, rfl, _, M₂.extUpd (P' := Lst (ns'.map iv)) (fun b o hb ho => ?_) ?_ s.toks, h _ ns' a2 a3⟩
    · exact (sortedHeap_old hb (Heap.lt_size ho)).trans ho
    · obtain ⟨e', he⟩ := sortedHeap_at (out := out) hoL
      exact ⟨_, he, out, _, rfl, ints_cv a1⟩⟩

end
end
section
section
variable {G : Gd} {A : Around} {E : Value → Led → Prop} {l l' : Led} {env : Env} {pos : Pos}
/-- two values with the same contents, of depth d -/
inductive Same (l : Led) : Nat → Value → Value → Prop
  | int {d n} : Same l d (.int n 0) (.int n 0)
  | str {d x} : Same l d (.str x 0) (.str x 0)
  | list {d a b xs ys} : (a, Lst xs) ∈ l → (b, Lst ys) ∈ l → xs.length = ys.length → (∀ (i : Nat) x y, xs[i]? = some x → ys[i]? = some y → Same l d x y) → Same l (d + 1) (.ref a) (.ref b)
  | tup {d a b xs ys} : (a, Tup xs) ∈ l → (b, Tup ys) ∈ l → xs.length = ys.length → (∀ (i : Nat) x y, xs[i]? = some x → ys[i]? = some y → Same l d x y) → Same l (d + 1) (.ref a) (.ref b)
theorem all_true (n : Nat) : (List.range n).all (fun _ => true) = true := by simp
section
open PySem.MeetsSeq PySem.SeqAt
theorem same_items {s : Shared} {d : Nat} {A : Around} {xs ys : List Value} {us ws : Array Value} (ih : ∀ (i : Nat) X Y, xs[i]? = some X → ys[i]? = some Y → ∀ {x y : Value}, cv x = X → cv y = Y → ∀ {A : Around}, A.units + 2 * d < cLine → EqAt A s x y true) (e1 : us.toList.map cv = xs) (e2 : ws.toList.map cv = ys)
    (hu : A.units + 2 * (d + 1) < cLine) : ∀ j (h1 : j < us.size) (h2 : j < ws.size), EqAt A.in1 s us[j] ws[j] true := by
  intro j h1 h2
  refine ih j (cv us[j]) (cv ws[j]) ?_ ?_ rfl rfl (by show A.units + 1 + _ < _; omega)
  · rw [← e1, List.getElem?_map, Array.getElem?_toList, Array.getElem?_eq_getElem h1]; rfl
  · rw [← e2, List.getElem?_map, Array.getElem?_toList, Array.getElem?_eq_getElem h2]; rfl
theorem cv_int {x : Value} {n : Int} (h : cv x = .int n 0) : ∃ t, x = .int n t := by
  cases x <;> first | (cases h; exact ⟨_, rfl⟩) | cases h
theorem cv_str {x : Value} {n : Str} (h : cv x = .str n 0) : ∃ t, x = .str n t := by
  cases x <;> first | (cases h; exact ⟨_, rfl⟩) | cases h
theorem cv_ref {x : Value} {a : Addr} (h : cv x = .ref a) : x = .ref a := by
  cases x <;> first | (cases h; rfl) | cases h
theorem same_at {s : Shared} (M : Mod G l s) : ∀ {d : Nat} {X Y : Value}, Same l d X Y → ∀ {x y : Value}, cv x = X → cv y = Y → ∀ {A : Around}, A.units + 2 * d < cLine → EqAt A s x y true := by
  intro d X Y h
  induction h with
  | @int d n =>
    intro x y hx hy A hu
    obtain ⟨t, rfl⟩ := cv_int hx
    obtain ⟨u, rfl⟩ := cv_int hy
    have := EqAt.int_int (A := A) (s := s) n t n u
    rwa [beq_self_eq_true] at this
  | @str d n =>
    intro x y hx hy A hu
    obtain ⟨t, rfl⟩ := cv_str hx
    obtain ⟨u, rfl⟩ := cv_str hy
    have := EqAt.str_str (A := A) (s := s) n t n u
    rwa [beq_self_eq_true] at this
  | @list d a b xs ys h1 h2 hl h ih =>
    intro x y hx hy A hu
    rw [cv_ref hx, cv_ref hy]
    by_cases hab : a = b
    · subst hab; exact EqAt.same _
    · obtain ⟨us, n, hus, e1, hn⟩ := lst_at M h1
      obtain ⟨ws, n', hws, e2, hn'⟩ := lst_at M h2
      have := RcAt.lists (A := A) (e := fun _ => true) hus.isList hws.isList (by omega) (by omega) (same_items ih e1 e2 hu)
      rw [all_true] at this
      exact EqAt.of_refs hab this
  | @tup d a b xs ys h1 h2 hl h ih =>
    intro x y hx hy A hu
    rw [cv_ref hx, cv_ref hy]
    by_cases hab : a = b
    · subst hab; exact EqAt.same _
    · obtain ⟨us, hus, e1, hn⟩ := tup_at M h1
      obtain ⟨ws, hws, e2, hn'⟩ := tup_at M h2
      have := RcAt.tuples (A := A) (e := fun _ => true) hus hws (by omega) (same_items ih e1 e2 hu)
      rw [all_true, show us.size = ws.size by omega, beq_self_eq_true] at this
      exact EqAt.of_refs hab this
theorem T_eqLists {a b : Addr} {xs ys : List Value} {d : Nat} {Q : Value → Led → Prop} (hu : A.units + 2 * (d + 1) < cLine) (h1 : (a, Lst xs) ∈ l) (h2 : (b, Lst ys) ∈ l) (hl : xs.length = ys.length) (hs : ∀ (i : Nat) x y, xs[i]? = some x → ys[i]? = some y → Same l d x y)
    (h : Q (.bool true) l) : TT G A (compareOp .Eq (.ref a) (.ref b)) Q E l :=
  ⟨fun s M => by
    obtain ⟨us, n, hus, e1, hn⟩ := lst_at M h1
    obtain ⟨ws, n', hws, e2, hn'⟩ := lst_at M h2
    have := RcAt.lists (A := A) (e := fun _ => true) hus.isList hws.isList (by omega) (by omega) (same_items (fun i X Y hX hY => same_at M (hs i X Y hX hY)) e1 e2 hu)
    rw [all_true] at this
    exact this _ _ _ _ ⟨l, M, h⟩⟩
theorem T_neLists {a b : Addr} {xs ys : List Value} {d : Nat} {Q : Value → Led → Prop} (hu : A.units + 2 * (d + 1) < cLine) (h1 : (a, Lst xs) ∈ l) (h2 : (b, Lst ys) ∈ l) (hl : xs.length = ys.length) (hs : ∀ (i : Nat) x y, xs[i]? = some x → ys[i]? = some y → Same l d x y)
    (h : Q (.bool false) l) : TT G A (compareOp .NotEq (.ref a) (.ref b)) Q E l :=
  ⟨fun s M => by
    obtain ⟨us, n, hus, e1, hn⟩ := lst_at M h1
    obtain ⟨ws, n', hws, e2, hn'⟩ := lst_at M h2
    have := RcNeAt.lists (A := A) (e := fun _ => true) hus.isList hws.isList (by omega) (by omega) (same_items (fun i X Y hX hY => same_at M (hs i X Y hX hY)) e1 e2 hu)
    rw [all_true] at this
    exact this _ _ _ _ ⟨l, M, h⟩⟩
/-- a list against the empty one -/
theorem T_neNil {a b : Addr} {xs : List Value} {Q : Value → Led → Prop} (hu : A.units < cLine) (h1 : (a, Lst xs) ∈ l) (h2 : (b, Lst []) ∈ l) (h : Q (.bool (!xs.isEmpty)) l) : TT G A (compareOp .NotEq (.ref a) (.ref b)) Q E l :=
  ⟨fun s M => by
    obtain ⟨us, n, hus, e1, hn⟩ := lst_at M h1
    obtain ⟨ws, n', hws, e2, hn'⟩ := lst_at M h2
    cases xs with
    | nil =>
      have := RcNeAt.lists (A := A) (e := fun _ => true) hus.isList hws.isList (by rw [hn, hn']) hu (fun j h1 _ => absurd h1 (by rw [hn]; exact Nat.not_lt_zero _))
      rw [all_true] at this
      exact this _ _ _ _ ⟨l, M, h⟩
    | cons x r =>
      exact RcNeAt.lists_lengths (A := A) hus.isList hws.isList (by rw [hn, hn']; simp) hu _ _ _ _ ⟨l, M, h⟩⟩
theorem T_eqNil {a b : Addr} {xs : List Value} {Q : Value → Led → Prop} (hu : A.units < cLine) (h1 : (a, Lst xs) ∈ l) (h2 : (b, Lst []) ∈ l) (h : Q (.bool xs.isEmpty) l) : TT G A (compareOp .Eq (.ref a) (.ref b)) Q E l :=
  ⟨fun s M => by
    obtain ⟨us, n, hus, e1, hn⟩ := lst_at M h1
    obtain ⟨ws, n', hws, e2, hn'⟩ := lst_at M h2
    cases xs with
    | nil =>
      have := RcAt.lists (A := A) (e := fun _ => true) hus.isList hws.isList (by rw [hn, hn']) hu (fun j h1 _ => absurd h1 (by rw [hn]; exact Nat.not_lt_zero _))
      rw [all_true] at this
      exact this _ _ _ _ ⟨l, M, h⟩
    | cons x r =>
      exact RcAt.lists_lengths (A := A) hus.isList hws.isList (by rw [hn, hn']; simp) hu _ _ _ _ ⟨l, M, h⟩⟩
theorem T_eqTup0 {a b : Addr} {xs : List Value} {Q : Value → Led → Prop} (hu : A.units < cLine) (h1 : (a, Tup xs) ∈ l) (h2 : (b, Tup []) ∈ l) (h : Q (.bool xs.isEmpty) l) : TT G A (compareOp .Eq (.ref a) (.ref b)) Q E l :=
  ⟨fun s M => by
    obtain ⟨us, hus, e1, hn⟩ := tup_at M h1
    obtain ⟨ws, hws, e2, hn'⟩ := tup_at M h2
    have := RcAt.tuples (A := A) (e := fun _ => true) hus hws hu (fun j _ h2 => absurd h2 (by rw [hn']; exact Nat.not_lt_zero _))
    have e : ((List.range (min us.size ws.size)).all (fun _ => true) && us.size == ws.size) = xs.isEmpty := by rw [all_true, hn, hn']; cases xs <;> rfl
    rw [e] at this
    exact this _ _ _ _ ⟨l, M, h⟩⟩
theorem T_neTup0 {a b : Addr} {xs : List Value} {Q : Value → Led → Prop} (hu : A.units < cLine) (h1 : (a, Tup xs) ∈ l) (h2 : (b, Tup []) ∈ l) (h : Q (.bool (!xs.isEmpty)) l) : TT G A (compareOp .NotEq (.ref a) (.ref b)) Q E l :=
  ⟨fun s M => by
    obtain ⟨us, hus, e1, hn⟩ := tup_at M h1
    obtain ⟨ws, hws, e2, hn'⟩ := tup_at M h2
    have := RcNeAt.tuples (A := A) (e := fun _ => true) hus hws hu (fun j _ h2 => absurd h2 (by rw [hn']; exact Nat.not_lt_zero _))
    have e : ((List.range (min us.size ws.size)).all (fun _ => true) && us.size == ws.size) = xs.isEmpty := by rw [all_true, hn, hn']; cases xs <;> rfl
    rw [e] at this
    exact this _ _ _ _ ⟨l, M, h⟩⟩
end

end
end
section
section
variable {G : Gd} {A : Around} {E : Value → Led → Prop} {l l' : Led} {env : Env} {pos : Pos}
/-- a def some of whose names are cells -/
theorem C_defC {f : Addr} {fd : FuncData} {body : List Stmt} {args : List Value} {binds : List (Str × Value)} {oc : Value} {od : Option Addr} {osl : Array (Option Value)} {ns : List Str} {vs : List (Option Value)} {Q : Value → Led → Prop} (cells : Addr → Led)
    (hroom : A.depth < recursionLimit) (ho : (KK G.w).lookup f = some ⟨oc, od, .func fd, osl⟩) (hb : fd.body = .stmts body)
    (hbind : ∀ s, (KK G.w).In s.heap → BindsTo s fd ⟨args, []⟩ binds)
    (hvs : ns.map (fun x => (bindL (fun n => fd.scope.names.lookup n) binds (fun _ => none) x).map cv) = vs)
    (hcells : ∀ L, (cellsFrom (L + 1) fd.scope.names []).map (fun p => (p.2, Cel ((bindC (fun n => fd.scope.names.lookup n) binds (fun _ => none) p.1).map cv))) = cells L)
    (hok : (codeIn (KK G.w) fd.code fd.qualname && (ns.all fun x => fd.scope.names.lookup x == some .local && !(x == ("__debug__" : Str))) && (binds.all fun x => fd.scope.names.lookup x.1 == some .local || fd.scope.names.lookup x.1 == some .cell) && decide ns.Nodup && decide ((cellsFrom 0 fd.scope.names []).map (·.1)).Nodup) = true)
    (hsc : fd.scope.isCoroutine = false ∧ fd.scope.isGenerator = false ∧ fd.scope.kind = .function ∧ fd.globals = mainGlobals ∧ fd.builtins = builtinsNs ∧ fd.closure = [])
    (h : ∀ L, Lay (callEnvC fd L f) L ns → TT G (A.deeper (callEnvC fd L f)) (execs body (callEnvC fd L f)) (fun fl l' => ∃ l'', Le l' l'' ∧ Q (retv fl) l'') Ef ((L, IsNs ns vs) :: (cells L ++ l))) :
    CT G A (.call (.ref f) ⟨args, []⟩) (fun r l' => ∃ v, r = .ok (.ret v) ∧ Q v l') l :=
  ⟨fun s M => by
    simp only [Bool.and_eq_true, decide_eq_true_eq] at hok
    obtain ⟨⟨⟨⟨hcd, hnames⟩, hbn⟩, hnd⟩, hcn⟩ := hok
    refine codeAny_call_function hroom (M.X _ _ ho) rfl hsc.1 hsc.2.1 hb (codeRec_of M.X hcd) (hbind s M.X _ _ _ _ ?_)
    rw [hsc.2.2.2.2.2]
    have hkind : ∀ x ∈ binds, fd.scope.names.lookup x.1 = some .local ∨ (fd.scope.names.lookup x.1 = some .cell ∧ ((cellsFrom (s.heap.objs.size + 1) fd.scope.names []).lookup x.1).isSome = true) := kindsX hbn _
    refine wpAny_with_toks (Nat.le_refl _) (wpAny_newFunctionEnv_cells hsc.2.2.1 hkind fun env' he s' x htk => ?_)
    subst he
    obtain ⟨h₁, tk, rfl, hk₁⟩ := x.done
    have hcs : ((cellsFrom (s.heap.objs.size + 1) fd.scope.names []).map (·.1)).Nodup := by
      have := cellsFrom_names fd.scope.names 0 (s.heap.objs.size + 1) [] [] rfl
      rw [← this]; exact hcn
    have M₁ : Mod G ((s.heap.objs.size, IsNs ns vs) :: (cells s.heap.objs.size ++ l)) { s with heap := h₁, toks := tk } := by
      have hnew : ∀ {a}, s.heap.objs.size ≤ a → ∀ p ∈ l, p.1 ≠ a := fun ha p hp e => by
        obtain ⟨o, ho, _⟩ := M.led p hp
        have := Heap.lt_size ho
        rw [e] at this
        exact absurd this (Nat.not_lt.mpr ha)
      have hab : ∀ p ∈ cells s.heap.objs.size, ∃ n c, (n, c) ∈ cellsFrom (s.heap.objs.size + 1) fd.scope.names [] ∧ p = (c, Cel ((bindC (fun n => fd.scope.names.lookup n) binds (fun _ => none) n).map cv)) := fun p hp => by
        rw [← hcells, List.mem_map] at hp
        obtain ⟨⟨n, c⟩, hm, rfl⟩ := hp
        exact ⟨n, c, hm, rfl⟩
      refine ⟨M.ok, fun b o e => hk₁ b o (M.keep b o e), fun p hp => ?_, ?_, M.gens, M.os, Nat.le_trans M.tok htk⟩
      · rcases List.mem_cons.mp hp with rfl | hp
        · obtain ⟨o, a, b⟩ := isNs_of (ns := ns) (vs := vs) x.toInCall.ns fun i y c hi hc => by
            rw [← hvs, List.getElem?_map, hi] at hc
            obtain ⟨v, hv, e⟩ := Option.map_eq_some_iff.mp (Option.some.inj hc)
            exact ⟨v, hv, e⟩
          exact ⟨o, a, b, M.above (Nat.le_refl _)⟩
        · rcases List.mem_append.mp hp with hp | hp
          · obtain ⟨n, c, hm, rfl⟩ := hab p hp
            obtain ⟨o, ho, hd⟩ := x.cell n c (lookup_of_mem_nodup hcs hm)
            exact ⟨o, ho, ⟨_, hd, rfl⟩, M.above (Nat.le_of_lt (x.above n c hm))⟩
          · obtain ⟨o, a, b, c⟩ := M.led p hp
            exact ⟨o, hk₁ _ _ a, b, c⟩
      · rw [List.map_cons, List.map_append]
        refine List.nodup_cons.mpr ⟨fun q => ?_, List.nodup_append.mpr ⟨?_, M.nd, fun a ha b hb e => ?_⟩⟩
        · rcases List.mem_append.mp q with q | q
          · obtain ⟨p, hp, e⟩ := List.mem_map.mp q
            obtain ⟨n, c, hm, rfl⟩ := hab p hp
            have h1 := x.above n c hm
            have e' : c = s.heap.objs.size := e
            rw [e'] at h1
            exact Nat.lt_irrefl _ h1
          · obtain ⟨p, hp, e⟩ := List.mem_map.mp q
            exact hnew (Nat.le_refl _) p hp e
        · rw [← hcells, List.map_map]
          have := x.apart
          rw [List.Nodup, List.pairwise_map]
          exact this
        · obtain ⟨p, hp, e1⟩ := List.mem_map.mp ha
          obtain ⟨n, c, hm, rfl⟩ := hab p hp
          obtain ⟨p2, hp2, e2⟩ := List.mem_map.mp hb
          exact hnew (Nat.le_of_lt (x.above n c hm)) p2 hp2 (by rw [e2, ← e, ← e1])
    refine ⟨M₁.T.nolimit, codeAny_func ?_⟩
    have F : Lay (callEnvC fd s.heap.objs.size f) s.heap.objs.size ns := ⟨hsc.2.2.1, rfl, hsc.2.2.2.1, hsc.2.2.2.2.1, hnames, hnd⟩
    refine wpAny_mono ((h _ F).go _ M₁) (fun fl s' hq => ?_) fun e s' hq => ?_
    · obtain ⟨l', m, l'', le, q⟩ := hq
      cases fl <;> exact ⟨l'', m.le le, _, rfl, q⟩
    · obtain ⟨_, _, hf⟩ := hq
      exact hf.elim⟩

end
end
section
section
variable {G : Gd} {A : Around} {E : Value → Led → Prop} {l l' : Led} {env : Env} {pos : Pos}
theorem T_max2 {a b : Int} {t u : Tok} {p : Ent} {Q : Value → Led → Prop} (hh : A.handled = none) (hp : p ∈ l) (h : ∀ t, Q (.int (max a b) t) l) : TT G A (call (.builtin "max") [.int a t, .int b u]) Q E l :=
  ⟨fun s M => by
    refine wpAny_with_toks (Nat.le_refl _) (max_two_ints hh fun h' tk hk htk => ⟨l, M.keeps hk hp tk htk, ?_⟩)
    by_cases hb : b > a
    · rw [if_pos hb]
      have : max a b = b := by omega
      rw [← this]; exact h _
    · rw [if_neg hb]
      have : max a b = a := by omega
      have h2 := h t
      rw [this] at h2; exact h2⟩
/-- a list, less exactly -/
noncomputable def LstW (vs : List Value) (o : Obj) : Prop := ∃ xs n, o.cls = .type "list" ∧ o.data = .seq xs n ∧ xs.toList.map cv = vs
theorem Lst.w {vs : List Value} {o : Obj} (h : Lst vs o) : LstW vs o := by obtain ⟨xs, n, rfl, e⟩ := h; exact ⟨xs, n, rfl, rfl, e⟩
theorem T_setL {a : Addr} {vs : List Value} {k : Int} {t : Tok} {v c : Value} {Q : Unit → Led → Prop} (hr : Rep a (LstW vs) (LstW (vs.set k.toNat c)) l l') (hv : CV v c) (h0 : 0 ≤ k) (hfit : k < 2 ^ 63) (hn : k < vs.length) (h : Q () l') :
    TT G A (setItem (.ref a) (.int k t) v) Q E l :=
  ⟨fun s M => by
    obtain ⟨o, ho, xs, n, hc, hd, e⟩ := M.at_ hr.mem
    have hsz : xs.size = vs.length := by rw [← e]; simp
    refine wpAny_setItem_list ⟨o, ho, hc, n, hd⟩ h0 hfit (by omega) fun h' hl hs => ⟨l', M.upd hr hs ?_ _, h⟩
    obtain ⟨o', ho', hc', n', hd'⟩ := hl
    refine ⟨o', ho', _, n', hc', hd', ?_⟩
    rw [Array.toList_setIfInBounds, List.map_set, e, hv.eq]⟩
theorem T_itemW {a : Addr} {vs : List Value} {value slice : Expr} {k : Int} {u : Tok} {c : Value} {Q : Value → Led → Prop} (hm : (a, LstW vs) ∈ l) (h0 : 0 ≤ k) (hfit : k < 2 ^ 63) (hx : vs[k.toNat]? = some c) (h : Any c fun v => Q v l)
    (hs : subscripted slice false (.ref a) (.int k u) = operate [.ref a, .int k u] (getItem (.ref a) (.int k u)) := by with_unfolding_all rfl) :
    TT G A (subscriptTail value slice (.ref a) (.int k u)) Q E l :=
  ⟨fun s M => by
    obtain ⟨o, ho, xs, n, hc, hd, e⟩ := M.at_ hm
    have hl : s.heap.IsList a xs := ⟨o, ho, hc, n, hd⟩
    rw [← e, List.getElem?_map] at hx
    obtain ⟨v, hv, hcv⟩ := Option.map_eq_some_iff.mp hx
    have hv' : xs[k.toNat]? = some v := by rw [← Array.getElem?_toList]; exact hv
    have hq := any_of_cv hcv h
    exact tail_any hl.typeIs slot_list_getitem.lookup (wpAny_getItem_list hl h0 hfit hv' ⟨l, M, hq⟩) hs⟩
theorem fold_rep (n : Nat) (xs : Array Value) : ∀ acc : Array Value, ((List.replicate n xs).foldl (fun x1 x2 => x1 ++ x2) acc).toList = acc.toList ++ (List.replicate n xs.toList).flatten := by
  induction n with
  | zero => intro acc; simp
  | succ n ih => intro acc; rw [List.replicate_succ, List.foldl_cons, ih]; simp [List.replicate_succ]
theorem T_mulList1 {a : Addr} {c : Value} {x : Int} {n : Nat} {u : Tok} {Q : Value → Led → Prop} (hx : x = n) (hm : (a, Lst [c]) ∈ l) (hn : n ≤ 1000) (h : ∀ r, Q (.ref r) ((r, Lst (List.replicate n c)) :: l)) : TT G A (binaryOp .Mult (.ref a) (.int x u)) Q E l :=
  ⟨fun s M => by
    obtain ⟨xs, k, hl, e, hsz⟩ := lst_at M hm
    have hs1 : xs.size = 1 := hsz
    have hxn : x.toNat = n := by omega
    have hne : xs.isEmpty = false := by rw [Array.isEmpty_eq_false_iff]; intro q; rw [q] at hs1; simp at hs1
    have M' := M.push (o := { cls := .type "list", data := .seq (List.foldl (fun x1 x2 => x1 ++ x2) #[] (List.replicate (if xs.isEmpty = true then 0 else x.toNat) xs)) }) (P := Lst (List.replicate n c)) ⟨_, 0, rfl, by
      rw [hne, hxn]
      simp only [Bool.false_eq_true, if_false]
      rw [fold_rep]
      obtain ⟨v, hv⟩ : ∃ v, xs.toList = [v] := List.length_eq_one_iff.mp (by simpa using hs1)
      rw [hv] at e ⊢
      simp at e
      simp [e, List.flatten_replicate_singleton]⟩ rfl s.toks
    exact wpAny_binaryOp_repeat_ref (T := "list") (U := "int") (by decide) ⟨_, hl, rfl⟩ (fun s' => typeIs_int s' x u) noFill_list_mul F.fills_int_mul F.slot_int_rmul repeat_list F.slot_int_index.lookup
      (call_meets F.slot_int_rmul (typeIs_int s x u) F.entry_int_rmul (F.args_int_rmul_2 _ _) (int___rmul___int_list x u a xs k)
        ⟨hl, rfl, ⟨_, hl, rfl⟩, call_meets F.slot_list_mul ⟨_, hl, rfl⟩ F.entry_list_mul (F.args_list_mul_2 _ _)
          (AutoListH.list___mul___list_int_3 a xs k x u (by simp [Builtin.List.listFitsIndex]; omega) (by rw [hs1]; omega) (by rw [hs1, hxn]; simp [Builtin.List.listTooLong, sizeLine]; omega))
          ⟨hl, _, M', h _⟩⟩)⟩

end
end
section
section
variable {G : Gd} {A : Around} {E : Value → Led → Prop} {l l' : Led} {env : Env} {pos : Pos}
open PySem.MeetsSeq PySem.SeqAt
theorem any_ints (k : Int) : ∀ (ys : List Value) (ns : List Int), ys.map cv = ns.map iv → ys.any (fun y => match y with | .int m _ => m == k | _ => false) = ns.any (· == k)
  | [], [], _ => rfl
  | [], _ :: _, h => by simp at h
  | _ :: _, [], h => by simp at h
  | y :: ys, n :: ns, h => by
    simp only [List.map_cons, List.cons.injEq] at h
    obtain ⟨t, rfl⟩ := cv_int h.1
    rw [List.any_cons, List.any_cons, any_ints k ys ns h.2]
theorem T_inInts {a : Addr} {ns : List Int} {k : Int} {u : Tok} {Q : Value → Led → Prop} (hm : (a, Lst (ns.map iv)) ∈ l) (h : Q (.bool (ns.any (· == k))) l) : TT G A (compareOp .In (.int k u) (.ref a)) Q E l :=
  ⟨fun s M => by
    obtain ⟨xs, n, hl, e, hn⟩ := lst_at M hm
    have h2 : xs.any (fun y => match y with | .int m _ => m == k | _ => false) = ns.any (· == k) := by rw [← Array.any_toList]; exact any_ints k _ _ e
    refine in_listAt _ hl.isList (fun y hy => ?_) ⟨l, M, h2 ▸ h⟩
    have hc : cv y ∈ ns.map iv := e ▸ List.mem_map_of_mem (f := cv) (Array.mem_toList_iff.mpr hy)
    obtain ⟨m, _, hm'⟩ := List.mem_map.mp hc
    obtain ⟨t, rfl⟩ := cv_int hm'.symm
    exact EqAt.int_int m t k u⟩
theorem pair_items {us : Array Value} {a b : Int} (e : us.toList.map cv = [iv a, iv b]) : ∃ t t', us = #[.int a t, .int b t'] := by
  obtain ⟨xs⟩ := us
  match xs, e with
  | [], e => simp at e
  | [_], e => simp at e
  | _ :: _ :: _ :: _, e => simp at e
  | [x, y], e =>
    simp only [List.map_cons, List.map_nil, List.cons.injEq, and_true] at e
    obtain ⟨t, rfl⟩ := cv_int e.1
    obtain ⟨t', rfl⟩ := cv_int e.2
    exact ⟨t, t', rfl⟩
theorem pair_same {s : Shared} (M : Mod G l s) {p : Addr} {a b u v : Int} (h1 : (p, Tup [iv a, iv b]) ∈ l) (h2 : (p, Tup [iv u, iv v]) ∈ l) : a = u ∧ b = v := by
  obtain ⟨us, hus, e1, _⟩ := tup_at M h1
  obtain ⟨o, ho, xs, n, rfl, e2⟩ := M.at_ h2
  obtain ⟨o', ho', hc', n', hd'⟩ := hus
  rw [ho] at ho'
  cases ho'
  cases hd'
  rw [e1] at e2
  cases e2
  exact ⟨rfl, rfl⟩
theorem eq_pairs {s : Shared} (M : Mod G l s) {p N : Addr} {a b u v : Int} (h1 : (p, Tup [iv a, iv b]) ∈ l) (h2 : (N, Tup [iv u, iv v]) ∈ l) (hu : A.units < cLine) : EqAt A s (.ref p) (.ref N) (a == u && b == v) := by
  by_cases hab : p = N
  · subst hab
    obtain ⟨rfl, rfl⟩ := pair_same M h1 h2
    rw [beq_self_eq_true, beq_self_eq_true]
    exact EqAt.same _
  · obtain ⟨us, hus, e1, _⟩ := tup_at M h1
    obtain ⟨ws, hws, e2, _⟩ := tup_at M h2
    obtain ⟨t1, t2, rfl⟩ := pair_items e1
    obtain ⟨t3, t4, rfl⟩ := pair_items e2
    have := RcAt.tuples (A := A) (e := fun j => if j = 0 then a == u else b == v) hus hws hu (fun j j1 j2 => by
      match j, j1 with
      | 0, _ => exact EqAt.int_int a t1 u t3
      | 1, _ => exact EqAt.int_int b t2 v t4)
    have e : ((List.range (min (#[Value.int a t1, Value.int b t2] : Array Value).size (#[Value.int u t3, Value.int v t4] : Array Value).size)).all (fun j => if j = 0 then a == u else b == v) && (#[Value.int a t1, Value.int b t2] : Array Value).size == (#[Value.int u t3, Value.int v t4] : Array Value).size) = (a == u && b == v) := by
      show ((a == u) && ((b == v) && true) && true) = _
      rw [Bool.and_true, Bool.and_true]
    rw [e] at this
    exact EqAt.of_refs hab this
open Classical in
theorem T_notInPairs {a N : Addr} {lk : List (Addr × Int × Int)} {u v : Int} {Q : Value → Led → Prop} (hu : A.units + 3 < cLine) (hm : (a, Lst (lk.map fun p => .ref p.1)) ∈ l) (hN : (N, Tup [iv u, iv v]) ∈ l) (hp : ∀ p ∈ lk, (p.1, Tup [iv p.2.1, iv p.2.2]) ∈ l)
    (hin : (u, v) ∈ lk.map (·.2)) (h : Q (.bool false) l) : TT G A (compareOp .NotIn (.ref N) (.ref a)) Q E l :=
  ⟨fun s M => by
    obtain ⟨xs, n, hl, e, hn⟩ := lst_at M hm
    have hy : ∀ y ∈ xs, ∃ p ∈ lk, y = .ref p.1 := fun y hy => by
      have hc : cv y ∈ lk.map (fun p => Value.ref p.1) := e ▸ List.mem_map_of_mem (f := cv) (Array.mem_toList_iff.mpr hy)
      obtain ⟨p, hpm, hpe⟩ := List.mem_map.mp hc
      exact ⟨p, hpm, cv_ref hpe.symm⟩
    have h2 : (!xs.any (fun y => decide (∃ p ∈ lk, y = .ref p.1 ∧ p.2 = (u, v)))) = false := by
      rw [Bool.not_eq_false', Array.any_eq_true]
      obtain ⟨p, hpm, hpe⟩ := List.mem_map.mp hin
      obtain ⟨i, hi, hx⟩ := List.getElem_of_mem (show Value.ref p.1 ∈ xs.toList.map cv from e ▸ List.mem_map_of_mem (f := fun p : Addr × Int × Int => Value.ref p.1) hpm)
      rw [List.getElem_map] at hx
      refine ⟨i, by simpa using hi, ?_⟩
      rw [decide_eq_true_eq]
      exact ⟨p, hpm, by have := cv_ref hx; simpa using this, hpe⟩
    refine notIn_listAt _ hl.isList (fun y hyx => ?_) ⟨l, M, h2.symm ▸ h⟩
    obtain ⟨p, hpm, rfl⟩ := hy y hyx
    have hA : A.in1.units < cLine := by show A.units + 1 < _; omega
    have key := eq_pairs (A := A.in1) M (hp p hpm) hN hA
    have : decide (∃ q ∈ lk, Value.ref p.1 = .ref q.1 ∧ q.2 = (u, v)) = (p.2.1 == u && p.2.2 == v) := by
      rw [Bool.eq_iff_iff, decide_eq_true_eq, Bool.and_eq_true, beq_iff_eq, beq_iff_eq]
      constructor
      · rintro ⟨q, hq, he, hv⟩
        have h3 := hp q hq
        have h4 := hp p hpm
        have he2 : p.1 = q.1 := by injection he
        rw [← he2, hv] at h3
        exact pair_same M h4 h3
      · rintro ⟨h1, h2⟩
        exact ⟨p, hpm, rfl, Prod.ext h1 h2⟩
    rw [this]
    exact key⟩

end
end
section
section
variable {G : Gd} {A : Around} {E : Value → Led → Prop} {l l' : Led} {env : Env} {pos : Pos}
open PyProof
theorem get_cv {xs : Array Value} {us : List Value} (e : xs.toList.map cv = us) {i : Nat} (h : i < xs.size) : us[i]? = some (cv xs[i]) := by
  subst e; rw [List.getElem?_map, Array.getElem?_toList, Array.getElem?_eq_getElem h]; rfl
noncomputable def ZIt (TI TO : Addr) (f0 : Value) (o : Obj) : Prop := o = ({ cls := .type "zip", dict := none, data := .fields #[f0, .bool false, .bool false, .ref TI, .ref TO], slots := #[] } : Obj)
noncomputable def Pr (a b : Value) (o : Obj) : Prop := o = ({ cls := .type "tuple", data := .seq #[a, b] } : Obj)
noncomputable def PrAny (o : Obj) : Prop := ∃ a b, Pr a b o
noncomputable def zipSeg (z TI TO i1 i2 a b : Addr) (f0 : Value) (i : Nat) : Led := [(z, ZIt TI TO f0), (TI, Pr (.ref i1) (.ref i2)), (TO, PrAny), (i1, LIt a i), (i2, LIt b i)]
theorem zip_apart {s : Shared} {z TI TO i1 i2 a b : Addr} {f0 : Value} {i : Nat} {P P' : Obj → Prop} (M : Mod G (zipSeg z TI TO i1 i2 a b f0 i ++ l) s) (ha : (a, P) ∈ l) (hb : (b, P') ∈ l) : ZipApart z TI TO i1 i2 a b := by
  have nd := M.nd
  have ha' : a ∈ l.map (·.1) := List.mem_map_of_mem (f := (·.1)) ha
  have hb' : b ∈ l.map (·.1) := List.mem_map_of_mem (f := (·.1)) hb
  simp only [zipSeg, List.cons_append, List.nil_append, List.map_cons, List.nodup_cons, List.mem_cons, not_or] at nd
  obtain ⟨⟨n1, n2, n3, n4, n5⟩, ⟨n6, n7, n8, n9⟩, ⟨n10, n11, n12⟩, ⟨n13, n14⟩, n15, _⟩ := nd
  have ne : ∀ {x y : Addr}, x ∈ l.map (·.1) → y ∉ l.map (·.1) → x ≠ y := fun hx hy e => hy (e ▸ hx)
  exact ⟨Ne.symm n1, Ne.symm n2, Ne.symm n3, Ne.symm n4, n6, n7, n8, n10, n11, n13, ne ha' n5, ne ha' n12, ne ha' n14, ne ha' n15, ne hb' n5, ne hb' n12, ne hb' n14, ne hb' n15⟩
theorem zip_at {s : Shared} {z TI TO i1 i2 a b : Addr} {f0 : Value} {i : Nat} (M : Mod G (zipSeg z TI TO i1 i2 a b f0 i ++ l) s) :
    IsZip s.heap z TI TO f0 ∧ IsPair s.heap TI (.ref i1) (.ref i2) ∧ (∃ x y, IsPair s.heap TO x y) ∧ s.heap.IsListIter i1 a i ∧ s.heap.IsListIter i2 b i := by
  obtain ⟨o1, h1, rfl⟩ := M.at_ (a := z) (P := ZIt TI TO f0) (by simp [zipSeg])
  obtain ⟨o2, h2, rfl⟩ := M.at_ (a := TI) (P := Pr (.ref i1) (.ref i2)) (by simp [zipSeg])
  obtain ⟨o3, h3, x, y, rfl⟩ := M.at_ (a := TO) (P := PrAny) (by simp [zipSeg])
  obtain ⟨o4, h4, c4, d4⟩ := M.at_ (a := i1) (P := LIt a i) (by simp [zipSeg])
  obtain ⟨o5, h5, c5, d5⟩ := M.at_ (a := i2) (P := LIt b i) (by simp [zipSeg])
  exact ⟨h1, h2, ⟨x, y, h3⟩, ⟨o4, h4, c4, d4⟩, ⟨o5, h5, c5, d5⟩⟩
theorem zip_old {s : Shared} {h' : Heap} {z TI TO i1 i2 a b : Addr} {f0 : Value} {i : Nat} (M : Mod G (zipSeg z TI TO i1 i2 a b f0 i ++ l) s)
    (hk : ∀ c o, c ≠ z → c ≠ TO → c ≠ i1 → c ≠ i2 → s.heap.get? c = some o → h'.get? c = some o) :
    (∀ b o, G.h₀.get? b = some o → h'.get? b = some o) ∧ (∀ p ∈ l, ∃ o, h'.get? p.1 = some o ∧ p.2 o ∧ G.h₀.get? p.1 = none) ∧ (∀ p ∈ zipSeg z TI TO i1 i2 a b f0 i, G.h₀.get? p.1 = none) := by
  have none_of : ∀ p ∈ zipSeg z TI TO i1 i2 a b f0 i, G.h₀.get? p.1 = none := fun p hp => let ⟨_, _, _, c⟩ := M.led p (List.mem_append_left _ hp); c
  have nz := none_of (z, ZIt TI TO f0) (by simp [zipSeg])
  have nO := none_of (TO, PrAny) (by simp [zipSeg])
  have n1 := none_of (i1, LIt a i) (by simp [zipSeg])
  have n2 := none_of (i2, LIt b i) (by simp [zipSeg])
  have nd := M.nd
  rw [List.map_append] at nd
  have dis := (List.nodup_append.mp nd).2.2
  refine ⟨fun c o e => hk c o (fun q => ?_) (fun q => ?_) (fun q => ?_) (fun q => ?_) (M.keep c o e), fun p hp => ?_, none_of⟩
  · rw [q] at e; rw [nz] at e; cases e
  · rw [q] at e; rw [nO] at e; cases e
  · rw [q] at e; rw [n1] at e; cases e
  · rw [q] at e; rw [n2] at e; cases e
  · obtain ⟨o, x, y, w⟩ := M.led p (List.mem_append_right _ hp)
    have hpm : p.1 ∈ l.map (·.1) := List.mem_map_of_mem (f := (·.1)) hp
    have nq : ∀ q : Ent, q ∈ zipSeg z TI TO i1 i2 a b f0 i → p.1 ≠ q.1 := fun q hq e => dis q.1 (List.mem_map_of_mem (f := (·.1)) hq) p.1 hpm e.symm
    exact ⟨o, hk _ _ (nq (z, ZIt TI TO f0) (by simp [zipSeg])) (nq (TO, PrAny) (by simp [zipSeg])) (nq (i1, LIt a i) (by simp [zipSeg])) (nq (i2, LIt b i) (by simp [zipSeg])) x, y, w⟩
noncomputable def zipIter (z TI TO i1 i2 a b : Addr) (us ws : List Value) : Iter where
  n := us.length
  seg := fun i => zipSeg z TI TO i1 i2 a b .none i
  need := fun l => (a, Lst us) ∈ l ∧ (b, Lst ws) ∈ l
  item := fun i K l => ∀ c d, us[i]? = some c → ws[i]? = some d → ∀ tu, K (.ref tu) ((tu, Tup [c, d]) :: l)
theorem zipIter_ok {z TI TO i1 i2 a b : Addr} {us ws : List Value} {elts : List Expr} {k : Nat} {p : Pos} (hlen : us.length = ws.length) (hh : A.handled = none) : (zipIter z TI TO i1 i2 a b us ws).Ok G A (.Tuple elts k p) z where
  next i l K hi hn hK := ⟨fun s M => by
    obtain ⟨hz, hTI, ⟨x0, y0, hTO⟩, h1, h2⟩ := zip_at M
    have D := zip_apart M hn.1 hn.2
    obtain ⟨xs, n1, hl1, e1, hs1⟩ := lst_at M (List.mem_append_right _ hn.1)
    obtain ⟨ys, n2, hl2, e2, hs2⟩ := lst_at M (List.mem_append_right _ hn.2)
    have hi' : i < us.length := hi
    have hlx : i < xs.size := by omega
    have hly : i < ys.size := by omega
    have hx : xs[i]? = some xs[i] := Array.getElem?_eq_getElem hlx
    have hy : ys[i]? = some ys[i] := Array.getElem?_eq_getElem hly
    have hu := get_cv e1 hlx
    have hw := get_cv e2 hly
    refine wpAny_pyNext_zip_item D hz hTI hTO h1 h2 hl1.isList hl2.isList hx hy fun h' a1 a2 a3 a4 a5 a6 a7 => ?_
    obtain ⟨k1, k2, k3⟩ := zip_old M a7
    have hTI' : IsPair h' TI (.ref i1) (.ref i2) := a7 _ _ D.TIz D.TITO D.TIi1 D.TIi2 hTI
    have M' : Mod G ((s.heap.objs.size, Tup [cv xs[i], cv ys[i]]) :: (zipSeg z TI TO i1 i2 a b (rawInt s.heap.objs.size) (i + 1) ++ l)) { s with heap := h' } := by
      refine ⟨M.ok, k1, fun p hp => ?_, ?_, M.gens, M.os, M.tok⟩
      · rcases List.mem_cons.mp hp with rfl | hp
        · exact ⟨_, a5, ⟨_, 0, rfl, rfl⟩, M.above (Nat.le_refl _)⟩
        · rcases List.mem_append.mp hp with hp | hp
          · simp only [zipSeg, List.mem_cons, List.not_mem_nil, or_false] at hp
            rcases hp with rfl | rfl | rfl | rfl | rfl
            · exact ⟨_, a1, rfl, k3 (z, ZIt TI TO .none) (by simp [zipSeg])⟩
            · exact ⟨_, hTI', rfl, k3 (TI, Pr (.ref i1) (.ref i2)) (by simp [zipSeg])⟩
            · exact ⟨_, a2, ⟨_, _, rfl⟩, k3 (TO, PrAny) (by simp [zipSeg])⟩
            · obtain ⟨o, q1, q2, q3⟩ := a3
              exact ⟨o, q1, ⟨q2, q3⟩, k3 (i1, LIt a i) (by simp [zipSeg])⟩
            · obtain ⟨o, q1, q2, q3⟩ := a4
              exact ⟨o, q1, ⟨q2, q3⟩, k3 (i2, LIt b i) (by simp [zipSeg])⟩
          · exact k2 p hp
      · refine List.nodup_cons.mpr ⟨fun q => ?_, M.nd⟩
        have q' : s.heap.objs.size ∈ (zipSeg z TI TO i1 i2 a b .none i ++ l).map (·.1) := q
        obtain ⟨p, hp, e⟩ := List.mem_map.mp q'
        obtain ⟨o, x, _⟩ := M.led p hp
        have := Heap.lt_size x
        rw [e] at this; exact Nat.lt_irrefl _ this
    refine ⟨_, M', _, rfl, ⟨fun s₂ M₂ => ?_⟩⟩
    obtain ⟨o₂, ho₂, rfl⟩ := M₂.at_ (a := z) (P := ZIt TI TO (rawInt s.heap.objs.size)) (by simp [zipSeg])
    refine wpAny_letOwnedTupleGo_zip ho₂ fun h₂ hz₂ hs₂ => ⟨zipSeg z TI TO i1 i2 a b .none (i + 1) ++ ((s.heap.objs.size, Tup [cv xs[i], cv ys[i]]) :: l), ?_, _, rfl, hK _ _ hu hw _⟩
    have M₃ := M₂.upd (l' := (s.heap.objs.size, Tup [cv xs[i], cv ys[i]]) :: (zipSeg z TI TO i1 i2 a b .none (i + 1) ++ l)) (P' := ZIt TI TO .none) (.tail .head) hs₂ ⟨_, hz₂, rfl⟩ s₂.toks
    exact M₃.perm List.perm_middle.symm⟩
  stop l hn := ⟨fun s M => by
    have M : Mod G (zipSeg z TI TO i1 i2 a b .none us.length ++ l) s := M
    obtain ⟨hz, hTI, ⟨x0, y0, hTO⟩, h1, h2⟩ := zip_at M
    have D := zip_apart M hn.1 hn.2
    obtain ⟨xs, n1, hl1, e1, hs1⟩ := lst_at M (List.mem_append_right _ hn.1)
    obtain ⟨ys, n2, hl2, e2, hs2⟩ := lst_at M (List.mem_append_right _ hn.2)
    refine wpAny_pyNext_zip_end hh D hz hTI hTO h1 h2 hl1.isList hl2.isList (.inl (Array.getElem?_eq_none (by omega))) fun h' hk => ⟨l, ?_, rfl, rfl⟩
    obtain ⟨k1, k2, _⟩ := zip_old M hk
    have nd := M.nd
    rw [List.map_append] at nd
    exact ⟨M.ok, k1, k2, (List.nodup_append.mp nd).2.1, M.gens, M.os, M.tok⟩⟩
theorem T_zip {a b : Addr} {us ws : List Value} {Q : Value → Led → Prop} (ha : (a, Lst us) ∈ l) (hb : (b, Lst ws) ∈ l) (h : ∀ z TI TO i1 i2, Q (.ref z) (zipSeg z TI TO i1 i2 a b .none 0 ++ l)) : TT G A (call (.type "zip") [.ref a, .ref b]) Q E l :=
  ⟨fun s M => by
    obtain ⟨xs, n1, hl1, e1, hs1⟩ := lst_at M ha
    obtain ⟨ys, n2, hl2, e2, hs2⟩ := lst_at M hb
    refine call_zip_2 hl1.isList hl2.isList fun h' a1 a2 a3 a4 a5 a6 a7 => ⟨_, ?_, h (s.heap.objs.size + 4) (s.heap.objs.size + 2) (s.heap.objs.size + 3) s.heap.objs.size (s.heap.objs.size + 1)⟩
    have fresh : ∀ j, s.heap.objs.size + j ∉ l.map (·.1) := fun j q => by
      obtain ⟨p, hp, e⟩ := List.mem_map.mp q
      obtain ⟨o, x, _⟩ := M.led p hp
      have := Heap.lt_size x
      have e' : p.1 = s.heap.objs.size + j := e
      rw [e'] at this
      exact absurd this (Nat.not_lt.mpr (Nat.le_add_right _ _))
    refine ⟨M.ok, fun c o e => a7 c o (M.keep c o e), fun p hp => ?_, ?_, M.gens, M.os, M.tok⟩
    · rcases List.mem_append.mp hp with hp | hp
      · simp only [zipSeg, List.mem_cons, List.not_mem_nil, or_false] at hp
        rcases hp with rfl | rfl | rfl | rfl | rfl
        · exact ⟨_, a1, rfl, M.above (by simp)⟩
        · exact ⟨_, a2, rfl, M.above (by simp)⟩
        · exact ⟨_, a3, ⟨_, _, rfl⟩, M.above (by simp)⟩
        · obtain ⟨o, q1, q2, q3⟩ := a4
          exact ⟨o, q1, ⟨q2, q3⟩, M.above (Nat.le_refl _)⟩
        · obtain ⟨o, q1, q2, q3⟩ := a5
          exact ⟨o, q1, ⟨q2, q3⟩, M.above (by simp)⟩
      · obtain ⟨o, x, y, w⟩ := M.led p hp
        exact ⟨o, a7 _ _ x, y, w⟩
    · have f0 := fresh 0
      rw [Nat.add_zero] at f0
      simp only [zipSeg, List.cons_append, List.nil_append, List.map_cons, List.nodup_cons, List.mem_cons, not_or]
      have nn : ∀ {a b : Nat}, a ≠ b → ¬ (s.heap.objs.size + a = s.heap.objs.size + b) := fun h e => h (Nat.add_left_cancel e)
      exact ⟨⟨nn (by decide), nn (by decide), nn (b := 0) (by decide), nn (by decide), fresh 4⟩, ⟨nn (by decide), nn (b := 0) (by decide), nn (by decide), fresh 2⟩, ⟨nn (b := 0) (by decide), nn (by decide), fresh 3⟩, ⟨nn (a := 0) (by decide), f0⟩, fresh 1, M.nd⟩⟩
theorem T_iter_zip {z TI TO i1 i2 a b : Addr} {Q : Value → Led → Prop} (h : Q (.ref z) (zipSeg z TI TO i1 i2 a b .none 0 ++ l)) : TT G A (pyIter (.ref z)) Q E (zipSeg z TI TO i1 i2 a b .none 0 ++ l) :=
  ⟨fun s M => wpAny_pyIter_zip (zip_at M).1 ⟨_, M, h⟩⟩
theorem Loop.zip {z TI TO i1 i2 a b : Addr} {us ws : List Value} {elts : List Expr} {k : Nat} {p : Pos} {body : List Stmt} {Q : Flow → Led → Prop} (Inv : Nat → Led → Prop) (hlen : us.length = ws.length) (hh : A.handled = none) (h0 : Inv 0 l) (hn : ∀ i l, Inv i l → (a, Lst us) ∈ l ∧ (b, Lst ws) ∈ l)
    (turn : ∀ i l c d, us[i]? = some c → ws[i]? = some d → Inv i l → ∀ tu, TT G A (assign (.Tuple elts k p) env (.ref tu)) (fun _ l₂ => TT G A (execs body env) (LoopEnd Q (zipSeg z TI TO i1 i2 a b .none (i + 1)) (Inv (i + 1))) Ef l₂) Ef (zipSeg z TI TO i1 i2 a b .none (i + 1) ++ ((tu, Tup [c, d]) :: l)))
    (done : ∀ l, Inv us.length l → Q .next l) : Loop G A (.Tuple elts k p) env body Q (.ref z) (zipSeg z TI TO i1 i2 a b .none 0 ++ l) :=
  ⟨z, zipIter z TI TO i1 i2 a b us ws, Inv, l, rfl, zipIter_ok hlen hh, Le.refl _, h0, hn, fun i l hi hI c d hc hd tu => turn i l c d hc hd hI tu, done⟩

end
end
section
section
variable {G : Gd} {A : Around} {E : Value → Led → Prop} {l l' : Led} {env : Env} {pos : Pos}
theorem T_epAt {α : Type} {t : Sem α} {a : Addr} {kvs : List (Int × Value)} {Q : α → Led → Prop} (pre : Led) {post : Led} (h : ∀ ep, TT G A t Q E (pre ++ (a, DctE G.w a kvs ep) :: post)) : TT G A t Q E (pre ++ (a, Dct G.w a kvs) :: post) :=
  ⟨fun s M => by
    obtain ⟨o, ho, ep, hE⟩ := M.at_ (a := a) (P := Dct G.w a kvs) (by simp)
    have R : Rep a (Dct G.w a kvs) (DctE G.w a kvs ep) (pre ++ (a, Dct G.w a kvs) :: post) (pre ++ (a, DctE G.w a kvs ep) :: post) := Rep.appL pre .head
    have M' := M.upd R (Heap.SameBut.refl a s.heap) ⟨o, ho, hE⟩ s.toks
    exact (h ep).go s M'⟩
theorem sa181 {w : World} : findIn (KK w) (.ref 181) "__setattr__" = some (some (.builtin "object.__setattr__")) := by kernel_rfl
theorem po181 {w : World} : plainOver (KK w) 181 = true := by kernel_rfl
structure AttrOf (w : World) (name : Str) : Prop where
  tk : takerIn (KK w) 181 name = some none
theorem a_n2i {w : World} : AttrOf w (Str.ofString "_node2info") := ⟨by kernel_rfl⟩
theorem a_ready {w : World} : AttrOf w (Str.ofString "_ready_nodes") := ⟨by kernel_rfl⟩
theorem a_npo {w : World} : AttrOf w (Str.ofString "_npassedout") := ⟨by kernel_rfl⟩
theorem a_nfin {w : World} : AttrOf w (Str.ofString "_nfinished") := ⟨by kernel_rfl⟩
theorem T_sset {x d L : Addr} {name : Str} {v c : Value} {kvs kvs' : List (Str × Value)} {ns : List Str} {vs : List (Option Value)} {Q : Unit → Led → Prop} (at_ : AttrOf G.w name) (hL : (L, IsNs ns vs) ∈ l) (h1 : (x, Inst 181 d) ∈ l) (e : putK name c kvs = kvs')
    (hr : Rep d (AD kvs) (AD kvs') l l') (hap : Apart d L l) (hv : CV v c) (hz : kvs.length ≤ 900) (h : Q () l') : TT G A (setAttr (.ref x) name v) Q E l :=
  T_setown hL h1 (by rw [e]; exact hr) hap hv sa181 po181 at_.tk hd181 hz h
theorem set_ready {x d L : Addr} {a b c e b' v : Value} {ns : List Str} {vs : List (Option Value)} {Q : Unit → Led → Prop} (hL : (L, IsNs ns vs) ∈ l) (h1 : (x, Inst 181 d) ∈ l) (hr : Rep d (SD a b c e) (SD a b' c e) l l') (hap : Apart d L l) (hv : CV v b') (h : Q () l') :
    TT G A (setAttr (.ref x) (Str.ofString "_ready_nodes") v) Q E l := T_sset a_ready hL h1 (by kernel_rfl) hr hap hv (Nat.le_of_ble_eq_true rfl) h
theorem set_npo {x d L : Addr} {a b c e c' v : Value} {ns : List Str} {vs : List (Option Value)} {Q : Unit → Led → Prop} (hL : (L, IsNs ns vs) ∈ l) (h1 : (x, Inst 181 d) ∈ l) (hr : Rep d (SD a b c e) (SD a b c' e) l l') (hap : Apart d L l) (hv : CV v c') (h : Q () l') :
    TT G A (setAttr (.ref x) (Str.ofString "_npassedout") v) Q E l := T_sset a_npo hL h1 (by kernel_rfl) hr hap hv (Nat.le_of_ble_eq_true rfl) h
theorem set_nfin {x d L : Addr} {a b c e e' v : Value} {ns : List Str} {vs : List (Option Value)} {Q : Unit → Led → Prop} (hL : (L, IsNs ns vs) ∈ l) (h1 : (x, Inst 181 d) ∈ l) (hr : Rep d (SD a b c e) (SD a b c e') l l') (hap : Apart d L l) (hv : CV v e') (h : Q () l') :
    TT G A (setAttr (.ref x) (Str.ofString "_nfinished") v) Q E l := T_sset a_nfin hL h1 (by kernel_rfl) hr hap hv (Nat.le_of_ble_eq_true rfl) h

/-- a row of the table -/
structure TR where
  p : Int
  la : Addr
  ps : List Int
noncomputable abbrev tabL (ts : List TR) : Led := ts.map fun t => (t.la, Lst (t.ps.map iv))
noncomputable abbrev tabK (ts : List TR) : List (Int × Value) := ts.map fun t => (t.p, .ref t.la)
noncomputable def tabA (ts : List TR) : List AN := ts.foldl (fun g t => addA t.p t.ps g) []

theorem mk181 {w : World} : makesIn (KK w) 181 = true := by kernel_rfl
theorem in181 {w : World} : findIn (KK w) (.ref 181) "__init__" = some (some (.ref 117)) := by kernel_rfl
theorem fn117 {w : World} : isFn (KK w) (.ref 117) = true := by kernel_rfl

theorem sinit_none {x d : Addr} {Q : Value → Led → Prop} (ax : Ax A 1) (h : ∀ n2i, Q (.ref x) (SL G.w x d n2i .none (iv 0) (iv 0) [] l)) :
    CT G A (.call (.ref 117) ⟨[.ref x], []⟩) (fun r l' => ∃ v, r = .ok (.ret v) ∧ v = .none ∧ Q (.ref x) l') ((x, Inst 181 d) :: (d, AD []) :: l) := by
  refine C_def [Str.ofString "node", Str.ofString "predecessors"] (Q := fun v l' => v = .none ∧ Q (.ref x) l') (binds := [(Str.ofString "self", .ref x), (Str.ofString "graph", .none)]) (ns := [Str.ofString "self", Str.ofString "graph", Str.ofString "node", Str.ofString "predecessors"]) (vs := [some (.ref x), some .none, none, none])
    ax.room (by exact rfl) rfl (fun s X => binds_K X rfl rfl rfl rfl rfl) rfl rfl (by kernel_rfl) ⟨rfl, rfl, rfl, rfl, rfl⟩ fun L F => ?_
  refine T_execs (T_AssignAttr (T_dnew fun n2i => ?_))
  refine T_ld F (by walk_at "mem") (by walk_at "at") ?_
  refine T_sset (kvs := []) a_n2i (by walk_at "mem") (by walk_at "mem") (kvs' := [(Str.ofString "_node2info", .ref n2i)]) (by kernel_rfl) (by walk_at "rep") (by walk_at "apart") (by walk_at "cv") (Nat.le_of_ble_eq_true rfl) ?_
  refine T_execs (T_AssignAttr (T_none ?_))
  refine T_ld F (by walk_at "mem") (by walk_at "at") ?_
  refine T_sset (kvs := [(Str.ofString "_node2info", .ref n2i)]) a_ready (by walk_at "mem") (by walk_at "mem") (kvs' := [(Str.ofString "_node2info", .ref n2i), (Str.ofString "_ready_nodes", .none)]) (by kernel_rfl) (by walk_at "rep") (by walk_at "apart") (by walk_at "cv") (Nat.le_of_ble_eq_true rfl) ?_
  refine T_execs (T_AssignAttr (T_int fun t1 => ?_))
  refine T_ld F (by walk_at "mem") (by walk_at "at") ?_
  refine T_sset (kvs := [(Str.ofString "_node2info", .ref n2i), (Str.ofString "_ready_nodes", .none)]) a_npo (by walk_at "mem") (by walk_at "mem") (kvs' := [(Str.ofString "_node2info", .ref n2i), (Str.ofString "_ready_nodes", .none), (Str.ofString "_npassedout", iv 0)]) (by kernel_rfl) (by walk_at "rep") (by walk_at "apart") (by walk_at "cv") (Nat.le_of_ble_eq_true rfl) ?_
  refine T_execs (T_AssignAttr (T_int fun t2 => ?_))
  refine T_ld F (by walk_at "mem") (by walk_at "at") ?_
  refine T_sset (kvs := [(Str.ofString "_node2info", .ref n2i), (Str.ofString "_ready_nodes", .none), (Str.ofString "_npassedout", iv 0)]) a_nfin (by walk_at "mem") (by walk_at "mem") (kvs' := sdK (.ref n2i) .none (iv 0) (iv 0)) (by kernel_rfl) (by walk_at "rep") (by walk_at "apart") (by walk_at "cv") (Nat.le_of_ble_eq_true rfl) ?_
  refine T_execs (T_If (T_isCompare (T_ld F (by walk_at "mem") (by walk_at "at") ?_)))
  refine T_none (T_isnot_none (T_truthy_bool (Br.ff rfl (T_execs_nil (T_execs_nil ⟨_, ?_, rfl, h n2i⟩)))))
  refine .trans (.perm (.swap ..)) (.drop (.perm ?_))
  exact (List.perm_append_comm (l₁ := [_]) (l₂ := [_, _])).append_right l

theorem addA_facts {p : Int} {ps : List Int} {g : List AN} {k : Nat} (h1 : (portsA g).Nodup) (h2 : SuccLe k g) : (portsA (addA p ps g)).Nodup ∧ SuccLe (k + ps.length) (addA p ps g) ∧ (addA p ps g).length ≤ g.length + 1 + ps.length := by
  have g1nd : (portsA (updA p (npAdd ps.length) (ens p g))).Nodup := by
    rw [ports_upd (f := npAdd ps.length) (fun _ => rfl)]; exact (ports_ens h1).1
  have g1s : SuccLe k (updA p (npAdd ps.length) (ens p g)) := SuccLe.np (f := npAdd ps.length) (fun _ => rfl) h2.ens
  obtain ⟨a, b, c⟩ := fold_addS (p := p) ps _ k g1nd g1s
  refine ⟨a, b, Nat.le_trans c ?_⟩
  rw [len_upd]; have := len_ens p g; omega
theorem tabA_facts : ∀ (ts : List TR) (g : List AN) (k : Nat), (portsA g).Nodup → SuccLe k g → (∀ t ∈ ts, t.ps.length ≤ 1) → 
    (portsA (ts.foldl (fun g t => addA t.p t.ps g) g)).Nodup ∧ SuccLe (k + ts.length) (ts.foldl (fun g t => addA t.p t.ps g) g) ∧ (ts.foldl (fun g t => addA t.p t.ps g) g).length ≤ g.length + 2 * ts.length
  | [], g, k, h1, h2, _ => ⟨h1, h2, Nat.le_refl _⟩
  | t :: ts, g, k, h1, h2, h3 => by
    obtain ⟨a, b, c⟩ := addA_facts (p := t.p) (ps := t.ps) h1 h2
    have ht := h3 t (.head _)
    obtain ⟨a', b', c'⟩ := tabA_facts ts (addA t.p t.ps g) (k + 1) a (fun x hx => Nat.le_trans (b x hx) (by omega)) fun t ht => h3 t (.tail _ ht)
    refine ⟨a', fun x hx => ?_, ?_⟩
    · have := b' x hx; rw [List.length_cons]; omega
    · rw [List.length_cons]; simp only [List.foldl_cons]; omega
theorem dctE_cls {w : World} {d : Addr} {kvs : List (Int × Value)} {ep : Nat} : ∀ o, DctE w d kvs ep o → o.cls = .type "dict" ∧ o.dict = none := by rintro o ⟨_, es, kvs', a1, _⟩; exact ⟨a1.1, a1.2.1⟩
theorem gm_itemsE {a : Addr} {kvs : List (Int × Value)} {ep : Nat} {pl : Sem Bool} {Q : Value × List Value → Led → Prop} (hm : (a, DctE G.w a kvs ep) ∈ l) (h : Q (.builtin "dict.items", [.ref a]) l) : TT G A (getMethod (.ref a) (Str.ofString "items") pl) Q E l :=
  T_gm F.plainAttrs_dict F.slot_dict_items F.type_dict_items dctE_cls hm h
theorem gm_valuesE {a : Addr} {kvs : List (Int × Value)} {ep : Nat} {pl : Sem Bool} {Q : Value × List Value → Led → Prop} (hm : (a, DctE G.w a kvs ep) ∈ l) (h : Q (.builtin "dict.values", [.ref a]) l) : TT G A (getMethod (.ref a) (Str.ofString "values") pl) Q E l :=
  T_gm F.plainAttrs_dict F.slot_dict_values F.type_dict_values dctE_cls hm h
theorem sinit_graph {x d g : Addr} {ts : List TR} {Q : Value → Led → Prop} (ax : Ax A 5) (hts : ts.length ≤ 20) (hps : ∀ t ∈ ts, t.ps.length ≤ 1) (h : ∀ n2i rs, absL rs = tabA ts → Q (.ref x) (SL G.w x d n2i .none (iv 0) (iv 0) rs l)) :
    CT G A (.call (.ref 117) ⟨[.ref x, .ref g], []⟩) (fun r l' => ∃ v, r = .ok (.ret v) ∧ v = .none ∧ Q (.ref x) l') ((x, Inst 181 d) :: (d, AD []) :: (g, Dct G.w g (tabK ts)) :: (tabL ts ++ l)) := by
  refine C_def [Str.ofString "node", Str.ofString "predecessors"] (Q := fun v l' => v = .none ∧ Q (.ref x) l') (binds := [(Str.ofString "self", .ref x), (Str.ofString "graph", .ref g)]) (ns := [Str.ofString "self", Str.ofString "graph", Str.ofString "node", Str.ofString "predecessors"]) (vs := [some (.ref x), some (.ref g), none, none])
    ax.room (by exact rfl) rfl (fun s X => binds_K X rfl rfl rfl rfl rfl) rfl rfl (by kernel_rfl) ⟨rfl, rfl, rfl, rfl, rfl⟩ fun L F => ?_
  refine T_execs (T_AssignAttr (T_dnew fun n2i => ?_))
  refine T_ld F (by walk_at "mem") (by walk_at "at") ?_
  refine T_sset (kvs := []) a_n2i (by walk_at "mem") (by walk_at "mem") (kvs' := [(Str.ofString "_node2info", .ref n2i)]) (by kernel_rfl) (by walk_at "rep") (by walk_at "apart") (by walk_at "cv") (Nat.le_of_ble_eq_true rfl) ?_
  refine T_execs (T_AssignAttr (T_none ?_))
  refine T_ld F (by walk_at "mem") (by walk_at "at") ?_
  refine T_sset (kvs := [(Str.ofString "_node2info", .ref n2i)]) a_ready (by walk_at "mem") (by walk_at "mem") (kvs' := [(Str.ofString "_node2info", .ref n2i), (Str.ofString "_ready_nodes", .none)]) (by kernel_rfl) (by walk_at "rep") (by walk_at "apart") (by walk_at "cv") (Nat.le_of_ble_eq_true rfl) ?_
  refine T_execs (T_AssignAttr (T_int fun t1 => ?_))
  refine T_ld F (by walk_at "mem") (by walk_at "at") ?_
  refine T_sset (kvs := [(Str.ofString "_node2info", .ref n2i), (Str.ofString "_ready_nodes", .none)]) a_npo (by walk_at "mem") (by walk_at "mem") (kvs' := [(Str.ofString "_node2info", .ref n2i), (Str.ofString "_ready_nodes", .none), (Str.ofString "_npassedout", iv 0)]) (by kernel_rfl) (by walk_at "rep") (by walk_at "apart") (by walk_at "cv") (Nat.le_of_ble_eq_true rfl) ?_
  refine T_execs (T_AssignAttr (T_int fun t2 => ?_))
  refine T_ld F (by walk_at "mem") (by walk_at "at") ?_
  refine T_sset (kvs := [(Str.ofString "_node2info", .ref n2i), (Str.ofString "_ready_nodes", .none), (Str.ofString "_npassedout", iv 0)]) a_nfin (by walk_at "mem") (by walk_at "mem") (kvs' := sdK (.ref n2i) .none (iv 0) (iv 0)) (by kernel_rfl) (by walk_at "rep") (by walk_at "apart") (by walk_at "cv") (Nat.le_of_ble_eq_true rfl) ?_
  refine T_execs (T_If (T_isCompare (T_ld F (by walk_at "mem") (by walk_at "at") ?_)))
  refine T_none (T_isnot_none (T_truthy_bool (Br.tt rfl ?_)))
  refine TT.le (l' := (g, Dct G.w g (tabK ts)) :: (L, IsNs [Str.ofString "self", Str.ofString "graph", Str.ofString "node", Str.ofString "predecessors"] [some (.ref x), some (.ref g), none, none]) :: (tabL ts ++ (x, Inst 181 d) :: (d, AD (sdK (.ref n2i) .none (iv 0) (iv 0))) :: (n2i, Dct G.w n2i []) :: l)) ?_ ?_
  · walk_at "le"
  refine TT.as (l' := (g, Dct G.w g (tabK ts)) :: (L, IsNs [Str.ofString "self", Str.ofString "graph", Str.ofString "node", Str.ofString "predecessors"] [some (.ref x), some (.ref g), none, none]) :: (tabL ts ++ (x, Inst 181 d) :: (d, SD (.ref n2i) .none (iv 0) (iv 0)) :: (n2i, Dct G.w n2i []) :: l)) rfl ?_
  refine T_epAt [] fun ep => ?_
  refine T_execs (T_for (T_MCall (T_ld F (by walk_at "mem") (by walk_at "at") ?_)))
  refine gm_itemsE (by walk_at "mem") ?_
  refine T_cw0 Callee.builtin (T_items_call (by walk_at "mem") fun v => ?_)
  refine T_iter_items (by walk_at "mem") (by walk_at "mem") fun it => ?_
  refine Loop.le (l' := (it, _) :: (g, DctE G.w g (tabK ts) ep) :: (L, IsNs [Str.ofString "self", Str.ofString "graph", Str.ofString "node", Str.ofString "predecessors"] [some (.ref x), some (.ref g), none, none]) :: (tabL ts ++ SL G.w x d n2i .none (iv 0) (iv 0) [] l)) (.keep (fun _ h => h) (.drop (Le.refl _))) ?_
  refine Loop.items (fun j l1 => ∃ rs3, absL rs3 = tabA (ts.take j) ∧
    l1 = (g, DctE G.w g (tabK ts) ep) :: (L, IsNs [Str.ofString "self", Str.ofString "graph", Str.ofString "node", Str.ofString "predecessors"] [some (.ref x), some (.ref g), none, none]) :: (tabL ts ++ SL G.w x d n2i .none (iv 0) (iv 0) rs3 l)) ax.hd ?_ ?_ ?_ ?_
  · exact ⟨[], rfl, rfl⟩
  · rintro j l ⟨rs3, _, rfl⟩
    walk_at "mem"
  · rintro j l1 p c hc ⟨rs3, he3, rfl⟩ tu
    obtain ⟨t, ht, hpc⟩ : ∃ t, ts[j]? = some t ∧ (t.p, Value.ref t.la) = (p, c) := by
      rw [List.getElem?_map] at hc; exact Option.map_eq_some_iff.mp hc
    cases hpc
    have m_la : (t.la, Lst (t.ps.map iv)) ∈ tabL ts ++ SL G.w x d n2i .none (iv 0) (iv 0) rs3 l := List.mem_append_left _ (List.mem_map.mpr ⟨t, List.mem_of_getElem? ht, rfl⟩)
    have htl := hps t (List.mem_of_getElem? ht)
    obtain ⟨f1, f2, f3⟩ := tabA_facts (ts.take j) [] 0 List.nodup_nil (fun _ h => nomatch h) fun t h => hps t (List.mem_of_mem_take h)
    have hjl : (ts.take j).length ≤ ts.length := by rw [List.length_take]; omega
    rw [← tabA, ← he3] at f1 f2 f3
    refine T_assignPair ax.hd (by walk_at "mem") ?_
    intro tp
    refine T_assignName (T_st F (by walk_at "mem") (by walk_at "cv") (by walk_at "put") (by walk_at "rep") ?_)
    refine T_assignName (T_st F (by walk_at "mem") (by walk_at "cv") (by walk_at "put") (by walk_at "rep") ?_)
    refine T_execs (T_Expr (T_MCallS (T_ld F (by walk_at "mem") (by walk_at "at") ?_)))
    refine T_bound mb_add (by walk_at "mem") (by walk_at "mem") fun q => ?_
    refine T_cwSB (f := 131) (x := x) mb_add.fnI (T_items (T_ld F (by walk_at "mem") (by walk_at "at") ?_)); intro tq
    refine T_star_list (T_ld F (by walk_at "mem") (by walk_at "at") ?_)
    refine ⟨_, _, rfl, (by walk_at "mem"), ?_, fun xs hxs => ?_⟩
    · rw [List.length_map]; exact Nat.le_trans htl (by decide)
    refine T_items_nil ⟨(by walk_at "mem"), ?_⟩
    refine add_spec (pre := (q, _) :: (it, _) :: (tu, _) :: (g, _) :: (L, _) :: tabL ts) (preds := t.ps) ax.deeper ?_ ?_ f1 (fun a ha => Nat.le_trans (f2 a ha) ?_) fun rs4 he4 => ?_
    · simpa using hxs
    · simp only [List.length_nil] at f3; simp only [List.length_map] at f3; omega
    · omega
    refine ⟨fun a e => (by cases e), T_execs_nil ⟨_, ?_, rs4, ?_, rfl⟩⟩
    · exact .drop (.keep (fun _ h => h) (.drop (.keep (fun _ h => h) (Le.ns (by walk_at "wk") (Le.refl _)))))
    · rw [he4, he3, List.take_add_one, ht]
      simp [tabA]
  · rintro l1 ⟨rs3, he3, rfl⟩
    refine T_execs_nil ?_
    refine T_execs_nil ⟨_, .drop (.drop (Le.dropL _ (Le.refl _))), rfl, h n2i rs3 ?_⟩
    rw [he3, List.take_of_length_le (by rw [List.length_map]; omega)]

end
end
section
section
variable {G : Gd} {A : Around} {E : Value → Led → Prop} {l l' : Led} {env : Env} {pos : Pos}
theorem T_tuple_list {a : Addr} {vs : List Value} {Q : Value → Led → Prop} (hm : (a, Lst vs) ∈ l) (hz : vs.length ≤ sizeLine) (h : ∀ t, Q (.ref t) ((t, Tup vs) :: l)) : TT G A (call (.type "tuple") [.ref a]) Q E l :=
  ⟨fun s M => by
    obtain ⟨xs, n, hl, e, hn⟩ := lst_at M hm
    refine call_tuple_list hl.isList (fun h' hk => ⟨_, (M.keeps hk hm s.toks).push (P := Tup vs) ⟨xs, 0, rfl, e⟩ rfl s.toks, h _⟩) (by omega)⟩
theorem n2i_get {rs : List NR} {p : Int} (h : p ∈ portsA (absL rs)) : ∃ (i : Nat) (r : NR), rs[i]? = some r ∧ r.port = p ∧ valueAt (n2iK rs) p = some (.ref r.na) := by
  cases hv : valueAt (n2iK rs) p with
  | none =>
    have := n2i_none hv
    rw [List.any_eq_false] at this
    obtain ⟨a, ha, rfl⟩ := List.mem_map.mp h
    exact absurd (beq_self_eq_true _) (this a ha)
  | some c =>
    obtain ⟨i, r, hi, hp, rfl⟩ := n2i_at hv
    exact ⟨i, r, hi, hp, rfl⟩
noncomputable def npSet (k : Int) (a : AN) : AN := ⟨a.port, k, a.succ⟩
noncomputable abbrev outA (ready : List Int) (g : List AN) : List AN := ready.foldl (fun g p => updA p (npSet (-1)) g) g
theorem ports_outA : ∀ (ready : List Int) (g : List AN), portsA (outA ready g) = portsA g
  | [], _ => rfl
  | p :: r, g => by rw [outA, List.foldl_cons, ← outA, ports_outA r, ports_upd (f := npSet (-1)) (fun _ => rfl)]

theorem get_ready_spec {x d n2i rn : Addr} {npo : Int} {nfv : Value} {rs : List NR} {pre post : Led} {ready : List Int} {Q : Value → Led → Prop} (ax : Ax A 1) (hz : ready.length ≤ 900) (hnd : (portsA (absL rs)).Nodup)
    (hin : ∀ p ∈ ready, p ∈ portsA (absL rs))
    (h : ∀ rs' tp, absL rs' = outA ready (absL rs) → Q (.ref tp) ((tp, Tup (ready.map iv)) :: (pre ++ SL G.w x d n2i (.ref rn) (iv (npo + ready.length)) nfv rs' ((rn, Lst []) :: post)))) :
    TT G A (call (.ref 143) [.ref x]) Q E (pre ++ SL G.w x d n2i (.ref rn) (iv npo) nfv rs ((rn, Lst (ready.map iv)) :: post)) := by
  refine T_def [Str.ofString "result", Str.ofString "n2i", Str.ofString "node"] (ns := [Str.ofString "self", Str.ofString "result", Str.ofString "n2i", Str.ofString "node"]) (vs := [some (.ref x), none, none, none]) ax.room (by exact rfl) rfl rfl rfl rfl (by kernel_rfl) ⟨rfl, rfl, rfl, rfl, rfl⟩ fun L F => ?_
  refine T_execs (T_If (T_isCompare (T_Attr (T_ld F (by walk_at "mem") (by walk_at "at") ?_))))
  refine get_ready (by walk_at "mem") (by walk_at "mem") rfl ?_
  refine T_none (T_is_none (T_truthy_bool (Br.ff rfl (T_execs_nil ?_))))
  refine T_execs (T_Assign (T_Call (T_blt F b_tuple (by rfl) ?_)))
  refine T_cw Callee.type (T_items (T_Attr (T_ld F (by walk_at "mem") (by walk_at "at") ?_)))
  refine get_ready (by walk_at "mem") (by walk_at "mem") rfl ?_
  refine T_items_nil (T_tuple_list (by walk_at "mem") (by rw [List.length_map]; exact Nat.le_trans hz (by decide)) fun tp => ?_)
  refine T_st F (by walk_at "mem") (by walk_at "cv") (by walk_at "put") (by walk_at "rep") ?_
  refine T_execs (T_Assign (T_Attr (T_ld F (by walk_at "mem") (by walk_at "at") ?_)))
  refine get_n2i (by walk_at "mem") (by walk_at "mem") rfl ?_
  refine T_st F (by walk_at "mem") (by walk_at "cv") (by walk_at "put") (by walk_at "rep") ?_
  refine T_execs (T_for (T_ld F (by walk_at "mem") (by walk_at "at") ?_))
  refine T_iter_tup (by walk_at "mem") fun it => ?_
  refine Loop.tup (vs := ready.map iv) (fun j l1 => ∃ rs3, absL rs3 = outA (ready.take j) (absL rs) ∧
    l1 = (tp, Tup (ready.map iv)) :: (L, IsNs [Str.ofString "self", Str.ofString "result", Str.ofString "n2i", Str.ofString "node"] [some (.ref x), some (.ref tp), some (.ref n2i), none]) :: (pre ++ SL G.w x d n2i (.ref rn) (iv npo) nfv rs3 ((rn, Lst (ready.map iv)) :: post))) ax.hd ⟨rs, rfl, rfl⟩ ?_ ?_ ?_
  · rintro j l ⟨rs3, _, rfl⟩
    walk_at "mem"
  · rintro j l1 c hc ⟨rs3, he3, rfl⟩
    rw [List.getElem?_map] at hc
    obtain ⟨q, hq, rfl⟩ := Option.map_eq_some_iff.mp hc
    intro tq
    have hq3 : q ∈ portsA (absL rs3) := by rw [he3, ports_outA]; exact hin q (List.mem_of_getElem? hq)
    have hnd3 : (portsA (absL rs3)).Nodup := by rw [he3, ports_outA]; exact hnd
    obtain ⟨i, r, hi, hp, hv⟩ := n2i_get hq3
    have m_na : (r.na, Node r.port r.np r.sa r.da) ∈ nodesL rs3 := nodes_na hi
    have m_da : (r.da, AD []) ∈ nodesL rs3 := nodes_da hi
    refine T_assignName (T_st F (by walk_at "mem") (by walk_at "cv") (by walk_at "put") (by walk_at "rep") ?_)
    refine T_execs (T_AssignAttr (T_glob F g_NODE_OUT (by rfl) ?_))
    refine T_Sub (T_ld F (by walk_at "mem") (by walk_at "at") ?_)
    refine T_ld F (by walk_at "mem") (by walk_at "at") ?_; intro t1
    refine T_ditem (by walk_at "mem") hv ?_
    have R1 := rep_na (np' := -1) hi
    refine T_set_np (by walk_at "mem") (by walk_at "rep") (by walk_at "mem") ?_
    refine T_execs_nil ⟨_, ?_, rs3.set i { r with np := -1 }, ?_, rfl⟩
    · have hn : n2iK (rs3.set i { r with np := -1 }) = n2iK rs3 := n2i_set hi rfl rfl
      rw [SL, hn]
      walk_at "le"
    · rw [abs_set (f := npSet (-1)) hi rfl hnd3, he3, hp, List.take_add_one, hq]
      simp [outA]
  · rintro l1 ⟨rs3, he3, rfl⟩
    have he : absL rs3 = outA ready (absL rs) := by rw [he3, List.take_of_length_le (by rw [List.length_map]; omega)]
    refine T_execs (T_Expr (T_MCall (T_Attr (T_ld F (by walk_at "mem") (by walk_at "at") ?_))))
    refine get_ready (by walk_at "mem") (by walk_at "mem") rfl ?_
    refine gm_clear (by walk_at "mem") ?_
    refine T_cw0 Callee.builtin (T_clear (by walk_at "rep") (by rw [List.length_map]; exact Nat.le_trans hz (by decide)) ?_)
    refine ⟨fun a e => (by cases e), ?_⟩
    refine T_execs (T_AugAttr (T_ld F (by walk_at "mem") (by walk_at "at") ?_))
    refine get_npo (by walk_at "mem") (by walk_at "mem") rfl ?_; intro t1
    refine T_Call (T_blt F b_len (by rfl) ?_)
    refine T_cw Callee.builtin (T_items (T_ld F (by walk_at "mem") (by walk_at "at") ?_))
    refine T_items_nil (T_len_tup (by walk_at "mem") (by rw [List.length_map]; exact Nat.le_trans hz (by decide)) fun t2 => ?_)
    refine T_iadd fun t3 => ?_
    refine set_npo (by walk_at "mem") (by walk_at "mem") (by walk_at "rep") (by walk_at "apart") (by walk_at "cv") ?_
    refine T_execs (T_Return (T_ld F (by walk_at "mem") (by walk_at "at") ?_))
    have := h rs3 tp he
    rw [List.length_map]
    exact ⟨_, .keep (fun _ h => h) (.drop (Le.refl _)), this⟩

end
end
section
section
variable {G : Gd} {A : Around} {E : Value → Led → Prop} {l l' : Led} {env : Env} {pos : Pos}
noncomputable def npOf (g : List AN) (p : Int) : Int := ((g.find? (fun a => a.port == p)).map (·.np)).getD 0
noncomputable def succOf (g : List AN) (p : Int) : List Int := ((g.find? (fun a => a.port == p)).map (·.succ)).getD []
theorem find_abs {rs : List NR} {i : Nat} {r : NR} (hi : rs[i]? = some r) (hnd : (portsA (absL rs)).Nodup) : (absL rs).find? (fun a => a.port == r.port) = some r.abs := by
  have key : ∀ (g : List AN), (portsA g).Nodup → ∀ a ∈ g, g.find? (fun b => b.port == a.port) = some a := by
    intro g
    induction g with
    | nil => intro _ a ha; cases ha
    | cons b g ih =>
      intro nd a ha
      have nd' := List.nodup_cons.mp nd
      rw [List.find?_cons]
      rcases List.mem_cons.mp ha with rfl | ha
      · simp
      · have hne : (b.port == a.port) = false := by
          cases q : b.port == a.port with
          | false => rfl
          | true => exact absurd (List.mem_map.mpr ⟨a, ha, (eq_of_beq q).symm⟩) nd'.1
        rw [hne]
        exact ih nd'.2 a ha
  exact key _ hnd r.abs (List.mem_map_of_mem (List.mem_of_getElem? hi))
theorem npOf_abs {rs : List NR} {i : Nat} {r : NR} (hi : rs[i]? = some r) (hnd : (portsA (absL rs)).Nodup) : npOf (absL rs) r.port = r.np := by rw [npOf, find_abs hi hnd]; rfl
theorem succOf_abs {rs : List NR} {i : Nat} {r : NR} (hi : rs[i]? = some r) (hnd : (portsA (absL rs)).Nodup) : succOf (absL rs) r.port = r.succ := by rw [succOf, find_abs hi hnd]; rfl
noncomputable def decS (st : List AN × List Int) (q : Int) : List AN × List Int := (updA q (npAdd (-1)) st.1, if npOf (updA q (npAdd (-1)) st.1) q = 0 then st.2 ++ [q] else st.2)
noncomputable def doneS (st : List AN × List Int) (p : Int) : List AN × List Int := (succOf st.1 p).foldl decS (updA p (npSet (-2)) st.1, st.2)
theorem decS_ports (st : List AN × List Int) (q : Int) : portsA (decS st q).1 = portsA st.1 := ports_upd (f := npAdd (-1)) (fun _ => rfl) _
theorem foldDec_ports : ∀ (ss : List Int) (st : List AN × List Int), portsA (ss.foldl decS st).1 = portsA st.1
  | [], _ => rfl
  | q :: ss, st => by rw [List.foldl_cons, foldDec_ports ss, decS_ports]
theorem doneS_ports (st : List AN × List Int) (p : Int) : portsA (doneS st p).1 = portsA st.1 := by rw [doneS, foldDec_ports, ports_upd (f := npSet (-2)) (fun _ => rfl)]
theorem foldDone_ports : ∀ (ps : List Int) (st : List AN × List Int), portsA (ps.foldl doneS st).1 = portsA st.1
  | [], _ => rfl
  | p :: ps, st => by rw [List.foldl_cons, foldDone_ports ps, doneS_ports]
theorem updA_succ {p : Int} {f : AN → AN} (hf : ∀ a, (f a).port = a.port ∧ (f a).succ = a.succ) : ∀ (g : List AN) (q : Int), succOf (updA p f g) q = succOf g q := by
  intro g q
  unfold succOf updA
  rw [List.find?_map]
  have : ((fun a : AN => a.port == q) ∘ fun a => if a.port = p then f a else a) = fun a => a.port == q := by
    funext a
    simp only [Function.comp]
    split <;> simp [(hf a).1]
  rw [this]
  cases g.find? (fun a => a.port == q) with
  | none => rfl
  | some a =>
    simp only [Option.map_some, Option.getD_some]
    split <;> simp [(hf a).2]
theorem decS_succ (st : List AN × List Int) (q p : Int) : succOf (decS st q).1 p = succOf st.1 p := updA_succ (f := npAdd (-1)) (fun _ => ⟨rfl, rfl⟩) _ _
theorem foldDec_succ : ∀ (ss : List Int) (st : List AN × List Int) (p : Int), succOf (ss.foldl decS st).1 p = succOf st.1 p
  | [], _, _ => rfl
  | q :: ss, st, p => by rw [List.foldl_cons, foldDec_succ ss, decS_succ]
theorem doneS_succ (st : List AN × List Int) (q p : Int) : succOf (doneS st q).1 p = succOf st.1 p := by rw [doneS, foldDec_succ]; exact updA_succ (f := npSet (-2)) (fun _ => ⟨rfl, rfl⟩) _ _
theorem foldDone_succ : ∀ (ps : List Int) (st : List AN × List Int) (p : Int), succOf (ps.foldl doneS st).1 p = succOf st.1 p
  | [], _, _ => rfl
  | q :: ps, st, p => by rw [List.foldl_cons, foldDone_succ ps, doneS_succ]
theorem foldDec_len : ∀ (ss : List Int) (st : List AN × List Int), (ss.foldl decS st).2.length ≤ st.2.length + ss.length
  | [], _ => Nat.le_refl _
  | q :: ss, st => by
    have := foldDec_len ss (decS st q)
    have h1 : (decS st q).2.length ≤ st.2.length + 1 := by unfold decS; dsimp only; split <;> simp
    simp only [List.foldl_cons, List.length_cons] at this ⊢
    omega
theorem foldDone_len {k : Nat} {g : List AN} (hk : ∀ p, (succOf g p).length ≤ k) : ∀ (ps : List Int) (st : List AN × List Int), (∀ p, succOf st.1 p = succOf g p) → (ps.foldl doneS st).2.length ≤ st.2.length + k * ps.length
  | [], _, _ => Nat.le_refl _
  | p :: ps, st, e => by
    have := foldDone_len hk ps (doneS st p) fun q => by rw [doneS_succ, e]
    have h1 : (doneS st p).2.length ≤ st.2.length + k := by
      have h2 := foldDec_len (succOf st.1 p) (updA p (npSet (-2)) st.1, st.2)
      have h3 := hk p
      rw [← e] at h3
      unfold doneS
      simp only at h2
      omega
    rw [List.length_cons, Nat.mul_succ]
    simp only [List.foldl_cons]
    omega

theorem done_spec {x d n2i rn : Addr} {npv : Value} {nf : Int} {rs : List NR} {pre post : Led} {ps ready : List Int} {vals : List Value} {Q : Value → Led → Prop} (ax : Ax A 1) (hvals : vals.map cv = ps.map iv) (hps : ps.length ≤ 20) (hrd : ready.length ≤ 20) (hnd : (portsA (absL rs)).Nodup)
    (hin : ∀ p ∈ ps, p ∈ portsA (absL rs)) (hsu : ∀ p, ∀ q ∈ succOf (absL rs) p, q ∈ portsA (absL rs)) (hsl : ∀ p, (succOf (absL rs) p).length ≤ 20)
    (hout : ∀ j p, ps[j]? = some p → npOf ((ps.take j).foldl doneS (absL rs, ready)).1 p = -1)
    (h : ∀ rs' rd', (absL rs', rd') = ps.foldl doneS (absL rs, ready) → Q .none (pre ++ SL G.w x d n2i (.ref rn) npv (iv (nf + ps.length)) rs' ((rn, Lst (rd'.map iv)) :: post))) :
    CT G A (.call (.ref 164) ⟨.ref x :: vals, []⟩) (fun r l' => ∃ v, r = .ok (.ret v) ∧ Q v l') (pre ++ SL G.w x d n2i (.ref rn) npv (iv nf) rs ((rn, Lst (ready.map iv)) :: post)) := by
  have hlen : vals.length = ps.length := by
    have := congrArg List.length hvals
    rwa [List.length_map, List.length_map] at this
  refine C_defV (binds := [(Str.ofString "self", .ref x)]) (vn := Str.ofString "nodes") (more := vals) [Str.ofString "n2i", Str.ofString "node", Str.ofString "nodeinfo", Str.ofString "stat", Str.ofString "successor", Str.ofString "successor_info"]
    (ns := [Str.ofString "self", Str.ofString "nodes", Str.ofString "n2i", Str.ofString "node", Str.ofString "nodeinfo", Str.ofString "stat", Str.ofString "successor", Str.ofString "successor_info"])
    (fun tp => [some (.ref x), some (.ref tp), none, none, none, none, none, none]) ax.room (by exact rfl) rfl ?_ rfl (fun _ => rfl) (by kernel_rfl) ⟨rfl, rfl, rfl, rfl, rfl⟩ (by rw [hlen]; exact Nat.le_trans hps (by decide)) fun L tp F => ?_
  · unfold bindArgs
    dsimp only [List.map, List.append, List.zip, List.zipWith, List.length]
    simp only [Option.isNone_some, Bool.and_false, Bool.false_eq_true, if_false]
    rfl
  refine T_execs (T_If (T_isCompare (T_Attr (T_ld F (by walk_at "mem") (by walk_at "at") ?_))))
  refine get_ready (by walk_at "mem") (by walk_at "mem") rfl ?_
  refine T_none (T_is_none (T_truthy_bool (Br.ff rfl (T_execs_nil ?_))))
  refine T_execs (T_Assign (T_Attr (T_ld F (by walk_at "mem") (by walk_at "at") ?_)))
  refine get_n2i (by walk_at "mem") (by walk_at "mem") rfl ?_
  refine T_st F (by walk_at "mem") (by walk_at "cv") (by walk_at "put") (by walk_at "rep") ?_
  refine T_execs (T_for (T_ld F (by walk_at "mem") (by walk_at "at") ?_))
  refine T_iter_tup (by walk_at "mem") fun it => ?_
  refine Loop.tup (vs := vals.map cv) (fun j l1 => ∃ rs3 rd3, (absL rs3, rd3) = (ps.take j).foldl doneS (absL rs, ready) ∧
    l1 = (L, IsNs [Str.ofString "self", Str.ofString "nodes", Str.ofString "n2i", Str.ofString "node", Str.ofString "nodeinfo", Str.ofString "stat", Str.ofString "successor", Str.ofString "successor_info"] [some (.ref x), some (.ref tp), some (.ref n2i), none, none, none, none, none]) :: (tp, Tup (vals.map cv)) :: (pre ++ SL G.w x d n2i (.ref rn) npv (iv (nf + j)) rs3 ((rn, Lst (rd3.map iv)) :: post))) ax.hd ⟨rs, ready, rfl, ?_⟩ ?_ ?_ ?_
  · simp only [Int.natCast_zero, Int.add_zero]
  · rintro j l ⟨rs3, rd3, _, rfl⟩
    walk_at "mem"
  · rintro j l1 c hc ⟨rs3, rd3, he3, rfl⟩
    rw [hvals, List.getElem?_map] at hc
    obtain ⟨q, hq, rfl⟩ := Option.map_eq_some_iff.mp hc
    intro tq
    have e1 : absL rs3 = ((ps.take j).foldl doneS (absL rs, ready)).1 := congrArg (·.1) he3
    have e2 : rd3 = ((ps.take j).foldl doneS (absL rs, ready)).2 := congrArg (·.2) he3
    have hp3 : portsA (absL rs3) = portsA (absL rs) := by rw [e1, foldDone_ports]
    have hnd3 : (portsA (absL rs3)).Nodup := by rw [hp3]; exact hnd
    obtain ⟨i, r, hi, hp, hv⟩ := n2i_get (rs := rs3) (p := q) (by rw [hp3]; exact hin q (List.mem_of_getElem? hq))
    have hnp : r.np = -1 := by
      rw [← npOf_abs hi hnd3, hp, e1]; exact hout j q hq
    have m_na : (r.na, Node r.port r.np r.sa r.da) ∈ nodesL rs3 := nodes_na hi
    have m_da : (r.da, AD []) ∈ nodesL rs3 := nodes_da hi
    have m_sa : (r.sa, Lst (r.succ.map iv)) ∈ nodesL rs3 := nodes_sa hi
    refine T_assignName (T_st F (by walk_at "mem") (by walk_at "cv") (by walk_at "put") (by walk_at "rep") ?_)
    refine T_execs (T_If (T_isCompare (T_Named (T_MCall (T_ld F (by walk_at "mem") (by walk_at "at") ?_)))))
    refine gm_get (by walk_at "mem") ?_
    refine T_cw Callee.builtin (T_items (T_ld F (by walk_at "mem") (by walk_at "at") ?_)); intro t1
    refine T_items_nil (T_dget (by walk_at "mem") ?_)
    rw [hv]
    refine T_st F (by walk_at "mem") (by walk_at "cv") (by walk_at "put") (by walk_at "rep") ?_
    refine T_none (T_is_none (T_truthy_bool (Br.ff rfl (T_execs_nil ?_))))
    refine T_execs (T_Assign (T_Attr (T_ld F (by walk_at "mem") (by walk_at "at") ?_)))
    refine T_get_np (by walk_at "mem") (by walk_at "mem") fun t2 => ?_
    refine T_st F (by walk_at "mem") (by walk_at "cv") (by walk_at "put") (by walk_at "rep") ?_
    refine T_execs (T_If (T_isCompare (T_ld F (by walk_at "mem") (by walk_at "at") ?_))); intro t3
    refine T_glob F g_NODE_OUT (by rfl) ?_
    refine T_ne (T_truthy_bool (Br.ff (by rw [hnp]; rfl) (T_execs_nil ?_)))
    refine T_execs (T_AssignAttr (T_glob F g_NODE_DONE (by rfl) ?_))
    refine T_ld F (by walk_at "mem") (by walk_at "at") ?_
    have R1 := rep_na (np' := -2) hi
    refine T_set_np (by walk_at "mem") (by walk_at "rep") (by walk_at "mem") ?_
    have hn4 : n2iK (rs3.set i { r with np := -2 }) = n2iK rs3 := n2i_set hi rfl rfl
    rw [← hn4]
    have he4 : absL (rs3.set i { r with np := -2 }) = updA q (npSet (-2)) (absL rs3) := by rw [abs_set (f := npSet (-2)) hi rfl hnd3, hp]
    have hi4 : ∃ r4, (rs3.set i { r with np := -2 })[i]? = some r4 ∧ r4.sa = r.sa ∧ r4.succ = r.succ ∧ r4.na = r.na ∧ r4.da = r.da := by
      have hlt : i < rs3.length := by
        rcases Nat.lt_or_ge i rs3.length with z | z
        · exact z
        · rw [List.getElem?_eq_none z] at hi; cases hi
      exact ⟨_, List.getElem?_set_self hlt, rfl, rfl, rfl, rfl⟩
    have hsuc : succOf (absL rs3) q = r.succ := by rw [← hp]; exact succOf_abs hi hnd3
    have hin4 : ∀ z ∈ r.succ, z ∈ portsA (absL rs) := fun z hz => hsu q z (by rw [← foldDone_succ (ps.take j) (absL rs, ready), ← e1, hsuc]; exact hz)
    have hp4 : portsA (absL (rs3.set i { r with np := -2 })) = portsA (absL rs) := by rw [he4, ports_upd (f := npSet (-2)) (fun _ => rfl), hp3]
    generalize rs3.set i { r with np := -2 } = rs4 at hn4 he4 hi4 hp4
    obtain ⟨r4, hi4, hsa4, hsu4, hna4, hda4⟩ := hi4
    have m_na : (r4.na, Node r4.port r4.np r4.sa r4.da) ∈ nodesL rs4 := nodes_na hi4
    have m_da : (r4.da, AD []) ∈ nodesL rs4 := nodes_da hi4
    have m_sa : (r4.sa, Lst (r4.succ.map iv)) ∈ nodesL rs4 := nodes_sa hi4
    refine TT.le (l' := (L, IsNs [Str.ofString "self", Str.ofString "nodes", Str.ofString "n2i", Str.ofString "node", Str.ofString "nodeinfo", Str.ofString "stat", Str.ofString "successor", Str.ofString "successor_info"] [some (.ref x), some (.ref tp), some (.ref n2i), none, some (.ref r4.na), none, none, none]) :: (it, TIt tp (j + 1)) :: (tp, Tup (vals.map cv)) :: (pre ++ SL G.w x d n2i (.ref rn) npv (iv (nf + j)) rs4 ((rn, Lst (rd3.map iv)) :: post))) ?_ ?_
    · rw [hna4]
      walk_at "le"
    have hrd3 : rd3.length ≤ 420 := by
      have := foldDone_len hsl (ps.take j) (absL rs, ready) fun _ => rfl
      rw [← e2] at this
      have h2 : (ps.take j).length ≤ ps.length := by rw [List.length_take]; omega
      simp only at this
      omega
    have hsl4 : r.succ.length ≤ 20 := by
      have := hsl q
      rw [← foldDone_succ (ps.take j) (absL rs, ready), ← e1, hsuc] at this
      exact this
    refine T_execs (T_for (T_Attr (T_ld F (by walk_at "mem") (by walk_at "at") ?_)))
    refine T_get_succ (by walk_at "mem") (by walk_at "mem") ?_
    refine T_iter_list (by walk_at "mem") fun it2 => ?_
    refine Loop.le (l' := (it2, LIt r4.sa 0) :: (L, IsNs [Str.ofString "self", Str.ofString "nodes", Str.ofString "n2i", Str.ofString "node", Str.ofString "nodeinfo", Str.ofString "stat", Str.ofString "successor", Str.ofString "successor_info"] [some (.ref x), some (.ref tp), some (.ref n2i), none, none, none, none, none]) :: (it, TIt tp (j + 1)) :: (tp, Tup (vals.map cv)) :: (pre ++ SL G.w x d n2i (.ref rn) npv (iv (nf + j)) rs4 ((rn, Lst (rd3.map iv)) :: post))) (by walk_at "le") ?_
    refine Loop.list (a := r4.sa) (vs := r4.succ.map iv) (fun k l1 => ∃ rs5 rd5 r5, (absL rs5, rd5) = (r.succ.take k).foldl decS (absL rs4, rd3) ∧ rs5[i]? = some r5 ∧ r5.sa = r4.sa ∧ r5.succ = r4.succ ∧
      l1 = (L, IsNs [Str.ofString "self", Str.ofString "nodes", Str.ofString "n2i", Str.ofString "node", Str.ofString "nodeinfo", Str.ofString "stat", Str.ofString "successor", Str.ofString "successor_info"] [some (.ref x), some (.ref tp), some (.ref n2i), none, none, none, none, none]) :: (it, TIt tp (j + 1)) :: (tp, Tup (vals.map cv)) :: (pre ++ SL G.w x d n2i (.ref rn) npv (iv (nf + j)) rs5 ((rn, Lst (rd5.map iv)) :: post))) ax.hd ⟨rs4, rd3, r4, rfl, hi4, rfl, rfl, rfl⟩ ?_ ?_ ?_
    · rintro k l1 ⟨rs5, rd5, r5, _, h5, h6, h7, rfl⟩
      have m5 : (r4.sa, Lst (r4.succ.map iv)) ∈ nodesL rs5 := by rw [← h6, ← h7]; exact nodes_sa h5
      walk_at "mem"
    · rintro k l1 c hc ⟨rs5, rd5, r5, he5, h5, h6, h7, rfl⟩
      rw [List.getElem?_map, hsu4] at hc
      obtain ⟨z, hz, rfl⟩ := Option.map_eq_some_iff.mp hc
      intro tz
      have e51 : absL rs5 = ((r.succ.take k).foldl decS (absL rs4, rd3)).1 := congrArg (·.1) he5
      have e52 : rd5 = ((r.succ.take k).foldl decS (absL rs4, rd3)).2 := congrArg (·.2) he5
      have hp5 : portsA (absL rs5) = portsA (absL rs) := by rw [e51, foldDec_ports]; exact hp4
      have hnd5 : (portsA (absL rs5)).Nodup := by rw [hp5]; exact hnd
      obtain ⟨i6, r6, hi6, hp6, hv6⟩ := n2i_get (rs := rs5) (p := z) (by rw [hp5]; exact hin4 z (List.mem_of_getElem? hz))
      have m_na : (r6.na, Node r6.port r6.np r6.sa r6.da) ∈ nodesL rs5 := nodes_na hi6
      have m_da : (r6.da, AD []) ∈ nodesL rs5 := nodes_da hi6
      refine T_assignName (T_st F (by walk_at "mem") (by walk_at "cv") (by walk_at "put") (by walk_at "rep") ?_)
      refine T_execs (T_Assign (T_Sub (T_ld F (by walk_at "mem") (by walk_at "at") ?_)))
      refine T_ld F (by walk_at "mem") (by walk_at "at") ?_; intro t4
      refine T_ditem (by walk_at "mem") hv6 ?_
      refine T_st F (by walk_at "mem") (by walk_at "cv") (by walk_at "put") (by walk_at "rep") ?_
      refine T_execs (T_AugAttr (T_ld F (by walk_at "mem") (by walk_at "at") ?_))
      refine T_get_np (by walk_at "mem") (by walk_at "mem") fun t5 => ?_
      refine T_int fun t6 => T_isub fun t7 => ?_
      have R2 := rep_na (np' := r6.np - 1) hi6
      refine T_set_np (by walk_at "mem") (by walk_at "rep") (by walk_at "mem") ?_
      have hn7 : n2iK (rs5.set i6 { r6 with np := r6.np - 1 }) = n2iK rs5 := n2i_set hi6 rfl rfl
      rw [← hn7]
      have he7 : absL (rs5.set i6 { r6 with np := r6.np - 1 }) = updA z (npAdd (-1)) (absL rs5) := by rw [abs_set (f := npAdd (-1)) hi6 rfl hnd5, hp6]
      have hlt6 : i6 < rs5.length := by
        rcases Nat.lt_or_ge i6 rs5.length with z | z
        · exact z
        · rw [List.getElem?_eq_none z] at hi6; cases hi6
      have hi7 : (rs5.set i6 { r6 with np := r6.np - 1 })[i6]? = some { r6 with np := r6.np - 1 } := List.getElem?_set_self hlt6
      have h8 : ∃ r8, (rs5.set i6 { r6 with np := r6.np - 1 })[i]? = some r8 ∧ r8.sa = r4.sa ∧ r8.succ = r4.succ := by
        by_cases z : i6 = i
        · subst z
          rw [h5] at hi6; cases hi6
          exact ⟨_, List.getElem?_set_self hlt6, h6, h7⟩
        · exact ⟨r5, by rw [List.getElem?_set_ne z]; exact h5, h6, h7⟩
      have hnd7 : (portsA (absL (rs5.set i6 { r6 with np := r6.np - 1 }))).Nodup := by rw [he7, ports_upd (f := npAdd (-1)) (fun _ => rfl)]; exact hnd5
      have hnp7 : npOf (updA z (npAdd (-1)) (absL rs5)) z = r6.np - 1 := by rw [← he7, ← hp6]; exact npOf_abs hi7 hnd7
      have m_na : (r6.na, Node r6.port (r6.np - 1) r6.sa r6.da) ∈ nodesL (rs5.set i6 { r6 with np := r6.np - 1 }) := nodes_na hi7
      have m_da : (r6.da, AD []) ∈ nodesL (rs5.set i6 { r6 with np := r6.np - 1 }) := (by have := nodes_da hi7; exact this)
      generalize rs5.set i6 { r6 with np := r6.np - 1 } = rs7 at *
      obtain ⟨r8, h8, h9, h10⟩ := h8
      have hstep : (r.succ.take (k + 1)).foldl decS (absL rs4, rd3) = decS (absL rs5, rd5) z := by
        rw [List.take_add_one, hz, Option.toList_some, List.foldl_append, ← he5]; rfl
      have hrd5 : rd5.length ≤ 440 := by
        have := foldDec_len (r.succ.take k) (absL rs4, rd3)
        rw [← e52] at this
        have h2 : (r.succ.take k).length ≤ r.succ.length := by rw [List.length_take]; omega
        simp only at this
        omega
      refine T_execs (T_If (T_isCompare (T_Attr (T_ld F (by walk_at "mem") (by walk_at "at") ?_))))
      refine T_get_np (by walk_at "mem") (by walk_at "mem") fun t8 => ?_
      refine T_int fun t9 => T_eq (T_truthy_bool ⟨fun e => ?_, fun e => ?_⟩)
      · have e' : r6.np - 1 = 0 := by simpa using e
        refine T_execs (T_Expr (T_MCall (T_Attr (T_ld F (by walk_at "mem") (by walk_at "at") ?_))))
        refine get_ready (by walk_at "mem") (by walk_at "mem") rfl ?_
        refine gm_append (by walk_at "mem") ?_
        refine T_cw Callee.builtin (T_items (T_ld F (by walk_at "mem") (by walk_at "at") ?_)); intro t10
        refine T_items_nil (T_append (by walk_at "rep") (by walk_at "cv") (by rw [List.length_map]; exact Nat.le_trans hrd5 (by decide)) ?_)
        refine ⟨fun a e => (by cases e), T_execs_nil ?_⟩
        refine T_execs_nil ⟨_, ?_, rs7, rd5 ++ [z], r8, ?_, h8, h9, h10, rfl⟩
        · rw [List.map_append, List.map_singleton]
          walk_at "le"
        · rw [hstep, decS, hnp7, if_pos e', he7]
      · have e' : ¬ (r6.np - 1 = 0) := by simpa using e
        refine T_execs_nil ?_
        refine T_execs_nil ⟨_, ?_, rs7, rd5, r8, ?_, h8, h9, h10, rfl⟩
        · walk_at "le"
        · rw [hstep, decS, hnp7, if_neg e', he7]
    · rintro l1 ⟨rs5, rd5, r5, he5, h5, h6, h7, rfl⟩
      have hdone : (absL rs5, rd5) = (ps.take (j + 1)).foldl doneS (absL rs, ready) := by
        rw [List.take_add_one, hq, Option.toList_some, List.foldl_append, ← he3, he5, List.take_of_length_le (by rw [List.length_map, hsu4]; omega), he4]
        simp only [List.foldl_cons, List.foldl_nil, doneS]
        rw [hsuc]
      refine T_execs (T_AugAttr (T_ld F (by walk_at "mem") (by walk_at "at") ?_))
      refine get_nfin (by walk_at "mem") (by walk_at "mem") rfl ?_; intro t11
      refine T_int fun t12 => T_iadd fun t13 => ?_
      refine set_nfin (by walk_at "mem") (by walk_at "mem") (by walk_at "rep") (by walk_at "apart") (by walk_at "cv") ?_
      refine T_execs_nil ⟨_, ?_, rs5, rd5, hdone, rfl⟩
      have e12 : nf + (j : Int) + 1 = nf + ((j + 1 : Nat) : Int) := by omega
      rw [← e12]
      exact .perm (.swap ..)
  · rintro l1 ⟨rs3, rd3, he3, rfl⟩
    have e12 : (vals.map cv).length = ps.length := by rw [List.length_map, hlen]
    rw [e12] at he3 ⊢
    refine T_execs_nil ⟨_, ?_, h rs3 rd3 ?_⟩
    · walk_at "le"
    · rw [he3, List.take_length]

end
end
section
section
variable {G : Gd} {A : Around} {E : Value → Led → Prop} {l l' : Led} {env : Env} {pos : Pos}
theorem len_sub {α : Type} [DecidableEq α] : ∀ {a b : List α}, a.Nodup → (∀ x ∈ a, x ∈ b) → a.length ≤ b.length
  | [], _, _, _ => Nat.zero_le _
  | x :: a, b, nd, h => by
    have nd' := List.nodup_cons.mp nd
    have hx : x ∈ b := h x (.head _)
    have := len_sub (a := a) (b := b.erase x) nd'.2 fun y hy => (List.mem_erase_of_ne (fun e => nd'.1 (by rw [← e]; exact hy))).mpr (h y (.tail _ hy))
    rw [List.length_erase_of_mem hx] at this
    have : 0 < b.length := List.length_pos_of_mem hx
    simp only [List.length_cons]
    omega
noncomputable def Up (g : List AN) (fin : List Int) : Int → List (Int × Nat) → Prop
  | _, [] => True
  | v, (p, k) :: rest => ∃ k', k = k' + 1 ∧ (succOf g p)[k']? = some v ∧ (∀ j z, j < k' → (succOf g p)[j]? = some z → z ∈ fin) ∧ Up g fin p rest
theorem Up.mono {g : List AN} {fin fin' : List Int} (h : ∀ z ∈ fin, z ∈ fin') : ∀ {v : Int} {rows : List (Int × Nat)}, Up g fin v rows → Up g fin' v rows
  | _, [], _ => trivial
  | _, (_, _) :: _, ⟨k', a, b, c, d⟩ => ⟨k', a, b, fun j z hj hz => h z (c j z hj hz), d.mono h⟩
noncomputable def Topo (g : List AN) (fin : List Int) : Prop := ∀ (i : Nat) p, fin[i]? = some p → ∀ q ∈ succOf g p, q ∈ fin.take i
/-- what a ring is -/
structure RingOk (g : List AN) (ring : List Int) : Prop where
  two : 2 ≤ ring.length
  ends : ring.head? = ring.getLast?
  nd : (ring.drop 1).Nodup
  edge : ∀ (i : Nat) a b, ring[i]? = some a → ring[i + 1]? = some b → b ∈ succOf g a
structure DB (g : List AN) (fin : List Int) (rows : List (Int × Nat)) : Prop where
  topo : Topo g fin
  nd : (fin ++ rows.map (·.1)).Nodup
  sub : ∀ p ∈ fin ++ rows.map (·.1), p ∈ portsA g
structure D1 (g : List AN) (fin : List Int) (v : Int) (rows : List (Int × Nat)) : Prop where
  b : DB g fin rows
  up : Up g fin v rows
  vin : v ∈ portsA g
noncomputable def Tp2 (g : List AN) (fin : List Int) : List (Int × Nat) → Prop
  | [] => True
  | (p, k) :: rest => k ≤ (succOf g p).length ∧ (∀ j z, j < k → (succOf g p)[j]? = some z → z ∈ fin) ∧ Up g fin p rest
structure D2 (g : List AN) (fin : List Int) (rows : List (Int × Nat)) : Prop where
  b : DB g fin rows
  top : Tp2 g fin rows
theorem D1.seen {g : List AN} {fin : List Int} {v : Int} {rows : List (Int × Nat)} (h : D1 g fin v rows) (hv : v ∈ fin) : D2 g fin rows := by
  refine ⟨h.b, ?_⟩
  match rows, h.up with
  | [], _ => trivial
  | (p, k) :: rest, ⟨k', e, a, b, c⟩ =>
    subst e
    have hlt : k' < (succOf g p).length := (List.getElem?_eq_some_iff.mp a).1
    refine ⟨hlt, fun j z hj hz => ?_, c⟩
    rcases Nat.lt_or_ge j k' with q | q
    · exact b j z q hz
    · have : j = k' := by omega
      subst this
      rw [a] at hz; cases hz; exact hv
theorem D1.push {g : List AN} {fin : List Int} {v : Int} {rows : List (Int × Nat)} (h : D1 g fin v rows) (h1 : v ∉ fin) (h2 : v ∉ rows.map (·.1)) : D2 g fin ((v, 0) :: rows) := by
  refine ⟨⟨h.b.topo, ?_, fun p hp => ?_⟩, Nat.zero_le _, fun j z hj => absurd hj (Nat.not_lt_zero _), h.up⟩
  · have := h.b.nd
    rw [List.map_cons]
    refine List.perm_middle.nodup_iff.mpr (List.nodup_cons.mpr ⟨fun q => ?_, this⟩)
    rcases List.mem_append.mp q with q | q
    · exact h1 q
    · exact h2 q
  · rw [List.map_cons] at hp
    rcases List.mem_cons.mp (List.perm_middle.mem_iff.mp hp) with e | hp
    · exact e ▸ h.vin
    · exact h.b.sub p hp
theorem D2.next {g : List AN} {fin : List Int} {p : Int} {k : Nat} {rest : List (Int × Nat)} {z : Int} (h : D2 g fin ((p, k) :: rest)) (hz : (succOf g p)[k]? = some z) (hin : z ∈ portsA g) : D1 g fin z ((p, k + 1) :: rest) :=
  ⟨⟨h.b.topo, h.b.nd, h.b.sub⟩, ⟨k, rfl, hz, h.top.2.1, h.top.2.2⟩, hin⟩
theorem D2.stop {g : List AN} {fin : List Int} {p : Int} {k : Nat} {rest : List (Int × Nat)} (h : D2 g fin ((p, k) :: rest)) (hz : (succOf g p)[k]? = none) : D2 g (fin ++ [p]) rest := by
  obtain ⟨hk, hall, hup⟩ := h.top
  have hlen : (succOf g p).length ≤ k := List.getElem?_eq_none_iff.mp hz
  refine ⟨⟨fun i q hi z hz => ?_, ?_, fun q hq => ?_⟩, ?_⟩
  · rcases Nat.lt_or_ge i fin.length with hl | hl
    · rw [List.getElem?_append_left hl] at hi
      rw [List.take_append_of_le_length (Nat.le_of_lt hl)]
      exact h.b.topo i q hi z hz
    · rw [List.getElem?_append_right hl] at hi
      have e0 : i - fin.length = 0 := by
        rcases Nat.eq_zero_or_pos (i - fin.length) with e | e
        · exact e
        · rw [List.getElem?_eq_none (by simp; omega)] at hi; cases hi
      rw [e0] at hi
      cases hi
      have : i = fin.length := by omega
      subst this
      rw [List.take_left']
      · obtain ⟨j, hj⟩ := List.mem_iff_getElem?.mp hz
        exact hall j z (Nat.lt_of_lt_of_le (List.getElem?_eq_some_iff.mp hj).1 hlen) hj
      · rfl
  · have := h.b.nd
    rw [List.append_assoc, List.singleton_append]; exact this
  · refine h.b.sub q ?_
    rw [List.append_assoc, List.singleton_append] at hq; exact hq
  · match rest, hup with
    | [], _ => trivial
    | (p', k'') :: rest', ⟨k', e, a, b, c⟩ =>
      subst e
      have hlt : k' < (succOf g p').length := (List.getElem?_eq_some_iff.mp a).1
      refine ⟨hlt, fun j z hj hz => ?_, c.mono fun z hz => List.mem_append_left _ hz⟩
      rcases Nat.lt_or_ge j k' with q | q
      · exact List.mem_append_left _ (b j z q hz)
      · have : j = k' := by omega
        subst this
        rw [a] at hz; cases hz; simp
/-- the way up from v's place -/
theorem Up.path {g : List AN} {fin : List Int} : ∀ {rows : List (Int × Nat)} {v : Int}, Up g fin v rows → ∀ (i : Nat) a b, ((rows.map (·.1)).reverse ++ [v])[i]? = some a → ((rows.map (·.1)).reverse ++ [v])[i + 1]? = some b → b ∈ succOf g a
  | [], v, _, i, a, b, ha, hb => by cases i <;> simp at hb
  | (p, k) :: rest, v, ⟨k', e, h1, h2, h3⟩, i, a, b, ha, hb => by
    have hl : ((rest.map (·.1)).reverse ++ [p]).length = rest.length + 1 := by simp
    rw [List.map_cons, List.reverse_cons] at ha hb
    rcases Nat.lt_or_ge (i + 1) (rest.length + 1) with q | q
    · rw [List.getElem?_append_left (by rw [hl]; omega)] at ha hb
      exact h3.path i a b ha hb
    · have hi : i = rest.length := by
        have := (List.getElem?_eq_some_iff.mp hb).1
        simp at this
        omega
      subst hi
      rw [List.getElem?_append_left (by rw [hl]; omega)] at ha
      rw [List.getElem?_append_right (by rw [hl]; omega)] at hb
      simp at ha hb
      subst ha hb
      exact List.mem_of_getElem? h1
theorem D1.ring {g : List AN} {fin : List Int} {v : Int} {rows : List (Int × Nat)} {i : Nat} (h : D1 g fin v rows) (hi : (rows.map (·.1)).reverse[i]? = some v) : RingOk g ((rows.map (·.1)).reverse.drop i ++ [v]) := by
  have hlt := (List.getElem?_eq_some_iff.mp hi).1
  have hnd : (rows.map (·.1)).reverse.Nodup := (List.reverse_perm _).nodup_iff.mpr (List.nodup_append.mp h.b.nd).2.1
  have e : (rows.map (·.1)).reverse.drop i ++ [v] = ((rows.map (·.1)).reverse ++ [v]).drop i := by rw [List.drop_append_of_le_length (Nat.le_of_lt hlt)]
  have hcons : (rows.map (·.1)).reverse.drop i = v :: (rows.map (·.1)).reverse.drop (i + 1) := by
    rw [List.drop_eq_getElem_cons hlt, (List.getElem?_eq_some_iff.mp hi).2]
  refine ⟨?_, ?_, ?_, fun j a b ha hb => ?_⟩
  · rw [hcons]; simp
  · rw [List.getLast?_concat, hcons]; simp
  · rw [hcons]
    simp only [List.cons_append, List.drop_succ_cons, List.drop_zero]
    have h1 : ((rows.map (·.1)).reverse.drop i).Nodup := hnd.sublist (List.drop_sublist _ _)
    rw [hcons] at h1
    have h2 := List.nodup_cons.mp h1
    exact List.perm_append_comm.nodup_iff.mpr (List.nodup_cons.mpr ⟨by simpa using h2.1, by simpa using h2.2⟩)
  · rw [e, List.getElem?_drop] at ha hb
    exact h.up.path (i + j) a b ha hb
-- the measure
noncomputable def wt (g : List AN) (S : Int → Bool) : Nat := (g.map fun a => cond (S a.port) 0 (a.succ.length + 2)).sum
noncomputable def rw_ (g : List AN) (rows : List (Int × Nat)) : Nat := (rows.map fun r => (succOf g r.1).length - r.2 + 1).sum
theorem wt_add {S : Int → Bool} {v : Int} (hv : S v = false) : ∀ {g : List AN}, (portsA g).Nodup → v ∈ portsA g → wt g (fun k => S k || decide (k = v)) + (succOf g v).length + 2 ≤ wt g S := by
  have le : ∀ g : List AN, wt g (fun k => S k || decide (k = v)) ≤ wt g S := by
    intro g
    induction g with
    | nil => exact Nat.le_refl _
    | cons a g ih =>
      simp only [wt, List.map_cons, List.sum_cons] at ih ⊢
      refine Nat.add_le_add ?_ ih
      cases S a.port <;> cases decide (a.port = v) <;> simp
  intro g
  induction g with
  | nil => intro _ h; cases h
  | cons a g ih =>
    intro nd hm
    have nd' := List.nodup_cons.mp nd
    by_cases e : a.port = v
    · have hs : succOf (a :: g) v = a.succ := by simp [succOf, e]
      rw [hs]
      have := le g
      simp only [wt, List.map_cons, List.sum_cons] at this ⊢
      rw [e, hv, decide_eq_true rfl]
      simp only [Bool.or_true, cond_true, cond_false]
      omega
    · have hm' : v ∈ portsA g := by
        rcases List.mem_cons.mp hm with q | q
        · exact absurd q.symm e
        · exact q
      have := ih nd'.2 hm'
      have hs : succOf (a :: g) v = succOf g v := by simp [succOf, e]
      rw [hs]
      simp only [wt, List.map_cons, List.sum_cons] at this ⊢
      have hd : decide (a.port = v) = false := by simpa using e
      rw [hd, Bool.or_false]
      omega

end
end
section
section
variable {G : Gd} {A : Around} {E : Value → Led → Prop} {l l' : Led} {env : Env} {pos : Pos}
theorem T_ExprAny {e : Expr} {Q : Flow → Led → Prop} (h : TT G A (eval e env) (fun _ l₁ => Q .next l₁) E l)
    (hi : interactive env = false := by rfl) (hs : swapsWith e none pos.line env = pure false := by rfl) : TT G A (exec (.Expr e pos) env) Q E l :=
  ⟨fun s M => by with_reducible exact wpAny_Expr_any (h.go s M) hi hs⟩
theorem T_ditemE {d : Addr} {kvs : List (Int × Value)} {ep : Nat} {k : Int} {t : Tok} {c : Value} {value slice : Expr} {Q : Value → Led → Prop} (hm : (d, DctE G.w d kvs ep) ∈ l) (hv : valueAt kvs k = some c) (h : Any c fun v => Q v l)
    (hs : subscripted slice false (.ref d) (.int k t) = operate [.ref d, .int k t] (getItem (.ref d) (.int k t)) := by with_unfolding_all rfl) : TT G A (subscriptTail value slice (.ref d) (.int k t)) Q E l :=
  ⟨fun s M => by
    obtain ⟨kvs', hd, e, a0⟩ := dctE_at M hm
    rw [← e, ck_find] at hv
    obtain ⟨v, hv', hc⟩ := Option.map_eq_some_iff.mp hv
    exact tail_any hd.dictOf.typeIs slot_dict_getitem.lookup (wpAny_getItem_of (intKind_is _ _ _ _) hd.dictOf.mapOf hv' ⟨l, M.toks _, any_of_cv hc h⟩) hs⟩
noncomputable def Cut (Q : Flow → Led → Prop) (P : Led → Prop) (f : Flow) (l : Led) : Prop := match f with | .next => ∃ l', Le l l' ∧ P l' | f => Q f l
theorem T_cut {st : Stmt} {rest : List Stmt} {Q : Flow → Led → Prop} (P : Led → Prop) (h1 : TT G A (exec st env) (Cut Q P) E l) (h2 : ∀ l, P l → TT G A (execs rest env) Q E l) : TT G A (execs (st :: rest) env) Q E l :=
  T_execs (h1.mono (fun f l' q => by
    cases f with
    | next => obtain ⟨l'', e, p⟩ := q; exact TT.le e (h2 _ p)
    | brk => exact q
    | cont => exact q
    | ret v => exact q) fun _ _ x => x)
structure SRow where
  p : Int
  k : Nat
  mw : Addr
  it : Addr
  sa : Addr
noncomputable def stkL : List SRow → Led
  | [] => []
  | r :: rs => (r.mw, MW r.it) :: (r.it, LIt r.sa r.k) :: stkL rs
theorem stkL_append : ∀ a b : List SRow, stkL (a ++ b) = stkL a ++ stkL b
  | [], _ => rfl
  | r :: a, b => by rw [List.cons_append, stkL, stkL, stkL_append a b]; rfl
noncomputable abbrev absR (rows : List SRow) : List (Int × Nat) := rows.reverse.map fun r => (r.p, r.k)
noncomputable abbrev portsR (rows : List SRow) : List Int := rows.map (·.p)
theorem absR_ports (rows : List SRow) : (absR rows).map (·.1) = (portsR rows).reverse := by simp [absR, portsR, Function.comp_def]
noncomputable def idxK (ps : List Int) : List (Int × Value) := ps.zipIdx.map fun q => (q.1, iv q.2)
theorem idxK_append (ps : List Int) (p : Int) : idxK (ps ++ [p]) = idxK ps ++ [(p, iv ps.length)] := by simp [idxK, List.zipIdx_append]
theorem idxK_keys (ps : List Int) : (idxK ps).map (·.1) = ps := by
  simp only [idxK, List.map_map, Function.comp_def]
  exact List.zipIdx_map_fst _ _
theorem idxK_none {ps : List Int} {p : Int} (h : p ∉ ps) : valueAt (idxK ps) p = none := by
  unfold valueAt
  rw [Option.map_eq_none_iff, List.find?_eq_none]
  intro kv hkv e
  apply h
  rw [← idxK_keys ps]
  exact List.mem_map.mpr ⟨kv, hkv, by simpa using e⟩
theorem idxK_some {ps : List Int} {i : Nat} {p : Int} (hnd : ps.Nodup) (h : ps[i]? = some p) : valueAt (idxK ps) p = some (iv i) :=
  valueAt_of_get (by rw [idxK_keys]; exact hnd) (i := i) (by simp [idxK, h])
theorem idxK_without {ps : List Int} {p : Int} (h : p ∉ ps) : without (idxK (ps ++ [p])) p = idxK ps := by
  rw [idxK_append]
  unfold without
  rw [List.filter_append]
  have h1 : (idxK ps).filter (fun kv => decide (kv.1 ≠ p)) = idxK ps := by
    rw [List.filter_eq_self]
    intro kv hkv
    simp only [ne_eq, decide_not, Bool.not_eq_true', decide_eq_false_iff_not]
    intro e
    apply h
    rw [← idxK_keys ps, ← e]
    exact List.mem_map_of_mem hkv
  rw [h1]
  simp
theorem rep_top {rest : List SRow} {r : SRow} {k' : Nat} : Rep r.it (LIt r.sa r.k) (LIt r.sa k') (stkL (rest ++ [r])) (stkL (rest ++ [{ r with k := k' }])) := by
  rw [stkL_append, stkL_append]
  exact Rep.appL _ (.tail .head)
theorem slice_from (vs : List Value) (k : Nat) : (slicePick vs.toArray (some (k : Int)) none none).toList = vs.drop k := by rw [slicePick_from']

theorem T_epR {α : Type} {t : Sem α} {a : Addr} {kvs : List (Int × Value)} {Q : α → Led → Prop} (l' : Nat → Led) (hr : ∀ ep, Rep a (Dct G.w a kvs) (DctE G.w a kvs ep) l (l' ep)) (h : ∀ ep, TT G A t Q E (l' ep)) : TT G A t Q E l :=
  ⟨fun s M => by
    obtain ⟨o, ho, ep, hE⟩ := M.at_ (hr 0).mem
    exact (h ep).go s (M.upd (hr ep) (Heap.SameBut.refl a s.heap) ⟨o, ho, hE⟩ s.toks)⟩
noncomputable abbrev FL (w : World) (L x d n2i sk isk sn nk : Addr) (rv npv nfv : Value) (rs : List NR) (P : Obj → Prop) (pre post : Led) (v : Option Value) (rows : List SRow) (S : Int → Bool) (m : Nat) : Led :=
  (L, IsNs [Str.ofString "self", Str.ofString "n2i", Str.ofString "stack", Str.ofString "itstack", Str.ofString "seen", Str.ofString "node2stacki", Str.ofString "node"] [some (.ref x), some (.ref n2i), some (.ref sk), some (.ref isk), some (.ref sn), some (.ref nk), v]) :: (sk, Lst ((portsR rows).map iv)) :: (isk, Lst (rows.map fun r => .ref r.mw)) :: (sn, ISet w S m) :: (nk, Dct w nk (idxK (portsR rows))) ::
    (stkL rows ++ (pre ++ (x, Inst 181 d) :: (d, SD (.ref n2i) rv npv nfv) :: (n2i, P) :: (nodesL rs ++ post)))
theorem FL_push {w : World} {L x d n2i sk isk sn nk : Addr} {rv npv nfv : Value} {rs : List NR} {P : Obj → Prop} {pre post : Led} {v : Option Value} {rows : List SRow} {r : SRow} {S : Int → Bool} {m : Nat} :
    FL w L x d n2i sk isk sn nk rv npv nfv rs P pre post v (rows ++ [r]) S m = (L, IsNs [Str.ofString "self", Str.ofString "n2i", Str.ofString "stack", Str.ofString "itstack", Str.ofString "seen", Str.ofString "node2stacki", Str.ofString "node"] [some (.ref x), some (.ref n2i), some (.ref sk), some (.ref isk), some (.ref sn), some (.ref nk), v]) :: (sk, Lst ((portsR rows).map iv ++ [iv r.p])) :: (isk, Lst ((rows.map fun r => .ref r.mw) ++ [.ref r.mw])) :: (sn, ISet w S m) :: (nk, Dct w nk (idxK (portsR rows) ++ [(r.p, iv rows.length)])) ::
    (stkL rows ++ (r.mw, MW r.it) :: (r.it, LIt r.sa r.k) :: (pre ++ (x, Inst 181 d) :: (d, SD (.ref n2i) rv npv nfv) :: (n2i, P) :: (nodesL rs ++ post))) := by
  have e1 : portsR (rows ++ [r]) = portsR rows ++ [r.p] := by simp [portsR]
  have e2 : ((rows ++ [r]).map fun r => Value.ref r.mw) = (rows.map fun r => .ref r.mw) ++ [.ref r.mw] := by simp
  have e3 : (portsR rows).length = rows.length := by simp
  rw [FL, e1, e2, idxK_append, e3, List.map_append, stkL_append, List.append_assoc]
  rfl
theorem absR_push {rows : List SRow} {r : SRow} : absR (rows ++ [r]) = (r.p, r.k) :: absR rows := by simp [absR]
/-- the rows' lists are the nodes' -/
noncomputable def RowsOk (rs : List NR) (rows : List SRow) : Prop := ∀ r ∈ rows, ∃ (i : Nat) (n : NR), rs[i]? = some n ∧ n.port = r.p ∧ n.sa = r.sa
noncomputable def SeenOk (S : Int → Bool) (fin : List Int) (rows : List SRow) : Prop := ∀ k, S k = true ↔ (k ∈ fin ∨ k ∈ portsR rows)
theorem sub_stop_base : isSubtype (.type "StopIteration") (.type "BaseException") = pure true := by rw [isSubtype_type]; kernel_rfl
theorem meta_stop : isSubtype (.type ((Manifest.find? "StopIteration").elim "type" fun x => x.metatype)) (.type "tuple") = pure false := by rw [isSubtype_type]; kernel_rfl
theorem find_cycle_spec {x d n2i : Addr} {rv npv nfv : Value} {rs : List NR} {pre post : Led} {Q : Value → Led → Prop} (ax : Ax A 1) (hF : Frs A pre) (hnd : (portsA (absL rs)).Nodup) (hz : rs.length ≤ 900)
    (hcl : ∀ p, ∀ q ∈ succOf (absL rs) p, q ∈ portsA (absL rs))
    (h1 : ∀ fin, Topo (absL rs) fin → (∀ p ∈ portsA (absL rs), p ∈ fin) → fin.length ≤ rs.length → Q .none (pre ++ SL G.w x d n2i rv npv nfv rs post))
    (h2 : ∀ ring D, RingOk (absL rs) ring → ring.length ≤ rs.length + 1 → Q (.ref D) ((D, Lst (ring.map iv)) :: (pre ++ SL G.w x d n2i rv npv nfv rs post))) :
    TT G A (call (.ref 171) [.ref x]) Q E (pre ++ SL G.w x d n2i rv npv nfv rs post) := by
  refine T_def [Str.ofString "n2i", Str.ofString "stack", Str.ofString "itstack", Str.ofString "seen", Str.ofString "node2stacki", Str.ofString "node"] (ns := [Str.ofString "self", Str.ofString "n2i", Str.ofString "stack", Str.ofString "itstack", Str.ofString "seen", Str.ofString "node2stacki", Str.ofString "node"]) (vs := [some (.ref x), none, none, none, none, none, none]) ax.room (by exact rfl) rfl rfl rfl rfl (by kernel_rfl) ⟨rfl, rfl, rfl, rfl, rfl⟩ fun L F => ?_
  have hout : ∀ env : Env, ∃ outer, (A.deeper env).frames = some (env :: outer) := fun env => by
    obtain ⟨fs, hfs, _⟩ := hF.go
    exact ⟨fs, Around.frames_deeper hfs⟩
  refine T_execs (T_Assign (T_Attr (T_ld F (by walk_at "mem") (by walk_at "at") ?_)))
  refine get_n2i (by walk_at "mem") (by walk_at "mem") rfl ?_
  refine T_st F (by walk_at "mem") (by walk_at "cv") (by walk_at "put") (by walk_at "rep") ?_
  refine T_execs (T_Assign (T_List (T_items_nil ⟨by decide, fun sk => ?_⟩)))
  refine T_st F (by walk_at "mem") (by walk_at "cv") (by walk_at "put") (by walk_at "rep") ?_
  refine T_execs (T_Assign (T_List (T_items_nil ⟨by decide, fun isk => ?_⟩)))
  refine T_st F (by walk_at "mem") (by walk_at "cv") (by walk_at "put") (by walk_at "rep") ?_
  refine T_execs (T_Assign (T_Call (T_blt F b_set (by rfl) ?_)))
  refine T_cw0 Callee.type (T_set0 fun sn => ?_)
  refine T_st F (by walk_at "mem") (by walk_at "cv") (by walk_at "put") (by walk_at "rep") ?_
  refine T_execs (T_Assign (T_dnew fun nk => ?_))
  refine T_st F (by walk_at "mem") (by walk_at "cv") (by walk_at "put") (by walk_at "rep") ?_
  refine TT.le (l' := FL G.w L x d n2i sk isk sn nk rv npv nfv rs (Dct G.w n2i (n2iK rs)) pre post none [] (fun _ => false) 0) ?_ ?_
  · show Le ((nk, Dct G.w nk []) :: (sn, _) :: (isk, Lst []) :: (sk, Lst []) :: (L, _) :: (pre ++ _)) ((L, IsNs _ _) :: (sk, Lst []) :: (isk, Lst []) :: (sn, ISet G.w (fun _ => false) 0) :: (nk, Dct G.w nk []) :: (pre ++ _))
    walk_at "le"
  refine T_epR (fun ep => FL G.w L x d n2i sk isk sn nk rv npv nfv rs (DctE G.w n2i (n2iK rs) ep) pre post none [] (fun _ => false) 0) (fun ep => (by walk_at "rep")) fun ep => ?_
  refine T_execs (T_for (T_ld F (by walk_at "mem") (by walk_at "at") ?_))
  refine T_iter_dict (by walk_at "mem") fun it0 => ?_
  refine Loop.keys (fun j l1 => ∃ fin S, D2 (absL rs) fin [] ∧ SeenOk S fin [] ∧ (∀ q ∈ (portsA (absL rs)).take j, q ∈ fin) ∧
    l1 = FL G.w L x d n2i sk isk sn nk rv npv nfv rs (DctE G.w n2i (n2iK rs) ep) pre post none [] S fin.length) ax.hd ⟨[], fun _ => false, ?_, ?_, ?_, rfl⟩ ?_ ?_ ?_
  · exact ⟨⟨fun i p h => by simp at h, List.nodup_nil, fun p h => by simp at h⟩, trivial⟩
  · intro k; simp
  · intro q hq; simp at hq
  · rintro j l1 ⟨fin, S, _, _, _, rfl⟩
    walk_at "mem"
  · rintro j l1 root c hc ⟨fin, S, hD, hS, hbase, rfl⟩ tr
    have hroot : (portsA (absL rs))[j]? = some root := by
      rw [List.getElem?_map] at hc
      obtain ⟨r, hr, e⟩ := Option.map_eq_some_iff.mp hc
      cases e
      simp [hr, NR.abs]
    have hrin : root ∈ portsA (absL rs) := List.mem_of_getElem? hroot
    refine T_assignName (T_st F (by walk_at "mem") (by walk_at "cv") (by walk_at "put") (by walk_at "rep") ?_)
    refine T_execs (T_If (T_isCompare (T_ld F (by walk_at "mem") (by walk_at "at") ?_))); intro t1
    refine T_ld F (by walk_at "mem") (by walk_at "at") ?_
    have hm0 : fin.length ≤ rs.length := by
      have := len_sub (List.nodup_append.mp hD.b.nd).1 fun p hp => hD.b.sub p (List.mem_append_left _ hp)
      simpa using this
    refine T_inSet (by walk_at "mem") (Nat.lt_of_le_of_lt (Nat.le_trans hm0 hz) (by decide)) (T_truthy_bool ⟨fun e => ?_, fun e => ?_⟩)
    · refine T_execs (T_Continue ?_)
      refine ⟨_, ?_, fin, S, hD, hS, fun q hq => ?_, rfl⟩
      · walk_at "le"
      · rw [List.take_add_one, hroot] at hq
        rcases List.mem_append.mp hq with hq | hq
        · exact hbase q hq
        · rcases (hS root).mp e with h | h
          · simp at hq; subst hq; exact h
          · simp [portsR] at h
    · refine T_execs_nil ?_
      have hD1 : D1 (absL rs) fin root (absR []) := ⟨hD.b, trivial, hrin⟩
      refine T_execs (T_while (fun n l1 => ∃ fin rows S v, D1 (absL rs) fin v (absR rows) ∧ RowsOk rs rows ∧ SeenOk S fin rows ∧ (∀ q ∈ (portsA (absL rs)).take j, q ∈ fin) ∧ (root ∈ fin ∨ root ∈ portsR rows ∨ v = root) ∧ n = wt (absL rs) S + rw_ (absL rs) (absR rows) ∧
        l1 = (it0, KIt n2i (n2iK rs).length ep (j + 1)) :: FL G.w L x d n2i sk isk sn nk rv npv nfv rs (DctE G.w n2i (n2iK rs) ep) pre post (some (iv v)) rows S (fin.length + rows.length)) _
        ⟨fin, [], S, root, hD1, fun r hr => (nomatch hr), hS, hbase, .inr (.inr rfl), rfl, rfl⟩ ?_)
      rintro n l1 ⟨fin, rows, S, v, hD, hR, hS, hbase, hroot', rfl, rfl⟩
      have hm : fin.length + rows.length ≤ rs.length := by
        have := len_sub hD.b.nd hD.b.sub
        simpa using this
      have hms : fin.length + rows.length < scanBound := Nat.lt_of_le_of_lt (Nat.le_trans hm hz) (by decide)
      have hpnd : (portsR rows).Nodup := by
        have := (List.nodup_append.mp hD.b.nd).2.1
        rw [absR_ports] at this
        exact (List.reverse_perm _).nodup_iff.mp this
      refine T_isValue (T_bool (T_truthy_bool (Br.tt rfl ?_)))
      generalize hn : wt (absL rs) S + rw_ (absL rs) (absR rows) = n
      refine T_cut (fun l1 => ∃ fin rows S, ∃ v : Option Value, D2 (absL rs) fin (absR rows) ∧ RowsOk rs rows ∧ SeenOk S fin rows ∧ (∀ q ∈ (portsA (absL rs)).take j, q ∈ fin) ∧ (root ∈ fin ∨ root ∈ portsR rows) ∧ wt (absL rs) S + rw_ (absL rs) (absR rows) ≤ n ∧
        l1 = (it0, KIt n2i (n2iK rs).length ep (j + 1)) :: FL G.w L x d n2i sk isk sn nk rv npv nfv rs (DctE G.w n2i (n2iK rs) ep) pre post v rows S (fin.length + rows.length)) ?_ ?_
      · refine T_If (T_isCompare (T_ld F (by walk_at "mem") (by walk_at "at") ?_)); intro t2
        refine T_ld F (by walk_at "mem") (by walk_at "at") ?_
        refine T_inSet (by walk_at "mem") hms (T_truthy_bool ⟨fun e => ?_, fun e => ?_⟩)
        · refine T_execs (T_If (T_isCompare (T_ld F (by walk_at "mem") (by walk_at "at") ?_))); intro t3
          refine T_ld F (by walk_at "mem") (by walk_at "at") ?_
          refine T_din (by walk_at "mem") (T_truthy_bool ⟨fun e2 => ?_, fun e2 => ?_⟩)
          · -- a ring
            have hv : v ∈ portsR rows := by
              by_cases q : v ∈ portsR rows
              · exact q
              · rw [idxK_none q] at e2; cases e2
            obtain ⟨i, hi⟩ := List.mem_iff_getElem?.mp hv
            have hi' : ((absR rows).map (·.1)).reverse[i]? = some v := by rw [absR_ports, List.reverse_reverse]; exact hi
            have hring := hD.ring hi'
            rw [absR_ports, List.reverse_reverse] at hring
            refine T_execs (T_Return (T_BinOp (T_slice (T_ld F (by walk_at "mem") (by walk_at "at") ?_))))
            refine T_part (T_Sub (T_ld F (by walk_at "mem") (by walk_at "at") ?_))
            refine T_ld F (by walk_at "mem") (by walk_at "at") ?_; intro t4
            refine T_ditem (by walk_at "mem") (idxK_some hpnd hi) ?_; intro t5
            refine T_part_none ⟨_, _, _, _, rfl, (by walk_at "mem"), ?_, .int _ _, .none, fun D1 => ?_⟩
            · simp only [List.length_map]; exact Nat.le_trans (Nat.le_trans (Nat.le_add_left _ _) (Nat.le_trans hm hz)) (by decide)
            refine T_List (T_items (T_ld F (by walk_at "mem") (by walk_at "at") ?_)); intro t6
            refine T_items_nil ⟨(Nat.le_of_ble_eq_true rfl), fun D2 => ?_⟩
            have hlr : rows.length ≤ rs.length := Nat.le_trans (Nat.le_add_left _ _) hm
            rw [slice_from]
            refine T_addList (by walk_at "mem") (by walk_at "mem") ?_ fun D => ?_
            · simp only [List.length_drop, List.length_map, List.length_cons, List.length_nil]
              exact Nat.le_trans (Nat.add_le_add_right (Nat.le_trans (Nat.sub_le ..) (Nat.le_trans hlr hz)) _) (by decide)
            have e7 : ((portsR rows).map iv).drop i ++ ([Value.int v t6].map cv) = ((portsR rows).drop i ++ [v]).map iv := by simp [List.map_drop, cv]
            rw [e7]
            refine ⟨_, Le.refl _, ⟨_, Le.refl _, ⟨_, ?_, h2 _ D hring ?_⟩⟩⟩
            · refine .keep (fun _ h => h) ?_
              refine .drop (.drop (.drop (.drop (.drop (.drop (.drop (.drop (Le.dropL _ (Le.appL pre (.keep (fun _ h => h) (.keep (fun _ h => h) (.keep (fun _ h => ⟨ep, h⟩) (Le.refl _)))))))))))))
            · simp only [List.length_append, List.length_drop, List.length_map, List.length_cons, List.length_nil]
              exact Nat.add_le_add_right (Nat.le_trans (Nat.sub_le ..) hlr) _
          · -- already finished
            refine T_execs_nil ?_
            have hv : v ∉ portsR rows := fun q => by
              obtain ⟨i, hi⟩ := List.mem_iff_getElem?.mp q
              rw [idxK_some hpnd hi] at e2; cases e2
            have hf : v ∈ fin := by
              rcases (hS v).mp e with q | q
              · exact q
              · exact absurd q hv
            refine T_execs_nil ⟨_, Le.refl _, fin, rows, S, _, hD.seen hf, hR, hS, hbase, ?_, Nat.le_of_eq hn, rfl⟩
            rcases hroot' with q | q | q
            · exact .inl q
            · exact .inr q
            · subst q; exact .inl hf
        · -- a new node
          have hnf : v ∉ fin := fun q => by rw [(hS v).mpr (.inl q)] at e; cases e
          have hnr : v ∉ portsR rows := fun q => by rw [(hS v).mpr (.inr q)] at e; cases e
          obtain ⟨i, r, hi, hp, hv⟩ := n2i_get hD.vin
          have m_na : (r.na, Node r.port r.np r.sa r.da) ∈ nodesL rs := nodes_na hi
          have m_da : (r.da, AD []) ∈ nodesL rs := nodes_da hi
          have m_sa : (r.sa, Lst (r.succ.map iv)) ∈ nodesL rs := nodes_sa hi
          refine T_execs (T_Expr (T_MCall (T_ld F (by walk_at "mem") (by walk_at "at") ?_)))
          refine gm_add (by walk_at "mem") ?_
          refine T_cw Callee.builtin (T_items (T_ld F (by walk_at "mem") (by walk_at "at") ?_)); intro t3
          refine T_items_nil (T_setadd (Nat.lt_of_le_of_lt (Nat.succ_le_succ (Nat.le_trans hm hz)) (by decide)) (by walk_at "rep") ?_)
          refine ⟨fun a e => (by cases e), ?_⟩
          rw [e, if_neg Bool.false_ne_true]
          refine T_execs (T_Expr (T_MCall (T_ld F (by walk_at "mem") (by walk_at "at") ?_)))
          refine gm_append (by walk_at "mem") ?_
          refine T_cw Callee.builtin (T_items (T_Attr (T_Call (T_blt F b_iter (by rfl) ?_))))
          refine T_cw Callee.builtin (T_items (T_Attr (T_Sub (T_ld F (by walk_at "mem") (by walk_at "at") ?_))))
          refine T_ld F (by walk_at "mem") (by walk_at "at") ?_; intro t4
          refine T_ditemE (by walk_at "mem") hv ?_
          refine T_get_succ (by walk_at "mem") (by walk_at "mem") ?_
          refine T_items_nil (T_iterCall (by walk_at "mem") fun it => ?_)
          refine T_nextAttr (by walk_at "mem") fun mw => ?_
          refine T_items_nil (T_append (by walk_at "rep") (by walk_at "cv") ?_ ?_)
          · simp only [List.length_map]; exact Nat.le_trans (Nat.le_trans (Nat.le_add_left _ _) (Nat.le_trans hm hz)) (by decide)
          refine ⟨fun a e => (by cases e), ?_⟩
          refine T_execs (T_AssignSub (T_Call (T_blt F b_len (by rfl) ?_)))
          refine T_cw Callee.builtin (T_items (T_ld F (by walk_at "mem") (by walk_at "at") ?_))
          refine T_items_nil (T_len (by walk_at "mem") ?_ fun t5 => ?_)
          · simp only [List.length_map]; exact Nat.le_trans (Nat.le_trans (Nat.le_add_left _ _) (Nat.le_trans hm hz)) (by decide)
          refine T_ld F (by walk_at "mem") (by walk_at "at") ?_
          refine T_ld F (by walk_at "mem") (by walk_at "at") ?_; intro t6
          refine T_dset (by walk_at "rep") (by walk_at "cv") ?_ ?_
          · have : (idxK (portsR rows)).length = rows.length := by simp [idxK]
            rw [this]; exact Nat.le_trans (Nat.le_trans (Nat.le_add_left _ _) (Nat.le_trans hm hz)) (by decide)
          refine T_execs (T_Expr (T_MCall (T_ld F (by walk_at "mem") (by walk_at "at") ?_)))
          refine gm_append (by walk_at "mem") ?_
          refine T_cw Callee.builtin (T_items (T_ld F (by walk_at "mem") (by walk_at "at") ?_)); intro t7
          refine T_items_nil (T_append (by walk_at "rep") (by walk_at "cv") ?_ ?_)
          · simp only [List.length_map]; exact Nat.le_trans (Nat.le_trans (Nat.le_add_left _ _) (Nat.le_trans hm hz)) (by decide)
          refine ⟨fun a e => (by cases e), ?_⟩
          have hw := wt_add e hnd hD.vin
          refine T_execs_nil ⟨_, ?_, fin, rows ++ [⟨v, 0, mw, it, r.sa⟩], (fun k' => S k' || decide (k' = v)), some (iv v), ?_, ?_, ?_, hbase, ?_, ?_, rfl⟩
          · rw [FL_push, stored_new (idxK_none hnr)]
            have e9 : fin.length + (rows ++ [(⟨v, 0, mw, it, r.sa⟩ : SRow)]).length = fin.length + rows.length + 1 := by rw [List.length_append]; rfl
            rw [e9]
            simp only [List.length_map]
            refine .pick (by walk_at "tk") (.pick (by walk_at "tk") (.pick (by walk_at "tk") (.pick (by walk_at "tk") (.pick (by walk_at "tk") (.pick (by walk_at "tk") (.pickB (by walk_at "blk") (.pick (by walk_at "tk") (.pickI (P := LItN r.sa) (by walk_at "tk") (fun o h => ?_) (Le.refl _)))))))))
            rw [h]; exact ⟨rfl, rfl⟩
          · rw [absR_push]; exact hD.push hnf (by rw [absR_ports]; simpa using hnr)
          · intro q hq
            rcases List.mem_append.mp hq with hq | hq
            · exact hR q hq
            · rw [List.mem_singleton.mp hq]; exact ⟨i, r, hi, hp, rfl⟩
          · intro k
            have := hS k
            simp only [Bool.or_eq_true, decide_eq_true_eq, this, portsR, List.map_append, List.mem_append, List.map_cons, List.map_nil, List.mem_singleton]
            exact or_assoc
          · rcases hroot' with q | q | q
            · exact .inl q
            · right; simp only [portsR, List.map_append, List.mem_append]; exact .inl q
            · right; simp only [portsR, List.map_append, List.mem_append]; right; simp [q]
          · rw [absR_push]
            simp only [rw_, List.map_cons, List.sum_cons] at hn ⊢
            omega
      · rintro l1 ⟨fin, rows, S, v, hD, hR, hS, hbase, hroot2, hle, rfl⟩
        refine T_execs (T_while (fun k l1 => ∃ fin rows S, ∃ v : Option Value, D2 (absL rs) fin (absR rows) ∧ RowsOk rs rows ∧ SeenOk S fin rows ∧ (∀ q ∈ (portsA (absL rs)).take j, q ∈ fin) ∧ (root ∈ fin ∨ root ∈ portsR rows) ∧ k = wt (absL rs) S + rw_ (absL rs) (absR rows) ∧ k ≤ n ∧
          l1 = (it0, KIt n2i (n2iK rs).length ep (j + 1)) :: FL G.w L x d n2i sk isk sn nk rv npv nfv rs (DctE G.w n2i (n2iK rs) ep) pre post v rows S (fin.length + rows.length)) _ ⟨fin, rows, S, v, hD, hR, hS, hbase, hroot2, rfl, hle, rfl⟩ ?_)
        rintro k l1 ⟨fin, rows, S, v, hD, hR, hS, hbase, hroot2, hk, hkn, rfl⟩
        have hm : fin.length + rows.length ≤ rs.length := by
          have := len_sub hD.b.nd hD.b.sub
          simpa using this
        have hrl : rows.length ≤ sizeLine := Nat.le_trans (Nat.le_trans (Nat.le_add_left _ _) (Nat.le_trans hm hz)) (by decide)
        refine T_isValue (T_ld F (by walk_at "mem") (by walk_at "at") ?_)
        refine T_truthy_list (by walk_at "mem") (by simp only [List.length_map]; exact hrl) ⟨fun e => ?_, fun e => ?_⟩
        · obtain ⟨rest, r, rfl⟩ : ∃ rest r, rows = rest ++ [r] := by
            rcases List.eq_nil_or_concat rows with q | ⟨a, b, q⟩
            · subst q; simp at e
            · exact ⟨a, b, by rw [q, List.concat_eq_append]⟩
          rw [FL_push]
          obtain ⟨i, nd, hi, hp, hsa⟩ := hR r (by simp)
          have hsu : succOf (absL rs) r.p = nd.succ := by rw [← hp]; exact succOf_abs hi hnd
          have m_sa : (r.sa, Lst (nd.succ.map iv)) ∈ nodesL rs := by rw [← hsa]; exact nodes_sa hi
          rw [absR_push] at hD hk
          have em : ∀ r : SRow, (rest ++ [r]).length = rest.length + 1 := fun r => by simp
          refine T_execs (T_try (T_execs (T_Assign (T_Call (T_Sub (T_ld F (by walk_at "mem") (by walk_at "at") ?_))))))
          refine T_UnaryOp (T_int fun t1 => T_neg fun t2 => ?_)
          refine T_itemNeg (c := .ref r.mw) (by walk_at "mem") (by decide) ?_ (by decide) ?_ ?_
          · rw [List.length_append]; exact negle _
          · rw [show ((-1 : Int) + (((rest.map fun r => Value.ref r.mw) ++ [Value.ref r.mw]).length : Int)).toNat = (rest.map fun r => Value.ref r.mw).length by rw [List.length_append]; exact neg1 _, List.getElem?_append_right (Nat.le_refl _)]
            simp
          refine T_cw0M (by walk_at "mem") ?_
          cases hx : (succOf (absL rs) r.p)[r.k]? with
          | some z =>
            have hx' : (nd.succ.map iv)[r.k]? = some (iv z) := by rw [List.getElem?_map, ← hsu, hx]; rfl
            refine T_mwItem (by walk_at "mem") (by walk_at "mem") (by walk_at "rep") hx' ?_; intro tz
            have hzin : z ∈ portsA (absL rs) := hcl r.p z (List.mem_of_getElem? hx)
            have hlt : r.k < (succOf (absL rs) r.p).length := (List.getElem?_eq_some_iff.mp hx).1
            refine T_st F (by walk_at "mem") (by walk_at "cv") (by walk_at "put") (by walk_at "rep") ?_
            refine T_execs (T_Break ?_)
            refine ⟨_, Le.refl _, T_execs_nil ⟨_, _, ?_, ?_, fin, rest ++ [{ r with k := r.k + 1 }], S, z, ?_, ?_, ?_, hbase, ?_, rfl, rfl⟩⟩
            · rw [absR_push]
              simp only [rw_, List.map_cons, List.sum_cons] at hk ⊢
              first | exact s7b hlt hk | omega
            · rw [FL_push, em, em]
              exact Le.refl _
            · rw [absR_push]; exact hD.next hx hzin
            · intro q hq
              rcases List.mem_append.mp hq with hq | hq
              · exact hR q (List.mem_append_left _ hq)
              · rw [List.mem_singleton.mp hq]; exact ⟨i, nd, hi, hp, hsa⟩
            · intro k
              have := hS k
              simp only [portsR, List.map_append, List.map_cons, List.map_nil] at this ⊢
              exact this
            · rcases hroot2 with q | q
              · exact .inl q
              · right; left
                simp only [portsR, List.map_append, List.map_cons, List.map_nil] at q ⊢
                exact q
          | none =>
            have hx' : (nd.succ.map iv)[r.k]? = none := by rw [List.getElem?_map, ← hsu, hx]; rfl
            refine T_mwStop ax.hd (by walk_at "mem") (by walk_at "mem") (by walk_at "rep") hx' fun ex => ?_
            refine T_noteN (l' := fun T => (ex, ExT (.type "StopIteration") none T) :: _) ?_ (hout _) rfl (fun T => Rep.head) fun T => ?_
            · refine (hF.deeper (L := L) (ns := [Str.ofString "self", Str.ofString "n2i", Str.ofString "stack", Str.ofString "itstack", Str.ofString "seen", Str.ofString "node2stacki", Str.ofString "node"]) (vs := [some (.ref x), some (.ref n2i), some (.ref sk), some (.ref isk), some (.ref sn), some (.ref nk), v]) rfl).sub fun p hp => ?_
              rcases List.mem_cons.mp hp with e | hp
              · rw [e]; walk_at "mem"
              · walk_at "mem"
            refine T_flight (by walk_at "mem") (by walk_at "rep") ?_
            refine T_handleB (X := "StopIteration") (T := "StopIteration") (b := true) (T₀ := T) (as := none) sub_stop_base meta_stop isSubtype_stop (T_blt F b_StopIteration (by rfl) ⟨rfl, (by walk_at "mem"), Br.tt rfl ?_⟩)
            refine T_flight (by walk_at "mem") (by walk_at "rep") ?_
            have hpnd : (portsR rest ++ [r.p]).Nodup := by
              have h9 := (List.nodup_append.mp hD.b.nd).2.1
              rw [← absR_push, absR_ports] at h9
              have := (List.reverse_perm _).nodup_iff.mp h9
              simpa [portsR] using this
            have hnin : r.p ∉ portsR rest := fun q => (List.nodup_append.mp hpnd).2.2 r.p q r.p (by simp) rfl
            have e5 : (portsR rest).length = rest.length := by simp
            have e6 : idxK (portsR rest) ++ [(r.p, iv rest.length)] = idxK (portsR rest ++ [r.p]) := by rw [idxK_append, e5]
            have hrl' : rest.length ≤ 900 := by rw [em] at hm; exact Nat.le_trans (Nat.le_trans (Nat.le_succ _) (Nat.le_trans (Nat.le_add_left ..) hm)) hz
            refine T_execs (T_Delete1 (T_ld F (by walk_at "mem") (by walk_at "at") ?_))
            refine T_MCall (T_ld F (by walk_at "mem") (by walk_at "at") ?_)
            refine gm_pop (by walk_at "mem") ?_
            refine T_cw0 Callee.builtin (T_pop (by walk_at "rep") ?_ ?_)
            · simp only [List.length_map]; exact Nat.lt_of_le_of_lt hrl' (by decide)
            intro tp
            refine T_ddel (by walk_at "rep") ?_ ?_ ?_
            · rw [e6, idxK_some hpnd (i := rest.length) (by rw [← e5]; simp)]; rfl
            · rw [List.length_append]; simp [idxK]; exact Nat.le_trans (Nat.succ_le_succ hrl') (by decide)
            rw [e6, idxK_without hnin]
            refine T_execs (T_ExprAny (T_MCall (T_ld F (by walk_at "mem") (by walk_at "at") ?_)))
            refine gm_pop (by walk_at "mem") ?_
            refine T_cw0 Callee.builtin (T_pop (by walk_at "rep") ?_ ?_)
            · simp only [List.length_map]; exact Nat.lt_of_le_of_lt hrl' (by decide)
            refine T_execs_nil ?_
            refine T_execs_nil ⟨_, _, ?_, ?_, fin ++ [r.p], rest, S, v, hD.stop hx, ?_, ?_, ?_, ?_, rfl, ?_, rfl⟩
            · simp only [rw_, List.map_cons, List.sum_cons] at hk ⊢
              first | exact s7c hk | omega
            · rw [em]
              have e9 : (fin ++ [r.p]).length + rest.length = fin.length + (rest.length + 1) := by rw [List.length_append]; exact addR' _ _
              rw [e9]
              walk_at "le"
            · exact fun q hq => hR q (List.mem_append_left _ hq)
            · intro k
              have := hS k
              simp only [portsR, List.map_append, List.map_cons, List.map_nil, List.mem_append, List.mem_singleton] at this ⊢
              rw [this, or_assoc, or_comm (a := k = r.p)]
            · exact fun q hq => List.mem_append_left _ (hbase q hq)
            · simp only [portsR, List.map_append, List.map_cons, List.map_nil, List.mem_append, List.mem_singleton] at hroot2 ⊢
              rw [or_assoc, or_comm (a := root = r.p)]
              exact hroot2
            · simp only [rw_, List.map_cons, List.sum_cons] at hk ⊢
              first | exact s7d hk hkn | omega
        · have hrows : rows = [] := by
            cases rows with
            | nil => rfl
            | cons a b => simp at e
          subst hrows
          refine T_execs (T_Break ?_)
          refine ⟨_, Le.refl _, T_execs_nil ⟨_, ?_, fin, S, hD, hS, fun q hq => ?_, rfl⟩⟩
          · show Le (_ :: FL _ _ _ _ _ _ _ _ _ _ _ _ _ _ _ _ _ _ _ (fin.length + 0)) _
            rw [Nat.add_zero]
            exact .keep (fun _ h => h) (Le.ns (by walk_at "wk") (Le.refl _))
          · rw [List.take_add_one, hroot] at hq
            rcases List.mem_append.mp hq with hq | hq
            · exact hbase q hq
            · simp at hq
              subst hq
              rcases hroot2 with h | h
              · exact h
              · simp [portsR] at h
  · rintro l1 ⟨fin, S, hD, hS, hbase, rfl⟩
    refine T_execs (T_Return (T_none ?_))
    refine ⟨_, ?_, h1 fin hD.b.topo (fun p hp => hbase p ?_) ?_⟩
    · refine .drop (.drop (.drop (.drop (.drop (Le.appL pre (.keep (fun _ h => h) (.keep (fun _ h => h) (.keep (fun _ h => ⟨ep, h⟩) (Le.refl _)))))))))
    · rw [List.take_of_length_le (by simp)]; exact hp
    · have := len_sub (List.nodup_append.mp hD.b.nd).1 fun p hp => hD.b.sub p (List.mem_append_left _ hp)
      simpa using this

end
end
section
section
variable {G : Gd} {A : Around} {E : Value → Led → Prop} {l l' : Led} {env : Env} {pos : Pos}
theorem T_truthy_none {Q : Bool → Led → Prop} (h : Q false l) : TT G A (truthy .none) Q E l := ⟨fun s M => by with_reducible exact PyProof.Rows.truthy_none ⟨l, M, h⟩⟩
theorem T_Joined1 {v : Expr} {Q : Value → Led → Prop} (h : TT G A (eval v env) Q E l) : TT G A (eval (.JoinedStr [v] pos) env) Q E l := ⟨fun s M => by with_reducible exact wpAny_JoinedStr_one (h.go s M)⟩
noncomputable abbrev SLp (x d n2i : Addr) (rv npv nfv : Value) (rs : List NR) (P : Obj → Prop) (post : Led) : Led := (x, Inst 181 d) :: (d, SD (.ref n2i) rv npv nfv) :: (n2i, P) :: (nodesL rs ++ post)
noncomputable def ready0 (rs : List NR) : List Int := (rs.filter fun r => r.np == 0).map (·.port)
theorem prepare_spec {x d n2i : Addr} {npv nfv : Value} {rs : List NR} {pre post : Led} {Q X : Value → Led → Prop} (ax : Ax A 2) (hF : Frs A pre) (hnd : (portsA (absL rs)).Nodup) (hz : rs.length ≤ 900)
    (hcl : ∀ p, ∀ q ∈ succOf (absL rs) p, q ∈ portsA (absL rs))
    (h1 : ∀ rn fin, Topo (absL rs) fin → (∀ p ∈ portsA (absL rs), p ∈ fin) → fin.length ≤ rs.length → Q .none (pre ++ SL G.w x d n2i (.ref rn) npv nfv rs ((rn, Lst ((ready0 rs).map iv)) :: post)))
    (h2 : ∀ rn ring e as T, RingOk (absL rs) ring → X (.ref e) ((e, ExT (.ref 99) as T) :: (T, Trc .none) :: (pre ++ SL G.w x d n2i (.ref rn) npv nfv rs ((rn, Lst ((ready0 rs).map iv)) :: post)))) :
    TT G A (call (.ref 136) [.ref x]) Q X (pre ++ SL G.w x d n2i .none npv nfv rs post) := by
  refine (C_defE [Str.ofString "cycle"] (binds := [((Str.ofString "self"), .ref x)]) (ns := [Str.ofString "self", Str.ofString "cycle"]) (vs := [some (.ref x), none]) ax.room (by exact rfl) rfl (fun s _ => BindsTo.of_eq rfl) rfl rfl (by kernel_rfl) ⟨rfl, rfl, rfl, rfl, rfl⟩ fun L F => ?_).callE
  have hout : ∀ env : Env, ∃ outer, (A.deeper env).frames = some (env :: outer) := fun env => by
    obtain ⟨fs, hfs, _⟩ := hF.go
    exact ⟨fs, Around.frames_deeper hfs⟩
  refine T_execs (T_If (T_isCompare (T_Attr (T_ld F (by walk_at "mem") (by walk_at "at") ?_))))
  refine get_ready (by walk_at "mem") (by walk_at "mem") rfl ?_
  refine T_none (T_isnot_none (T_truthy_bool (Br.ff rfl (T_execs_nil ?_))))
  refine T_epR (fun ep => (L, IsNs [Str.ofString "self", Str.ofString "cycle"] [some (.ref x), none]) :: (pre ++ SLp x d n2i .none npv nfv rs (DctE G.w n2i (n2iK rs) ep) post)) (fun ep => (by walk_at "rep")) fun ep => ?_
  refine T_execs (T_AssignAttr (T_ListComp (cl := []) [Str.ofString "i"] [none] rfl (by decide) rfl (T_MCall (T_Attr (T_ld F (by walk_at "mem") (by walk_at "at") ?_)))))
  refine get_n2i (by walk_at "mem") (by walk_at "mem") rfl ?_
  refine gm_valuesE (by walk_at "mem") ?_
  refine T_cw0 Callee.builtin (T_values_call (by walk_at "mem") fun v => ?_)
  refine T_iter_values (by walk_at "mem") (by walk_at "mem") fun it => ?_
  refine Comp.values (kvs := n2iK rs) (fun i acc l1 => i ≤ rs.length ∧ acc = (((rs.take i).filter fun r => r.np == 0).map (·.port)).map iv ∧ l1 = (v, VView n2i) :: (L, IsNs [Str.ofString "self", Str.ofString "cycle"] [some (.ref x), none]) :: (pre ++ SLp x d n2i .none npv nfv rs (DctE G.w n2i (n2iK rs) ep) post)) ax.hd ⟨Nat.zero_le _, rfl, rfl⟩ ?_ ?_ ?_
  · rintro i acc l1 ⟨hi, rfl, rfl⟩
    refine ⟨?_, by walk_at "mem"⟩
    have h1 := List.length_filter_le (fun r : NR => r.np == 0) (rs.take i)
    have h2 : (rs.take i).length ≤ rs.length := by rw [List.length_take]; omega
    simp only [List.length_map]
    exact Nat.le_trans (Nat.le_trans h1 (Nat.le_trans h2 hz)) (by decide)
  · rintro i acc l1 D C k c hc ⟨hi, rfl, rfl⟩
    rw [List.getElem?_map] at hc
    obtain ⟨r, hr, e⟩ := Option.map_eq_some_iff.mp hc
    cases e
    have m_na : (r.na, Node r.port r.np r.sa r.da) ∈ nodesL rs := nodes_na hr
    have m_da : (r.da, AD []) ∈ nodesL rs := nodes_da hr
    have hlt : i < rs.length := (List.getElem?_eq_some_iff.mp hr).1
    refine T_assignName (T_st (compLay (ns := [Str.ofString "i"]) F (by rfl) (by rfl) (by decide)) (by walk_at "mem") (by walk_at "cv") (by walk_at "put") (by walk_at "rep") ?_)
    refine T_tests1 (T_isCompare (T_Attr (T_ld (compLay (ns := [Str.ofString "i"]) F (by rfl) (by rfl) (by decide)) (by walk_at "mem") (by walk_at "at") ?_)))
    refine T_get_np (by walk_at "mem") (by walk_at "mem") fun t1 => ?_
    refine T_int fun t2 => T_eq (T_truthy_bool ⟨fun e => ?_, fun e => ?_⟩)
    · refine T_Attr (T_ld (compLay (ns := [Str.ofString "i"]) F (by rfl) (by rfl) (by decide)) (by walk_at "mem") (by walk_at "at") ?_)
      refine T_get_port (by walk_at "mem") (by walk_at "mem") fun t3 => ?_
      refine ⟨_, _, .int, ?_, hlt, ?_, rfl⟩
      · walk_at "le"
      · rw [List.take_add_one, hr, Option.toList_some, List.filter_append]
        simp [e]
    · refine ⟨_, ?_, hlt, ?_, rfl⟩
      · walk_at "le"
      · rw [List.take_add_one, hr, Option.toList_some, List.filter_append]
        simp [e]
  · rintro acc l1 rn ⟨_, rfl, rfl⟩
    have e0 : (((rs.take (n2iK rs).length).filter fun r => r.np == 0).map (·.port)).map iv = (ready0 rs).map iv := by rw [List.take_of_length_le (by simp)]; rfl
    rw [e0]
    refine T_ld F (by walk_at "mem") (by walk_at "at") ?_
    refine set_ready (by walk_at "mem") (by walk_at "mem") (by walk_at "rep") (by walk_at "apart") (by walk_at "cv") ?_
    refine TT.le (l' := (L, IsNs [Str.ofString "self", Str.ofString "cycle"] [some (.ref x), none]) :: (pre ++ SL G.w x d n2i (.ref rn) npv nfv rs ((rn, Lst ((ready0 rs).map iv)) :: post))) ?_ ?_
    · exact .pick (by walk_at "tk") (.pickB (by walk_at "blk") (.pick (by walk_at "tk") (.pick (by walk_at "tk") (.pickI (P := DctE G.w n2i (n2iK rs) ep) (by walk_at "tk") (fun _ h => ⟨ep, h⟩) (.pickB (by walk_at "blk") (.pick (by walk_at "tk") (.drop (Le.refl _))))))))
    refine T_execs (T_Assign (T_MCall (T_ld F (by walk_at "mem") (by walk_at "at") ?_)))
    refine T_smeth m_find_cycle (by walk_at "mem") (by walk_at "mem") ?_
    refine T_cw0 (Callee.K m_find_cycle.keep) ?_
    refine find_cycle_spec (pre := (L, _) :: pre) ax.deeper (hF.deeper rfl) hnd hz hcl (fun fin t1 t2 t3 => ?_) fun ring D hr hl => ?_
    · refine TT.as (l' := (L, _) :: (pre ++ _)) rfl ?_
      refine T_st F (by walk_at "mem") (by walk_at "cv") (by walk_at "put") (by walk_at "rep") ?_
      refine T_execs (T_If (T_isValue (T_ld F (by walk_at "mem") (by walk_at "at") ?_)))
      refine T_truthy_none (Br.ff rfl (T_execs_nil (T_execs_nil ⟨_, ?_, h1 rn fin t1 t2 t3⟩)))
      walk_at "le"
    · refine TT.as (l' := (D, _) :: (L, _) :: (pre ++ _)) rfl ?_
      refine T_st F (by walk_at "mem") (by walk_at "cv") (by walk_at "put") (by walk_at "rep") ?_
      refine T_execs (T_If (T_isValue (T_ld F (by walk_at "mem") (by walk_at "at") ?_)))
      have hl2 : (ring.map iv).length ≤ sizeLine := by rw [List.length_map]; exact Nat.le_trans (Nat.le_trans hl (Nat.succ_le_succ hz)) (by decide)
      refine T_truthy_list (by walk_at "mem") hl2 (Br.tt ?_ ?_)
      · have := hr.two
        cases ring with
        | nil => simp at this
        | cons a b => rfl
      obtain ⟨nid, iid, bm, FB, hex⟩ := ex99 (w := G.w)
      refine T_execs (T_RaiseOwn F g_CycleError (by rfl) FB hex ax.hd ?_)
      refine T_items (T_Joined1 (T_str fun t1 => ?_))
      refine T_items (T_ld F (by walk_at "mem") (by walk_at "at") ?_)
      refine T_items_nil ⟨(Nat.le_of_ble_eq_true rfl), fun e t => ?_⟩
      refine T_leaveN (l' := fun T => (e, ExT (.ref 99) (some t) T) :: _) ?_ (hout _) rfl (fun T => Rep.head) fun T => ?_
      · refine (hF.deeper (L := L) (ns := [Str.ofString "self", Str.ofString "cycle"]) (vs := [some (.ref x), some (.ref D)]) rfl).sub fun p hp => ?_
        rcases List.mem_cons.mp hp with e | hp
        · rw [e]; walk_at "mem"
        · walk_at "mem"
      refine ⟨_, ?_, h2 rn ring e (some t) T hr⟩
      walk_at "le"

end
end
section
section
variable {G : Gd} {A : Around} {E : Value → Led → Prop} {l l' : Led} {env : Env} {pos : Pos}
-- the pure law of get_ready and done
noncomputable def decF (st : (Int → Int) × List Int) (q : Int) : (Int → Int) × List Int := (fun z => if z = q then st.1 z - 1 else st.1 z, if st.1 q - 1 = 0 then st.2 ++ [q] else st.2)
noncomputable def doneF (succ : Int → List Int) (st : (Int → Int) × List Int) (p : Int) : (Int → Int) × List Int := (succ p).foldl decF (fun z => if z = p then -2 else st.1 z, st.2)
theorem npOf_upd {f : AN → AN} (hf : ∀ a, (f a).port = a.port) {g : List AN} {p z : Int} (hp : p ∈ portsA g) : npOf (updA p f g) z = if z = p then ((g.find? (fun a => a.port == p)).map (fun a => (f a).np)).getD 0 else npOf g z := by
  have hc : ((fun a : AN => a.port == z) ∘ fun a => if a.port = p then f a else a) = fun a => a.port == z := by
    funext a
    simp only [Function.comp]
    split <;> simp [hf a]
  unfold npOf updA
  rw [List.find?_map, hc]
  by_cases h : z = p
  · subst h
    rw [if_pos rfl]
    cases e : g.find? (fun a => a.port == z) with
    | none => rfl
    | some a =>
      have := List.find?_some e
      simp only [Option.map_some, Option.getD_some]
      rw [if_pos (by simpa using this)]
  · rw [if_neg h]
    cases e : g.find? (fun a => a.port == z) with
    | none => rfl
    | some a =>
      have h1 := List.find?_some e
      simp only [Option.map_some, Option.getD_some]
      rw [if_neg (by intro q; apply h; rw [← q]; simpa using (by simpa using h1 : a.port = z).symm)]
theorem find_np {g : List AN} {p : Int} (hp : p ∈ portsA g) (k : Int) : ((g.find? (fun a => a.port == p)).map (fun a => (npAdd k a).np)).getD 0 = npOf g p + k := by
  unfold npOf
  cases e : g.find? (fun a => a.port == p) with
  | none =>
    obtain ⟨a, ha, rfl⟩ := List.mem_map.mp hp
    have := List.find?_eq_none.mp e a ha
    simp at this
  | some a => simp [npAdd]
theorem find_set {g : List AN} {p : Int} (hp : p ∈ portsA g) (k : Int) : ((g.find? (fun a => a.port == p)).map (fun a => (npSet k a).np)).getD 0 = k := by
  cases e : g.find? (fun a => a.port == p) with
  | none =>
    obtain ⟨a, ha, rfl⟩ := List.mem_map.mp hp
    have := List.find?_eq_none.mp e a ha
    simp at this
  | some a => simp [npSet]
theorem dec_np {st : List AN × List Int} {q : Int} (hq : q ∈ portsA st.1) : (npOf (decS st q).1, (decS st q).2) = decF (npOf st.1, st.2) q := by
  have h : npOf (updA q (npAdd (-1)) st.1) = fun z => if z = q then npOf st.1 z - 1 else npOf st.1 z := by
    funext z
    rw [npOf_upd (f := npAdd (-1)) (fun _ => rfl) hq, find_np hq]
    split
    · rename_i e; rw [e]; omega
    · rfl
  unfold decS decF
  simp only [h, if_true]
theorem foldDec_np : ∀ (s : List Int) (st : List AN × List Int), (∀ q ∈ s, q ∈ portsA st.1) → (npOf (s.foldl decS st).1, (s.foldl decS st).2) = s.foldl decF (npOf st.1, st.2)
  | [], _, _ => rfl
  | q :: s, st, h => by
    rw [List.foldl_cons, List.foldl_cons, ← dec_np (h q (.head _))]
    exact foldDec_np s (decS st q) fun z hz => by rw [decS_ports]; exact h z (.tail _ hz)
theorem done_np {st : List AN × List Int} {p : Int} (hp : p ∈ portsA st.1) (hs : ∀ q ∈ succOf st.1 p, q ∈ portsA st.1) : (npOf (doneS st p).1, (doneS st p).2) = doneF (succOf st.1) (npOf st.1, st.2) p := by
  unfold doneS doneF
  rw [foldDec_np _ _ (fun q hq => by show q ∈ portsA (updA p (npSet (-2)) st.1); rw [ports_upd (f := npSet (-2)) (fun _ => rfl)]; exact hs q hq)]
  have h : npOf (updA p (npSet (-2)) st.1) = fun z => if z = p then -2 else npOf st.1 z := by
    funext z
    rw [npOf_upd (f := npSet (-2)) (fun _ => rfl) hp, find_set hp]
  rw [h]
theorem foldDone_np : ∀ (ps : List Int) (st : List AN × List Int) (succ : Int → List Int), (∀ p, succOf st.1 p = succ p) → (∀ p ∈ ps, p ∈ portsA st.1) → (∀ p, ∀ q ∈ succ p, q ∈ portsA st.1) → (npOf (ps.foldl doneS st).1, (ps.foldl doneS st).2) = ps.foldl (doneF succ) (npOf st.1, st.2)
  | [], _, _, _, _, _ => rfl
  | p :: ps, st, succ, e, h1, h2 => by
    have ee : succOf st.1 = succ := funext e
    rw [List.foldl_cons, List.foldl_cons, ← ee, ← done_np (h1 p (.head _)) (fun q hq => h2 p q (by rw [← e]; exact hq)), ee]
    exact foldDone_np ps (doneS st p) succ (fun q => by rw [doneS_succ]; exact e q) (fun q hq => by rw [doneS_ports]; exact h1 q (.tail _ hq)) fun q z hz => by rw [doneS_ports]; exact h2 q z hz
theorem out_np : ∀ (R : List Int) (g : List AN), (∀ p ∈ R, p ∈ portsA g) → npOf (outA R g) = fun z => if z ∈ R then -1 else npOf g z
  | [], g, _ => by funext z; simp [outA]
  | p :: R, g, h => by
    rw [outA, List.foldl_cons, ← outA, out_np R _ fun q hq => by rw [ports_upd (f := npSet (-1)) (fun _ => rfl)]; exact h q (.tail _ hq)]
    funext z
    rw [npOf_upd (f := npSet (-1)) (fun _ => rfl) (h p (.head _)), find_set (h p (.head _))]
    by_cases hz : z ∈ R
    · simp [hz]
    · by_cases e : z = p
      · simp [e]
      · simp [hz, e]
theorem out_succ : ∀ (R : List Int) (g : List AN) (p : Int), succOf (outA R g) p = succOf g p
  | [], _, _ => rfl
  | q :: R, g, p => by
    rw [outA, List.foldl_cons, ← outA, out_succ R]
    exact updA_succ (f := npSet (-1)) (fun _ => ⟨rfl, rfl⟩) _ _

theorem decF_fold : ∀ (s : List Int) (np : Int → Int) (rd : List Int), (∀ z ∈ s, (s.count z : Int) ≤ np z) →
    ∃ r, s.foldl decF (np, rd) = (fun z => np z - s.count z, rd ++ r) ∧ r.Nodup ∧ ∀ z, z ∈ r ↔ z ∈ s ∧ np z = s.count z
  | [], np, rd, _ => ⟨[], by simp, List.nodup_nil, by simp⟩
  | q :: s, np, rd, h => by
    have hq := h q (.head _)
    rw [List.count_cons_self] at hq
    have h' : ∀ z ∈ s, (s.count z : Int) ≤ (if z = q then np z - 1 else np z) := fun z hz => by
      have := h z (.tail _ hz)
      by_cases e : z = q
      · subst e; rw [List.count_cons_self] at this; rw [if_pos rfl]; omega
      · rw [List.count_cons_of_ne (Ne.symm e)] at this; rw [if_neg e]; exact this
    rw [List.foldl_cons]
    unfold decF
    by_cases h0 : np q - 1 = 0
    · simp only [h0, if_true]
      obtain ⟨r, e, nd, hm⟩ := decF_fold s (fun z => if z = q then np z - 1 else np z) (rd ++ [q]) h'
      have hqs : q ∉ s := fun hq' => by
        have : 0 < s.count q := List.count_pos_iff.mpr hq'
        omega
      have hs0 : s.count q = 0 := List.count_eq_zero.mpr hqs
      refine ⟨q :: r, ?_, List.nodup_cons.mpr ⟨fun hr => hqs ((hm q).mp hr).1, nd⟩, fun z => ?_⟩
      · have e' := e
        unfold decF at e'
        rw [e']
        refine Prod.ext ?_ (by simp)
        funext z
        by_cases ez : z = q
        · subst ez; simp [hs0] <;> omega
        · simp [ez, List.count_cons_of_ne (Ne.symm ez)]
      · by_cases ez : z = q
        · subst ez; simp [hs0]; omega
        · rw [List.mem_cons, List.mem_cons, hm z, if_neg ez, List.count_cons_of_ne (Ne.symm ez)]
          simp [ez]
    · simp only [h0, if_false]
      obtain ⟨r, e, nd, hm⟩ := decF_fold s (fun z => if z = q then np z - 1 else np z) rd h'
      refine ⟨r, ?_, nd, fun z => ?_⟩
      · have e' := e
        unfold decF at e'
        rw [e']
        refine Prod.ext ?_ rfl
        funext z
        by_cases ez : z = q
        · subst ez; simp; omega
        · simp [ez, List.count_cons_of_ne (Ne.symm ez)]
      · rw [hm z]
        by_cases ez : z = q
        · subst ez
          rw [if_pos rfl, List.count_cons_self]
          constructor
          · rintro ⟨_, h2⟩; exact ⟨.head _, by omega⟩
          · rintro ⟨_, h2⟩
            refine ⟨List.count_pos_iff.mp (by omega), by omega⟩
        · rw [if_neg ez, List.count_cons_of_ne (Ne.symm ez), List.mem_cons]
          simp [ez]

theorem doneF_fold (succ : Int → List Int) : ∀ (R : List Int) (np : Int → Int) (rd : List Int), R.Nodup → (∀ p ∈ R, p ∉ R.flatMap succ) → (∀ z ∈ R.flatMap succ, ((R.flatMap succ).count z : Int) ≤ np z) →
    ∃ r, R.foldl (doneF succ) (np, rd) = (fun z => if z ∈ R then -2 else np z - (R.flatMap succ).count z, rd ++ r) ∧ r.Nodup ∧ ∀ z, z ∈ r ↔ z ∈ R.flatMap succ ∧ np z = (R.flatMap succ).count z
  | [], np, rd, _, _, _ => ⟨[], by simp, List.nodup_nil, by simp⟩
  | p :: R, np, rd, nd, hd, hc => by
    have nd' := List.nodup_cons.mp nd
    rw [List.flatMap_cons] at hd hc
    have hps : p ∉ succ p := fun q => hd p (.head _) (List.mem_append_left _ q)
    have hpS : p ∉ R.flatMap succ := fun q => hd p (.head _) (List.mem_append_right _ q)
    have h1 : ∀ z ∈ succ p, ((succ p).count z : Int) ≤ (if z = p then -2 else np z) := fun z hz => by
      have := hc z (List.mem_append_left _ hz)
      rw [List.count_append] at this
      rw [if_neg (fun e => hps (by subst e; exact hz))]
      omega
    obtain ⟨r1, e1, nd1, m1⟩ := decF_fold (succ p) (fun z => if z = p then -2 else np z) rd h1
    rw [List.foldl_cons, doneF, e1]
    have h2 : ∀ z ∈ R.flatMap succ, ((R.flatMap succ).count z : Int) ≤ (if z = p then -2 else np z) - (succ p).count z := fun z hz => by
      have := hc z (List.mem_append_right _ hz)
      rw [List.count_append] at this
      rw [if_neg (fun e => hpS (by subst e; exact hz))]
      omega
    obtain ⟨r2, e2, nd2, m2⟩ := doneF_fold succ R (fun z => (if z = p then -2 else np z) - (succ p).count z) (rd ++ r1) nd'.2 (fun q hq => fun hz => hd q (.tail _ hq) (List.mem_append_right _ hz)) h2
    have key : ∀ z, z ∈ r1 → z ∉ R.flatMap succ := fun z hz hz2 => by
      have a := (m1 z).mp hz
      have b := hc z (List.mem_append_right _ hz2)
      rw [List.count_append] at b
      have c : 0 < (R.flatMap succ).count z := List.count_pos_iff.mpr hz2
      rw [if_neg (fun e => hpS (by subst e; exact hz2))] at a
      omega
    refine ⟨r1 ++ r2, ?_, List.nodup_append.mpr ⟨nd1, nd2, fun a ha b hb e => key a ha (by rw [e]; exact ((m2 b).mp hb).1)⟩, fun z => ?_⟩
    · rw [e2]
      refine Prod.ext ?_ (by simp)
      funext z
      simp only [List.flatMap_cons, List.count_append, List.mem_cons]
      by_cases ez : z = p
      · subst ez
        have c1 : (succ z).count z = 0 := List.count_eq_zero.mpr hps
        have c2 : (R.flatMap succ).count z = 0 := List.count_eq_zero.mpr hpS
        simp [nd'.1, c1, c2]
      · simp only [ez, false_or, if_false]
        split
        · rfl
        · omega
    · rw [List.mem_append, m1 z, m2 z, List.flatMap_cons, List.mem_append, List.count_append]
      by_cases ez : z = p
      · subst ez
        simp [hps, hpS]
      · simp only [ez, if_false]
        constructor
        · rintro (⟨a, b⟩ | ⟨a, b⟩)
          · have := key z ((m1 z).mpr ⟨a, by simp only [ez, if_false]; exact b⟩)
            have c2 : (R.flatMap succ).count z = 0 := List.count_eq_zero.mpr this
            exact ⟨.inl a, by omega⟩
          · exact ⟨.inr a, by omega⟩
        · rintro ⟨a, b⟩
          by_cases hz : z ∈ R.flatMap succ
          · exact .inr ⟨hz, by omega⟩
          · have c2 : (R.flatMap succ).count z = 0 := List.count_eq_zero.mpr hz
            exact .inl ⟨a.resolve_right hz, by omega⟩
/-- edges to q from nodes that are not done -/
noncomputable def cnt (ports : List Int) (succ : Int → List Int) (D : List Int) (q : Int) : Nat := ((ports.filter fun p => decide (p ∉ D)).flatMap succ).count q
structure KI (ports : List Int) (succ : Int → List Int) (D R : List Int) (np : Int → Int) : Prop where
  pnd : ports.Nodup
  dnd : (D ++ R).Nodup
  dsub : ∀ q ∈ D, q ∈ ports
  np_ : ∀ q ∈ ports, q ∉ D → np q = cnt ports succ D q
  rdy : ∀ q, q ∈ R ↔ q ∈ ports ∧ q ∉ D ∧ cnt ports succ D q = 0
  clo : ∀ q ∈ D, cnt ports succ D q = 0
  suc : ∀ p, ∀ q ∈ succ p, q ∈ ports
theorem KI.split {ports : List Int} {succ : Int → List Int} {D R : List Int} {np : Int → Int} (h : KI ports succ D R np) : (ports.filter fun p => decide (p ∉ D)).Perm (R ++ ports.filter fun p => decide (p ∉ D ++ R)) := by
  have hRn : R.Nodup := (List.nodup_append.mp h.dnd).2.1
  refine (List.perm_ext_iff_of_nodup (h.pnd.filter _) ?_).mpr fun z => ?_
  · refine List.nodup_append.mpr ⟨hRn, h.pnd.filter _, fun a ha b hb e => ?_⟩
    rw [List.mem_filter] at hb
    have : b ∉ D ++ R := by simpa using hb.2
    exact this (List.mem_append_right _ (by rw [← e]; exact ha))
  · simp only [List.mem_filter, List.mem_append, decide_eq_true_eq, not_or]
    constructor
    · rintro ⟨a, b⟩
      by_cases hz : z ∈ R
      · exact .inl hz
      · exact .inr ⟨a, b, hz⟩
    · rintro (a | ⟨a, b, c⟩)
      · have := (h.rdy z).mp a; exact ⟨this.1, this.2.1⟩
      · exact ⟨a, b⟩
theorem KI.cnt_eq {ports : List Int} {succ : Int → List Int} {D R : List Int} {np : Int → Int} (h : KI ports succ D R np) (q : Int) : cnt ports succ D q = (R.flatMap succ).count q + cnt ports succ (D ++ R) q := by
  unfold cnt
  rw [(h.split.flatMap_right succ).count_eq q, List.flatMap_append, List.count_append]
/-- one round -/
theorem KI.round {ports : List Int} {succ : Int → List Int} {D R : List Int} {np : Int → Int} (h : KI ports succ D R np) :
    (∀ p ∈ R, p ∉ R.flatMap succ) ∧ (∀ z ∈ R.flatMap succ, ((R.flatMap succ).count z : Int) ≤ (if z ∈ R then -1 else np z)) ∧
    ∀ R' np', R'.Nodup → (∀ z, z ∈ R' ↔ z ∈ R.flatMap succ ∧ (if z ∈ R then -1 else np z) = (R.flatMap succ).count z) → (np' = fun z => if z ∈ R then -2 else (if z ∈ R then -1 else np z) - (R.flatMap succ).count z) → KI ports succ (D ++ R) R' np' := by
  have hS : ∀ z ∈ R.flatMap succ, z ∈ ports ∧ z ∉ D ∧ z ∉ R := fun z hz => by
    obtain ⟨p, hp, hz'⟩ := List.mem_flatMap.mp hz
    have c := h.cnt_eq z
    have pos : 0 < (R.flatMap succ).count z := List.count_pos_iff.mpr hz
    refine ⟨h.suc p z hz', fun q => ?_, fun q => ?_⟩
    · have := h.clo z q; omega
    · have := ((h.rdy z).mp q).2.2; omega
  refine ⟨fun p hp q => (hS p q).2.2 hp, fun z hz => ?_, fun R' np' nd hm hnp => ?_⟩
  · obtain ⟨a, b, c⟩ := hS z hz
    rw [if_neg c, h.np_ z a b, h.cnt_eq z]
    omega
  · have hdn := List.nodup_append.mp h.dnd
    refine ⟨h.pnd, ?_, fun q hq => ?_, fun q hq hn => ?_, fun q => ?_, fun q hq => ?_, h.suc⟩
    · refine List.nodup_append.mpr ⟨h.dnd, nd, fun a ha b hb e => ?_⟩
      obtain ⟨x1, x2, x3⟩ := hS b ((hm b).mp hb).1
      rw [e] at ha
      rcases List.mem_append.mp ha with ha | ha
      · exact x2 ha
      · exact x3 ha
    · rcases List.mem_append.mp hq with hq | hq
      · exact h.dsub q hq
      · exact ((h.rdy q).mp hq).1
    · rw [hnp]
      have hnR : q ∉ R := fun z => hn (List.mem_append_right _ z)
      simp only [hnR, if_false]
      rw [h.np_ q hq (fun z => hn (List.mem_append_left _ z)), h.cnt_eq q]
      omega
    · rw [hm q]
      constructor
      · rintro ⟨a, b⟩
        obtain ⟨x1, x2, x3⟩ := hS q a
        rw [if_neg x3, h.np_ q x1 x2, h.cnt_eq q] at b
        refine ⟨x1, fun z => ?_, by omega⟩
        rcases List.mem_append.mp z with z | z
        · exact x2 z
        · exact x3 z
      · rintro ⟨a, b, c⟩
        have x2 : q ∉ D := fun z => b (List.mem_append_left _ z)
        have x3 : q ∉ R := fun z => b (List.mem_append_right _ z)
        have ce := h.cnt_eq q
        have hne : cnt ports succ D q ≠ 0 := fun z => x3 ((h.rdy q).mpr ⟨a, x2, z⟩)
        refine ⟨List.count_pos_iff.mp (by omega), ?_⟩
        rw [if_neg x3, h.np_ q a x2]
        omega
    · have ce := h.cnt_eq q
      rcases List.mem_append.mp hq with hq | hq
      · have := h.clo q hq; omega
      · have := ((h.rdy q).mp hq).2.2; omega

theorem round_out {succ : Int → List Int} {R : List Int} {np : Int → Int} (hnd : R.Nodup) (k1 : ∀ p ∈ R, p ∉ R.flatMap succ) (k2 : ∀ z ∈ R.flatMap succ, ((R.flatMap succ).count z : Int) ≤ np z) {j : Nat} {p : Int} (hj : R[j]? = some p) :
    ((R.take j).foldl (doneF succ) (np, [])).1 p = np p := by
  have hs : R.flatMap succ = (R.take j).flatMap succ ++ (R.drop j).flatMap succ := by rw [← List.flatMap_append, List.take_append_drop]
  have hpR : p ∈ R := List.mem_of_getElem? hj
  have hlt : j < R.length := (List.getElem?_eq_some_iff.mp hj).1
  have hpt : p ∉ R.take j := fun q => by
    obtain ⟨i, hi⟩ := List.mem_iff_getElem?.mp q
    have hi' : i < j := by
      have := (List.getElem?_eq_some_iff.mp hi).1
      rw [List.length_take] at this
      omega
    rw [List.getElem?_take_of_lt hi'] at hi
    have := (List.getElem?_inj (by omega) hnd).mp (hi.trans hj.symm)
    omega
  have hpS : p ∉ (R.take j).flatMap succ := fun q => k1 p hpR (by rw [hs]; exact List.mem_append_left _ q)
  obtain ⟨r, e, _⟩ := doneF_fold succ (R.take j) np [] (hnd.sublist (List.take_sublist _ _)) (fun q hq hz => k1 q (List.mem_of_mem_take hq) (by rw [hs]; exact List.mem_append_left _ hz)) (fun z hz => by
    have := k2 z (by rw [hs]; exact List.mem_append_left _ hz)
    rw [hs, List.count_append] at this
    omega)
  rw [e]
  have c : ((R.take j).flatMap succ).count p = 0 := List.count_eq_zero.mpr hpS
  simp [hpt, c]

end
end
section
section
variable {G : Gd} {A : Around} {E : Value → Led → Prop} {l l' : Led} {env : Env} {pos : Pos}
inductive LevF (ports : List Int) (succ : Int → List Int) : List Int → List (List Int) → Prop
  | nil : LevF ports succ [] []
  | snoc {D ls R s} : LevF ports succ D ls → (∀ q, q ∈ R ↔ q ∈ ports ∧ q ∉ D ∧ cnt ports succ D q = 0) → R ≠ [] → R.Nodup → s.Perm R → s.Pairwise (· ≤ ·) → LevF ports succ (D ++ R) (ls ++ [s])
noncomputable abbrev rndL (rnd : List (Addr × List Int)) : Led := rnd.map fun p => (p.1, Lst (p.2.map iv))
theorem xm99 {w : World} : exmOne (KK w) (.ref 99) (.ref 99) = some true := by kernel_rfl
theorem fn242 {w : World} : keepIn (KK w) (.ref 242) = true := by kernel_rfl
theorem rounds_spec {x d n2i : Addr} {rs : List NR} {pre post : Led} {ringed : Bool} {Q : Value → Led → Prop} (ax : Ax A 4) (hF : Frs A pre) (hz : rs.length ≤ 20)
    (hsl : ∀ p, (succOf (absL rs) p).length ≤ 20) (hK : KI (portsA (absL rs)) (succOf (absL rs)) [] (ready0 rs) (npOf (absL rs)))
    (hr1 : ∀ fin, Topo (absL rs) fin → (∀ p ∈ portsA (absL rs), p ∈ fin) → fin.length ≤ rs.length → ringed = false) (hr2 : ∀ ring, RingOk (absL rs) ring → ringed = true)
    (h : ∀ Rn rnd D, LevF (portsA (absL rs)) (succOf (absL rs)) D (rnd.map (·.2)) → D.length ≤ rs.length → (∀ q ∈ portsA (absL rs), q ∉ D → cnt (portsA (absL rs)) (succOf (absL rs)) D q ≠ 0) → Q (.ref Rn) ((Rn, Lst (rnd.map fun p => .ref p.1)) :: (rndL rnd ++ (pre ++ post)))) :
    TT G A (call (.ref 242) [.ref x, .bool ringed]) Q E (pre ++ SL G.w x d n2i .none (iv 0) (iv 0) rs post) := by
  refine T_def [Str.ofString "rounds", Str.ofString "group"] (ns := [Str.ofString "sorter", Str.ofString "ringed", Str.ofString "rounds", Str.ofString "group"]) (vs := [some (.ref x), some (.bool ringed), none, none]) ax.room (by exact rfl) rfl rfl rfl rfl (by kernel_rfl) ⟨rfl, rfl, rfl, rfl, rfl⟩ fun L F => ?_
  have hnd := hK.pnd
  have hcl := hK.suc
  have hout : ∀ env : Env, ∃ outer, (A.deeper env).frames = some (env :: outer) := fun env => by
    obtain ⟨fs, hfs, _⟩ := hF.go
    exact ⟨fs, Around.frames_deeper hfs⟩
  refine T_cut (fun l1 => ∃ rn, l1 = (L, IsNs [Str.ofString "sorter", Str.ofString "ringed", Str.ofString "rounds", Str.ofString "group"] [some (.ref x), some (.bool ringed), none, none]) :: (pre ++ SL G.w x d n2i (.ref rn) (iv 0) (iv 0) rs ((rn, Lst ((ready0 rs).map iv)) :: post))) ?_ ?_
  · refine T_try (T_execs (T_If (T_isBoolOp (T_or_cons (T_isCompare (T_MCall (T_ld F (by walk_at "mem") (by walk_at "at") ?_)))))))
    refine T_smeth m_prepare (by walk_at "mem") (by walk_at "mem") ?_
    refine T_cw0 (Callee.K m_prepare.keep) ?_
    refine prepare_spec (pre := (L, _) :: pre) ((ax.deeper).le (by decide)) (hF.deeper rfl) hnd (Nat.le_trans hz (by decide)) hcl (fun rn fin t1 t2 t3 => ?_) fun rn ring e as T hr => ?_
    · refine TT.as (l' := (L, _) :: (pre ++ _)) rfl ?_
      have hrf := hr1 fin t1 t2 t3
      refine T_none (T_isnot_none (T_truthy_bool (Br.ff rfl (T_or_cons (T_isValue (T_ld F (by walk_at "mem") (by walk_at "at") ?_))))))
      refine T_truthy_bool (Br.ff hrf (T_or_nil (Br.ff rfl (T_execs_nil ?_))))
      exact T_execs_nil (T_execs_nil ⟨_, Le.refl _, rn, rfl⟩)
    · have hrt := hr2 ring hr
      refine T_noteT (T₀ := T) (l' := fun T' => (e, ExT (.ref 99) as T') :: _) ?_ (hout _) rfl (by walk_at "mem") (fun T' => Rep.head) fun T' => ?_
      · refine (hF.deeper (L := L) (ns := [Str.ofString "sorter", Str.ofString "ringed", Str.ofString "rounds", Str.ofString "group"]) (vs := [some (.ref x), some (.bool ringed), none, none]) rfl).sub fun p hp => ?_
        exact .tail _ (.tail _ (List.mem_append_left _ hp))
      refine TT.as (l' := (T', _) :: (e, ExT (.ref 99) as T') :: (T, Trc .none) :: (L, IsNs [Str.ofString "sorter", Str.ofString "ringed", Str.ofString "rounds", Str.ofString "group"] [some (.ref x), some (.bool ringed), none, none]) :: (pre ++ SL G.w x d n2i (.ref rn) (iv 0) (iv 0) rs ((rn, Lst ((ready0 rs).map iv)) :: post))) rfl ?_
      refine T_flight (by walk_at "mem") (by walk_at "rep") ?_
      refine T_handleO (T₀ := T') (as := as) xm99 (T_glob F g_CycleError (by rfl) ⟨rfl, (by walk_at "mem"), Br.tt rfl ?_⟩)
      refine T_flight (by walk_at "mem") (by walk_at "rep") ?_
      refine T_execs (T_If (T_isNot (T_isValue (T_ld F (by walk_at "mem") (by walk_at "at") ?_))))
      refine T_truthy_bool (Br.ff (by rw [hrt]; rfl) (T_execs_nil (T_execs_nil ⟨_, ?_, rn, rfl⟩)))
      walk_at "le"
  · rintro l1 ⟨rn, rfl⟩
    refine T_execs (T_Assign (T_List (T_items_nil ⟨by decide, fun Rn => ?_⟩)))
    refine T_st F (by walk_at "mem") (by walk_at "cv") (by walk_at "put") (by walk_at "rep") ?_
    refine T_cut (fun l1 => ∃ D rnd rs', ∃ m : Int, ∃ np, portsA (absL rs') = portsA (absL rs) ∧ LevF (portsA (absL rs)) (succOf (absL rs)) D (rnd.map (·.2)) ∧ KI (portsA (absL rs)) (succOf (absL rs)) D [] np ∧
      l1 = (L, IsNs [Str.ofString "sorter", Str.ofString "ringed", Str.ofString "rounds", Str.ofString "group"] [some (.ref x), some (.bool ringed), some (.ref Rn), none]) :: (Rn, Lst (rnd.map fun p => .ref p.1)) :: ((rndL rnd ++ pre) ++ SL G.w x d n2i (.ref rn) (iv m) (iv m) rs' ((rn, Lst []) :: post))) ?_ ?_
    · refine TT.le (l' := (L, IsNs [Str.ofString "sorter", Str.ofString "ringed", Str.ofString "rounds", Str.ofString "group"] [some (.ref x), some (.bool ringed), some (.ref Rn), none]) :: (Rn, Lst []) :: (pre ++ SL G.w x d n2i (.ref rn) (iv 0) (iv 0) rs ((rn, Lst ((ready0 rs).map iv)) :: post))) (.perm (.swap ..)) ?_
      refine T_while (fun n l1 => ∃ D R rnd rs', ∃ m : Int, ∃ np, n + D.length = rs.length ∧ portsA (absL rs') = portsA (absL rs) ∧ (∀ p, succOf (absL rs') p = succOf (absL rs) p) ∧ npOf (absL rs') = np ∧ LevF (portsA (absL rs)) (succOf (absL rs)) D (rnd.map (·.2)) ∧ KI (portsA (absL rs)) (succOf (absL rs)) D R np ∧ rnd.length ≤ D.length ∧
        l1 = (L, IsNs [Str.ofString "sorter", Str.ofString "ringed", Str.ofString "rounds", Str.ofString "group"] [some (.ref x), some (.bool ringed), some (.ref Rn), none]) :: (Rn, Lst (rnd.map fun p => .ref p.1)) :: ((rndL rnd ++ pre) ++ SL G.w x d n2i (.ref rn) (iv m) (iv m) rs' ((rn, Lst (R.map iv)) :: post))) rs.length ?_ ?_
      · exact ⟨[], ready0 rs, [], rs, 0, npOf (absL rs), rfl, rfl, fun _ => rfl, rfl, .nil, hK, Nat.le_refl _, rfl⟩
      rintro n l1 ⟨D, R, rnd, rs', m, np, hn, hp, hsu, hnp, hlev, hKI, hrl, rfl⟩
      have hRs : ∀ q ∈ R, q ∈ portsA (absL rs) := fun q hq => ((hKI.rdy q).mp hq).1
      have hRn : R.Nodup := (List.nodup_append.mp hKI.dnd).2.1
      have hRl : R.length ≤ 20 := by
        have := len_sub hRn hRs
        simp only [portsA, absL, List.length_map] at this
        exact Nat.le_trans this hz
      have hDR : D.length + R.length ≤ rs.length := by
        have := len_sub hKI.dnd (fun q hq => (List.mem_append.mp hq).elim (hKI.dsub q) (hRs q))
        simpa using this
      have e20 : 20 ≤ sizeLine := by decide
      refine T_isCompare (T_MCall (T_ld F (by walk_at "mem") (by walk_at "at") ?_))
      refine T_smeth m_is_active (by walk_at "mem") (by walk_at "mem") ?_
      refine T_cw0 (Callee.K m_is_active.keep) ?_
      refine is_active_spec (k := 2) ax.deeper (by walk_at "mem") (by walk_at "mem") (by walk_at "mem") (by rw [List.length_map]; exact Nat.le_trans hRl e20) ?_
      refine T_bool (T_is rfl (T_truthy_bool ⟨fun e => ?_, fun e => ?_⟩))
      · have hRne : R ≠ [] := by
          rintro rfl
          simp at e
        have hnd' : (portsA (absL rs')).Nodup := by rw [hp]; exact hnd
        refine T_execs (T_Assign (T_MCall (T_ld F (by walk_at "mem") (by walk_at "at") ?_)))
        refine T_smeth m_get_ready (by walk_at "mem") (by walk_at "mem") ?_
        refine T_cw0 (Callee.K m_get_ready.keep) ?_
        refine get_ready_spec (pre := (L, _) :: (Rn, _) :: (rndL rnd ++ pre)) (ax.deeper.le (by decide)) (Nat.le_trans hRl (by decide)) hnd' (fun p hq => by rw [hp]; exact hRs p hq) fun rs1 tp he1 => ?_
        refine TT.as (l' := (tp, _) :: (L, _) :: (Rn, _) :: ((rndL rnd ++ pre) ++ _)) rfl ?_
        refine T_st F (by walk_at "mem") (by walk_at "cv") (by walk_at "put") (by walk_at "rep") ?_
        refine T_execs (T_If (T_isBoolOp (T_or_cons (T_isCompare (T_Call (T_blt F b_type (by rfl) ?_))))))
        refine T_cw Callee.type (T_items (T_ld F (by walk_at "mem") (by walk_at "at") ?_))
        refine T_items_nil (T_type (by walk_at "mem") tup_cls (by decide) ?_)
        refine T_blt F b_tuple (by rfl) (T_isn rfl (T_truthy_bool (Br.ff (by rfl) ?_)))
        refine T_or_cons (T_isCompare (T_ld F (by walk_at "mem") (by walk_at "at") ?_))
        refine T_Tuple (T_items_nil ⟨(Nat.le_of_ble_eq_true rfl), fun t0 => ?_⟩)
        refine T_eqTup0 (b := t0) (ax.deeper (env := callEnv _ L 242)).unit (by walk_at "mem") (by exact List.Mem.head _) (T_truthy_bool (Br.ff ?_ ?_))
        · cases R with
          | nil => exact absurd rfl hRne
          | cons a b => rfl
        refine T_or_cons (T_isCompare (T_MCall (T_ld F (by walk_at "mem") (by walk_at "at") ?_)))
        refine T_smeth m_is_active (by walk_at "mem") (by walk_at "mem") ?_
        refine T_cw0 (Callee.K m_is_active.keep) ?_
        refine is_active_spec (k := 2) ax.deeper (by walk_at "mem") (by walk_at "mem") (by walk_at "mem") (Nat.le_of_ble_eq_true rfl) ?_
        have hlt : decide (m < m + (R.length : Int)) = true := by
          have : 0 < R.length := List.length_pos_iff.mpr hRne
          exact decide_eq_true (Int.lt_add_of_pos_right m (Int.ofNat_lt.mpr this))
        rw [hlt]
        refine T_bool (T_isn rfl (T_truthy_bool (Br.ff (by rfl) ?_)))
        refine T_or_nil (Br.ff rfl (T_execs_nil ?_))
        refine T_execs (T_Expr (T_MCall (T_ld F (by walk_at "mem") (by walk_at "at") ?_)))
        refine gm_append (by walk_at "mem") ?_
        refine T_cw Callee.builtin (T_items (T_Call (T_blt F b_sorted (by rfl) ?_)))
        refine T_cw Callee.builtin (T_items (T_ld F (by walk_at "mem") (by walk_at "at") ?_))
        refine T_items_nil (T_sorted (by walk_at "mem") (Nat.lt_of_le_of_lt hRl (by decide)) fun S ns' hperm hpw => ?_)
        refine T_items_nil (T_append (by walk_at "rep") (by walk_at "cv") (by rw [List.length_map]; exact Nat.le_trans hrl (Nat.le_trans (Nat.le_add_right ..) (Nat.le_trans hDR (Nat.le_trans hz e20)))) ?_)
        refine ⟨fun a e => (by cases e), ?_⟩
        have hp1 : portsA (absL rs1) = portsA (absL rs) := by rw [he1, ports_outA, hp]
        have hsu1 : ∀ p, succOf (absL rs1) p = succOf (absL rs) p := fun p => by rw [he1, out_succ, hsu]
        have hnp1 : npOf (absL rs1) = fun z => if z ∈ R then -1 else np z := by rw [he1, out_np R _ (fun p hq => by rw [hp]; exact hRs p hq), hnp]
        obtain ⟨k1, k2, k3⟩ := hKI.round
        refine T_execs (T_Expr (T_MCallS (T_ld F (by walk_at "mem") (by walk_at "at") ?_)))
        refine T_bound mb_done (by walk_at "mem") (by walk_at "mem") fun q => ?_
        refine T_cwSB1 (f := 164) (x := x) mb_done.fnI (T_ld F (by walk_at "mem") (by walk_at "at") ?_)
        refine ⟨tp, R.map iv, rfl, (by walk_at "mem"), (by walk_at "mem"), by rw [List.length_map]; exact Nat.le_trans hRl e20, fun xs hxs => ?_⟩
        refine done_spec (pre := (q, _) :: (S, _) :: (t0, _) :: (tp, _) :: (L, _) :: (Rn, _) :: (rndL rnd ++ pre)) (ps := R) (ready := []) (ax.deeper.le (by decide)) hxs hRl (Nat.zero_le _) (by rw [hp1]; exact hnd) (fun p hq => by rw [hp1]; exact hRs p hq) (fun p z hz => by rw [hp1]; exact hcl p z (by rw [← hsu1]; exact hz)) (fun p => by rw [hsu1]; exact hsl p) ?_ fun rs2 rd2 he2 => ?_
        · intro j p hj
          have e9 := foldDone_np (R.take j) (absL rs1, []) (succOf (absL rs)) hsu1 (fun p hq => by show p ∈ portsA (absL rs1); rw [hp1]; exact hRs p (List.mem_of_mem_take hq)) (fun p z hz => by show z ∈ portsA (absL rs1); rw [hp1]; exact hcl p z hz)
          have e10 := congrArg (·.1) e9
          simp only [hnp1] at e10
          rw [e10, round_out hRn k1 k2 hj, if_pos (List.mem_of_getElem? hj)]
        have e21 : absL rs2 = (R.foldl doneS (absL rs1, [])).1 := congrArg (·.1) he2
        have e22 : rd2 = (R.foldl doneS (absL rs1, [])).2 := congrArg (·.2) he2
        have hRp : 0 < R.length := List.length_pos_iff.mpr hRne
        have e9 := foldDone_np R (absL rs1, []) (succOf (absL rs)) hsu1 (fun p hq => by show p ∈ portsA (absL rs1); rw [hp1]; exact hRs p hq) (fun p z hz => by show z ∈ portsA (absL rs1); rw [hp1]; exact hcl p z hz)
        obtain ⟨r, er, rnd_, rm⟩ := doneF_fold (succOf (absL rs)) R (npOf (absL rs1)) [] hRn k1 (by rw [hnp1]; exact k2)
        rw [er, ← e21, ← e22] at e9
        have e31 : npOf (absL rs2) = _ := congrArg (·.1) e9
        have e32 : rd2 = r := by have := congrArg (·.2) e9; simpa using this
        refine ⟨fun a e => (by cases e), T_execs_nil ⟨n - R.length, _, ?_, ?_, D ++ R, rd2, rnd ++ [(S, ns')], rs2, m + R.length, npOf (absL rs2), ?_, ?_, ?_, rfl, ?_, ?_, ?_, rfl⟩⟩
        · exact subR hn hDR hRp
        · simp only [rndL, List.map_append, List.map_cons, List.map_nil, List.append_assoc, List.cons_append, List.nil_append]
          walk_at "le"
        · rw [List.length_append]; exact subR' hn hDR
        · rw [e21, foldDone_ports]; exact hp1
        · intro p; rw [e21, foldDone_succ]; exact hsu1 p
        · rw [List.map_append]; exact .snoc hlev hKI.rdy hRne hRn hperm hpw
        · refine k3 rd2 _ (by rw [e32]; exact rnd_) (fun z => by rw [e32, rm z, hnp1]) ?_
          rw [e31, hnp1]
        · rw [List.length_append, List.length_append]; exact Nat.add_le_add hrl hRp
      · have hR0 : R = [] := by
          cases R with
          | nil => rfl
          | cons a b => simp at e
        subst hR0
        exact T_execs_nil ⟨_, Le.refl _, D, rnd, rs', m, np, hp, hlev, hKI, rfl⟩
    · rintro l1 ⟨D, rnd, rs', m, np, hp, hlev, hKI, rfl⟩
      have hnd' : (portsA (absL rs')).Nodup := by rw [hp]; exact hnd
      refine T_execs (T_If (T_isBoolOp (T_or_cons (T_isCompare (T_MCall (T_ld F (by walk_at "mem") (by walk_at "at") ?_))))))
      refine T_smeth m_is_active (by walk_at "mem") (by walk_at "mem") ?_
      refine T_cw0 (Callee.K m_is_active.keep) ?_
      refine is_active_spec (k := 2) ax.deeper (by walk_at "mem") (by walk_at "mem") (by walk_at "mem") (Nat.le_of_ble_eq_true rfl) ?_
      have hlt : decide (m < m) = false := by simp
      rw [hlt]
      refine T_bool (T_isn rfl (T_truthy_bool (Br.ff (by rfl) ?_)))
      refine T_or_cons (T_isCompare (T_MCall (T_ld F (by walk_at "mem") (by walk_at "at") ?_)))
      refine T_smeth m_get_ready (by walk_at "mem") (by walk_at "mem") ?_
      refine T_cw0 (Callee.K m_get_ready.keep) ?_
      refine get_ready_spec (pre := (L, _) :: (Rn, _) :: (rndL rnd ++ pre)) (ready := []) (ax.deeper.le (by decide)) (Nat.zero_le _) hnd' (fun p hq => (nomatch hq)) fun rs1 tp he1 => ?_
      refine TT.as (l' := (tp, Tup []) :: (L, _) :: (Rn, _) :: ((rndL rnd ++ pre) ++ _)) rfl ?_
      refine T_Tuple (T_items_nil ⟨(Nat.le_of_ble_eq_true rfl), fun t0 => ?_⟩)
      refine T_neTup0 (b := t0) (xs := []) (ax.deeper (env := callEnv _ L 242)).unit (by walk_at "mem") (by exact List.Mem.head _) (T_truthy_bool (Br.ff rfl ?_))
      refine T_or_nil (Br.ff rfl (T_execs_nil ?_))
      refine T_execs (T_Return (T_ld F (by walk_at "mem") (by walk_at "at") ?_))
      refine ⟨_, ?_, h Rn rnd D hlev ?_ fun q hq hn hc => ?_⟩
      · simp only [List.append_assoc]
        walk_at "le"
      · have := len_sub (List.nodup_append.mp hKI.dnd).1 hKI.dsub
        simpa using this
      · exact absurd ((hKI.rdy q).mpr ⟨hq, hn, hc⟩) (by simp)

end
end
section
section
variable {G : Gd} {A : Around} {E : Value → Led → Prop} {l l' : Led} {env : Env} {pos : Pos}
theorem mul97 {b : Int} : IntMulOk 97 b := IntMulOk.of_left (by decide)
noncomputable def lvlE (wk : List (Addr × List Int)) (s : Nat) : List Int := (wk.filter fun p => p.2.length == s + 1).map fun p => 21 + 97 * p.2.headD 0
theorem to_the_end_spec {W : Addr} {wk : List (Addr × List Int)} {pre : Led} {Q : Value → Led → Prop} (ax : Ax A 2) (hz : wk.length ≤ 20) (hw : ∀ p ∈ wk, 1 ≤ p.2.length ∧ p.2.length ≤ 30 ∧ ∀ a ∈ p.2, 0 ≤ a ∧ a ≤ 1000)
    (hW : (W, Lst (wk.map fun p => .ref p.1)) ∈ pre) (hin : ∀ p ∈ wk, (p.1, Lst (p.2.map iv)) ∈ pre)
    (h : ∀ R all, all.map (·.2) = (List.range wk.length).map (lvlE wk) → Q (.ref R) ((R, Lst ((all.filter fun p => !p.2.isEmpty).map fun p => .ref p.1)) :: (rndL all ++ pre))) :
    TT G A (call (.ref 218) [.ref W]) Q E pre := by
  refine (C_defC (ns := [Str.ofString "walks", Str.ofString "rounds"]) (vs := [some (.ref W), none]) (binds := [((Str.ofString "walks"), .ref W)]) (fun L => [(L + 1, Cel none)]) ax.room (by exact rfl) rfl (fun s _ => BindsTo.of_eq rfl) (by rfl) (fun L => by rfl) (by kernel_rfl) ⟨rfl, rfl, rfl, rfl, rfl, rfl⟩ fun L F => ?_).call
  refine T_execs (T_Assign (T_List (T_items_nil ⟨by decide, fun Rn => ?_⟩)))
  refine T_st F (by walk_at "mem") (by walk_at "cv") (by walk_at "put") (by walk_at "rep") ?_
  refine TT.le (l' := (L, IsNs [Str.ofString "walks", Str.ofString "rounds"] [some (.ref W), some (.ref Rn)]) :: (Rn, Lst []) :: (L + 1, Cel none) :: pre) (.perm (.swap ..)) ?_
  have e20 : 100 ≤ sizeLine := by decide
  have hwr : (wk.map fun p => Value.ref p.1).length ≤ 20 := by rw [List.length_map]; exact hz
  refine T_execs (T_for (T_Call (T_blt F b_range (by rfl) ?_)))
  refine T_cw Callee.type (T_items (T_Call (T_blt F b_len (by rfl) ?_)))
  refine T_cw Callee.builtin (T_items (T_ld F (by walk_at "mem") (by walk_at "at") ?_))
  refine T_items_nil (T_len (by walk_at "mem") (Nat.le_trans hwr (by decide)) fun t1 => ?_)
  refine T_items_nil (T_range1 fun r => ?_)
  refine T_iter_range (by walk_at "mem") (Nat.zero_le _) (Nat.le_trans hwr (by decide)) fun it => ?_
  refine Loop.le (l' := (it, RIt 0 (wk.map fun p => Value.ref p.1).length 0) :: (L, IsNs [Str.ofString "walks", Str.ofString "rounds"] [some (.ref W), some (.ref Rn)]) :: (Rn, Lst []) :: (L + 1, Cel none) :: pre) (by walk_at "le") ?_
  refine Loop.range (fun j l1 => ∃ all cv0, all.map (·.2) = (List.range j).map (lvlE wk) ∧ l1 = (L, IsNs [Str.ofString "walks", Str.ofString "rounds"] [some (.ref W), some (.ref Rn)]) :: (Rn, Lst (all.map fun p => .ref p.1)) :: (L + 1, Cel cv0) :: (rndL all ++ pre)) ax.hd (Nat.zero_le _) ⟨[], none, rfl, rfl⟩ ?_ ?_ ?_
  · rintro i l1 ⟨all, cv0, _, rfl⟩
    exact ⟨_, .head _⟩
  · rintro i l1 hi ⟨all, cv0, hall, rfl⟩ t2
    rw [List.length_map] at hi
    refine T_assignName (T_stc F (by rfl) (by rfl) (by walk_at "cv") (by walk_at "rep") ?_)
    have hal : all.length = i := by have := congrArg List.length hall; simpa using this
    refine T_execs (T_Expr (T_MCall (T_ld F (by walk_at "mem") (by walk_at "at") ?_)))
    refine gm_append (by walk_at "mem") ?_
    refine T_cw Callee.builtin (T_items (T_ListComp (cl := [((Str.ofString "steps"), L + 1)]) [Str.ofString "walk"] [none] (by rfl) (by decide) rfl (T_ld F (by walk_at "mem") (by walk_at "at") ?_)))
    refine T_iter_list (by walk_at "mem") fun it2 => ?_
    refine Comp.list (vs := wk.map fun p => .ref p.1) (fun k acc l2 => k ≤ wk.length ∧ acc = (((wk.take k).filter fun p => p.2.length == i + 1).map fun p => 21 + 97 * p.2.headD 0).map iv ∧ l2 = (it, RIt 0 (wk.map fun p => Value.ref p.1).length (i + 1)) :: (L, IsNs [Str.ofString "walks", Str.ofString "rounds"] [some (.ref W), some (.ref Rn)]) :: (Rn, Lst (all.map fun p => .ref p.1)) :: (L + 1, Cel (some (iv (0 + i : Nat)))) :: (rndL all ++ pre)) ax.hd ⟨Nat.zero_le _, rfl, rfl⟩ ?_ ?_ ?_
    · rintro k acc l2 ⟨hk, rfl, rfl⟩
      refine ⟨?_, by walk_at "mem"⟩
      have h1 := List.length_filter_le (fun p : Addr × List Int => p.2.length == i + 1) (wk.take k)
      simp only [List.length_map]
      exact Nat.le_trans h1 (Nat.le_trans (List.length_take_le' ..) (Nat.le_trans hz (by decide)))
    · rintro k acc l2 D C c hc ⟨hk, rfl, rfl⟩
      rw [List.getElem?_map] at hc
      obtain ⟨p, hp, rfl⟩ := Option.map_eq_some_iff.mp hc
      have hpm : p ∈ wk := List.mem_of_getElem? hp
      have m_p : (p.1, Lst (p.2.map iv)) ∈ pre := hin p hpm
      obtain ⟨w1, w2, w3⟩ := hw p hpm
      have hklt : k < wk.length := (List.getElem?_eq_some_iff.mp hp).1
      refine T_assignName (T_st (compLay (ns := [Str.ofString "walk"]) F (by rfl) (by rfl) (by decide)) (by walk_at "mem") (by walk_at "cv") (by walk_at "put") (by walk_at "rep") ?_)
      refine T_tests1 (T_isCompare (T_Call (T_blt (compLay (ns := [Str.ofString "walk"]) F (by rfl) (by rfl) (by decide)) b_len (by rfl) ?_)))
      refine T_cw Callee.builtin (T_items (T_ld (compLay (ns := [Str.ofString "walk"]) F (by rfl) (by rfl) (by decide)) (by walk_at "mem") (by walk_at "at") ?_))
      refine T_items_nil (T_len (by walk_at "mem") (by rw [List.length_map]; exact Nat.le_trans w2 (by decide)) fun t3 => ?_)
      refine T_BinOp (T_cell (compLay (ns := [Str.ofString "walk"]) F (by rfl) (by rfl) (by decide)) (by rfl) (by rfl) (by walk_at "mem") ?_); intro t4
      refine T_int fun t5 => T_add fun t6 => T_eq (T_truthy_bool ⟨fun e => ?_, fun e => ?_⟩)
      · have e' : (p.2.length == i + 1) = true := by
          simp only [List.length_map, beq_iff_eq] at e ⊢
          exact lenE e
        refine T_BinOp (T_int fun t7 => T_BinOp (T_int fun t8 => T_Sub (T_ld (compLay (ns := [Str.ofString "walk"]) F (by rfl) (by rfl) (by decide)) (by walk_at "mem") (by walk_at "at") ?_)))
        refine T_int fun t9 => ?_
        obtain ⟨a, rest, ha⟩ : ∃ a rest, p.2 = a :: rest := by
          cases hh : p.2 with
          | nil => rw [hh] at w1; simp at w1
          | cons a b => exact ⟨a, b, rfl⟩
        refine T_item (c := iv a) (by walk_at "mem") (by decide) (by decide) (by rw [ha]; rfl) ?_; intro t10
        refine T_mul mul97 fun t11 => T_add fun t12 => ?_
        refine ⟨_, _, .int, ?_, hklt, ?_, rfl⟩
        · walk_at "le"
        · rw [List.take_add_one, hp, Option.toList_some, List.filter_append, List.filter_cons_of_pos (by exact e'), List.filter_nil]
          simp [ha]
      · have e' : (p.2.length == i + 1) = false := by
          simp only [List.length_map, beq_eq_false_iff_ne] at e ⊢
          exact fun h => e (lenE' h)
        refine ⟨_, ?_, hklt, ?_, rfl⟩
        · walk_at "le"
        · rw [List.take_add_one, hp, Option.toList_some, List.filter_append, List.filter_cons_of_neg (by rw [e']; decide), List.filter_nil]
          simp
    · rintro acc l2 D ⟨_, rfl, rfl⟩
      have e0 : (((wk.take (wk.map fun p => Value.ref p.1).length).filter fun p => p.2.length == i + 1).map fun p => 21 + 97 * p.2.headD 0).map iv = (lvlE wk i).map iv := by rw [List.take_of_length_le (by simp)]; rfl
      rw [e0]
      refine T_items_nil (T_append (by walk_at "rep") (by walk_at "cv") (by rw [List.length_map, hal]; exact Nat.le_trans (Nat.le_of_lt hi) (Nat.le_trans hz (by decide))) ?_)
      refine ⟨fun a e => (by cases e), T_execs_nil ⟨_, ?_, all ++ [(D, lvlE wk i)], some (iv (0 + i : Nat)), ?_, rfl⟩⟩
      · simp only [rndL, List.map_append, List.map_cons, List.map_nil, List.append_assoc, List.cons_append, List.nil_append]
        walk_at "le"
      · rw [List.map_append, hall, List.range_succ, List.map_append]; rfl
  · rintro l1 ⟨all, cv0, hall, rfl⟩
    rw [List.length_map] at hall
    have hal : all.length = wk.length := by have := congrArg List.length hall; simpa using this
    have m_all : ∀ p ∈ all, (p.1, Lst (p.2.map iv)) ∈ rndL all := fun p hp => List.mem_map.mpr ⟨p, hp, rfl⟩
    refine T_execs (T_Return (T_ListComp (cl := []) [Str.ofString "group"] [none] (by rfl) (by decide) rfl (T_ld F (by walk_at "mem") (by walk_at "at") ?_)))
    refine T_iter_list (by walk_at "mem") fun it2 => ?_
    refine Comp.list (vs := all.map fun p => .ref p.1) (fun k acc l2 => k ≤ all.length ∧ acc = (((all.take k).filter fun p => !p.2.isEmpty).map fun p => .ref p.1) ∧ l2 = (L, IsNs [Str.ofString "walks", Str.ofString "rounds"] [some (.ref W), some (.ref Rn)]) :: (Rn, Lst (all.map fun p => .ref p.1)) :: (L + 1, Cel cv0) :: (rndL all ++ pre)) ax.hd ⟨Nat.zero_le _, rfl, rfl⟩ ?_ ?_ ?_
    · rintro k acc l2 ⟨hk, rfl, rfl⟩
      refine ⟨?_, by walk_at "mem"⟩
      have h1 := List.length_filter_le (fun p : Addr × List Int => !p.2.isEmpty) (all.take k)
      simp only [List.length_map]
      exact Nat.le_trans h1 (Nat.le_trans (List.length_take_le' ..) (Nat.le_trans (Nat.le_of_eq hal) (Nat.le_trans hz (by decide))))
    · rintro k acc l2 D C c hc ⟨hk, rfl, rfl⟩
      rw [List.getElem?_map] at hc
      obtain ⟨p, hp, rfl⟩ := Option.map_eq_some_iff.mp hc
      have hpm : p ∈ all := List.mem_of_getElem? hp
      have m_p : (p.1, Lst (p.2.map iv)) ∈ rndL all := m_all p hpm
      have hklt : k < all.length := (List.getElem?_eq_some_iff.mp hp).1
      refine T_assignName (T_st (compLay (ns := [Str.ofString "group"]) F (by rfl) (by rfl) (by decide)) (by walk_at "mem") (by walk_at "cv") (by walk_at "put") (by walk_at "rep") ?_)
      refine T_tests1 (T_isCompare (T_ld (compLay (ns := [Str.ofString "group"]) F (by rfl) (by rfl) (by decide)) (by walk_at "mem") (by walk_at "at") ?_))
      refine T_List (T_items_nil ⟨(Nat.le_of_ble_eq_true rfl), fun N => ?_⟩)
      refine T_neNil (b := N) (xs := p.2.map iv) (ax.deeper (env := callEnvC _ L 218)).unit (by walk_at "mem") (by exact List.Mem.head _) (T_truthy_bool ⟨fun e => ?_, fun e => ?_⟩)
      · have e' : (!p.2.isEmpty) = true := by simpa using e
        refine T_ld (compLay (ns := [Str.ofString "group"]) F (by rfl) (by rfl) (by decide)) (by walk_at "mem") (by walk_at "at") ?_
        refine ⟨_, _, .ref, ?_, hklt, ?_, rfl⟩
        · walk_at "le"
        · rw [List.take_add_one, hp, Option.toList_some, List.filter_append, List.filter_cons_of_pos (by exact e'), List.filter_nil, List.map_append]; rfl
      · have e' : (!p.2.isEmpty) = false := by simpa using e
        refine ⟨_, ?_, hklt, ?_, rfl⟩
        · walk_at "le"
        · rw [List.take_add_one, hp, Option.toList_some, List.filter_append, List.filter_cons_of_neg (by rw [e']; decide), List.filter_nil, List.append_nil]
    · rintro acc l2 D ⟨_, rfl, rfl⟩
      refine ⟨_, ?_, h D all hall⟩
      rw [List.take_of_length_le (by simp)]
      walk_at "le"

end
end
section
section
variable {G : Gd} {A : Around} {E : Value → Led → Prop} {l l' : Led} {env : Env} {pos : Pos}
noncomputable def bump (last : List Int) (a : Int) (k : Nat) : List Int := last.set a.toNat (max (last.getD a.toNat 0) k)
noncomputable def lastW (w : List Int) (m : Nat) (last : List Int) : List Int := (List.range m).foldl (fun ls k => bump ls (w.getD k 0) k) last
noncomputable def lastA (ws : List (List Int)) (n : Nat) : List Int := ws.foldl (fun ls w => lastW w w.length ls) (List.replicate n 0)
noncomputable def lvlB (last : List Int) (s : Nat) : List Int := ((List.range last.length).filter fun k => last.getD k 0 == (s : Int)).map fun k => 21 + 97 * ((k : Nat) : Int)
theorem bump_len (last : List Int) (a : Int) (k : Nat) : (bump last a k).length = last.length := by simp [bump]
theorem lastW_len (w : List Int) : ∀ (m : Nat) (last : List Int), (lastW w m last).length = last.length
  | 0, _ => rfl
  | m + 1, last => by rw [lastW, List.range_succ, List.foldl_append]; show (bump _ _ _).length = _; rw [bump_len]; exact lastW_len w m last
theorem lastW_succ (w : List Int) (m : Nat) (last : List Int) : lastW w (m + 1) last = bump (lastW w m last) (w.getD m 0) m := by rw [lastW, List.range_succ, List.foldl_append]; rfl
theorem lastA_len (n : Nat) (ws : List (List Int)) : (lastA ws n).length = n := by
  suffices h : ∀ (ws : List (List Int)) (ls : List Int), (ws.foldl (fun ls w => lastW w w.length ls) ls).length = ls.length by
    rw [lastA, h, List.length_replicate]
  intro ws
  induction ws with
  | nil => intro ls; rfl
  | cons w ws ih => intro ls; rw [List.foldl_cons, ih, lastW_len]
theorem iv_get {ls : List Int} {k : Nat} (h : k < ls.length) : (ls.map iv)[k]? = some (iv (ls.getD k 0)) := by
  rw [List.getElem?_map, List.getElem?_eq_getElem h, List.getD_eq_getElem?_getD, List.getElem?_eq_getElem h]; rfl
theorem iv_bump (ls : List Int) (a : Int) (k : Nat) : (ls.map iv).set a.toNat (iv (max (ls.getD a.toNat 0) k)) = (bump ls a k).map iv := by rw [bump, List.map_set]
theorem from_afar_spec {W : Addr} {wk : List (Addr × List Int)} {pre : Led} {Q : Value → Led → Prop} (ax : Ax A 2) (hz : wk.length ≤ 20) (hw : ∀ p ∈ wk, p.2.length ≤ 30 ∧ ∀ a ∈ p.2, 0 ≤ a ∧ a < wk.length)
    (hW : (W, Lst (wk.map fun p => .ref p.1)) ∈ pre) (hin : ∀ p ∈ wk, (p.1, Lst (p.2.map iv)) ∈ pre)
    (h : ∀ R all, all.map (·.2) = (List.range wk.length).map (lvlB (lastA (wk.map (·.2)) wk.length)) → Q (.ref R) ((R, Lst ((all.filter fun p => !p.2.isEmpty).map fun p => .ref p.1)) :: (rndL all ++ pre))) :
    TT G A (call (.ref 223) [.ref W]) Q E pre := by
  refine (C_defC (ns := [Str.ofString "walks", Str.ofString "walk", Str.ofString "k", Str.ofString "rounds"]) (vs := [some (.ref W), none, none, none]) (binds := [((Str.ofString "walks"), .ref W)]) (fun L => [(L + 2, Cel none), (L + 1, Cel none)]) ax.room (by exact rfl) rfl (fun s _ => BindsTo.of_eq rfl) (by rfl) (fun L => by rfl) (by kernel_rfl) ⟨rfl, rfl, rfl, rfl, rfl, rfl⟩ fun L F => ?_).call
  have e20 : 100 ≤ sizeLine := by decide
  have hwr : (wk.map fun p => Value.ref p.1).length ≤ 20 := by rw [List.length_map]; exact hz
  refine TT.le (l' := (L, IsNs [Str.ofString "walks", Str.ofString "walk", Str.ofString "k", Str.ofString "rounds"] [some (.ref W), none, none, none]) :: (L + 1, Cel none) :: (L + 2, Cel none) :: pre) (.keep (fun _ h => h) (.perm (.swap ..))) ?_
  refine T_execs (T_Assign (T_BinOp (T_List (T_items (T_int fun t1 => T_items_nil ⟨(Nat.le_of_ble_eq_true rfl), fun z => ?_⟩)))))
  refine T_Call (T_blt F b_len (by rfl) ?_)
  refine T_cw Callee.builtin (T_items (T_ld F (by walk_at "mem") (by walk_at "at") ?_))
  refine T_items_nil (T_len (by walk_at "mem") (Nat.le_trans hwr (by decide)) fun t2 => ?_)
  refine T_mulList1 (n := wk.length) (c := iv 0) (by rw [List.length_map]) (by exact .head _) (Nat.le_trans hz (by decide)) fun la => ?_
  refine T_stc F (by rfl) (by rfl) (c := .ref la) (by walk_at "cv") (by walk_at "rep") ?_
  refine T_cut (fun l1 => l1 = (L, IsNs [Str.ofString "walks", Str.ofString "walk", Str.ofString "k", Str.ofString "rounds"] [some (.ref W), none, none, none]) :: (la, LstW ((lastA (wk.map (·.2)) wk.length).map iv)) :: (L + 1, Cel (some (.ref la))) :: (L + 2, Cel none) :: pre) ?_ ?_
  · refine T_for (T_ld F (by walk_at "mem") (by walk_at "at") ?_)
    refine T_iter_list (by walk_at "mem") fun it => ?_
    refine Loop.le (l' := (it, LIt W 0) :: (L, IsNs [Str.ofString "walks", Str.ofString "walk", Str.ofString "k", Str.ofString "rounds"] [some (.ref W), none, none, none]) :: (la, LstW ((List.replicate wk.length (0 : Int)).map iv)) :: (L + 1, Cel (some (.ref la))) :: (L + 2, Cel none) :: pre) ?_ ?_
    · have e0 : (List.replicate wk.length (0 : Int)).map iv = List.replicate wk.length (iv 0) := by simp
      rw [e0]
      refine Le.pick (by walk_at "tk") (Le.pickNs (by walk_at "tk") (by walk_at "wk") (Le.pickI (by walk_at "tk") (fun o ho => Lst.w ho) (by walk_at "le")))
    refine Loop.list (vs := wk.map fun p => .ref p.1) (fun j l1 => l1 = (L, IsNs [Str.ofString "walks", Str.ofString "walk", Str.ofString "k", Str.ofString "rounds"] [some (.ref W), none, none, none]) :: (la, LstW ((lastA ((wk.take j).map (·.2)) wk.length).map iv)) :: (L + 1, Cel (some (.ref la))) :: (L + 2, Cel none) :: pre) ax.hd rfl ?_ ?_ ?_
    · rintro i l1 rfl
      walk_at "mem"
    · rintro i l1 c hc rfl
      rw [List.getElem?_map] at hc
      obtain ⟨p, hp, rfl⟩ := Option.map_eq_some_iff.mp hc
      have hpm : p ∈ wk := List.mem_of_getElem? hp
      have m_p : (p.1, Lst (p.2.map iv)) ∈ pre := hin p hpm
      obtain ⟨w2, w3⟩ := hw p hpm
      have hstep : lastA ((wk.take (i + 1)).map (·.2)) wk.length = lastW p.2 p.2.length (lastA ((wk.take i).map (·.2)) wk.length) := by
        rw [List.take_add_one, hp, Option.toList_some, List.map_append, lastA, List.foldl_append]; rfl
      refine T_assignName (T_st F (by walk_at "mem") (by walk_at "cv") (by walk_at "put") (by walk_at "rep") ?_)
      refine T_cut (fun l2 => l2 = (it, LIt W (i + 1)) :: (L, IsNs [Str.ofString "walks", Str.ofString "walk", Str.ofString "k", Str.ofString "rounds"] [some (.ref W), some (.ref p.1), none, none]) :: (la, LstW ((lastW p.2 p.2.length (lastA ((wk.take i).map (·.2)) wk.length)).map iv)) :: (L + 1, Cel (some (.ref la))) :: (L + 2, Cel none) :: pre) ?_ ?_
      · refine T_for (T_Call (T_blt F b_range (by rfl) ?_))
        refine T_cw Callee.type (T_items (T_Call (T_blt F b_len (by rfl) ?_)))
        refine T_cw Callee.builtin (T_items (T_ld F (by walk_at "mem") (by walk_at "at") ?_))
        refine T_items_nil (T_len (by walk_at "mem") (by rw [List.length_map]; exact Nat.le_trans w2 (by decide)) fun t3 => ?_)
        refine T_items_nil (T_range1 fun r => ?_)
        refine T_iter_range (by walk_at "mem") (Nat.zero_le _) (by rw [List.length_map]; exact Nat.le_trans w2 (by decide)) fun it2 => ?_
        refine Loop.le (l' := (it2, RIt 0 (p.2.map iv).length 0) :: (it, LIt W (i + 1)) :: (L, IsNs [Str.ofString "walks", Str.ofString "walk", Str.ofString "k", Str.ofString "rounds"] [some (.ref W), some (.ref p.1), none, none]) :: (la, LstW ((lastA ((wk.take i).map (·.2)) wk.length).map iv)) :: (L + 1, Cel (some (.ref la))) :: (L + 2, Cel none) :: pre) (by walk_at "le") ?_
        refine Loop.range (fun j l2 => l2 = (it, LIt W (i + 1)) :: (L, IsNs [Str.ofString "walks", Str.ofString "walk", Str.ofString "k", Str.ofString "rounds"] [some (.ref W), some (.ref p.1), none, none]) :: (la, LstW ((lastW p.2 j (lastA ((wk.take i).map (·.2)) wk.length)).map iv)) :: (L + 1, Cel (some (.ref la))) :: (L + 2, Cel none) :: pre) ax.hd (Nat.zero_le _) rfl ?_ ?_ ?_
        · rintro j l2 rfl
          exact ⟨_, .head _⟩
        · rintro j l2 hj rfl t4
          rw [List.length_map] at hj
          have hj' : j < p.2.length := hj
          obtain ⟨w4, w5⟩ := w3 (p.2.getD j 0) (by rw [List.getD_eq_getElem?_getD, List.getElem?_eq_getElem hj']; exact List.getElem_mem hj')
          have hlen : (lastW p.2 j (lastA ((wk.take i).map (·.2)) wk.length)).length = wk.length := by rw [lastW_len, lastA_len]
          refine T_assignName (T_st F (by walk_at "mem") (by walk_at "cv") (by walk_at "put") (by walk_at "rep") ?_)
          refine T_execs (T_AssignSub (T_Call (T_blt F b_max (by rfl) ?_)))
          refine T_cw Callee.builtin (T_items (T_Sub (T_cell F (by rfl) (by rfl) (by walk_at "mem") ?_)))
          refine T_Sub (T_ld F (by walk_at "mem") (by walk_at "at") ?_)
          refine T_ld F (by walk_at "mem") (by walk_at "at") ?_
          intro t5
          refine T_item (c := iv (p.2.getD j 0)) (by walk_at "mem") (Int.natCast_nonneg _) (fit63 hj' w2) (by rw [toNat0]; exact iv_get hj') ?_
          intro t6
          refine T_itemW (c := iv ((lastW p.2 j (lastA ((wk.take i).map (·.2)) wk.length)).getD (p.2.getD j 0).toNat 0)) (by walk_at "mem") w4 (fitZ w5 (Nat.le_trans hz (by decide))) (by exact iv_get (Nat.lt_of_lt_of_le (toNatLt w4 w5) (Nat.le_of_eq hlen.symm))) ?_
          intro t7
          refine T_items (T_ld F (by walk_at "mem") (by walk_at "at") ?_)
          intro t8
          refine T_items_nil (T_max2 ax.hd (by exact .head _) fun t9 => ?_)
          refine T_cell F (by rfl) (by rfl) (by walk_at "mem") ?_
          refine T_Sub (T_ld F (by walk_at "mem") (by walk_at "at") ?_)
          refine T_ld F (by walk_at "mem") (by walk_at "at") ?_
          intro t10
          refine T_item (c := iv (p.2.getD j 0)) (by walk_at "mem") (Int.natCast_nonneg _) (fit63 hj' w2) (by rw [toNat0]; exact iv_get hj') ?_
          intro t11
          refine T_setL (by walk_at "rep") (by walk_at "cv") w4 (fitZ w5 (Nat.le_trans hz (by decide))) (by rw [List.length_map, hlen]; first | exact w5 | exact toNatLt w4 w5) ?_
          refine T_execs_nil ⟨_, ?_, rfl⟩
          rw [lastW_succ, ← iv_bump, cast0]
          walk_at "le"
        · rintro l2 rfl
          rw [List.length_map, Nat.sub_zero]
          exact ⟨_, (by walk_at "le"), rfl⟩
      · rintro l2 rfl
        refine T_execs_nil ⟨_, ?_, rfl⟩
        rw [hstep]
        walk_at "le"
    · rintro l1 rfl
      refine ⟨_, Le.refl _, ?_⟩
      rw [List.length_map, List.take_length]
  · rintro l1 rfl
    have hlen := lastA_len wk.length (wk.map (·.2))
    generalize lastA (wk.map (·.2)) wk.length = last at *
    refine T_execs (T_Assign (T_List (T_items_nil ⟨by decide, fun Rn => ?_⟩)))
    refine T_st F (by walk_at "mem") (by walk_at "cv") (by walk_at "put") (by walk_at "rep") ?_
    refine TT.le (l' := (L, IsNs [Str.ofString "walks", Str.ofString "walk", Str.ofString "k", Str.ofString "rounds"] [some (.ref W), none, none, some (.ref Rn)]) :: (Rn, Lst []) :: (la, LstW (last.map iv)) :: (L + 1, Cel (some (.ref la))) :: (L + 2, Cel none) :: pre) (.perm (.swap ..)) ?_
    refine T_execs (T_for (T_Call (T_blt F b_range (by rfl) ?_)))
    refine T_cw Callee.type (T_items (T_Call (T_blt F b_len (by rfl) ?_)))
    refine T_cw Callee.builtin (T_items (T_ld F (by walk_at "mem") (by walk_at "at") ?_))
    refine T_items_nil (T_len (by walk_at "mem") (Nat.le_trans hwr (by decide)) fun t1 => ?_)
    refine T_items_nil (T_range1 fun r => ?_)
    refine T_iter_range (by walk_at "mem") (Nat.zero_le _) (Nat.le_trans hwr (by decide)) fun it => ?_
    refine Loop.le (l' := (it, RIt 0 (wk.map fun p => Value.ref p.1).length 0) :: (L, IsNs [Str.ofString "walks", Str.ofString "walk", Str.ofString "k", Str.ofString "rounds"] [some (.ref W), none, none, some (.ref Rn)]) :: (Rn, Lst []) :: (la, LstW (last.map iv)) :: (L + 1, Cel (some (.ref la))) :: (L + 2, Cel none) :: pre) (by walk_at "le") ?_
    refine Loop.range (fun j l1 => ∃ all cv0, all.map (·.2) = (List.range j).map (lvlB last) ∧ l1 = (L, IsNs [Str.ofString "walks", Str.ofString "walk", Str.ofString "k", Str.ofString "rounds"] [some (.ref W), none, none, some (.ref Rn)]) :: (Rn, Lst (all.map fun p => .ref p.1)) :: (la, LstW (last.map iv)) :: (L + 1, Cel (some (.ref la))) :: (L + 2, Cel cv0) :: (rndL all ++ pre)) ax.hd (Nat.zero_le _) ⟨[], none, rfl, rfl⟩ ?_ ?_ ?_
    · rintro i l1 ⟨all, cv0, _, rfl⟩
      exact ⟨_, .head _⟩
    · rintro i l1 hi ⟨all, cv0, hall, rfl⟩ t2
      rw [List.length_map] at hi
      refine T_assignName (T_stc F (by rfl) (by rfl) (by walk_at "cv") (by walk_at "rep") ?_)
      have hal : all.length = i := by have := congrArg List.length hall; simpa using this
      refine T_execs (T_Expr (T_MCall (T_ld F (by walk_at "mem") (by walk_at "at") ?_)))
      refine gm_append (by walk_at "mem") ?_
      refine T_cw Callee.builtin (T_items (T_ListComp (cl := [((Str.ofString "steps"), L + 2), ((Str.ofString "last"), L + 1)]) [Str.ofString "k"] [none] (by rfl) (by decide) rfl (T_Call (T_blt F b_range (by rfl) ?_))))
      refine T_cw Callee.type (T_items (T_Call (T_blt F b_len (by rfl) ?_)))
      refine T_cw Callee.builtin (T_items (T_ld F (by walk_at "mem") (by walk_at "at") ?_))
      refine T_items_nil (T_len (by walk_at "mem") (Nat.le_trans hwr (by decide)) fun t3 => ?_)
      refine T_items_nil (T_range1 fun r2 => ?_)
      refine T_iter_range (by walk_at "mem") (Nat.zero_le _) (Nat.le_trans hwr (by decide)) fun it2 => ?_
      refine Comp.range (fun k acc l2 => k ≤ last.length ∧ acc = (((List.range k).filter fun k => last.getD k 0 == (i : Int)).map fun k => 21 + 97 * ((k : Nat) : Int)).map iv ∧ l2 = (r2, Rng 0 (wk.map fun p => Value.ref p.1).length) :: (it, RIt 0 (wk.map fun p => Value.ref p.1).length (i + 1)) :: (L, IsNs [Str.ofString "walks", Str.ofString "walk", Str.ofString "k", Str.ofString "rounds"] [some (.ref W), none, none, some (.ref Rn)]) :: (Rn, Lst (all.map fun p => .ref p.1)) :: (la, LstW (last.map iv)) :: (L + 1, Cel (some (.ref la))) :: (L + 2, Cel (some (iv (0 + i : Nat)))) :: (rndL all ++ pre)) ax.hd (Nat.zero_le _) ⟨Nat.zero_le _, rfl, rfl⟩ ?_ ?_ ?_
      · rintro k acc l2 ⟨hk, rfl, rfl⟩
        have h1 := List.length_filter_le (fun k => last.getD k 0 == (i : Int)) (List.range k)
        simp only [List.length_map]
        rw [List.length_range] at h1
        exact Nat.le_trans h1 (Nat.le_trans hk (Nat.le_trans (Nat.le_of_eq hlen) (Nat.le_trans hz (by decide))))
      · rintro k acc l2 D C hk0 ⟨hk, rfl, rfl⟩ t4
        rw [List.length_map] at hk0
        have hklt : k < last.length := hlen ▸ hk0
        refine T_assignName (T_st (compLay (ns := [Str.ofString "k"]) F (by rfl) (by rfl) (by decide)) (by walk_at "mem") (by walk_at "cv") (by walk_at "put") (by walk_at "rep") ?_)
        refine T_tests1 (T_isCompare (T_Sub (T_cell (compLay (ns := [Str.ofString "k"]) F (by rfl) (by rfl) (by decide)) (by rfl) (by rfl) (by walk_at "mem") ?_)))
        refine T_ld (compLay (ns := [Str.ofString "k"]) F (by rfl) (by rfl) (by decide)) (by walk_at "mem") (by walk_at "at") ?_
        intro t5
        refine T_itemW (c := iv (last.getD k 0)) (by walk_at "mem") (Int.natCast_nonneg _) (fit63 hklt (Nat.le_trans (Nat.le_of_eq hlen) (Nat.le_trans hz (by decide)))) (by rw [toNat0]; exact iv_get hklt) ?_
        intro t6
        refine T_cell (compLay (ns := [Str.ofString "k"]) F (by rfl) (by rfl) (by decide)) (by rfl) (by rfl) (by walk_at "mem") ?_; intro t7
        refine T_eq (T_truthy_bool ⟨fun e => ?_, fun e => ?_⟩)
        · have e' : (last.getD k 0 == (i : Int)) = true := by rw [← e]; congr 1; exact (cast0 i).symm
          refine T_BinOp (T_int fun t7 => T_BinOp (T_int fun t8 => ?_))
          refine T_ld (compLay (ns := [Str.ofString "k"]) F (by rfl) (by rfl) (by decide)) (by walk_at "mem") (by walk_at "at") ?_
          intro t9
          refine T_mul mul97 fun t11 => T_add fun t12 => ?_
          refine ⟨_, _, .int, ?_, hklt, ?_, rfl⟩
          · walk_at "le"
          · rw [List.range_succ, List.filter_append, List.filter_cons_of_pos (by exact e'), List.filter_nil]
            simp
        · have e' : (last.getD k 0 == (i : Int)) = false := by rw [← e]; congr 1; exact (cast0 i).symm
          refine ⟨_, ?_, hklt, ?_, rfl⟩
          · walk_at "le"
          · rw [List.range_succ, List.filter_append, List.filter_cons_of_neg (by rw [e']; decide), List.filter_nil]
            simp
      · rintro acc l2 D ⟨_, rfl, rfl⟩
        have e0 : (((List.range ((wk.map fun p => Value.ref p.1).length - 0)).filter fun k => last.getD k 0 == (i : Int)).map fun k => 21 + 97 * ((k : Nat) : Int)).map iv = (lvlB last i).map iv := by rw [lvlB, hlen, List.length_map, Nat.sub_zero]
        rw [e0]
        refine T_items_nil (T_append (by walk_at "rep") (by walk_at "cv") (by rw [List.length_map, hal]; exact Nat.le_trans (Nat.le_of_lt hi) (Nat.le_trans hz (by decide))) ?_)
        refine ⟨fun a e => (by cases e), T_execs_nil ⟨_, ?_, all ++ [(D, lvlB last i)], some (iv (0 + i : Nat)), ?_, rfl⟩⟩
        · simp only [rndL, List.map_append, List.map_cons, List.map_nil, List.append_assoc, List.cons_append, List.nil_append]
          walk_at "le"
        · rw [List.map_append, hall, List.range_succ, List.map_append]; rfl
    · rintro l1 ⟨all, cv0, hall, rfl⟩
      rw [List.length_map] at hall
      have hal : all.length = wk.length := by have := congrArg List.length hall; simpa using this
      have m_all : ∀ p ∈ all, (p.1, Lst (p.2.map iv)) ∈ rndL all := fun p hp => List.mem_map.mpr ⟨p, hp, rfl⟩
      refine T_execs (T_Return (T_ListComp (cl := []) [Str.ofString "group"] [none] (by rfl) (by decide) rfl (T_ld F (by walk_at "mem") (by walk_at "at") ?_)))
      refine T_iter_list (by walk_at "mem") fun it2 => ?_
      refine Comp.list (vs := all.map fun p => .ref p.1) (fun k acc l2 => k ≤ all.length ∧ acc = (((all.take k).filter fun p => !p.2.isEmpty).map fun p => .ref p.1) ∧ l2 = (L, IsNs [Str.ofString "walks", Str.ofString "walk", Str.ofString "k", Str.ofString "rounds"] [some (.ref W), none, none, some (.ref Rn)]) :: (Rn, Lst (all.map fun p => .ref p.1)) :: (la, LstW (last.map iv)) :: (L + 1, Cel (some (.ref la))) :: (L + 2, Cel cv0) :: (rndL all ++ pre)) ax.hd ⟨Nat.zero_le _, rfl, rfl⟩ ?_ ?_ ?_
      · rintro k acc l2 ⟨hk, rfl, rfl⟩
        refine ⟨?_, by walk_at "mem"⟩
        have h1 := List.length_filter_le (fun p : Addr × List Int => !p.2.isEmpty) (all.take k)
        have h2 : (all.take k).length ≤ all.length := List.length_take_le' ..
        simp only [List.length_map]
        exact Nat.le_trans h1 (Nat.le_trans h2 (Nat.le_trans (Nat.le_of_eq hal) (Nat.le_trans hz (by decide))))
      · rintro k acc l2 D C c hc ⟨hk, rfl, rfl⟩
        rw [List.getElem?_map] at hc
        obtain ⟨p, hp, rfl⟩ := Option.map_eq_some_iff.mp hc
        have hpm : p ∈ all := List.mem_of_getElem? hp
        have m_p : (p.1, Lst (p.2.map iv)) ∈ rndL all := m_all p hpm
        have hklt : k < all.length := (List.getElem?_eq_some_iff.mp hp).1
        refine T_assignName (T_st (compLay (ns := [Str.ofString "group"]) F (by rfl) (by rfl) (by decide)) (by walk_at "mem") (by walk_at "cv") (by walk_at "put") (by walk_at "rep") ?_)
        refine T_tests1 (T_isCompare (T_ld (compLay (ns := [Str.ofString "group"]) F (by rfl) (by rfl) (by decide)) (by walk_at "mem") (by walk_at "at") ?_))
        refine T_List (T_items_nil ⟨(Nat.le_of_ble_eq_true rfl), fun N => ?_⟩)
        refine T_neNil (b := N) (xs := p.2.map iv) (ax.deeper (env := callEnvC _ L 223)).unit (by walk_at "mem") (by exact List.Mem.head _) (T_truthy_bool ⟨fun e => ?_, fun e => ?_⟩)
        · have e' : (!p.2.isEmpty) = true := by simpa using e
          refine T_ld (compLay (ns := [Str.ofString "group"]) F (by rfl) (by rfl) (by decide)) (by walk_at "mem") (by walk_at "at") ?_
          refine ⟨_, _, .ref, ?_, hklt, ?_, rfl⟩
          · walk_at "le"
          · rw [List.take_add_one, hp, Option.toList_some, List.filter_append, List.filter_cons_of_pos (by exact e'), List.filter_nil, List.map_append]; rfl
        · have e' : (!p.2.isEmpty) = false := by simpa using e
          refine ⟨_, ?_, hklt, ?_, rfl⟩
          · walk_at "le"
          · rw [List.take_add_one, hp, Option.toList_some, List.filter_append, List.filter_cons_of_neg (by rw [e']; decide), List.filter_nil, List.append_nil]
      · rintro acc l2 D ⟨_, rfl, rfl⟩
        refine ⟨_, ?_, h D all hall⟩
        rw [List.take_of_length_le (by simp)]
        walk_at "le"

end
end
section
section
variable {G : Gd} {A : Around} {E : Value → Led → Prop} {l l' : Led} {env : Env} {pos : Pos}
/-- what the reply of the server at a tells -/
noncomputable def told (x : Int) : Bool := decide (x.fmod 24 < 12)
noncomputable def tgt (n : Nat) (x : Int) : Int := (x.fdiv 24).fmod n
noncomputable def walkFrom (xs : List Int) : Nat → Int → List Int
  | 0, a => [a]
  | f + 1, a => a :: (if told (xs.getD a.toNat 0) then walkFrom xs f (tgt xs.length (xs.getD a.toNat 0)) else [])
noncomputable def walksOf (xs : List Int) : List (List Int) := (List.range xs.length).map fun (s : Nat) => walkFrom xs xs.length (s : Int)
theorem tgt_range {n : Nat} (x : Int) (h : 0 < n) : 0 ≤ tgt n x ∧ tgt n x < n :=
  ⟨Int.fmod_nonneg_of_pos _ (by omega), Int.fmod_lt_of_pos _ (by omega)⟩
noncomputable abbrev wkL (wk : List (Addr × List Int)) : Led := wk.map fun p => (p.1, Lst (p.2.map iv))
theorem walks_spec {N : Addr} {xs : List Int} {pre : Led} {Q : Value → Led → Prop} (ax : Ax A 1) (hz : xs.length ≤ 20) (hN : (N, Lst (xs.map iv)) ∈ pre)
    (h : ∀ W wk, wk.map (·.2) = walksOf xs → Q (.ref W) ((W, Lst (wk.map fun p => .ref p.1)) :: (wkL wk ++ pre))) :
    TT G A (call (.ref 213) [.ref N]) Q E pre := by
  refine T_def [Str.ofString "walks", Str.ofString "start", Str.ofString "walk"] (ns := [Str.ofString "numbers", Str.ofString "walks", Str.ofString "start", Str.ofString "walk"]) (vs := [some (.ref N), none, none, none]) ax.room (by exact rfl) rfl rfl rfl rfl (by kernel_rfl) ⟨rfl, rfl, rfl, rfl, rfl⟩ fun L F => ?_
  have e20 : 100 ≤ sizeLine := by decide
  have hxl : (xs.map iv).length = xs.length := List.length_map ..
  have hx30 : xs.length ≤ 30 := Nat.le_trans hz (by decide)
  have hxz : (xs.map iv).length ≤ 20 := by rw [hxl]; exact hz
  refine T_execs (T_Assign (T_List (T_items_nil ⟨(Nat.le_of_ble_eq_true rfl), fun W => ?_⟩)))
  refine T_st F (by walk_at "mem") (by walk_at "cv") (by walk_at "put") (by walk_at "rep") ?_
  refine TT.le (l' := (L, IsNs [Str.ofString "numbers", Str.ofString "walks", Str.ofString "start", Str.ofString "walk"] [some (.ref N), some (.ref W), none, none]) :: (W, Lst []) :: pre) (.perm (.swap ..)) ?_
  refine T_execs (T_for (T_Call (T_blt F b_range (by rfl) ?_)))
  refine T_cw Callee.type (T_items (T_Call (T_blt F b_len (by rfl) ?_)))
  refine T_cw Callee.builtin (T_items (T_ld F (by walk_at "mem") (by walk_at "at") ?_))
  refine T_items_nil (T_len (by walk_at "mem") (Nat.le_trans hxz (by decide)) fun t1 => ?_)
  refine T_items_nil (T_range1 fun r => ?_)
  refine T_iter_range (by walk_at "mem") (Nat.zero_le _) (Nat.le_trans hxz (by decide)) fun it => ?_
  refine Loop.le (l' := (it, RIt 0 (xs.map iv).length 0) :: (L, IsNs [Str.ofString "numbers", Str.ofString "walks", Str.ofString "start", Str.ofString "walk"] [some (.ref N), some (.ref W), none, none]) :: (W, Lst []) :: pre) (by walk_at "le") ?_
  refine Loop.range (fun j l1 => ∃ wk, wk.map (·.2) = (List.range j).map (fun (s : Nat) => walkFrom xs xs.length (s : Int)) ∧ l1 = (L, IsNs [Str.ofString "numbers", Str.ofString "walks", Str.ofString "start", Str.ofString "walk"] [some (.ref N), some (.ref W), none, none]) :: (W, Lst (wk.map fun p => .ref p.1)) :: (wkL wk ++ pre)) ax.hd (Nat.zero_le _) ⟨[], rfl, rfl⟩ ?_ ?_ ?_
  · rintro i l1 ⟨wk, _, rfl⟩
    exact ⟨_, .head _⟩
  · rintro i l1 hi ⟨wk, hwk, rfl⟩ t2
    rw [hxl] at hi
    have hi' : i < xs.length := hi
    have hwl : wk.length = i := by have := congrArg List.length hwk; simpa using this
    refine T_assignName (T_st F (by walk_at "mem") (by walk_at "cv") (by walk_at "put") (by walk_at "rep") ?_)
    refine T_execs (T_Assign (T_List (T_items (T_ld F (by walk_at "mem") (by walk_at "at") ?_))))
    intro t3
    refine T_items_nil ⟨(Nat.le_of_ble_eq_true rfl), fun wa => ?_⟩
    refine T_st F (by walk_at "mem") (by walk_at "cv") (by walk_at "put") (by walk_at "rep") ?_
    refine TT.as (l' := (wa, Lst [iv (0 + i : Nat)]) :: (it, RIt 0 (xs.map iv).length (i + 1)) :: (L, IsNs [Str.ofString "numbers", Str.ofString "walks", Str.ofString "start", Str.ofString "walk"] [some (.ref N), some (.ref W), some (iv (0 + i : Nat)), some (.ref wa)]) :: (W, Lst (wk.map fun p => .ref p.1)) :: (wkL wk ++ pre)) rfl ?_
    rw [Nat.zero_add]
    refine T_cut (fun l2 => l2 = (wa, Lst ((walkFrom xs xs.length (i : Int)).map iv)) :: (it, RIt 0 (xs.map iv).length (i + 1)) :: (L, IsNs [Str.ofString "numbers", Str.ofString "walks", Str.ofString "start", Str.ofString "walk"] [some (.ref N), some (.ref W), none, some (.ref wa)]) :: (W, Lst (wk.map fun p => .ref p.1)) :: (wkL wk ++ pre)) ?_ ?_
    · refine T_while (fun m l2 => ∃ w a, m + w.length = xs.length ∧ w ++ walkFrom xs m a = walkFrom xs xs.length (i : Int) ∧ 0 ≤ a ∧ a < xs.length ∧ l2 = (wa, Lst (w.map iv ++ [iv a])) :: (it, RIt 0 (xs.map iv).length (i + 1)) :: (L, IsNs [Str.ofString "numbers", Str.ofString "walks", Str.ofString "start", Str.ofString "walk"] [some (.ref N), some (.ref W), some (iv (i : Nat)), some (.ref wa)]) :: (W, Lst (wk.map fun p => .ref p.1)) :: (wkL wk ++ pre)) xs.length ⟨[], (i : Int), rfl, rfl, by omega, by omega, rfl⟩ ?_
      rintro m l2 ⟨w, a, hm, hw, ha, ha', rfl⟩
      have hwz : (w.map iv ++ [iv a]).length = w.length + 1 := by simp
      have neg : (w.map iv ++ [iv a])[(-1 + ((w.map iv ++ [iv a]).length : Int)).toNat]? = some (iv a) := by
        rw [show (-1 + ((w.map iv ++ [iv a]).length : Int)).toNat = (w.map iv).length by rw [hwz, List.length_map]; exact neg1 _, List.getElem?_append_right (Nat.le_refl _)]; simp
      have hax : a.toNat < xs.length := toNatLt ha ha'
      have hw21 : (w.map iv ++ [iv a]).length ≤ 21 := by rw [hwz]; exact Nat.add_le_add_right (Nat.le_trans (hm ▸ Nat.le_add_left _ _) hz) 1
      refine T_isBoolOp (T_and_cons (T_isCompare (T_Call (T_blt F b_len (by rfl) ?_))))
      refine T_cw Callee.builtin (T_items (T_ld F (by walk_at "mem") (by walk_at "at") ?_))
      refine T_items_nil (T_len (by walk_at "mem") (Nat.le_trans hw21 (by decide)) fun t4 => ?_)
      refine T_Call (T_blt F b_len (by rfl) ?_)
      refine T_cw Callee.builtin (T_items (T_ld F (by walk_at "mem") (by walk_at "at") ?_))
      refine T_items_nil (T_len (by walk_at "mem") (Nat.le_trans hxz (by decide)) fun t5 => ?_)
      refine T_le (T_truthy_bool ⟨fun e1 => ?_, fun e1 => ?_⟩)
      · refine T_and_cons (T_isCompare (T_BinOp (T_Sub (T_ld F (by walk_at "mem") (by walk_at "at") ?_))))
        refine T_Sub (T_ld F (by walk_at "mem") (by walk_at "at") ?_)
        refine T_UnaryOp (T_int fun t6 => T_neg fun t7 => ?_)
        refine T_itemNeg (c := iv a) (by walk_at "mem") (by decide) (by rw [hwz]; exact negle _) (by decide) neg ?_
        intro t8
        refine T_item (c := iv (xs.getD a.toNat 0)) (by walk_at "mem") ha (fitZ ha' hx30) (iv_get hax) ?_
        intro t9
        refine T_int fun t10 => T_mod (by decide) fun t11 => ?_
        refine T_int fun t12 => T_lt (T_truthy_bool ⟨fun e2 => ?_, fun e2 => ?_⟩)
        · have e1' := of_decide_eq_true e1
          obtain ⟨m, rfl⟩ : ∃ k, m = k + 1 := by rw [hwz, hxl] at e1'; exact succ_of hm e1'
          have e2' : told (xs.getD a.toNat 0) = true := e2
          have hx0 : 0 < xs.length := Nat.lt_of_le_of_lt (Nat.zero_le _) hax
          have hst : w ++ [a] ++ walkFrom xs m (tgt xs.length (xs.getD a.toNat 0)) = walkFrom xs xs.length (i : Int) := by
            rw [← hw, walkFrom, e2']; simp
          refine T_and_nil (Br.tt rfl ?_)
          refine T_execs (T_Expr (T_MCall (T_ld F (by walk_at "mem") (by walk_at "at") ?_)))
          refine gm_append (by walk_at "mem") ?_
          refine T_cw Callee.builtin (T_items (T_BinOp (T_BinOp (T_Sub (T_ld F (by walk_at "mem") (by walk_at "at") ?_)))))
          refine T_Sub (T_ld F (by walk_at "mem") (by walk_at "at") ?_)
          refine T_UnaryOp (T_int fun t6 => T_neg fun t7 => ?_)
          refine T_itemNeg (c := iv a) (by walk_at "mem") (by decide) (by rw [hwz]; exact negle _) (by decide) neg ?_
          intro t8
          refine T_item (c := iv (xs.getD a.toNat 0)) (by walk_at "mem") ha (fitZ ha' hx30) (iv_get hax) ?_
          intro t9
          refine T_int fun t10 => T_fdiv (by decide) (PyProof.noPylong_small (by decide)) fun t11 => ?_
          refine T_Call (T_blt F b_len (by rfl) ?_)
          refine T_cw Callee.builtin (T_items (T_ld F (by walk_at "mem") (by walk_at "at") ?_))
          refine T_items_nil (T_len (by walk_at "mem") (Nat.le_trans hxz (by decide)) fun t12 => ?_)
          refine T_mod (by rw [hxl]; exact castne hx0) fun t13 => ?_
          refine T_items_nil (T_append (by walk_at "rep") (by walk_at "cv") (Nat.le_trans hw21 (by decide)) ?_)
          refine ⟨fun a e => (by cases e), T_execs_nil ⟨m, _, Nat.lt_succ_self m, Le.refl _, w ++ [a], tgt xs.length (xs.getD a.toNat 0), by rw [List.length_append]; exact addR hm, hst, (tgt_range _ hx0).1, (tgt_range _ hx0).2, ?_⟩⟩
          rw [tgt, List.map_append, hxl]; rfl
        · have e2' : told (xs.getD a.toNat 0) = false := e2
          refine Br.ff rfl (T_execs_nil ⟨_, ?_, rfl⟩)
          have : walkFrom xs m a = [a] := by cases m with | zero => rfl | succ m => rw [walkFrom, e2']; rfl
          rw [← hw, this, List.map_append]
          refine Le.pick Tk.head ?_
          walk_at "le"
      · have e1' := of_decide_eq_false e1
        have hm0 : m = 0 := by rw [hwz, hxl] at e1'; exact zero_of hm e1'
        subst hm0
        refine Br.ff rfl (T_execs_nil ⟨_, ?_, rfl⟩)
        rw [← hw, walkFrom, List.map_append]
        refine Le.pick Tk.head ?_
        walk_at "le"
    · rintro l2 rfl
      refine T_execs (T_Expr (T_MCall (T_ld F (by walk_at "mem") (by walk_at "at") ?_)))
      refine gm_append (by walk_at "mem") ?_
      refine T_cw Callee.builtin (T_items (T_ld F (by walk_at "mem") (by walk_at "at") ?_))
      refine T_items_nil (T_append (by walk_at "rep") (by walk_at "cv") (by rw [List.length_map, hwl]; exact Nat.le_trans (Nat.le_of_lt hi') (Nat.le_trans hz (by decide))) ?_)
      refine ⟨fun a e => (by cases e), T_execs_nil ⟨_, ?_, wk ++ [(wa, walkFrom xs xs.length (i : Int))], ?_, rfl⟩⟩
      · simp only [wkL, List.map_append, List.map_cons, List.map_nil, List.append_assoc, List.cons_append, List.nil_append]
        walk_at "le"
      · rw [List.map_append, hwk, List.range_succ, List.map_append]; rfl
  · rintro l1 ⟨wk, hwk, rfl⟩
    rw [hxl, Nat.sub_zero] at hwk
    refine T_execs (T_Return (T_ld F (by walk_at "mem") (by walk_at "at") ?_))
    exact ⟨_, .drop (Le.refl _), h W wk hwk⟩

end
end
section
section
variable {G : Gd} {A : Around} {E : Value → Led → Prop} {l l' : Led} {env : Env} {pos : Pos}
theorem seqIndex_nat {k : Int} {n : Nat} (h0 : 0 ≤ k) (h : k.toNat < n) : seqIndex? k n = some k.toNat := by
  have e : (if k < 0 then k + n else k) = k := if_neg (by omega)
  show (if (decide (0 ≤ (if k < 0 then k + n else k)) && decide ((if k < 0 then k + (n : Int) else k) < n)) = true then some (if k < 0 then k + (n : Int) else k).toNat else none) = _
  rw [e, if_pos (by simp; omega)]
theorem T_itemT {a : Addr} {vs : List Value} {value slice : Expr} {k : Int} {u : Tok} {c : Value} {Q : Value → Led → Prop} (hm : (a, Tup vs) ∈ l) (h0 : 0 ≤ k) (hfit : k < 2 ^ 63) (hx : vs[k.toNat]? = some c) (h : Any c fun v => Q v l)
    (hs : subscripted slice false (.ref a) (.int k u) = operate [.ref a, .int k u] (getItem (.ref a) (.int k u)) := by with_unfolding_all rfl) :
    TT G A (subscriptTail value slice (.ref a) (.int k u)) Q E l :=
  ⟨fun s M => by
    obtain ⟨xs, ht, e, hn⟩ := tup_at M hm
    have hx' := hx
    rw [← e, List.getElem?_map] at hx'
    obtain ⟨v, hv, hcv⟩ := Option.map_eq_some_iff.mp hx'
    have hv' : xs[k.toNat]? = some v := by rw [← Array.getElem?_toList]; exact hv
    have hlt : k.toNat < xs.size := (Array.getElem?_eq_some_iff.mp hv').1
    have hq := any_of_cv hcv h
    have ht' : IsTup s.heap a xs := ht
    exact tail_any ht.typeIs slot_tuple_getitem.lookup (getItem_tuple ht' (by omega) hfit (j := k.toNat) (seqIndex_nat h0 hlt) hv' ⟨l, M, hq⟩) hs⟩
-- answers
inductive Ans
  | told (p : Int)
  | reply (t : Str)
  | proto (t : Str)
  | bad
structure AR where
  a : Addr
  tu : Addr
  v : Ans
noncomputable abbrev sv (x : Str) : Value := .str x 0
noncomputable def ansV (tu : Addr) : Ans → List Value
  | .told _ => [sv (Str.ofString "told"), .ref tu]
  | .reply t => [sv (Str.ofString "reply"), sv t]
  | .proto t => [sv (Str.ofString "proto"), sv t]
  | .bad => [sv (Str.ofString "no number")]
noncomputable def ansT (host : Str) (tu : Addr) : Ans → Led
  | .told p => [(tu, Tup [sv host, iv p])]
  | _ => []
noncomputable def ansE (host : Str) (r : AR) : Led := (r.a, Lst (ansV r.tu r.v)) :: ansT host r.tu r.v
noncomputable abbrev ansL (host : Str) (rows : List AR) : Led := rows.flatMap (ansE host)
noncomputable def tgts : Ans → List Int
  | .told p => [p]
  | _ => []
theorem table_spec {P An : Addr} {host : Str} {ps : List Int} {rows : List AR} {pre : Led} {Q : Value → Led → Prop} (ax : Ax A 1) (hz : rows.length ≤ 20) (hlen : ps.length = rows.length) (hnd : ps.Nodup)
    (hP : (P, Lst (ps.map iv)) ∈ pre) (hA : (An, Lst (rows.map fun r => .ref r.a)) ∈ pre) (hin : ∀ r ∈ rows, ∀ e ∈ ansE host r, e ∈ pre)
    (h : ∀ T ts, ts.map (fun (t : TR) => (t.p, t.ps)) = (ps.zip rows).map (fun q => (q.1, tgts q.2.v)) → Q (.ref T) ((T, Dct G.w T (tabK ts)) :: (tabL ts ++ pre))) :
    TT G A (call (.ref 230) [.ref P, .ref An]) Q E pre := by
  refine T_def [Str.ofString "table", Str.ofString "port", Str.ofString "answer"] (ns := [Str.ofString "ports", Str.ofString "answers", Str.ofString "table", Str.ofString "port", Str.ofString "answer"]) (vs := [some (.ref P), some (.ref An), none, none, none]) ax.room (by exact rfl) rfl rfl rfl rfl (by kernel_rfl) ⟨rfl, rfl, rfl, rfl, rfl⟩ fun L F => ?_
  have e20 : 100 ≤ sizeLine := by decide
  refine T_execs (T_Assign (T_dnew fun T => ?_))
  refine T_st F (by walk_at "mem") (by walk_at "cv") (by walk_at "put") (by walk_at "rep") ?_
  refine TT.le (l' := (L, IsNs [Str.ofString "ports", Str.ofString "answers", Str.ofString "table", Str.ofString "port", Str.ofString "answer"] [some (.ref P), some (.ref An), some (.ref T), none, none]) :: (T, Dct G.w T []) :: pre) (by walk_at "le") ?_
  refine T_execs (T_for (T_Call (T_blt F b_zip (by rfl) ?_)))
  refine T_cw Callee.type (T_items (T_ld F (by walk_at "mem") (by walk_at "at") ?_))
  refine T_items (T_ld F (by walk_at "mem") (by walk_at "at") ?_)
  refine T_items_nil (T_zip (us := ps.map iv) (ws := rows.map fun r => .ref r.a) (by walk_at "mem") (by walk_at "mem") fun z TI TO i1 i2 => ?_)
  refine T_iter_zip ?_
  refine Loop.zip (us := ps.map iv) (ws := rows.map fun r => .ref r.a) (fun j l1 => ∃ ts, ts.map (fun (t : TR) => (t.p, t.ps)) = ((ps.zip rows).take j).map (fun q => (q.1, tgts q.2.v)) ∧ l1 = (L, IsNs [Str.ofString "ports", Str.ofString "answers", Str.ofString "table", Str.ofString "port", Str.ofString "answer"] [some (.ref P), some (.ref An), some (.ref T), none, none]) :: (T, Dct G.w T (tabK ts)) :: (tabL ts ++ pre)) (by rw [List.length_map, List.length_map, hlen]) ax.hd ⟨[], rfl, rfl⟩ ?_ ?_ ?_
  · rintro i l1 ⟨ts, _, rfl⟩
    exact ⟨(by walk_at "mem"), (by walk_at "mem")⟩
  · rintro i l1 c d hc hd ⟨ts, hts, rfl⟩ tu
    rw [List.getElem?_map] at hc hd
    obtain ⟨p, hp, rfl⟩ := Option.map_eq_some_iff.mp hc
    obtain ⟨r, hr, rfl⟩ := Option.map_eq_some_iff.mp hd
    have hil : i < rows.length := (List.getElem?_eq_some_iff.mp hr).1
    have hzi : (ps.zip rows)[i]? = some (p, r) := List.getElem?_zip_eq_some.mpr ⟨hp, hr⟩
    have htl : ts.length ≤ 20 := by
      have := congrArg List.length hts
      simp only [List.length_map, List.length_take] at this
      exact Nat.le_trans (Nat.le_of_eq this) (Nat.le_trans (Nat.min_le_left ..) (Nat.le_trans (Nat.le_of_lt hil) hz))
    have hnew : valueAt (tabK ts) p = none := by
      unfold valueAt
      rw [Option.map_eq_none_iff, List.find?_eq_none]
      intro kv hkv e
      obtain ⟨t, ht, rfl⟩ := List.mem_map.mp hkv
      have e' : t.p = p := by simpa using e
      have : (t.p, t.ps) ∈ ((ps.zip rows).take i).map (fun q => (q.1, tgts q.2.v)) := hts ▸ List.mem_map_of_mem (f := fun (t : TR) => (t.p, t.ps)) ht
      obtain ⟨q, hq, hqe⟩ := List.mem_map.mp this
      obtain ⟨k, hk, hqk⟩ := List.getElem_of_mem hq
      rw [List.getElem_take, List.getElem_zip] at hqk
      have hkl := hk
      rw [List.length_take, List.length_zip] at hkl
      have hkp : k < ps.length := Nat.lt_of_lt_of_le hkl (Nat.le_trans (Nat.min_le_right ..) (Nat.min_le_left ..))
      have hq1 : ps[k]'hkp = p := by rw [← hqk] at hqe; have := congrArg Prod.fst hqe; exact this.trans e'
      obtain ⟨hpi, hpe⟩ := List.getElem?_eq_some_iff.mp hp
      have := List.pairwise_iff_getElem.mp hnd k i hkp hpi (Nat.lt_of_lt_of_le hkl (Nat.min_le_left ..))
      exact this (hq1.trans hpe.symm)
    have m_a : (r.a, Lst (ansV r.tu r.v)) ∈ pre := hin r (List.mem_of_getElem? hr) _ (.head _)
    refine TT.le (l' := (tu, Tup [iv p, .ref r.a]) :: (L, IsNs [Str.ofString "ports", Str.ofString "answers", Str.ofString "table", Str.ofString "port", Str.ofString "answer"] [some (.ref P), some (.ref An), some (.ref T), none, none]) :: (zipSeg z TI TO i1 i2 P An .none (i + 1) ++ ((T, Dct G.w T (tabK ts)) :: (tabL ts ++ pre)))) (by walk_at "le") ?_
    refine T_assignPair ax.hd (by exact .head _) ?_
    intro t1
    refine T_assignName (T_st F (by walk_at "mem") (by walk_at "cv") (by walk_at "put") (by walk_at "rep") ?_)
    refine T_assignName (T_st F (by walk_at "mem") (by walk_at "cv") (by walk_at "put") (by walk_at "rep") ?_)
    have fin : ∀ (la : Addr) (l2 : Led) (qs : List Int), qs = tgts r.v → Le l2 ((L, IsNs [Str.ofString "ports", Str.ofString "answers", Str.ofString "table", Str.ofString "port", Str.ofString "answer"] [some (.ref P), some (.ref An), some (.ref T), none, none]) :: (T, Dct G.w T (stored (tabK ts) p (.ref la))) :: (la, Lst (qs.map iv)) :: (zipSeg z TI TO i1 i2 P An .none (i + 1) ++ (tabL ts ++ pre))) →
        ∃ l', Le l2 (zipSeg z TI TO i1 i2 P An .none (i + 1) ++ l') ∧ ∃ ts, ts.map (fun (t : TR) => (t.p, t.ps)) = ((ps.zip rows).take (i + 1)).map (fun q => (q.1, tgts q.2.v)) ∧ l' = (L, IsNs [Str.ofString "ports", Str.ofString "answers", Str.ofString "table", Str.ofString "port", Str.ofString "answer"] [some (.ref P), some (.ref An), some (.ref T), none, none]) :: (T, Dct G.w T (tabK ts)) :: (tabL ts ++ pre) := by
      intro la l2 qs hq hle
      refine ⟨_, ?_, ts ++ [⟨p, la, qs⟩], ?_, rfl⟩
      · refine hle.trans ?_
        rw [stored_new hnew]
        simp only [tabK, tabL, List.map_append, List.map_cons, List.map_nil, List.append_assoc, List.cons_append, List.nil_append]
        walk_at "le"
      · rw [List.take_add_one, hzi, Option.toList_some, List.map_append, List.map_append, hts, hq]; rfl
    cases hv : r.v with
    | told q =>
      have m_t : (r.tu, Tup [sv host, iv q]) ∈ pre := hin r (List.mem_of_getElem? hr) _ (.tail _ (by rw [hv]; exact .head _))
      rw [hv] at m_a fin
      refine T_execs (T_AssignSub (T_IfExp (T_isCompare (T_Sub (T_ld F (by walk_at "mem") (by walk_at "at") ?_)))))
      refine T_int fun t2 => T_item (c := sv (Str.ofString "told")) (by walk_at "mem") (by decide) (by decide) (by rfl) ?_
      intro t3
      refine T_str fun t4 => T_str_eq (T_truthy_bool (Br.tt (by rw [beq_self_eq_true]) ?_))
      refine T_List (T_items (T_Sub (T_Sub (T_ld F (by walk_at "mem") (by walk_at "at") ?_))))
      refine T_int fun t5 => T_item (c := .ref r.tu) (by walk_at "mem") (by decide) (by decide) (by rfl) ?_
      refine T_int fun t6 => T_itemT (c := iv q) (by walk_at "mem") (by decide) (by decide) (by rfl) ?_
      intro t7
      refine T_items_nil ⟨(Nat.le_of_ble_eq_true rfl), fun la => ?_⟩
      refine T_ld F (by walk_at "mem") (by walk_at "at") ?_
      refine T_ld F (by walk_at "mem") (by walk_at "at") ?_
      intro t8
      refine T_dset (by walk_at "rep") (by walk_at "cv") (by rw [List.length_map]; exact Nat.le_trans htl (by decide)) ?_
      refine T_execs_nil (fin la _ [q] rfl ?_)
      show Le ((la, Lst ([q].map iv)) :: _) _
      walk_at "le"
    | reply x =>
      rw [hv] at m_a fin
      refine T_execs (T_AssignSub (T_IfExp (T_isCompare (T_Sub (T_ld F (by walk_at "mem") (by walk_at "at") ?_)))))
      refine T_int fun t2 => T_item (c := sv (Str.ofString "reply")) (by walk_at "mem") (by decide) (by decide) (by rfl) ?_
      intro t3
      refine T_str fun t4 => T_str_eq (T_truthy_bool (Br.ff (by decide +kernel) ?_))
      refine T_List (T_items_nil ⟨(Nat.le_of_ble_eq_true rfl), fun la => ?_⟩)
      refine T_ld F (by walk_at "mem") (by walk_at "at") ?_
      refine T_ld F (by walk_at "mem") (by walk_at "at") ?_
      intro t8
      refine T_dset (by walk_at "rep") (by walk_at "cv") (by rw [List.length_map]; exact Nat.le_trans htl (by decide)) ?_
      refine T_execs_nil (fin la _ [] rfl ?_)
      show Le ((la, Lst (([] : List Int).map iv)) :: _) _
      walk_at "le"
    | proto x =>
      rw [hv] at m_a fin
      refine T_execs (T_AssignSub (T_IfExp (T_isCompare (T_Sub (T_ld F (by walk_at "mem") (by walk_at "at") ?_)))))
      refine T_int fun t2 => T_item (c := sv (Str.ofString "proto")) (by walk_at "mem") (by decide) (by decide) (by rfl) ?_
      intro t3
      refine T_str fun t4 => T_str_eq (T_truthy_bool (Br.ff (by decide +kernel) ?_))
      refine T_List (T_items_nil ⟨(Nat.le_of_ble_eq_true rfl), fun la => ?_⟩)
      refine T_ld F (by walk_at "mem") (by walk_at "at") ?_
      refine T_ld F (by walk_at "mem") (by walk_at "at") ?_
      intro t8
      refine T_dset (by walk_at "rep") (by walk_at "cv") (by rw [List.length_map]; exact Nat.le_trans htl (by decide)) ?_
      refine T_execs_nil (fin la _ [] rfl ?_)
      show Le ((la, Lst (([] : List Int).map iv)) :: _) _
      walk_at "le"
    | bad =>
      rw [hv] at m_a fin
      refine T_execs (T_AssignSub (T_IfExp (T_isCompare (T_Sub (T_ld F (by walk_at "mem") (by walk_at "at") ?_)))))
      refine T_int fun t2 => T_item (c := sv (Str.ofString "no number")) (by walk_at "mem") (by decide) (by decide) (by rfl) ?_
      intro t3
      refine T_str fun t4 => T_str_eq (T_truthy_bool (Br.ff (by decide +kernel) ?_))
      refine T_List (T_items_nil ⟨(Nat.le_of_ble_eq_true rfl), fun la => ?_⟩)
      refine T_ld F (by walk_at "mem") (by walk_at "at") ?_
      refine T_ld F (by walk_at "mem") (by walk_at "at") ?_
      intro t8
      refine T_dset (by walk_at "rep") (by walk_at "cv") (by rw [List.length_map]; exact Nat.le_trans htl (by decide)) ?_
      refine T_execs_nil (fin la _ [] rfl ?_)
      show Le ((la, Lst (([] : List Int).map iv)) :: _) _
      walk_at "le"
  · rintro l1 ⟨ts, hts, rfl⟩
    refine T_execs (T_Return (T_ld F (by walk_at "mem") (by walk_at "at") ?_))
    refine ⟨_, .drop (Le.refl _), h T ts ?_⟩
    rw [hts, List.take_of_length_le (by rw [List.length_zip, List.length_map]; omega)]

end
end
section
section
variable {G : Gd} {A : Around} {E : Value → Led → Prop} {l l' : Led} {env : Env} {pos : Pos}
theorem Mod.raise {s : Shared} {n : Nat} (M : Mod G l s) (h : n ≤ s.toks) : Mod { G with lo := n } l s := ⟨⟨M.ok.X, M.ok.T⟩, M.keep, M.led, M.nd, M.gens, M.os, h⟩
theorem Mod.lower {s : Shared} {n : Nat} (M : Mod { G with lo := n } l s) (h : G.lo ≤ n) : Mod G l s := ⟨⟨M.ok.X, M.ok.T⟩, M.keep, M.led, M.nd, M.gens, M.os, Nat.le_trans h M.tok⟩
theorem TT.lowered {α : Type} {t : Sem α} {Q : α → Led → Prop} {s : Shared} {n : Nat} (h : TT { G with lo := n } A t Q E l) (hn : G.lo ≤ n) (M : Mod G l s) (hs : n ≤ s.toks) :
    wpAny (model prg G.w) A t (fun v s' => ∃ l', Mod G l' s' ∧ Q v l') (fun e s' => ∃ l', Mod G l' s' ∧ E e l') s :=
  wpAny_mono (h.go s (M.raise hs)) (fun _ _ ⟨l', m, q⟩ => ⟨l', m.lower hn, q⟩) fun _ _ ⟨l', m, q⟩ => ⟨l', m.lower hn, q⟩
/-- an argument that is a written text: what comes behind has later tokens -/
theorem T_itemsC {x : Str} {k : Nat} {p : Pos} {rest : List Expr} {Q : List Value → Led → Prop} (h : ∀ u, G.lo ≤ u → TT { G with lo := u + 1 } A (spliced (backTo pos (starEach rest env))) (fun vs l₂ => Q (.str x u :: vs) l₂) E l)
    (he : starEach (.Constant (.str x) k p :: rest) env = (false, eval (.Constant (.str x) k p) env) :: starEach rest env := by rfl) : TT G A (spliced (backTo pos (starEach (.Constant (.str x) k p :: rest) env))) Q E l :=
  ⟨fun s M => by
    refine wpAny_items_cons (wpAny_Constant_str ?_) he
    exact TT.lowered (h s.toks M.tok) (Nat.le_succ_of_le M.tok) (M.toks _) (Nat.le_refl _)⟩
/-- a def, its body under later tokens -/
theorem C_def1 {f : Addr} {fd : FuncData} {body : List Stmt} {args : List Value} {binds : List (Str × Value)} {oc : Value} {od : Option Addr} {osl : Array (Option Value)} (rest : List Str) {ns : List Str} {vs : List (Option Value)} {Q : Value → Led → Prop}
    (hroom : A.depth < recursionLimit) (ho : (KK G.w).lookup f = some ⟨oc, od, .func fd, osl⟩) (hb : fd.body = .stmts body)
    (hbind : ∀ s, (KK G.w).In s.heap → BindsTo s fd ⟨args, []⟩ binds) (hns : binds.map (·.1) ++ rest = ns) (hvs : binds.map (fun b => some (cv b.2)) ++ List.replicate rest.length none = vs)
    (hok : (codeIn (KK G.w) fd.code fd.qualname && (ns.all fun x => fd.scope.names.lookup x == some .local && !(x == ("__debug__" : Str))) && (fd.scope.names.all fun x => decide (x.2 ≠ .cell)) && decide ns.Nodup) = true)
    (hsc : fd.scope.isCoroutine = false ∧ fd.scope.isGenerator = false ∧ fd.scope.kind = .function ∧ fd.globals = mainGlobals ∧ fd.builtins = builtinsNs)
    (h : ∀ L, Lay (callEnv fd L f) L ns → TT { G with lo := G.lo + binds.length } (A.deeper (callEnv fd L f)) (execs body (callEnv fd L f)) (fun fl l' => ∃ l'', Le l' l'' ∧ Q (retv fl) l'') Ef ((L, IsNs ns vs) :: l)) :
    CT G A (.call (.ref f) ⟨args, []⟩) (fun r l' => ∃ v, r = .ok (.ret v) ∧ Q v l') l :=
  ⟨fun s M => by
    simp only [Bool.and_eq_true, decide_eq_true_eq] at hok
    obtain ⟨⟨⟨hcd, hnames⟩, hcell⟩, hnd⟩ := hok
    have hbn : ∀ x ∈ binds, fd.scope.names.lookup x.1 = some .local := fun x hx => by
      have hmem : x.1 ∈ ns := by rw [← hns]; exact List.mem_append_left _ (List.mem_map_of_mem (f := (·.1)) hx)
      have := List.all_eq_true.mp hnames x.1 hmem
      simp only [Bool.and_eq_true, beq_iff_eq] at this
      exact this.1
    refine (codeAny_call_def hroom (M.X _ _ ho) rfl M.T.nolimit (codeRec_of M.X hcd) hb (hbind s M.X) (fun x hx => of_decide_eq_true (List.all_eq_true.mp hcell x hx))
      hbn (fun h₁ hns₁ hk => ?_) hsc.1 hsc.2.1 hsc.2.2.1)
    have hlt : s.heap.objs.size < h₁.objs.size := hns₁.lt
    have F : Lay (callEnv fd s.heap.objs.size f) s.heap.objs.size ns := ⟨hsc.2.2.1, rfl, hsc.2.2.2.1, hsc.2.2.2.2, hnames, hnd⟩
    have M₁ : Mod G ((s.heap.objs.size, IsNs ns vs) :: l) { s with heap := h₁, toks := s.toks + binds.length } := by
      refine ⟨M.ok, fun b o e => hk b o (M.keep b o e), fun p hp => ?_, ?_, M.gens, M.os, Nat.le_trans M.tok (Nat.le_add_right _ _)⟩
      · rcases List.mem_cons.mp hp with rfl | hp
        · obtain ⟨o, a, b⟩ := isNs_of hns₁ (binds_at hns hvs.symm hnd)
          exact ⟨o, a, b, M.above (Nat.le_refl _)⟩
        · obtain ⟨o, a, b, c⟩ := M.led p hp
          exact ⟨o, hk _ _ a, b, c⟩
      · refine List.nodup_cons.mpr ⟨fun q => ?_, M.nd⟩
        obtain ⟨p, hp, e⟩ := List.mem_map.mp q
        obtain ⟨o, a, _⟩ := M.led p hp
        have := Heap.lt_size a
        rw [show p.1 = s.heap.objs.size from e] at this
        exact Nat.lt_irrefl _ this
    refine wpAny_mono ((h s.heap.objs.size F).go _ (M₁.raise (Nat.add_le_add_right M.tok _))) (fun fl s' hq => ?_) fun e s' hq => ?_
    · obtain ⟨l', m, l'', le, q⟩ := hq
      have m := m.lower (Nat.le_add_right _ _)
      cases fl <;> exact ⟨l'', m.le le, _, rfl, q⟩
    · obtain ⟨_, _, hf⟩ := hq
      exact hf.elim⟩
theorem T_strInt {a : Int} {t : Tok} {Q : Value → Led → Prop} (ha : a.natAbs.log2 < 1920) (h : ∀ t, G.lo ≤ t → Q (.str (toString a) t) l) : TT G A (call (.type "str") [.int a t]) Q E l :=
  ⟨fun s M => P.str_of_int ha ⟨l, M.toks _, h _ M.tok⟩⟩
theorem T_replace {x y z : Str} {t u v : Tok} {Q : Value → Led → Prop} (hu : u ≠ 0) (hv : v ≠ 0) (huv : u ≠ v) (hyz : (y == z) = false) (hb : x.length + (x.length + 1) * z.length ≤ 16777216) (h : ∀ t, Q (.str (Txt.replace x y z) t) l) :
    TT G A (call (.builtin "str.replace") [.str x t, .str y u, .str z v]) Q E l :=
  ⟨fun s M => wpAny_with_toks (Nat.le_refl _) (SC.replace hu hv huv hyz hb fun t' k htk => ⟨l, M.toks k htk, h _⟩)⟩
theorem gm_replace {x : Str} {t : Tok} {pl : Sem Bool} {Q : Value × List Value → Led → Prop} (h : Q (.builtin "str.replace", [.str x t]) l) : TT G A (getMethod (.str x t) (Str.ofString "replace") pl) Q E l :=
  ⟨fun s M => GM.replace ⟨l, M, h⟩⟩
theorem hfiL : fillsInplaceSlot (.type "list") "add" (Operator.Add == .Add) = pure false := by
  unfold fillsInplaceSlot
  show (typeLookup (.type "list") (dunderI "add") >>= fun fi => pure (fi.isSome && !isSeqSlot fi)) = pure false
  rw [F.slot_list_iadd.lookup]
  have e : isSeqSlot (some (.builtin "list.__iadd__")) = true := by decide +kernel
  show (pure (true && !isSeqSlot (some (.builtin "list.__iadd__"))) : Sem Bool) = pure false
  rw [e]; rfl
theorem hsiL : seqSlot? (.type "list") (dunderI "add") = pure (some (.builtin "list.__iadd__")) := PySem.seqSlot_of F.slot_list_iadd.lookup (by decide +kernel)
theorem T_iaddList {a b : Addr} {xs ys : List Value} {Q : Value → Led → Prop} (hr : Rep a (Lst xs) (Lst (xs ++ ys)) l l') (hb : (b, Lst ys) ∈ l) (hz : xs.length + ys.length ≤ 1000) (h : Q (.ref a) l') : TT G A (inplaceOp .Add (.ref a) (.ref b)) Q E l :=
  ⟨fun s M => by
    obtain ⟨us, n, hl, e, hn⟩ := lst_at M hr.mem
    obtain ⟨ws, n', hl', e', hn'⟩ := lst_at M hb
    have ha : s.TypeIs (.ref a) "list" := ⟨_, hl, rfl⟩
    have hbT : s.TypeIs (.ref b) "list" := ⟨_, hl', rfl⟩
    have sl : 1000 ≤ sizeLine := by decide
    have M' := M.update (f := Obj.mapSeq fun x => x ++ ws) hr (fun o ho => by
      obtain ⟨zs, k, rfl, ez⟩ := ho
      exact ⟨⟨zs ++ ws, _, rfl, by rw [Array.toList_append, List.map_append, ez, e']⟩, rfl⟩) s.toks
    unfold inplaceOp
    refine wpAny_holding ?_
    refine wpAny_bind (wpAny_typeOf ha (wpAny_bind (wpAny_of_eq hfiL ?_)))
    show wpAny _ A (if false = true then _ else _) _ _ s
    rw [if_neg Bool.false_ne_true]
    refine wpAny_bind (wpAny_binaryOp1_none (nm := "add") ha hbT noFill_list_add ?_)
    refine wpAny_bind (wpAny_of_eq hsiL ?_)
    refine wpAny_bind (wpAny_rule ?_)
    exact call_meets F.slot_list_iadd ha F.entry_list_iadd (F.args_list_iadd_2 _ _) (AutoSeq1.list___iadd___list_list_0 a us n b ws n' (by simp [Builtin.List.listTooLong]; omega) (by omega) (by omega)) ⟨hl, hl', l', M', h⟩⟩

end
end
section
section
variable {G : Gd} {A : Around} {E : Value → Led → Prop} {l l' : Led} {env : Env} {pos : Pos}
noncomputable def due (n : Nat) (x : Int) (t : Str) : Ans := if x.fmod 24 < 12 then .told (21 + 97 * tgt n x) else if x.fmod 12 < 3 then .reply t else if x.fmod 12 < 9 then .proto t else .bad
theorem dues_spec {N Rp : Addr} {host : Str} {th : Tok} {xs : List Int} {reps : List Str} {pre : Led} {Q : Value → Led → Prop} (ax : Ax A 1) (hz : xs.length ≤ 20) (hlen : xs.length = reps.length)
    (hN : (N, Lst (xs.map iv)) ∈ pre) (hR : (Rp, Lst (reps.map sv)) ∈ pre)
    (h : ∀ D rows, rows.map (fun (r : AR) => r.v) = (xs.zip reps).map (fun q => due xs.length q.1 q.2) → Q (.ref D) ((D, Lst (rows.map fun r => .ref r.a)) :: (ansL host rows ++ pre))) :
    TT G A (call (.ref 199) [.str host th, .ref N, .ref Rp]) Q E pre := by
  refine T_def [Str.ofString "dues", Str.ofString "x", Str.ofString "reply"] (ns := [Str.ofString "host", Str.ofString "numbers", Str.ofString "replies", Str.ofString "dues", Str.ofString "x", Str.ofString "reply"]) (vs := [some (sv host), some (.ref N), some (.ref Rp), none, none, none]) ax.room (by exact rfl) rfl rfl rfl rfl (by kernel_rfl) ⟨rfl, rfl, rfl, rfl, rfl⟩ fun L F => ?_
  have e20 : 100 ≤ sizeLine := by decide
  have hxl : (xs.map iv).length = xs.length := List.length_map ..
  refine T_execs (T_Assign (T_List (T_items_nil ⟨(Nat.le_of_ble_eq_true rfl), fun D => ?_⟩)))
  refine T_st F (by walk_at "mem") (by walk_at "cv") (by walk_at "put") (by walk_at "rep") ?_
  refine TT.le (l' := (L, IsNs [Str.ofString "host", Str.ofString "numbers", Str.ofString "replies", Str.ofString "dues", Str.ofString "x", Str.ofString "reply"] [some (sv host), some (.ref N), some (.ref Rp), some (.ref D), none, none]) :: (D, Lst []) :: pre) (.perm (.swap ..)) ?_
  refine T_execs (T_for (T_Call (T_blt F b_zip (by rfl) ?_)))
  refine T_cw Callee.type (T_items (T_ld F (by walk_at "mem") (by walk_at "at") ?_))
  refine T_items (T_ld F (by walk_at "mem") (by walk_at "at") ?_)
  refine T_items_nil (T_zip (us := xs.map iv) (ws := reps.map sv) (by walk_at "mem") (by walk_at "mem") fun z TI TO i1 i2 => ?_)
  refine T_iter_zip ?_
  refine Loop.zip (us := xs.map iv) (ws := reps.map sv) (fun j l1 => ∃ rows, rows.map (fun (r : AR) => r.v) = ((xs.zip reps).take j).map (fun q => due xs.length q.1 q.2) ∧ l1 = (L, IsNs [Str.ofString "host", Str.ofString "numbers", Str.ofString "replies", Str.ofString "dues", Str.ofString "x", Str.ofString "reply"] [some (sv host), some (.ref N), some (.ref Rp), some (.ref D), none, none]) :: (D, Lst (rows.map fun r => .ref r.a)) :: (ansL host rows ++ pre)) (by rw [List.length_map, List.length_map, hlen]) ax.hd ⟨[], rfl, rfl⟩ ?_ ?_ ?_
  · rintro i l1 ⟨rows, _, rfl⟩
    exact ⟨(by walk_at "mem"), (by walk_at "mem")⟩
  · rintro i l1 c d hc hd ⟨rows, hrows, rfl⟩ tu
    rw [List.getElem?_map] at hc hd
    obtain ⟨x, hx, rfl⟩ := Option.map_eq_some_iff.mp hc
    obtain ⟨t, ht, rfl⟩ := Option.map_eq_some_iff.mp hd
    have hil : i < xs.length := (List.getElem?_eq_some_iff.mp hx).1
    have hzi : (xs.zip reps)[i]? = some (x, t) := List.getElem?_zip_eq_some.mpr ⟨hx, ht⟩
    have hrl : (rows.map fun (r : AR) => Value.ref r.a).length ≤ 20 := by
      have := congrArg List.length hrows
      simp only [List.length_map, List.length_take, List.length_zip] at this
      rw [List.length_map]; omega
    refine TT.le (l' := (tu, Tup [iv x, sv t]) :: (L, IsNs [Str.ofString "host", Str.ofString "numbers", Str.ofString "replies", Str.ofString "dues", Str.ofString "x", Str.ofString "reply"] [some (sv host), some (.ref N), some (.ref Rp), some (.ref D), none, none]) :: (zipSeg z TI TO i1 i2 N Rp .none (i + 1) ++ ((D, Lst (rows.map fun r => .ref r.a)) :: (ansL host rows ++ pre)))) (by walk_at "le") ?_
    refine T_assignPair ax.hd (by exact .head _) ?_
    intro t1 t2
    refine T_assignName (T_st F (by walk_at "mem") (by walk_at "cv") (by walk_at "put") (by walk_at "rep") ?_)
    refine T_assignName (T_st F (by walk_at "mem") (by walk_at "cv") (by walk_at "put") (by walk_at "rep") ?_)
    have fin : ∀ (r : AR) (l2 : Led), r.v = due xs.length x t → Le l2 ((L, IsNs [Str.ofString "host", Str.ofString "numbers", Str.ofString "replies", Str.ofString "dues", Str.ofString "x", Str.ofString "reply"] [some (sv host), some (.ref N), some (.ref Rp), some (.ref D), none, none]) :: (D, Lst ((rows.map fun r => .ref r.a) ++ [.ref r.a])) :: (ansE host r ++ (zipSeg z TI TO i1 i2 N Rp .none (i + 1) ++ (ansL host rows ++ pre)))) →
        ∃ l', Le l2 (zipSeg z TI TO i1 i2 N Rp .none (i + 1) ++ l') ∧ ∃ rows, rows.map (fun (r : AR) => r.v) = ((xs.zip reps).take (i + 1)).map (fun q => due xs.length q.1 q.2) ∧ l' = (L, IsNs [Str.ofString "host", Str.ofString "numbers", Str.ofString "replies", Str.ofString "dues", Str.ofString "x", Str.ofString "reply"] [some (sv host), some (.ref N), some (.ref Rp), some (.ref D), none, none]) :: (D, Lst (rows.map fun r => .ref r.a)) :: (ansL host rows ++ pre) := by
      intro r l2 hr hle
      refine ⟨_, ?_, rows ++ [r], ?_, rfl⟩
      · refine hle.trans ?_
        simp only [ansL, List.map_append, List.map_cons, List.map_nil, List.flatMap_append, List.flatMap_cons, List.flatMap_nil, List.append_nil, List.append_assoc]
        walk_at "le"
      · rw [List.take_add_one, hzi, Option.toList_some, List.map_append, List.map_append, hrows]
        show _ ++ [r.v] = _ ++ [due xs.length x t]
        rw [hr]
    refine T_execs (T_If (T_isCompare (T_BinOp (T_ld F (by walk_at "mem") (by walk_at "at") ?_))))
    intro t3
    refine T_int fun t4 => T_mod (by decide) fun t5 => T_int fun t6 => T_lt (T_truthy_bool ⟨fun e1 => ?_, fun e1 => ?_⟩)
    · have e1 := of_decide_eq_true e1
      refine T_execs (T_Expr (T_MCall (T_ld F (by walk_at "mem") (by walk_at "at") ?_)))
      refine gm_append (by walk_at "mem") ?_
      refine T_cw Callee.builtin (T_items (T_List (T_items (T_str fun t7 => T_items (T_Tuple (T_items (T_ld F (by walk_at "mem") (by walk_at "at") ?_)))))))
      intro t8
      refine T_items (T_BinOp (T_int fun t9 => T_BinOp (T_int fun t10 => T_BinOp (T_BinOp (T_ld F (by walk_at "mem") (by walk_at "at") ?_)))))
      intro t11
      refine T_int fun t12 => T_fdiv (by decide) (PyProof.noPylong_small (by decide)) fun t13 => ?_
      refine T_Call (T_blt F b_len (by rfl) ?_)
      refine T_cw Callee.builtin (T_items (T_ld F (by walk_at "mem") (by walk_at "at") ?_))
      refine T_items_nil (T_len (by walk_at "mem") (by omega) fun t14 => ?_)
      refine T_mod (by rw [hxl]; omega) fun t15 => T_mul mul97 fun t16 => T_add fun t17 => ?_
      refine T_items_nil ?_
      refine ⟨(Nat.le_of_ble_eq_true rfl), fun ta => T_items_nil ?_⟩
      refine ⟨(Nat.le_of_ble_eq_true rfl), fun na => ?_⟩
      refine T_items_nil (T_append (by walk_at "rep") (by walk_at "cv") (by omega) ?_)
      refine ⟨fun a e => (by cases e), T_execs_nil (T_execs_nil (fin ⟨na, ta, .told (21 + 97 * tgt xs.length x)⟩ _ ?_ ?_))⟩
      · rw [due, if_pos e1]
      · rw [tgt, ← hxl]
        show Le ((na, Lst (ansV ta (.told 0))) :: (ta, Tup [sv host, iv (21 + 97 * (x.fdiv 24).fmod ((xs.map iv).length : Nat))]) :: _) (_ :: _ :: (na, Lst (ansV ta (.told 0))) :: (ta, Tup [sv host, iv (21 + 97 * (x.fdiv 24).fmod ((xs.map iv).length : Nat))]) :: (zipSeg z TI TO i1 i2 N Rp .none (i + 1) ++ (ansL host rows ++ pre)))
        walk_at "le"
    · have e1 := of_decide_eq_false e1
      refine T_execs (T_If (T_isCompare (T_BinOp (T_ld F (by walk_at "mem") (by walk_at "at") ?_))))
      intro t3
      refine T_int fun t4 => T_mod (by decide) fun t5 => T_int fun t6 => T_lt (T_truthy_bool ⟨fun e2 => ?_, fun e2 => ?_⟩)
      · have e2 := of_decide_eq_true e2
        refine T_execs (T_Expr (T_MCall (T_ld F (by walk_at "mem") (by walk_at "at") ?_)))
        refine gm_append (by walk_at "mem") ?_
        refine T_cw Callee.builtin (T_items (T_List (T_items (T_str fun t7 => T_items (T_ld F (by walk_at "mem") (by walk_at "at") ?_)))))
        intro t8
        refine T_items_nil ?_
        refine ⟨(Nat.le_of_ble_eq_true rfl), fun na => ?_⟩
        refine T_items_nil (T_append (by walk_at "rep") (by walk_at "cv") (by omega) ?_)
        refine ⟨fun a e => (by cases e), T_execs_nil (T_execs_nil (T_execs_nil (fin ⟨na, 0, .reply t⟩ _ ?_ ?_)))⟩
        · rw [due, if_neg e1, if_pos e2]
        · show Le ((na, Lst (ansV 0 (.reply t))) :: _) (_ :: _ :: (na, Lst (ansV 0 (.reply t))) :: (zipSeg z TI TO i1 i2 N Rp .none (i + 1) ++ (ansL host rows ++ pre)))
          walk_at "le"
      · have e2 := of_decide_eq_false e2
        refine T_execs (T_If (T_isCompare (T_BinOp (T_ld F (by walk_at "mem") (by walk_at "at") ?_))))
        intro t3
        refine T_int fun t4 => T_mod (by decide) fun t5 => T_int fun t6 => T_lt (T_truthy_bool ⟨fun e3 => ?_, fun e3 => ?_⟩)
        · have e3 := of_decide_eq_true e3
          refine T_execs (T_Expr (T_MCall (T_ld F (by walk_at "mem") (by walk_at "at") ?_)))
          refine gm_append (by walk_at "mem") ?_
          refine T_cw Callee.builtin (T_items (T_List (T_items (T_str fun t7 => T_items (T_ld F (by walk_at "mem") (by walk_at "at") ?_)))))
          intro t8
          refine T_items_nil ?_
          refine ⟨(Nat.le_of_ble_eq_true rfl), fun na => ?_⟩
          refine T_items_nil (T_append (by walk_at "rep") (by walk_at "cv") (by omega) ?_)
          refine ⟨fun a e => (by cases e), T_execs_nil (T_execs_nil (T_execs_nil (T_execs_nil (fin ⟨na, 0, .proto t⟩ _ ?_ ?_))))⟩
          · rw [due, if_neg e1, if_neg e2, if_pos e3]
          · show Le ((na, Lst (ansV 0 (.proto t))) :: _) (_ :: _ :: (na, Lst (ansV 0 (.proto t))) :: (zipSeg z TI TO i1 i2 N Rp .none (i + 1) ++ (ansL host rows ++ pre)))
            walk_at "le"
        · have e3 := of_decide_eq_false e3
          refine T_execs (T_Expr (T_MCall (T_ld F (by walk_at "mem") (by walk_at "at") ?_)))
          refine gm_append (by walk_at "mem") ?_
          refine T_cw Callee.builtin (T_items (T_List (T_items (T_str fun t7 => ?_))))
          refine T_items_nil ?_
          refine ⟨(Nat.le_of_ble_eq_true rfl), fun na => ?_⟩
          refine T_items_nil (T_append (by walk_at "rep") (by walk_at "cv") (by omega) ?_)
          refine ⟨fun a e => (by cases e), T_execs_nil (T_execs_nil (T_execs_nil (T_execs_nil (fin ⟨na, 0, .bad⟩ _ ?_ ?_))))⟩
          · rw [due, if_neg e1, if_neg e2, if_neg e3]
          · show Le ((na, Lst (ansV 0 .bad)) :: _) (_ :: _ :: (na, Lst (ansV 0 .bad)) :: (zipSeg z TI TO i1 i2 N Rp .none (i + 1) ++ (ansL host rows ++ pre)))
            walk_at "le"
  · rintro l1 ⟨rows, hrows, rfl⟩
    refine T_execs (T_Return (T_ld F (by walk_at "mem") (by walk_at "at") ?_))
    refine ⟨_, .drop (Le.refl _), h D rows ?_⟩
    rw [hrows, List.take_of_length_le (by rw [List.length_zip, List.length_map]; omega)]

end
end
section
section
variable {G : Gd} {A : Around} {E : Value → Led → Prop} {l l' : Led} {env : Env} {pos : Pos}
noncomputable def litStr : Expr → Str
  | .Constant (.str x) _ _ => x
  | _ => Str.empty
noncomputable def lits : Stmt → List Str
  | .Assign _ (.List elts _) _ => elts.map litStr
  | .AugAssign _ _ (.List elts _) _ => elts.map litStr
  | _ => []
noncomputable def bodyOf : Stmt → List Stmt
  | .FunctionDef _ _ body .. => body
  | _ => []
/-- the forms of the right replies, the forms of the wrong ones: as they stand in the text -/
noncomputable def goodL : List Str := lits (pick (bodyOf (top 13)) 0)
noncomputable def badL : List Str := lits (pick (bodyOf (top 13)) 1) ++ lits (pick (bodyOf (top 13)) 2)
noncomputable def formOf (x : Int) : Str := if x.fmod 24 < 12 then goodL.getD (x.fmod 4).toNat Str.empty else badL.getD (x.fmod 12).toNat Str.empty
noncomputable def replyOf (n : Nat) (x : Int) : Str := Txt.replace (formOf x) (Str.ofString "N") (Str.ofString (toString (21 + 97 * tgt n x)))
theorem good_len : goodL.length = 4 := by decide +kernel
theorem bad_len : badL.length = 12 := by decide +kernel
theorem form_len : ∀ f ∈ goodL ++ badL, f.length ≤ 40 := by decide +kernel
theorem port_facts : ∀ k : Nat, k < 20 → (Str.ofString "N" == Str.ofString (toString (21 + 97 * (k : Int)))) = false ∧ (Str.ofString (toString (21 + 97 * (k : Int)))).length ≤ 5 ∧ (21 + 97 * (k : Int)).natAbs.log2 < 1920 := by decide +kernel
theorem sv_get {ls : List Str} {k : Nat} (h : k < ls.length) : (ls.map sv)[k]? = some (sv (ls.getD k Str.empty)) := by
  rw [List.getElem?_map, List.getElem?_eq_getElem h, List.getD_eq_getElem?_getD, List.getElem?_eq_getElem h]; rfl
theorem fm4 (x : Int) : (x.fmod 4).toNat < goodL.length := by rw [good_len]; exact toNatLt (n := 4) (Int.fmod_nonneg_of_pos x (by decide)) (Int.fmod_lt_of_pos x (by decide))
theorem fm12 (x : Int) : (x.fmod 12).toNat < badL.length := by rw [bad_len]; exact toNatLt (n := 12) (Int.fmod_nonneg_of_pos x (by decide)) (Int.fmod_lt_of_pos x (by decide))
theorem form_ok (x : Int) : (formOf x).length ≤ 40 := by
  unfold formOf
  split
  · have h := fm4 x
    rw [List.getD_eq_getElem?_getD, List.getElem?_eq_getElem h]
    exact form_len _ (List.mem_append_left _ (List.getElem_mem h))
  · have h := fm12 x
    rw [List.getD_eq_getElem?_getD, List.getElem?_eq_getElem h]
    exact form_len _ (List.mem_append_right _ (List.getElem_mem h))
theorem replies_spec {N : Addr} {xs : List Int} {pre : Led} {Q : Value → Led → Prop} (ax : Ax A 1) (hz : xs.length ≤ 20) (hN : (N, Lst (xs.map iv)) ∈ pre)
    (h : ∀ R, Q (.ref R) ((R, Lst ((xs.map (replyOf xs.length)).map sv)) :: pre)) :
    TT G A (call (.ref 192) [.ref N]) Q E pre := by
  refine (C_def1 [Str.ofString "good", Str.ofString "bad", Str.ofString "replies", Str.ofString "x", Str.ofString "port", Str.ofString "form"] (ns := [Str.ofString "numbers", Str.ofString "good", Str.ofString "bad", Str.ofString "replies", Str.ofString "x", Str.ofString "port", Str.ofString "form"]) (vs := [some (.ref N), none, none, none, none, none, none]) (binds := [((Str.ofString "numbers"), .ref N)]) ax.room (by exact rfl) rfl (fun s _ => BindsTo.of_eq rfl) rfl rfl (by kernel_rfl) ⟨rfl, rfl, rfl, rfl, rfl⟩ fun L F => ?_).call
  have e20 : 100 ≤ sizeLine := by decide
  have hxl : (xs.map iv).length = xs.length := List.length_map ..
  refine T_execs (T_Assign (T_List (T_items (T_str fun s1 => T_items (T_str fun s2 => T_items (T_str fun s3 => T_items (T_str fun s4 => ?_)))))))
  refine T_items_nil ⟨(Nat.le_of_ble_eq_true rfl), fun go => ?_⟩
  refine T_st F (by walk_at "mem") (by walk_at "cv") (by walk_at "put") (by walk_at "rep") ?_
  refine TT.as (l' := (go, Lst (goodL.map sv)) :: (L, IsNs [Str.ofString "numbers", Str.ofString "good", Str.ofString "bad", Str.ofString "replies", Str.ofString "x", Str.ofString "port", Str.ofString "form"] [some (.ref N), some (.ref go), none, none, none, none, none]) :: pre) (by rfl) ?_
  refine T_execs (T_Assign (T_List (T_items (T_str fun s1 => T_items (T_str fun s2 => T_items (T_str fun s3 => T_items (T_str fun s4 => T_items (T_str fun s5 => T_items (T_str fun s6 => ?_)))))))))
  refine T_items_nil ⟨(Nat.le_of_ble_eq_true rfl), fun ba => ?_⟩
  refine T_st F (by walk_at "mem") (by walk_at "cv") (by walk_at "put") (by walk_at "rep") ?_
  refine T_execs (T_AugName (T_ldn F (by walk_at "mem") (by walk_at "at") ?_))
  refine T_List (T_items (T_str fun s1 => T_items (T_str fun s2 => T_items (T_str fun s3 => T_items (T_str fun s4 => T_items (T_str fun s5 => T_items (T_str fun s6 => ?_)))))))
  refine T_items_nil ⟨(Nat.le_of_ble_eq_true rfl), fun ba2 => ?_⟩
  refine T_iaddList (b := ba2) (by walk_at "rep") (by exact .head _) (by exact (Nat.le_of_ble_eq_true rfl)) ?_
  refine T_st F (by walk_at "mem") (by walk_at "cv") (by walk_at "put") (by walk_at "rep") ?_
  refine T_execs (T_Assign (T_List (T_items_nil ⟨(Nat.le_of_ble_eq_true rfl), fun R => ?_⟩)))
  refine T_st F (by walk_at "mem") (by walk_at "cv") (by walk_at "put") (by walk_at "rep") ?_
  refine TT.as (l' := (R, Lst []) :: (ba2, Lst ((lits (pick (bodyOf (top 13)) 2)).map sv)) :: (ba, Lst (badL.map sv)) :: (go, Lst (goodL.map sv)) :: (L, IsNs [Str.ofString "numbers", Str.ofString "good", Str.ofString "bad", Str.ofString "replies", Str.ofString "x", Str.ofString "port", Str.ofString "form"] [some (.ref N), some (.ref go), some (.ref ba), some (.ref R), none, none, none]) :: pre) (by rfl) ?_
  refine TT.le (l' := (L, IsNs [Str.ofString "numbers", Str.ofString "good", Str.ofString "bad", Str.ofString "replies", Str.ofString "x", Str.ofString "port", Str.ofString "form"] [some (.ref N), some (.ref go), some (.ref ba), some (.ref R), none, none, none]) :: (R, Lst []) :: (ba, Lst (badL.map sv)) :: (go, Lst (goodL.map sv)) :: pre) (by walk_at "le") ?_
  refine T_execs (T_for (T_ld F (by walk_at "mem") (by walk_at "at") ?_))
  refine T_iter_list (by walk_at "mem") fun it => ?_
  refine Loop.list (vs := xs.map iv) (fun j l1 => l1 = (L, IsNs [Str.ofString "numbers", Str.ofString "good", Str.ofString "bad", Str.ofString "replies", Str.ofString "x", Str.ofString "port", Str.ofString "form"] [some (.ref N), some (.ref go), some (.ref ba), some (.ref R), none, none, none]) :: (R, Lst (((xs.take j).map (replyOf xs.length)).map sv)) :: (ba, Lst (badL.map sv)) :: (go, Lst (goodL.map sv)) :: pre) ax.hd rfl ?_ ?_ ?_
  · rintro i l1 rfl
    walk_at "mem"
  · rintro i l1 c hc rfl
    rw [List.getElem?_map] at hc
    obtain ⟨x, hx, rfl⟩ := Option.map_eq_some_iff.mp hc
    have hil : i < xs.length := (List.getElem?_eq_some_iff.mp hx).1
    have hx0 : 0 < xs.length := Nat.lt_of_le_of_lt (Nat.zero_le _) hil
    obtain ⟨q1, q2⟩ := tgt_range (n := xs.length) x hx0
    obtain ⟨k, hk⟩ : ∃ k : Nat, tgt xs.length x = k := ⟨(tgt xs.length x).toNat, (Int.toNat_of_nonneg q1).symm⟩
    obtain ⟨p1, p2, p3⟩ := port_facts k (Int.ofNat_lt.mp (hk ▸ Int.lt_of_lt_of_le q2 (Int.ofNat_le.mpr hz)))
    rw [← hk] at p1 p2 p3
    have hfl := form_ok x
    intro t1
    refine T_assignName (T_st F (by walk_at "mem") (by walk_at "cv") (by walk_at "put") (by walk_at "rep") ?_)
    refine T_execs (T_Assign (T_BinOp (T_int fun t2 => T_BinOp (T_int fun t3 => T_BinOp (T_BinOp (T_ld F (by walk_at "mem") (by walk_at "at") ?_))))))
    intro t4
    refine T_int fun t5 => T_fdiv (by decide) (PyProof.noPylong_small (by decide)) fun t6 => ?_
    refine T_Call (T_blt F b_len (by rfl) ?_)
    refine T_cw Callee.builtin (T_items (T_ld F (by walk_at "mem") (by walk_at "at") ?_))
    refine T_items_nil (T_len (by walk_at "mem") (by rw [hxl]; exact Nat.le_trans hz (by decide)) fun t7 => ?_)
    refine T_mod (by rw [hxl]; exact castne hx0) fun t8 => T_mul mul97 fun t9 => T_add fun t10 => ?_
    rw [show 21 + 97 * (x.fdiv 24).fmod ((xs.map iv).length : Nat) = 21 + 97 * tgt xs.length x by rw [tgt, hxl]]
    refine T_st F (by walk_at "mem") (by walk_at "cv") (by walk_at "put") (by walk_at "rep") ?_
    refine T_cut (fun l2 => l2 = (it, LIt N (i + 1)) :: (L, IsNs [Str.ofString "numbers", Str.ofString "good", Str.ofString "bad", Str.ofString "replies", Str.ofString "x", Str.ofString "port", Str.ofString "form"] [some (.ref N), some (.ref go), some (.ref ba), some (.ref R), some (iv x), some (iv (21 + 97 * tgt xs.length x)), some (sv (formOf x))]) :: (R, Lst (((xs.take i).map (replyOf xs.length)).map sv)) :: (ba, Lst (badL.map sv)) :: (go, Lst (goodL.map sv)) :: pre) ?_ ?_
    · refine T_Assign (T_IfExp (T_isCompare (T_BinOp (T_ld F (by walk_at "mem") (by walk_at "at") ?_))))
      intro t2
      refine T_int fun t3 => T_mod (by decide) fun t4 => T_int fun t5 => T_lt (T_truthy_bool ⟨fun e => ?_, fun e => ?_⟩)
      · have e := of_decide_eq_true e
        have hb := fm4 x
        refine T_Sub (T_ld F (by walk_at "mem") (by walk_at "at") ?_)
        refine T_BinOp (T_ld F (by walk_at "mem") (by walk_at "at") ?_)
        intro t6
        refine T_int fun t7 => T_mod (by decide) fun t8 => ?_
        refine T_item (c := sv (goodL.getD (x.fmod 4).toNat Str.empty)) (by walk_at "mem") (Int.fmod_nonneg_of_pos x (by decide)) (fitZ (n := 4) (Int.fmod_lt_of_pos x (by decide)) (by decide)) (sv_get hb) ?_
        intro t9
        refine T_st F (by walk_at "mem") (by walk_at "cv") (by walk_at "put") (by walk_at "rep") ?_
        refine ⟨_, ?_, rfl⟩
        rw [formOf, if_pos e]
        exact Le.refl _
      · have e := of_decide_eq_false e
        have hb := fm12 x
        refine T_Sub (T_ld F (by walk_at "mem") (by walk_at "at") ?_)
        refine T_BinOp (T_ld F (by walk_at "mem") (by walk_at "at") ?_)
        intro t6
        refine T_int fun t7 => T_mod (by decide) fun t8 => ?_
        refine T_item (c := sv (badL.getD (x.fmod 12).toNat Str.empty)) (by walk_at "mem") (Int.fmod_nonneg_of_pos x (by decide)) (fitZ (n := 12) (Int.fmod_lt_of_pos x (by decide)) (by decide)) (sv_get hb) ?_
        intro t9
        refine T_st F (by walk_at "mem") (by walk_at "cv") (by walk_at "put") (by walk_at "rep") ?_
        refine ⟨_, ?_, rfl⟩
        rw [formOf, if_neg e]
        exact Le.refl _
    · rintro l2 rfl
      refine T_execs (T_Expr (T_MCall (T_ld F (by walk_at "mem") (by walk_at "at") ?_)))
      refine gm_append (by walk_at "mem") ?_
      refine T_cw Callee.builtin (T_items (T_MCall (T_ld F (by walk_at "mem") (by walk_at "at") ?_)))
      intro t2
      refine gm_replace ?_
      refine T_cw Callee.builtin (T_itemsC fun u hu => ?_)
      refine T_items (T_Call (T_blt F b_str (by rfl) ?_))
      refine T_cw Callee.type (T_items (T_ld F (by walk_at "mem") (by walk_at "at") ?_))
      intro t3
      refine T_items_nil (T_strInt p3 fun v hv => ?_)
      have hu' : 1 ≤ u := Nat.le_trans (Nat.le_add_left 1 G.lo) hu
      have hv' : u + 1 ≤ v := hv
      refine T_items_nil (T_replace (Nat.ne_of_gt hu') (Nat.ne_of_gt (Nat.le_trans (Nat.succ_le_succ (Nat.zero_le u)) hv')) (Nat.ne_of_lt hv') p1 ?_ fun t4 => ?_)
      · exact Nat.le_trans (Nat.add_le_add hfl (Nat.mul_le_mul (Nat.succ_le_succ hfl) p2)) (by decide)
      refine T_items_nil (T_append (by walk_at "rep") (by walk_at "cv") ?_ ?_)
      · rw [List.length_map, List.length_map]; exact Nat.le_trans (List.length_take_le' ..) (Nat.le_trans hz (by decide))
      refine ⟨fun a e => (by cases e), T_execs_nil ⟨_, ?_, rfl⟩⟩
      rw [List.take_add_one, hx, Option.toList_some, List.map_append, List.map_append]
      show Le ((it, LIt N (i + 1)) :: _ :: (R, Lst (_ ++ [sv (replyOf xs.length x)])) :: _) (_ ++ _ :: (R, Lst (_ ++ [sv (replyOf xs.length x)])) :: _)
      walk_at "le"
  · rintro l1 rfl
    rw [hxl, List.take_length]
    refine T_execs (T_Return (T_ld F (by walk_at "mem") (by walk_at "at") ?_))
    refine ⟨_, ?_, h R⟩
    walk_at "le"

end
end
section
section
variable {G : Gd} {A : Around} {E : Value → Led → Prop} {l l' : Led} {env : Env} {pos : Pos}
-- under the claim's caller
noncomputable def UW (Γ : Ctx) : Prop := (Γ.code.isCaller || Γ.below.any fun x => x.1.isCaller) = true
noncomputable def UB (Γ : Ctx) : Prop := (Γ.below.any fun x => x.1.isCaller) = true
theorem UB.w {Γ : Ctx} (h : UB Γ) : UW Γ := by unfold UW; rw [show (Γ.below.any fun x => x.1.isCaller) = true from h, Bool.or_true]
theorem UW.enter {Γ : Ctx} (h : UW Γ) (c : Code) (hd : Option Value) (p : Pos) : UB (Γ.enter c hd p) := by
  show (((Γ.code, p) :: Γ.below).any fun x => x.1.isCaller) = true
  rw [List.any_cons]; exact h
theorem UB.goto {Γ : Ctx} (h : UB Γ) (c : Code) : UB (Γ.goto c) := h
noncomputable def wpU {α : Type} (M : Model) (A : Around) (t : Sem α) (Q : α → Shared → Prop) (E : Value → Shared → Prop) (s : Shared) : Prop :=
  ∀ Γ p, Γ.In A → UW Γ → Sem.wp M Γ t (fun a _ s' => Q a s') (fun e _ s' => E e s') p s
noncomputable def codeU (M : Model) (A : Around) (c : Code) (R : Result → Shared → Prop) (s : Shared) : Prop :=
  ∀ Γ p, Γ.code = c → Γ.Below A → UB Γ → wpCode M Γ R p s
section
variable {α β : Type} {M : Model} {E : Value → Shared → Prop} {s : Shared}
theorem wpU.of {t : Sem α} {Q : α → Shared → Prop} (h : wpAny M A t Q E s) : wpU M A t Q E s := fun Γ p hΓ _ => h Γ p hΓ
theorem codeU.of {c : Code} {R : Result → Shared → Prop} (h : codeAny M A c R s) : codeU M A c R s := fun Γ p hc hΓ _ => h Γ p hc hΓ
theorem wpU_mono {t : Sem α} {Q Q' : α → Shared → Prop} {E' : Value → Shared → Prop} (h : wpU M A t Q E s) (hQ : ∀ a s, Q a s → Q' a s) (hE : ∀ e s, E e s → E' e s) : wpU M A t Q' E' s :=
  fun Γ p hΓ hu => Sem.wp_mono M Γ t (fun a _ s => hQ a s) (fun e _ s => hE e s) p s (h Γ p hΓ hu)
theorem wpU_bind {m : Sem α} {f : α → Sem β} {Q : β → Shared → Prop} (h : wpU M A m (fun a s' => wpU M A (f a) Q E s') E s) : wpU M A (m >>= f) Q E s := fun Γ p hΓ hu => by
  rw [Sem.wp_bind']
  exact Sem.wp_mono M Γ m (fun a p' s' h' => h' Γ p' hΓ hu) (fun _ _ _ h' => h') p s (h Γ p hΓ hu)
theorem wpU_any {m : Sem α} {f : α → Sem β} {Q : β → Shared → Prop} (h : wpAny M A m (fun a s' => wpU M A (f a) Q E s') E s) : wpU M A (m >>= f) Q E s := wpU_bind (wpU.of h)
theorem wpU_holding {vs : List Value} {m : Sem α} {Q : α → Shared → Prop} (h : wpU M A m Q E s) : wpU M A (holding vs m) Q E s :=
  fun Γ p hΓ hu => by rw [Sem.wp_holding]; exact h Γ p hΓ hu
theorem wpU_onRaise {m : Sem α} {k : Value → Sem Unit} {Q : α → Shared → Prop} (h : wpU M A m Q (fun e s' => wpU M A (k e) (fun _ s'' => E e s'') E s') s) : wpU M A (m.onRaise k) Q E s := fun Γ p hΓ hu => by
  rw [Sem.wp_onRaise]
  exact Sem.wp_mono M Γ m (fun _ _ _ h' => h') (fun e p' s' h' => h' Γ p' hΓ hu) p s (h Γ p hΓ hu)
theorem wpU_tryCatch {m : Sem α} {k : Value → Sem α} {Q : α → Shared → Prop} (h : wpU M A m Q (fun e s' => wpU M A (k e) Q E s') s) : wpU M A (tryCatch m k) Q E s := fun Γ p hΓ hu => by
  rw [Sem.wp_tryCatch']
  exact Sem.wp_mono M Γ m (fun _ _ _ h' => h') (fun e p' s' h' => h' Γ p' hΓ hu) p s (h Γ p hΓ hu)
theorem wpU_attempt {m : Sem α} {Q : Except Value α → Shared → Prop} (h : wpU M A m (fun a => Q (.ok a)) (fun e => Q (.error e)) s) : wpU M A m.attempt Q E s := fun Γ p hΓ hu => by rw [Sem.wp_attempt]; exact h Γ p hΓ hu
theorem wpU_run {c : Code} {h : Option Value} {Q : Flow → Shared → Prop} (hc : codeU M (A.mark h) c (fun r s' => match r with | .ok f => Q f s' | .error e => E e s') s) (hnb : h ≠ some byPass := by intro x; cases x) :
    wpU M A (run c h) Q E s := fun Γ p hΓ hu => by rw [Sem.wp_run]; exact hc _ p rfl (hΓ.enter c h p hnb) (hu.enter c h p)
theorem wpU_call {f : Value} {pos : List Value} {kw : List (Str × Value)} {Q : Value → Shared → Prop}
    (hc : codeU M A (.call f ⟨pos, kw⟩) (fun r s' => match r with | .ok (.ret v) => Q v s' | .ok _ => False | .error e => E e s') s) : wpU M A (call f pos kw) Q E s :=
  fun Γ p hΓ hu => by
    show Sem.wp M Γ (runValue (.call f ⟨pos, kw⟩)) _ _ p s
    rw [Sem.wp_runValue]; exact hc _ p rfl (hΓ.enter _ none p (by intro x; cases x)) (hu.enter _ none p)
theorem codeU_mono {c : Code} {R R' : Result → Shared → Prop} (h : codeU M A c R s) (hR : ∀ r s, R r s → R' r s) : codeU M A c R' s := fun Γ p hc hΓ hu => wpCode_mono hR (h Γ p hc hΓ hu)
theorem codeU_of_tree {c : Code} {R : Result → Shared → Prop}
    (h : wpU M (A.under c) (M.den c) (fun fin s' => match fin with | .done f => R (.ok f) s' | .again c' => c'.quiet = true ∧ codeU M A c' R s') (fun e s' => R (.error e) s') s) : codeU M A c R s := fun Γ p hc hΓ hu => by
  rw [wpCode_iff_wp, hc]
  refine Sem.wp_mono M Γ _ (fun fin p' s' h' => ?_) (fun _ _ _ h' => h') p s (h Γ p (hc ▸ hΓ.in) hu.w)
  cases fin with
  | done f => exact h'
  | again c' => exact ⟨h'.1, h'.2 (Γ.goto c') p' rfl (hΓ.goto c') (hu.goto c')⟩
theorem wpU_stack {Q : List (Code × Pos) → Shared → Prop} (h : ∀ st : List (Code × Pos), (st.any fun x => x.1.isCaller) = true → Q st s) : wpU M A stack Q E s := fun Γ p hΓ hu => by
  show Q ((Γ.code, p) :: Γ.below) s
  exact h _ (by rw [List.any_cons]; exact hu)
end
theorem unmarked {M : Model} {E : Value → Shared → Prop} {s : Shared} {own : List String} {e : Value} {Q : Unit → Shared → Prop} (h : Q () s) : wpU M A (markTheRefusal own e) Q E s := by
  unfold markTheRefusal
  refine wpU_bind (wpU_stack fun st hst => ?_)
  have : pythonCodeMadeTheCall own (st.map (·.1)) = false := by
    have e1 : (st.map (·.1)).any Code.isCaller = true := by rw [List.any_map]; exact hst
    show (((!(st.map (·.1)).any Code.isCaller) && _) && _) = false
    rw [e1]; rfl
  rw [this]
  exact wpU.of (wpAny_pure h)
/-
theorem int_tree {x : Str} {u : Tok} : Builtin.«int.__new__» ⟨[.type "int", .str x u], []⟩ = (do let v ← (int_private% "intFromText") (.str x u) (numTextOf x) 10; ret v) := by kernel_rfl
-/

end
end
section
section
variable {G : Gd} {A : Around} {E : Value → Led → Prop} {l l' : Led} {env : Env} {pos : Pos}
open PySem.NumText
theorem int_tree {x : Str} {u : Tok} : Builtin.«int.__new__» ⟨[.type "int", .str x u], []⟩ = (do let v ← (int_private% "intFromText") (.str x u) (numTextOf x) 10; ret v) := by kernel_rfl
theorem type_tree {v : Value} : Builtin.«type.__call__» ⟨[.type "int", v], []⟩ = (do
    let obj ← holding [.builtin "int.__new__"] (call (.builtin "int.__new__") [.type "int", v] [])
    if !(← isInstance obj (.type "int")) then rule "type.call.new-gave-other-type"; return ← ret obj
    match ← holding [obj] (callSpecial? obj "__init__" [v] []) with
    | none => ret obj
    | some r =>
      if r != .none then
        rule "type.call.init-returned-value"
        raiseError "TypeError" s!"__init__() should return None, not '{← typeNameOf r}'"
      ret obj) := by kernel_rfl
theorem codeU_builtin {prog : Program} {w : World} {R : Result → Shared → Prop} {s : Shared} {id : String} {args : Args} {b : Builtin} (hb : entryFor table id = some b)
    (h : wpU (model prog w) (A.under (.builtin id args)) (b args) (fun fin s' => match fin with | .done f => R (.ok f) s' | .again c' => c'.quiet = true ∧ codeU (model prog w) A c' R s') (fun e s' => R (.error e) s') s) : codeU (model prog w) A (.builtin id args) R s := by
  refine codeU_of_tree ?_
  show wpU _ _ (match entryFor table id with | some b => b args | none => unsupported ((withoutEnding? id "#data").getD id)) _ _ s
  rw [hb]
  exact h
theorem codeU_call_builtin {prog : Program} {w : World} {R : Result → Shared → Prop} {s : Shared} {id : String} {args : Args} {b : Builtin} (hq : plainId id = true) (hb : entryFor table id = some b) (hc : checkBuiltinCall id args = pure ())
    (h : wpU (model prog w) A.in1 (b args) (fun fin s' => match fin with | .done f => R (.ok f) s' | .again c' => c'.quiet = true ∧ codeU (model prog w) A c' R s') (fun e s' => R (.error e) s') s) : codeU (model prog w) A (.call (.builtin id) args) R s := by
  refine codeU_of_tree ?_
  show wpU _ A.in1 (do checkBuiltinCall id args; again (.builtin id args)) _ _ s
  rw [hc]
  refine wpU_any (wpAny_pure (wpU.of (wpAny_pure ⟨plainId_quiet hq args, codeU_of_tree ?_⟩)))
  show wpU _ _ (match entryFor table id with | some b => b args | none => unsupported ((withoutEnding? id "#data").getD id)) _ _ s
  rw [hb, Around.under_plainId hq args]
  exact h
theorem wpU_ite_true {α : Type} {M : Model} {E : Value → Shared → Prop} {s : Shared} {Q : α → Shared → Prop} {c : Prop} [Decidable c] {a b : Sem α} (hc : c) (h : wpU M A a Q E s) : wpU M A (if c then a else b) Q E s := by rw [if_pos hc]; exact h
theorem msg_len (y : Str) : (Str.ofString (toString "invalid literal for int() with base " ++ toString 10 ++ toString ": ") ++ ({ cps := y.cps.extract 0 200 } : Str)).length ≤ sizeLine := by
  have e1 : (Str.ofString (toString "invalid literal for int() with base " ++ toString 10 ++ toString ": ")).length ≤ 100 := by decide +kernel
  have e2 : ({ cps := y.cps.extract 0 200 } : Str).length ≤ 200 := by
    show (y.cps.extract 0 200).size ≤ 200
    rw [Array.size_extract]; omega
  have e3 : 300 ≤ sizeLine := by decide
  have e4 : ∀ a b : Str, (a ++ b).length = a.length + b.length := fun a b => by
    show (a.cps ++ b.cps).size = _
    rw [Array.size_append]; rfl
  rw [e4]; omega
theorem text_refused {prog : Program} {w : World} {E : Value → Shared → Prop} {s : Shared} {x : Str} {u : Tok} {Q : Value → Shared → Prop} (hh : A.handled = none) (hs : (numSeenOf x).length ≤ 640)
    (hr : (int_private% "readNumeral") 0 10 (numSeenOf x) = int_private% "Numeral.invalid") (hz : (reprText x).length ≤ sizeLine)
    (hE : ∀ h' e tk args, s.toks ≤ tk → Heap.MadeExc s.heap h' e "ValueError" args → E (.ref e) { s with heap := h', toks := tk }) : wpU (model prog w) A ((int_private% "intFromText") (.str x u) (numTextOf x) 10) Q E s := by
  refine wpU_ite_true (c := (numSeenOf x).length ≤ 640) hs ?_
  refine wpU_any (wpAny_pure ?_)
  dsimp only
  have hr' : (int_private% "readNumeral") 0 10 (List.takeWhile (fun x => x != 0) (numTextOf x)) = int_private% "Numeral.invalid" := hr
  rw [hr']
  dsimp only
  refine wpU_any (wpAny_pure ?_)
  rw [if_neg (by simp)]
  refine wpU_any (wpAny_rule ?_)
  refine wpU_any (wpAny_pure ?_)
  dsimp only
  refine wpU_any (wpAny_pyRepr_str ?_ hz)
  refine wpU_any (wpAny_mkStr' ?_ (msg_len _))
  refine wpU_any (wpAny_newExc_plain plainExc_ValueError (fun h' e hm => ?_) (Nat.le_of_ble_eq_true rfl))
  refine wpU_bind (unmarked ?_)
  exact wpU.of (wpAny_raiseNew_none hh (hE h' e _ _ (Nat.le_add_right _ 2) hm))
theorem int_refused {prog : Program} {w : World} {E : Value → Shared → Prop} {s : Shared} {x : Str} {u : Tok} {Q : Value → Shared → Prop} (hh : A.handled = none) (hs : (numSeenOf x).length ≤ 640)
    (hr : (int_private% "readNumeral") 0 10 (numSeenOf x) = int_private% "Numeral.invalid") (hz : (reprText x).length ≤ sizeLine)
    (hE : ∀ h' e tk args, s.toks ≤ tk → Heap.MadeExc s.heap h' e "ValueError" args → E (.ref e) { s with heap := h', toks := tk }) : wpU (model prog w) A (call (.type "int") [.str x u]) Q E s := by
  refine wpU_call (codeU_of_tree ?_)
  show wpU _ _ (callAny (.type "int") _) _ _ _
  refine wpU.of (wpAny_pure ⟨Code.quiet_builtin _ (by decide +kernel), codeU_builtin F.entry_type_call ?_⟩)
  rw [Around.under_plain (weight_type_call_type "int" [.str x u] []) (units_type_call_type "int" [.str x u] [])]
  show wpU _ _ (Builtin.«type.__call__» ⟨[.type "int", .str x u], []⟩) _ _ s
  rw [type_tree]
  refine wpU_bind (wpU_holding (wpU_call (codeU_call_builtin F.called_int.plain F.entry_int_new (F.newCall_int_1 _) ?_)))
  rw [int_tree]
  exact wpU_bind (text_refused hh hs hr hz hE)

end
end
section
section
variable {G : Gd} {A : Around} {E : Value → Led → Prop} {l l' : Led} {env : Env} {pos : Pos}
structure TU (G : Gd) (A : Around) {α : Type} (t : Sem α) (Q : α → Led → Prop) (E : Value → Led → Prop) (l : Led) : Prop where
  go : ∀ s, Mod G l s → wpU (model prg G.w) A t (fun v s' => ∃ l', Mod G l' s' ∧ Q v l') (fun e s' => ∃ l', Mod G l' s' ∧ E e l') s
structure CU (G : Gd) (A : Around) (c : Code) (R : Result → Led → Prop) (l : Led) : Prop where
  go : ∀ s, Mod G l s → codeU (model prg G.w) A c (fun r s' => ∃ l', Mod G l' s' ∧ R r l') s
theorem TU.of {α : Type} {t : Sem α} {Q : α → Led → Prop} (h : TT G A t Q E l) : TU G A t Q E l := ⟨fun s M => wpU.of (h.go s M)⟩
theorem TU.le {α : Type} {t : Sem α} {Q : α → Led → Prop} (e : Le l l') (h : TU G A t Q E l') : TU G A t Q E l := ⟨fun s M => h.go s (M.le e)⟩
theorem TU.as {α : Type} {t : Sem α} {Q : α → Led → Prop} (e : l = l') (h : TU G A t Q E l') : TU G A t Q E l := e ▸ h
theorem TU.k {α : Type} {t : Sem α} {Q : α → Led → Prop} {s : Shared} {P : α → Shared → Prop} (h : TU G A t Q E l) (M : Mod G l s) (k : ∀ a s' l', Mod G l' s' → Q a l' → P a s') : wpU (model prg G.w) A t P (Ex G E) s :=
  wpU_mono (h.go s M) (fun a s' ⟨l', m, q⟩ => k a s' l' m q) fun _ _ x => x
theorem TU.bind {α β : Type} {m : Sem α} {f : α → Sem β} {Q : β → Led → Prop} (h : TU G A m (fun a l' => TU G A (f a) Q E l') E l) : TU G A (m >>= f) Q E l :=
  ⟨fun s M => wpU_bind (h.k M fun _ s' _ m q => q.go s' m)⟩
/-- what a TT leaves, a TU takes up -/
theorem TU.any {α β : Type} {m : Sem α} {f : α → Sem β} {Q : β → Led → Prop} (h : TT G A m (fun a l' => TU G A (f a) Q E l') E l) : TU G A (m >>= f) Q E l := TU.bind (TU.of h)
noncomputable def ThenU (G : Gd) (A : Around) (rest : List Stmt) (env : Env) (Q : Flow → Led → Prop) (E : Value → Led → Prop) (f : Flow) (l : Led) : Prop :=
  match f with | .next => TU G A (execs rest env) Q E l | f => Q f l
theorem U_execs {st : Stmt} {rest : List Stmt} {Q : Flow → Led → Prop} (h : TU G A (exec st env) (ThenU G A rest env Q E) E l) : TU G A (execs (st :: rest) env) Q E l :=
  ⟨fun s M Γ p hΓ hu => by
    rw [execs_cons, Sem.wp_bind']
    refine Sem.wp_mono _ Γ _ (fun f p' s' h' => ?_) (fun _ _ _ h' => h') _ _ (h.go s M Γ p hΓ hu)
    obtain ⟨l', m, q⟩ := h'
    unfold ThenU at q
    cases f with
    | next => exact q.go s' m Γ p' hΓ hu
    | brk => exact ⟨l', m, q⟩
    | cont => exact ⟨l', m, q⟩
    | ret v => exact ⟨l', m, q⟩⟩
theorem U_execsT {st : Stmt} {rest : List Stmt} {Q : Flow → Led → Prop} (h : TT G A (exec st env) (ThenU G A rest env Q E) E l) : TU G A (execs (st :: rest) env) Q E l := U_execs (TU.of h)
theorem U_execs_nil {Q : Flow → Led → Prop} (h : Q .next l) : TU G A (execs [] env) Q E l := TU.of (T_execs_nil h)
theorem U_Assign {x : Str} {pos' : Pos} {value : Expr} {Q : Flow → Led → Prop}
    (h : TU G A (eval value env) (fun v l₁ => TT G A (storeName env x v) (fun _ => Q .next) E l₁) E l)
    (hs : swapsWith value (some (.Name x pos')) pos.line env = pure false := by rfl) : TU G A (exec (.Assign [.Name x pos'] value pos) env) Q E l :=
  ⟨fun s M Γ p hΓ hu => by
    simp only [exec_Assign_Name env x pos' value pos hs, Sem.wp_bind', Sem.wp_cmd_standAt, Sem.wp_bindName, Sem.wp_pure']
    exact Sem.wp_mono _ Γ _ (fun v _ s₁ ⟨_, m, q⟩ => q.go s₁ m Γ _ hΓ) (fun _ _ _ h' => h') _ _ (h.go s M Γ _ hΓ hu)⟩
theorem U_Return {e : Expr} {Q : Flow → Led → Prop} (h : TU G A (eval e env) (fun v => Q (.ret v)) E l) : TU G A (exec (.Return (some e) pos) env) Q E l :=
  ⟨fun s M Γ p hΓ hu => by
    simp only [exec_Return_some, Sem.wp_bind', Sem.wp_cmd_standAt, Sem.wp_pure']
    exact h.go s M Γ _ hΓ hu⟩
theorem U_items {e : Expr} {rest : List Expr} {Q : List Value → Led → Prop}
    (h : TU G A (eval e env) (fun v l₁ => TU G A (spliced (backTo pos (starEach rest env))) (fun vs l₂ => Q (v :: vs) l₂) E l₁) E l)
    (he : starEach (e :: rest) env = (false, eval e env) :: starEach rest env := by rfl) : TU G A (spliced (backTo pos (starEach (e :: rest) env))) Q E l :=
  ⟨fun s M => by
    rw [he]
    show wpU _ A (do
      let v ← eval e env
      let here ← (pure [v] : Sem (List Value))
      return here ++ (← holding here (spliced (backTo pos (starEach rest env))))) _ _ s
    exact wpU_bind (h.k M fun v s₁ l₁ m q => wpU_any (wpAny_pure (wpU_bind (wpU_holding (q.k m fun vs s₂ l₂ m₂ q₂ => wpU.of (wpAny_pure ⟨l₂, m₂, q₂⟩))))))⟩
theorem U_List {elts : List Expr} {Q : Value → Led → Prop} (h : TU G A (spliced (backTo pos (starEach elts env))) (fun its l₁ => its.length ≤ sizeLine ∧ ∀ a, Q (.ref a) ((a, Lst (its.map cv)) :: l₁)) E l) :
    TU G A (eval (.List elts pos) env) Q E l :=
  ⟨fun s M => by
    rw [arm_eval_List]
    exact wpU_any (wpAny_standAt (wpU_bind (h.k M fun its s₁ l₁ m q => wpU.of (wpAny_newObj_type ⟨_, m.push (Lst.new its) rfl _, q.2 _⟩ (by show its.toArray.size ≤ sizeLine; rw [List.size_toArray]; exact q.1)))))⟩
theorem U_Call {func : Expr} {args : List Expr} {Q : Value → Led → Prop} (h : TT G A (eval func env) (fun f l₁ => TU G A (callWith pos f [] (backTo pos (starEach args env)) []) Q E l₁) E l)
    (he : eval (.Call func args [] pos) env = (do callWith pos (← eval func env) [] (backTo pos (starEach args env)) (backToKw pos (keywordEach [] env))) := by rfl) :
    TU G A (eval (.Call func args [] pos) env) Q E l :=
  ⟨fun s M => by rw [he]; exact wpU_any (h.k M fun _ s' _ m q => q.go s' m)⟩
theorem callWith_ofU {M : Model} {E : Value → Shared → Prop} {s : Shared} {f : Value} {first : List Value} {Q : Value → Shared → Prop} {P : Heap → Prop} {args : List (Bool × Sem Value)} {keywords : List (Option Str × Sem Value)} (hplain : (args.any (·.1) || keywords.any (·.1.isNone)) = false)
    (hk : ∀ h, P h → ∃ k, (k = Keeper.frame ∨ k = Keeper.machine ∨ k = Keeper.boundFrame) ∧ Looks M h (keeperOf f) k)
    (h : wpAny M A (evalArgs f true args keywords) (fun a s₁ => P s₁.heap ∧ wpU M A (call f (first ++ a.pos) a.kw) Q E s₁) E s) : wpU M A (callWith pos f first args keywords) Q E s := by
  unfold callWith
  refine wpU_bind (wpU_holding (wpU.of (wpAny_mono h (fun a s₁ h₁ => wpU_any (wpAny_standAt ?_)) fun _ _ x => x)))
  obtain ⟨k, hk', L⟩ := hk _ h₁.1
  simp only [hplain]
  refine wpU_any (L.here ?_)
  have tail : ∀ {t : Sem Value}, wpU M A t Q E s₁ → wpU M A (t >>= fun r => holding [r] point >>= fun _ => pure r) Q E s₁ :=
    fun ht => wpU_bind (wpU_mono ht (fun r s₂ hr => wpU.of (wpAny_bind (wpAny_holding (wpAny_point (wpAny_pure hr))))) fun _ _ x => x)
  have marked (mk : Value) : wpU M A (callMarked mk f (first ++ a.pos) a.kw) Q E s₁ := by
    unfold callMarked
    exact fun Γ p hΓ hu => by rw [Sem.wp_keep]; exact h₁.2 Γ p hΓ hu
  rcases hk' with rfl | rfl | rfl <;> dsimp only <;> first | exact tail h₁.2 | (split <;> first | exact tail h₁.2 | exact tail (marked _))
theorem U_cw {f : Value} {first : List Value} {e : Expr} {rest : List Expr} {Q : Value → Led → Prop} (hk : Callee G f)
    (h : TT G A (spliced (backTo pos (starEach (e :: rest) env))) (fun vs l₁ => TU G A (call f (first ++ vs)) Q E l₁) E l)
    (he : starEach (e :: rest) env = (false, eval e env) :: starEach rest env := by rfl) (hplain : (backTo pos (starEach rest env)).any (·.1) = false := by rfl) :
    TU G A (callWith pos f first (backTo pos (starEach (e :: rest) env)) []) Q E l :=
  ⟨fun s M => by
    have h' := h.k M (P := fun vs s₁ => (KK G.w).In s₁.heap ∧ wpU (model prg G.w) A (call f (first ++ vs)) (fun v s' => ∃ l', Mod G l' s' ∧ Q v l') (Ex G E) s₁) fun vs s' l' m q => ⟨m.X, q.go s' m⟩
    rw [he] at h' ⊢
    exact callWith_ofU (P := (KK G.w).In) (by show ((false || (backTo pos (starEach rest env)).any (·.1)) || false) = false; rw [hplain]; rfl) hk (evalArgs_plain h')⟩
theorem U_int {x : Str} {u : Tok} {Q : Value → Led → Prop} (hh : A.handled = none) (hs : (numSeenOf x).length ≤ 640)
    (hr : (int_private% "readNumeral") 0 10 (numSeenOf x) = int_private% "Numeral.invalid") (hz : (reprText x).length ≤ sizeLine)
    (hE : ∀ e t vs, E (.ref e) ((e, ExN (.type "ValueError") (some t)) :: (t, Tup vs) :: l)) : TU G A (call (.type "int") [.str x u]) Q E l :=
  ⟨fun s M => int_refused hh hs hr hz fun h' e tk args htk hm => by
    obtain ⟨t, m⟩ := M.made (cls := .type "ValueError") ⟨hm.keeps, hm.new, hm.there⟩ tk htk
    exact ⟨_, m, hE e t _⟩⟩
theorem U_try {body orelse : List Stmt} {h₀ : ExceptHandler} {hs : List ExceptHandler} {Q : Flow → Led → Prop}
    (h : TU G A (execs body env) (Then G A orelse env Q E) (fun v l₁ => TT G A (noteFrame v env) (fun _ l₂ => TT G A (setFlight v none) (fun _ l₃ => TT G A (handleBy v env (h₀ :: hs)) Q E l₃) E l₂) E l₁) l) :
    TU G A (exec (.Try body (h₀ :: hs) orelse [] pos) env) Q E l :=
  ⟨fun s M => by
    rw [arm_exec_Try]
    refine wpU_any (wpAny_standAt ?_)
    unfold tryStmt
    simp only [List.isEmpty_nil, if_true, List.isEmpty_cons, Bool.false_and, Bool.false_eq_true, if_false]
    refine wpU_bind (wpU_attempt (wpU_mono (h.go s M) (fun f s₁ q => ?_) fun v s₁ q => ?_))
    · obtain ⟨l₁, m, q⟩ := q
      unfold Then at q
      cases f with
      | next => exact wpU.of (q.go s₁ m)
      | brk => exact wpU.of (wpAny_pure ⟨l₁, m, q⟩)
      | cont => exact wpU.of (wpAny_pure ⟨l₁, m, q⟩)
      | ret v => exact wpU.of (wpAny_pure ⟨l₁, m, q⟩)
    · obtain ⟨l₁, m, q⟩ := q
      exact wpU.of (wpAny_bind (q.k m fun _ s₂ l₂ m₂ q₂ => wpAny_bind (q₂.k m₂ fun _ s₃ l₃ m₃ q₃ => q₃.go s₃ m₃)))⟩
-- calls of defs
theorem codeU_func {prog : Program} {w : World} {R : Result → Shared → Prop} {s : Shared} {body : List Stmt}
    (h : wpU (model prog w) (A.deeper env) (execs body env) (fun f s' => R (.ok (.ret (match f with | .ret v => v | _ => .none))) s')
      (fun e s' => wpAny (model prog w) (A.deeper env) (leaving env e) (fun _ s'' => R (.error e) s'') (fun e' s'' => R (.error e') s'') s') s) :
    codeU (model prog w) A (.func body env) R s := by
  refine codeU_of_tree ?_
  show wpU _ (A.deeper env) (do point; match ← (execs body env).onRaise (leaving env) with | .ret v => ret v | _ => ret .none) _ _ s
  refine wpU_any (wpAny_point (wpU_bind (wpU_onRaise (wpU_mono h (fun f s' h' => ?_) fun _ _ h' => wpU.of h'))))
  cases f <;> exact wpU.of (wpAny_pure h')
theorem codeU_call_function {prog : Program} {w : World} {R : Result → Shared → Prop} {s : Shared} {a : Addr} {args : Args} {o : Obj} {fd : FuncData} {body : List Stmt} (hroom : A.depth < recursionLimit)
    (ho : s.heap.get? a = some o) (hd' : o.data = .func fd) (hco : fd.scope.isCoroutine = false) (hgen : fd.scope.isGenerator = false) (hbody : fd.body = .stmts body) (hcd : s.heap.CodeRec fd.code fd.qualname)
    (h : wpAny (model prog w) A.in1 (bindArgs fd args) (fun binds s₁ =>
      wpAny (model prog w) A.in1 (newFunctionEnv fd.scope fd.globals fd.closure binds (fd.qualname ++ ".<locals>.") (some a) fd.code none fd.builtins)
        (fun env s₂ => s₂.heap.NoLimit ∧ codeU (model prog w) A (.func body env) R s₂) (fun e s' => R (.error e) s') s₁) (fun e s' => R (.error e) s') s) :
    codeU (model prog w) A (.call (.ref a) args) R s := by
  refine codeU_of_tree ?_
  show wpU _ A.in1 (callAny (.ref a) args) _ _ s
  simp only [callAny]
  refine wpU_any (wpAny_load ho ?_)
  obtain ⟨c, oc, vs, tq, hc, hoc, hdc, hq⟩ := hcd
  simp only [hd', callFunction, hco, hgen, hbody, hc]
  rw [hc] at h
  refine wpU_any (m := field (.ref c) 1) (wpAny_field hoc hdc hq (wpU_any (wpAny_pure ?_)))
  exact wpU_any (wpAny_mono h (fun binds s₁ h₁ => wpU_any (wpAny_mono h₁ (fun env s₂ h₂ => wpU_any (wpAny_enterFrame h₂.1 hroom (wpU.of (wpAny_pure (And.intro rfl h₂.2))))) fun _ _ h' => h')) fun _ _ h' => h')

end
end
section
section
variable {G : Gd} {A : Around} {E : Value → Led → Prop} {l l' : Led} {env : Env} {pos : Pos}
theorem codeU_call_def {prog : Program} {w : World} {s : Shared} {R : Result → Shared → Prop} {a : Addr} {o : Obj} {fd : FuncData} {body : List Stmt} {args : Args} {binds : List (Str × Value)}
    (hroom : A.depth < recursionLimit) (ho : s.heap.get? a = some o) (hdata : o.data = .func fd) (hlim : s.heap.NoLimit) (hcd : s.heap.CodeRec fd.code fd.qualname)
    (hbody : fd.body = .stmts body) (hbind : BindsTo s fd args binds)
    (hcell : ∀ x ∈ fd.scope.names, x.2 ≠ .cell) (hloc : ∀ x ∈ binds, fd.scope.names.lookup x.1 = some .local)
    (h : ∀ h₀, h₀.Ns s.heap.objs.size (fun x => binds.reverse.lookup x) → (∀ b o, s.heap.get? b = some o → h₀.get? b = some o) →
      wpU (model prog w) (A.deeper (callEnv fd s.heap.objs.size a)) (execs body (callEnv fd s.heap.objs.size a)) (fun f s' => R (.ok (.ret (match f with | .ret v => v | _ => .none))) s')
        (fun e s' => wpAny (model prog w) (A.deeper (callEnv fd s.heap.objs.size a)) (leaving (callEnv fd s.heap.objs.size a) e) (fun _ s'' => R (.error e) s'') (fun e' s'' => R (.error e') s'') s')
        { s with heap := h₀, toks := s.toks + binds.length })
    (hco : fd.scope.isCoroutine = false) (hgen : fd.scope.isGenerator = false) (hk : fd.scope.kind = .function) :
    codeU (model prog w) A (.call (.ref a) args) R s := by
  refine codeU_call_function hroom ho hdata hco hgen hbody hcd (hbind _ _ _ _ ?_)
  refine wpAny_newFunctionEnv hcell hloc (fun h₀ hns₀ hsb₀ => ⟨hlim.fresh _ hsb₀, codeU_func (h h₀ hns₀ fun b o e => ?_)⟩) hk
  exact hsb₀.extBut b o (Nat.ne_of_lt (Heap.lt_size e)) (Heap.get?_push_of_some _ e)
theorem CU.callE {f : Value} {args : List Value} {Q X : Value → Led → Prop} (h : CU G A (.call f ⟨args, []⟩) (fun r l' => (∃ v, r = .ok (.ret v) ∧ Q v l') ∨ (∃ e, r = .error e ∧ X e l')) l) : TU G A (PySem.call f args) Q X l :=
  ⟨fun s M => by
    refine wpU_call (codeU_mono (h.go s M) fun r s' q => ?_)
    obtain ⟨l', m, q⟩ := q
    rcases q with ⟨v, rfl, q⟩ | ⟨e, rfl, q⟩
    · exact ⟨l', m, q⟩
    · exact ⟨l', m, q⟩⟩
theorem CU.call {f : Value} {args : List Value} {Q : Value → Led → Prop} (h : CU G A (.call f ⟨args, []⟩) (fun r l' => ∃ v, r = .ok (.ret v) ∧ Q v l') l) : TU G A (PySem.call f args) Q E l :=
  ⟨fun s M => by
    refine wpU_call (codeU_mono (h.go s M) fun r s' q => ?_)
    obtain ⟨l', m, v, rfl, q⟩ := q
    exact ⟨l', m, q⟩⟩
theorem C_defU {f : Addr} {fd : FuncData} {body : List Stmt} {args : List Value} {binds : List (Str × Value)} {oc : Value} {od : Option Addr} {osl : Array (Option Value)} (rest : List Str) {ns : List Str} {vs : List (Option Value)} {Q X : Value → Led → Prop}
    (hroom : A.depth < recursionLimit) (ho : (KK G.w).lookup f = some ⟨oc, od, .func fd, osl⟩) (hb : fd.body = .stmts body)
    (hbind : ∀ s, (KK G.w).In s.heap → BindsTo s fd ⟨args, []⟩ binds) (hns : binds.map (·.1) ++ rest = ns) (hvs : binds.map (fun b => some (cv b.2)) ++ List.replicate rest.length none = vs)
    (hok : (codeIn (KK G.w) fd.code fd.qualname && (ns.all fun x => fd.scope.names.lookup x == some .local && !(x == ("__debug__" : Str))) && (fd.scope.names.all fun x => decide (x.2 ≠ .cell)) && decide ns.Nodup) = true)
    (hsc : fd.scope.isCoroutine = false ∧ fd.scope.isGenerator = false ∧ fd.scope.kind = .function ∧ fd.globals = mainGlobals ∧ fd.builtins = builtinsNs)
    (h : ∀ L, Lay (callEnv fd L f) L ns → TU G (A.deeper (callEnv fd L f)) (execs body (callEnv fd L f)) (fun fl l' => ∃ l'', Le l' l'' ∧ Q (retv fl) l'')
      (fun e l' => TT G (A.deeper (callEnv fd L f)) (leaving (callEnv fd L f) e) (fun _ l₂ => ∃ l₃, Le l₂ l₃ ∧ X e l₃) Ef l') ((L, IsNs ns vs) :: l)) :
    CU G A (.call (.ref f) ⟨args, []⟩) (fun r l' => (∃ v, r = .ok (.ret v) ∧ Q v l') ∨ (∃ e, r = .error e ∧ X e l')) l :=
  ⟨fun s M => by
    simp only [Bool.and_eq_true, decide_eq_true_eq] at hok
    obtain ⟨⟨⟨hcd, hnames⟩, hcell⟩, hnd⟩ := hok
    have hbn : ∀ x ∈ binds, fd.scope.names.lookup x.1 = some .local := fun x hx => by
      have hmem : x.1 ∈ ns := by rw [← hns]; exact List.mem_append_left _ (List.mem_map_of_mem (f := (·.1)) hx)
      have := List.all_eq_true.mp hnames x.1 hmem
      simp only [Bool.and_eq_true, beq_iff_eq] at this
      exact this.1
    refine (codeU_call_def hroom (M.X _ _ ho) rfl M.T.nolimit (codeRec_of M.X hcd) hb (hbind s M.X) (fun x hx => of_decide_eq_true (List.all_eq_true.mp hcell x hx))
      hbn (fun h₁ hns₁ hk => ?_) hsc.1 hsc.2.1 hsc.2.2.1)
    have F : Lay (callEnv fd s.heap.objs.size f) s.heap.objs.size ns := ⟨hsc.2.2.1, rfl, hsc.2.2.2.1, hsc.2.2.2.2, hnames, hnd⟩
    have M₁ : Mod G ((s.heap.objs.size, IsNs ns vs) :: l) { s with heap := h₁, toks := s.toks + binds.length } := by
      refine ⟨M.ok, fun b o e => hk b o (M.keep b o e), fun p hp => ?_, ?_, M.gens, M.os, Nat.le_trans M.tok (by first | exact Nat.le_add_right _ _ | (dsimp only; omega))⟩
      · rcases List.mem_cons.mp hp with rfl | hp
        · obtain ⟨o, a, b⟩ := isNs_of hns₁ (binds_at hns hvs.symm hnd)
          exact ⟨o, a, b, M.above (Nat.le_refl _)⟩
        · obtain ⟨o, a, b, c⟩ := M.led p hp
          exact ⟨o, hk _ _ a, b, c⟩
      · refine List.nodup_cons.mpr ⟨fun q => ?_, M.nd⟩
        obtain ⟨p, hp, e⟩ := List.mem_map.mp q
        obtain ⟨o, a, _⟩ := M.led p hp
        have := Heap.lt_size a
        rw [show p.1 = s.heap.objs.size from e] at this
        exact Nat.lt_irrefl _ this
    refine wpU_mono ((h s.heap.objs.size F).go _ M₁) (fun fl s' hq => ?_) fun e s' hq => ?_
    · obtain ⟨l', m, l'', le, q⟩ := hq
      cases fl <;> exact ⟨l'', m.le le, .inl ⟨_, rfl, q⟩⟩
    · obtain ⟨l', m, q⟩ := hq
      refine wpAny_mono (q.go s' m) (fun _ s'' q₂ => ?_) fun _ _ q => (by obtain ⟨_, _, hf⟩ := q; exact hf.elim)
      obtain ⟨l₂, m₂, l₃, le, q₃⟩ := q₂
      exact ⟨l₃, m₂.le le, .inr ⟨_, rfl, q₃⟩⟩⟩
/-- a def some of whose names are cells -/
theorem C_defCU {f : Addr} {fd : FuncData} {body : List Stmt} {args : List Value} {binds : List (Str × Value)} {oc : Value} {od : Option Addr} {osl : Array (Option Value)} {ns : List Str} {vs : List (Option Value)} {Q : Value → Led → Prop} (cells : Addr → Led)
    (hroom : A.depth < recursionLimit) (ho : (KK G.w).lookup f = some ⟨oc, od, .func fd, osl⟩) (hb : fd.body = .stmts body)
    (hbind : ∀ s, (KK G.w).In s.heap → BindsTo s fd ⟨args, []⟩ binds)
    (hvs : ns.map (fun x => (bindL (fun n => fd.scope.names.lookup n) binds (fun _ => none) x).map cv) = vs)
    (hcells : ∀ L, (cellsFrom (L + 1) fd.scope.names []).map (fun p => (p.2, Cel ((bindC (fun n => fd.scope.names.lookup n) binds (fun _ => none) p.1).map cv))) = cells L)
    (hok : (codeIn (KK G.w) fd.code fd.qualname && (ns.all fun x => fd.scope.names.lookup x == some .local && !(x == ("__debug__" : Str))) && (binds.all fun x => fd.scope.names.lookup x.1 == some .local || fd.scope.names.lookup x.1 == some .cell) && decide ns.Nodup && decide ((cellsFrom 0 fd.scope.names []).map (·.1)).Nodup) = true)
    (hsc : fd.scope.isCoroutine = false ∧ fd.scope.isGenerator = false ∧ fd.scope.kind = .function ∧ fd.globals = mainGlobals ∧ fd.builtins = builtinsNs ∧ fd.closure = [])
    (h : ∀ L, Lay (callEnvC fd L f) L ns → TU G (A.deeper (callEnvC fd L f)) (execs body (callEnvC fd L f)) (fun fl l' => ∃ l'', Le l' l'' ∧ Q (retv fl) l'') Ef ((L, IsNs ns vs) :: (cells L ++ l))) :
    CU G A (.call (.ref f) ⟨args, []⟩) (fun r l' => ∃ v, r = .ok (.ret v) ∧ Q v l') l :=
  ⟨fun s M => by
    simp only [Bool.and_eq_true, decide_eq_true_eq] at hok
    obtain ⟨⟨⟨⟨hcd, hnames⟩, hbn⟩, hnd⟩, hcn⟩ := hok
    refine codeU_call_function hroom (M.X _ _ ho) rfl hsc.1 hsc.2.1 hb (codeRec_of M.X hcd) (hbind s M.X _ _ _ _ ?_)
    rw [hsc.2.2.2.2.2]
    have hkind : ∀ x ∈ binds, fd.scope.names.lookup x.1 = some .local ∨ (fd.scope.names.lookup x.1 = some .cell ∧ ((cellsFrom (s.heap.objs.size + 1) fd.scope.names []).lookup x.1).isSome = true) := kindsX hbn _
    refine wpAny_with_toks (Nat.le_refl _) (wpAny_newFunctionEnv_cells hsc.2.2.1 hkind fun env' he s' x htk => ?_)
    subst he
    obtain ⟨h₁, tk, rfl, hk₁⟩ := x.done
    have hcs : ((cellsFrom (s.heap.objs.size + 1) fd.scope.names []).map (·.1)).Nodup := by
      have := cellsFrom_names fd.scope.names 0 (s.heap.objs.size + 1) [] [] rfl
      rw [← this]; exact hcn
    have M₁ : Mod G ((s.heap.objs.size, IsNs ns vs) :: (cells s.heap.objs.size ++ l)) { s with heap := h₁, toks := tk } := by
      have hnew : ∀ {a}, s.heap.objs.size ≤ a → ∀ p ∈ l, p.1 ≠ a := fun ha p hp e => by
        obtain ⟨o, ho, _⟩ := M.led p hp
        have := Heap.lt_size ho
        rw [e] at this
        exact absurd this (Nat.not_lt.mpr ha)
      have hab : ∀ p ∈ cells s.heap.objs.size, ∃ n c, (n, c) ∈ cellsFrom (s.heap.objs.size + 1) fd.scope.names [] ∧ p = (c, Cel ((bindC (fun n => fd.scope.names.lookup n) binds (fun _ => none) n).map cv)) := fun p hp => by
        rw [← hcells, List.mem_map] at hp
        obtain ⟨⟨n, c⟩, hm, rfl⟩ := hp
        exact ⟨n, c, hm, rfl⟩
      refine ⟨M.ok, fun b o e => hk₁ b o (M.keep b o e), fun p hp => ?_, ?_, M.gens, M.os, Nat.le_trans M.tok htk⟩
      · rcases List.mem_cons.mp hp with rfl | hp
        · obtain ⟨o, a, b⟩ := isNs_of (ns := ns) (vs := vs) x.toInCall.ns fun i y c hi hc => by
            rw [← hvs, List.getElem?_map, hi] at hc
            obtain ⟨v, hv, e⟩ := Option.map_eq_some_iff.mp (Option.some.inj hc)
            exact ⟨v, hv, e⟩
          exact ⟨o, a, b, M.above (Nat.le_refl _)⟩
        · rcases List.mem_append.mp hp with hp | hp
          · obtain ⟨n, c, hm, rfl⟩ := hab p hp
            obtain ⟨o, ho, hd⟩ := x.cell n c (lookup_of_mem_nodup hcs hm)
            exact ⟨o, ho, ⟨_, hd, rfl⟩, M.above (Nat.le_of_lt (x.above n c hm))⟩
          · obtain ⟨o, a, b, c⟩ := M.led p hp
            exact ⟨o, hk₁ _ _ a, b, c⟩
      · rw [List.map_cons, List.map_append]
        refine List.nodup_cons.mpr ⟨fun q => ?_, List.nodup_append.mpr ⟨?_, M.nd, fun a ha b hb e => ?_⟩⟩
        · rcases List.mem_append.mp q with q | q
          · obtain ⟨p, hp, e⟩ := List.mem_map.mp q
            obtain ⟨n, c, hm, rfl⟩ := hab p hp
            have h1 := x.above n c hm
            have e' : c = s.heap.objs.size := e
            rw [e'] at h1
            exact Nat.lt_irrefl _ h1
          · obtain ⟨p, hp, e⟩ := List.mem_map.mp q
            exact hnew (Nat.le_refl _) p hp e
        · rw [← hcells, List.map_map]
          have := x.apart
          rw [List.Nodup, List.pairwise_map]
          exact this
        · obtain ⟨p, hp, e1⟩ := List.mem_map.mp ha
          obtain ⟨n, c, hm, rfl⟩ := hab p hp
          obtain ⟨p2, hp2, e2⟩ := List.mem_map.mp hb
          exact hnew (Nat.le_of_lt (x.above n c hm)) p2 hp2 (by rw [e2, ← e, ← e1])
    refine ⟨M₁.T.nolimit, codeU_func ?_⟩
    have F : Lay (callEnvC fd s.heap.objs.size f) s.heap.objs.size ns := ⟨hsc.2.2.1, rfl, hsc.2.2.2.1, hsc.2.2.2.2.1, hnames, hnd⟩
    refine wpU_mono ((h _ F).go _ M₁) (fun fl s' hq => ?_) fun e s' hq => ?_
    · obtain ⟨l', m, l'', le, q⟩ := hq
      cases fl <;> exact ⟨l'', m.le le, _, rfl, q⟩
    · obtain ⟨_, _, hf⟩ := hq
      exact hf.elim⟩

-- comprehensions
theorem wpU_standIf {α : Type} {M : Model} {E : Value → Shared → Prop} {s : Shared} {c : Prop} [Decidable c] {pos : Pos} {k : PUnit → Sem α} {Q : α → Shared → Prop} (h : wpU M A (k ()) Q E s) : wpU M A (if c then (standAt pos >>= k) else k ()) Q E s := by
  split
  · exact wpU_any (wpAny_standAt h)
  · exact h
theorem wpU_comprehension {M : Model} {E : Value → Shared → Prop} {s : Shared} {e : Expr} {scope : Scope} {pos : Pos} {newAcc first : Sem Value} {g : Comprehension} {gs : List Comprehension} {cl : List (Str × Addr)} {Q : Value → Shared → Prop}
    (hcl : clausesOf e = g :: gs) (hs : ∀ x, foldedSetIterable g.iter env x = pure x) (hclos : closureFor scope env = pure cl)
    (hkind : scope.kind = .function) (hnames : ∀ x ∈ scope.names, x.2 = .local → scope.names.lookup x.1 = some .local)
    (h : wpAny M A first (fun x s₁ => wpAny M A (pyIter x) (fun it s₂ => wpAny M A newAcc (fun acc s₃ =>
      wpAny M A (newFunctionEnv scope env.globals cl [] env.qual none .none (some env)) (fun cenv s₄ =>
        codeU M A (.compStart e 0 it acc { cenv with scope := relabel scope env }) (compPost M A E none Q acc cenv.locals) s₄) E s₃) E s₂) E s₁) E s) :
    wpU M A (comprehension e scope env pos newAcc false first none) Q E s := by
  unfold comprehension
  rw [hclos, hcl]
  refine wpU_any (wpAny_mono h (fun x s₁ h₁ => wpU_any (wpAny_standAt (wpU_any (wpAny_of_eq (hs x) (wpU_bind (wpU_holding (wpU.of (wpAny_mono h₁ (fun it s₂ h₂ => ?_) fun _ _ h' => h')))))))) fun _ _ h' => h')
  refine wpU_standIf ?_
  refine wpU_any (wpAny_mono h₂ (fun acc s₃ h₃ => wpU_any (wpAny_pure (wpU_any (wpAny_mono h₃ (fun cenv s₄ h₄ => ?_) fun _ _ h' => h')))) fun _ _ h' => h')
  dsimp only
  have hv : ∀ x ∈ (scope.names.filter fun x => (x.2 == .local || x.2 == .cell) && x.1 != (".0" : Str)).reverse, x.2 = .local →
      Env.kindOf { cenv with scope := relabel scope env } x.1 = some .local := fun x hx hl => lookup_relabel_local (hnames x (List.mem_filter.mp (List.mem_reverse.mp hx)).1 hl)
  refine wpU_holding (wpU_bind (wpU_attempt (wpU_holding (wpU_run (codeU_mono h₄ fun r s' hr => ?_)))))
  cases r with
  | ok f =>
    obtain ⟨m, hn, hr⟩ := hr
    exact wpU.of (wpAny_bind (wpAny_holding (wpAny_comp_letGo (cenv := { cenv with scope := relabel scope env }) hkind _ s' m hv hn fun h' m' _ hs' => wpAny_pure (hr h' hs'))))
  | error x =>
    obtain ⟨m, hn, hr⟩ := hr
    exact wpU.of (wpAny_bind (wpAny_holding (wpAny_comp_letGo (cenv := { cenv with scope := relabel scope env }) hkind _ s' m hv hn fun h' m' _ hs' => wpAny_mono (hr h' hs' _ rfl) (fun _ _ f => f.elim) fun _ _ y => y)))

end
end
section
section
variable {G : Gd} {A : Around} {E : Value → Led → Prop} {l l' : Led} {env : Env} {pos : Pos}
section
variable {M : Model} {s : Shared}
theorem codeU_loop {c : Code} {R : Result → Shared → Prop} (hq : c.quiet = true) (I : Nat → Shared → Prop)
    (turn : ∀ n s, I n s → wpU M (A.under c) (M.den c) (fun fin s' => match fin with | .done f => R (.ok f) s' | .again c' => c' = c ∧ ∃ m, m < n ∧ I m s') (fun e s' => R (.error e) s') s)
    (n : Nat) (h : I n s) : codeU M A c R s := by
  induction n using Nat.strongRecOn generalizing s with
  | ind n ih =>
    refine codeU_of_tree (wpU_mono (turn n s h) (fun fin s' hf => ?_) fun _ _ h' => h')
    cases fin with
    | done f => exact hf
    | again c' => obtain ⟨rfl, m, hm, hI⟩ := hf; exact ⟨hq, ih m hm hI⟩
end
theorem compLoopU {prog : Program} {w : World} {R : Result → Shared → Prop} {s : Shared} {elt target iter : Expr} {scope : Scope} {it acc : Value} (I : Nat → Shared → Prop)
    (turn : ∀ n s, I n s → wpAny (model prog w) A (pyNext it) (fun r s₁ => match r with
      | none => R (.ok .next) s₁
      | some v => wpAny (model prog w) A (letOwnedTupleGo target it v) (fun _ s₁' => wpAny (model prog w) A (assign target env v) (fun _ s₂ =>
          wpU (model prog w) A (eval elt env) (fun x s₄ => wpAny (model prog w) A (call (.builtin "list.append") [acc, x]) (fun _ s₅ => ∃ m, m < n ∧ I m s₅) (fun _ _ => False) s₄) (fun _ _ => False) s₂) (fun _ _ => False) s₁') (fun _ _ => False) s₁) (fun _ _ => False) s)
    (n : Nat) (h : I n s) : codeU (model prog w) A (.compLoop (.ListComp elt [⟨target, iter, [], 0⟩] scope pos) 0 it acc env) R s := by
  refine codeU_loop rfl I (fun n s hI => ?_) n h
  show wpU _ A ((compTurn (.ListComp elt [⟨target, iter, [], 0⟩] scope pos) 0 it acc env).onRaise (fun x => do noteFrame x env; theTreesLotGoes x)) _ _ s
  refine wpU_onRaise ?_
  rw [compTurn_list]
  refine wpU_any (wpAny_standAt (wpU_any (wpAny_mono (turn n s hI) (fun r s₁ h₁ => ?_) fun _ _ f => f.elim)))
  cases r with
  | none => exact wpU.of (wpAny_pure h₁)
  | some v =>
    refine wpU_any (wpAny_mono h₁ (fun _ s₁' h₁ => ?_) fun _ _ f => f.elim)
    refine wpU_any (wpAny_mono h₁ (fun _ s₂ h₂ => wpU_any (wpAny_pure ?_)) fun _ _ f => f.elim)
    exact wpU_bind (wpU_bind (wpU_mono h₂ (fun x s₄ h₄ => wpU.of (wpAny_bind (wpAny_mono h₄ (fun _ s₅ h₅ => wpAny_pure (wpU.of (wpAny_pure ⟨rfl, h₅⟩))) fun _ _ f => f.elim))) fun _ _ f => f.elim))
theorem codeU_compStart {prog : Program} {w : World} {R : Result → Shared → Prop} {s : Shared} {elt target iter : Expr} {ifs : List Expr} {rest : List Comprehension} {scope : Scope} {it acc : Value}
    (h0 : codeU (model prog w) A (.compLoop (.ListComp elt (⟨target, iter, ifs, 0⟩ :: rest) scope pos) 0 it acc env) R s)
    (h : wpAny (model prog w) A (pyIter it) (fun it' s' => codeU (model prog w) A (.compLoop (.ListComp elt (⟨target, iter, ifs, 0⟩ :: rest) scope pos) 0 it' acc env) R s') (fun _ _ => False) s) :
    codeU (model prog w) A (.compStart (.ListComp elt (⟨target, iter, ifs, 0⟩ :: rest) scope pos) 0 it acc env) R s := by
  refine codeU_of_tree ?_
  show wpU _ _ ((compStart (.ListComp elt (⟨target, iter, ifs, 0⟩ :: rest) scope pos) 0 it acc env).onRaise (fun x => do noteFrame x env; standAt theWindowsPlace)) _ _ s
  refine wpU_onRaise ?_
  unfold compStart
  show wpU _ _ (ask >>= _) _ _ s
  refine wpU_any (wpAny_askSetting ?_)
  split
  · first
      | exact wpU_any (wpAny_pure (wpU.of (wpAny_pure (And.intro rfl h0))))
      | exact wpU.of (wpAny_pure (And.intro rfl h0))
  · first
      | exact wpU_any (wpAny_rule (wpU_any (wpAny_standAt (wpU_any (wpAny_mono h (fun it' s' h' => wpU.of (wpAny_pure (And.intro rfl h'))) fun _ _ f => f.elim)))))
      | (refine wpU_any (wpAny_rule ?_); show wpU _ _ (standAt iter.pos >>= _) _ _ s; exact wpU_any (wpAny_standAt (wpU_any (wpAny_mono h (fun it' s' h' => wpU.of (wpAny_pure (And.intro rfl h'))) fun _ _ f => f.elim))))
structure CompU (G : Gd) (A : Around) (target elt : Expr) (ns : List Str) (vn : List (Option Value)) (cenv : Addr → Env) (R : Addr → List Value → Led → Prop) (v : Value) (l : Led) : Prop where
  go : ∃ (it : Addr) (I : Iter) (Inv : Nat → List Value → Led → Prop) (lo : Led), v = .ref it ∧ I.Ok G A target it ∧ Le l (I.seg 0 ++ lo) ∧ Inv 0 [] lo ∧
    (∀ l Q, Q (.ref it) (I.seg 0 ++ l) → TT G A (pyIter (.ref it)) Q Ef (I.seg 0 ++ l)) ∧
    (∀ i acc l D C, Inv i acc l → acc.length ≤ sizeLine ∧ I.need ((D, Lst acc) :: (C, IsNs ns vn) :: l)) ∧
    (∀ i acc l D C, i < I.n → Inv i acc l → I.item i (fun v l₁ => TT G A (assign target (cenv C) v) (fun _ l₂ =>
        TU G A (eval elt (cenv C)) (fun x l₄ => ∃ c l₅, CV x c ∧ Le l₄ (I.seg (i + 1) ++ (D, Lst acc) :: (C, IsNs ns vn) :: l₅) ∧ Inv (i + 1) (acc ++ [c]) l₅) Ef l₂) Ef (I.seg (i + 1) ++ l₁)) ((D, Lst acc) :: (C, IsNs ns vn) :: l)) ∧
    (∀ acc l D, Inv I.n acc l → R D acc l)
theorem modFalse {v : Value} {s : Shared} {P : Prop} (h : ∃ l, Mod G l s ∧ Ef v l) : P := by obtain ⟨_, _, hf⟩ := h; exact hf.elim
theorem compCoreU {elt iter target : Expr} {scope : Scope} {cl : List (Str × Addr)} {ns : List Str} {vn : List (Option Value)} {Q : Value → Led → Prop} {p' : Pos} (hvn : vn = List.replicate ns.length none)
    (hclos : closureFor scope env = pure cl) (hcell : ∀ y ∈ scope.names, y.2 ≠ .cell) (hkind : scope.kind = .function) (hnames : ∀ y ∈ scope.names, y.2 = .local → scope.names.lookup y.1 = some .local)
    (h : TT G A (eval iter env) (fun xv l₁ => TT G A (pyIter xv) (CompU G A target elt ns vn (fun C => compEnvC scope cl C env) (fun D acc l₂ => Q (.ref D) ((D, Lst acc) :: l₂))) E l₁) E l)
    (hs : ∀ x, foldedSetIterable iter env x = pure x) :
    TU G A (comprehension (.ListComp elt [⟨target, iter, [], 0⟩] scope pos) scope env p' (newList []) false (eval iter env) none) Q E l :=
  ⟨fun s M => by
    refine wpU_comprehension rfl hs hclos hkind hnames (h.k M fun xv s₁ l₁ m₁ q₁ => q₁.k m₁ fun it s₂ l₂ m₂ q₂ => ?_)
    obtain ⟨it, I, Inv, lo, rfl, ok, hle, h0, hself, hneed, turn, done⟩ := q₂.go
    have m₂ := m₂.le hle
    refine wpAny_newObj_type (wpAny_newFunctionEnv hcell (by intro y hy; simp at hy) (fun h₁ hns₁ hsb₁ => ?_) hkind)
    have M₃ := m₂.push (o := { cls := .type "list", data := .seq ([] : List Value).toArray }) (P := Lst []) ⟨#[], 0, rfl, rfl⟩ rfl s₂.toks
    have M₄ := (M₃.push (o := { cls := .type "dict", data := .dict #[] }) (P := fun _ => True) trivial rfl s₂.toks).upd (P' := IsNs ns vn) .head hsb₁ (isNs_of hns₁ fun i x c _ hc => by
      have := List.mem_of_getElem? hc
      rw [hvn, List.mem_replicate] at this
      cases this.2) (s₂.toks + 0)
    generalize (s₂.heap.push { cls := .type "list", data := .seq ([] : List Value).toArray }).objs.size = C at M₄ hns₁ hsb₁ ⊢
    generalize s₂.heap.objs.size = D at M₄ ⊢
    have loop : ∀ s : Shared, Mod G (I.seg 0 ++ (D, Lst []) :: (C, IsNs ns vn) :: lo) s →
        codeU (model prg G.w) A (.compLoop (.ListComp elt [⟨target, iter, [], 0⟩] scope pos) 0 (.ref it) (.ref D) (compEnvC scope cl C env)) (compPost (model prg G.w) A (Ex G E) none (fun v s' => ∃ l', Mod G l' s' ∧ Q v l') (.ref D) C) s := by
      intro s m
      refine compLoopU (fun k s => ∃ i acc l, k + i = I.n ∧ Mod G (I.seg i ++ (D, Lst acc) :: (C, IsNs ns vn) :: l) s ∧ Inv i acc l) (fun k s hI => ?_) I.n ⟨0, [], lo, rfl, m, h0⟩
      obtain ⟨i, acc, l, hk, m, hi⟩ := hI
      obtain ⟨hz, hn⟩ := hneed i acc l D C hi
      rcases Nat.lt_or_ge i I.n with hlt | hge
      · refine wpAny_mono ((ok.next i _ _ hlt hn (turn i acc l D C hlt hi)).go s m) (fun r s₁ q => ?_) fun e s' q => modFalse q
        obtain ⟨l₁, m₁, v, rfl, q⟩ := q
        refine wpAny_mono (q.go s₁ m₁) (fun _ s₂ q₂ => ?_) fun e s' q => modFalse q
        obtain ⟨l₂, m₂, l₃, rfl, q₂⟩ := q₂
        refine wpAny_mono (q₂.go s₂ m₂) (fun _ s₃ q₃ => ?_) fun e s' q => modFalse q
        obtain ⟨l₄, m₄, q₄⟩ := q₃
        refine wpU_mono (q₄.go s₃ m₄) (fun x s₅ q₆ => ?_) fun e s' q => modFalse q
        obtain ⟨l₆, m₆, c, l₇, hc, le, hi'⟩ := q₆
        have := (T_append (G := G) (A := A) (E := Ef) (v := x) (c := c) (a := D) (Q := fun _ l' => l' = I.seg (i + 1) ++ (D, Lst (acc ++ [c])) :: (C, IsNs ns vn) :: l₇) (Rep.appL _ .head) hc hz rfl).go s₅ (m₆.le le)
        refine wpAny_mono this (fun _ s₆ q₇ => ?_) fun e s' q => modFalse q
        obtain ⟨l₈, m₈, rfl⟩ := q₇
        exact ⟨k - 1, by omega, i + 1, acc ++ [c], l₇, by omega, m₈, hi'⟩
      · have hin : i = I.n := by omega
        subst hin
        refine wpAny_mono ((ok.stop _ hn).go s m) (fun r s₁ q => ?_) fun e s' q => modFalse q
        obtain ⟨l₁, m₁, rfl, rfl⟩ := q
        have hR := done acc l D hi
        have m₃ := m₁.perm (.swap ..)
        obtain ⟨o, ho, hN⟩ := m₃.at_ (.head _)
        obtain ⟨mm, hNs, _⟩ := ns_at ho hN
        exact ⟨mm, hNs, fun h' hs => ⟨_, m₃.sameDrop hs, hR⟩⟩
    have M₅ : Mod G (I.seg 0 ++ (D, Lst []) :: (C, IsNs ns vn) :: lo) _ := M₄.perm (by
      refine (List.Perm.swap ..).trans ?_
      exact List.perm_append_comm_assoc [_, _] (I.seg 0) lo)
    refine codeU_compStart (loop _ M₅) ?_
    refine wpAny_mono ((hself _ (fun v l' => v = .ref it ∧ l' = I.seg 0 ++ (D, Lst []) :: (C, IsNs ns vn) :: lo) ⟨rfl, rfl⟩).go _ M₅) (fun v s' q => ?_) fun e s' q => modFalse q
    obtain ⟨l', m', rfl, rfl⟩ := q
    exact loop _ m'⟩

end
end
section
section
variable {G : Gd} {A : Around} {E : Value → Led → Prop} {l l' : Led} {env : Env} {pos : Pos}
theorem T_sum {a : Addr} {ns : List Int} {Q : Value → Led → Prop} (hh : A.handled = none) (hm : (a, Lst (ns.map iv)) ∈ l) (h : ∀ t, Q (.int ns.sum t) l) : TT G A (call (.builtin "sum") [.ref a]) Q E l :=
  ⟨fun s M => by
    obtain ⟨xs, n, hl, e, hn⟩ := lst_at M hm
    have hi : IntsAre xs.toList ns := ints_of e
    obtain ⟨ys, hy⟩ := hi.allInts.items
    have hns : ns = ys.toList.map (·.1) := by rw [← hi.numsOf, ← nums_intItems, ← hy]
    have hl' : s.heap.IsList a (intItems ys) := by rw [← hy]; exact hl.isList
    refine wpAny_with_toks (Nat.le_refl _) (sum_intListG hh hl' fun h' tk t' hk htk => ⟨l, M.keeps hk hm tk htk, ?_⟩)
    rw [preSum_eq, List.take_of_length_le (by simp), ← hns]; exact h _⟩
theorem T_maxL {a : Addr} {ns : List Int} {Q : Value → Led → Prop} (hh : A.handled = none) (hm : (a, Lst (ns.map iv)) ∈ l) (hne : 0 < ns.length) (h : ∀ M t, M ∈ ns → (∀ b ∈ ns, b ≤ M) → Q (.int M t) l) : TT G A (call (.builtin "max") [.ref a]) Q E l :=
  ⟨fun s M => by
    obtain ⟨xs, n, hl, e, hn⟩ := lst_at M hm
    have hi : IntsAre xs.toList ns := ints_of e
    obtain ⟨ys, hy⟩ := hi.allInts.items
    have hns : ns = ys.toList.map (·.1) := by rw [← hi.numsOf, ← nums_intItems, ← hy]
    have hl' : s.heap.IsList a (intItems ys) := by rw [← hy]; exact hl.isList
    have hsz : 0 < ys.size := by
      have h3 := hne; rw [hns, List.length_map, Array.length_toList] at h3; exact h3
    refine wpAny_with_toks (Nat.le_refl _) (max_intList hh hl' hsz fun v h' tk hv hk htk => ⟨l, M.keeps hk hm tk htk, ?_⟩)
    obtain ⟨t, rfl⟩ := intItems_at hv
    obtain ⟨h1, h2⟩ := argBest_gt (numAt ys) (ys.size - 1)
    refine h _ t ?_ fun b hb => ?_
    · rw [hns, numAt_eq]; exact getD_mem (by rw [List.length_map, Array.length_toList]; omega)
    · rw [hns] at hb
      obtain ⟨j, hj, rfl⟩ := mem_getD hb
      rw [List.length_map, Array.length_toList] at hj
      rw [← numAt_eq]; exact h2 j (by omega)⟩
theorem T_pow {a n : Int} {t u : Tok} {Q : Value → Led → Prop} (hn : 0 ≤ n) (hn2 : n ≤ 1000000) (ha : a.natAbs < 2 ^ 64) (h : ∀ t, Q (.int (a ^ n.toNat) t) l) : TT G A (binaryOp .Pow (.int a t) (.int n u)) Q E l :=
  ⟨fun s M => by exact pow_int_small hn hn2 ha ⟨l, M.toks _, h _⟩⟩
theorem T_addStr {x y : Str} {t u : Tok} {Q : Value → Led → Prop} (hz : x.length + y.length ≤ sizeLine) (h : ∀ t, Q (.str (x ++ y) t) l) : TT G A (binaryOp .Add (.str x t) (.str y u)) Q E l :=
  ⟨fun s M => by exact wpAny_with_toks (Nat.le_refl _) (PyProof.Rows.add_str (fun t' tk htk => ⟨l, M.toks tk htk, h _⟩) hz)⟩
theorem T_AssignComp {iter elt target : Expr} {ifs : List Expr} {scope : Scope} {cl : List (Str × Addr)} {y : Str} {py spos : Pos} {Q : Flow → Led → Prop} (ns : List Str) (vn : List (Option Value))
    (hsw : swapsWith (.ListComp elt [⟨target, iter, ifs, 0⟩] scope pos) (some (.Name y py)) spos.line env = pure true)
    (hclos : closureFor scope env = pure cl) (hok : (scope.names.all fun y => decide (y.2 ≠ .cell) && (decide (y.2 ≠ .local) || scope.names.lookup y.1 == some .local)) = true) (hkind : scope.kind = .function)
    (h : TT G A (eval iter env) (fun xv l₁ => TT G A (pyIter xv) (Comp G A target elt ifs ns vn (fun C => compEnvC scope cl C env) (fun D acc l₂ =>
      ∀ C, TT G A (storeName env y (.ref D)) (fun _ l₃ => ∃ l₄, Le l₃ ((C, IsNs ns vn) :: l₄) ∧ Q .next l₄) E ((D, Lst acc) :: (C, IsNs ns vn) :: l₂))) E l₁) E l)
    (hs : ∀ x, foldedSetIterable iter env x = pure x := by intro _; rfl) (hvn : vn = List.replicate ns.length none := by rfl) : TT G A (exec (.Assign [.Name y py] (.ListComp elt [⟨target, iter, ifs, 0⟩] scope pos) spos) env) Q E l := by
  have core := compCore (G := G) (A := A) (E := E) (l := l) (env := env) (pos := pos) (use := some (assign (.Name y py) env)) (Q := fun _ l' => Q .next l') (p' := firstIterPos [⟨target, iter, ifs, 0⟩] pos) hvn hclos (fun y hy => by
      have := List.all_eq_true.mp hok y hy
      simp only [Bool.and_eq_true, decide_eq_true_eq] at this
      exact this.1) hkind (fun y hy e => by
      have := List.all_eq_true.mp hok y hy
      simp only [Bool.and_eq_true, decide_eq_true_eq, Bool.or_eq_true, beq_iff_eq] at this
      exact this.2.resolve_left fun q => q e) (elt := elt) (iter := iter) (target := target) (ifs := ifs) ⟨fun s M => (h.k M fun xv s₁ l₁ m₁ q₁ => ⟨l₁, m₁, ⟨fun s M => q₁.k M fun it s₂ l₂ m₂ q₂ => ⟨l₂, m₂, ⟨by
        obtain ⟨it, I, Inv, lo, a1, a2, a3, a4, a5, a6, a7, a8⟩ := q₂.go
        exact ⟨it, I, Inv, lo, a1, a2, a3, a4, a5, a6, a7, fun acc l D hI C => T_assignName (a8 acc l D hI C)⟩⟩⟩⟩⟩)⟩ hs
  refine ⟨fun s M => ?_⟩
  rw [exec_Assign_Name_used _ _ _ _ hsw]
  refine wpAny_bind (wpAny_standAt (wpAny_bind ?_))
  show wpAny _ A (do let _ ← comprehension (.ListComp elt [⟨target, iter, ifs, 0⟩] scope pos) scope env _ (newList []) false (eval iter env) (some (assign (.Name y py) env))) _ _ s
  exact wpAny_bind (wpAny_mono (core.go s M) (fun _ s' hq => wpAny_pure (wpAny_pure hq)) fun _ _ e => e)
variable {target elt : Expr} {ns : List Str} {vn : List (Option Value)} {cenv : Addr → Env} {R : Addr → List Value → Led → Prop}
theorem CompU.range {it : Addr} {a b : Nat} (Inv : Nat → List Value → Led → Prop) (hh : A.handled = none) (hab : a ≤ b) (h0 : Inv 0 [] l) (hn : ∀ i acc l, Inv i acc l → acc.length ≤ sizeLine)
    (turn : ∀ i acc l D C, i < b - a → Inv i acc l → ∀ t, TT G A (assign target (cenv C) (.int (a + i : Nat) t)) (fun _ l₂ => TU G A (eval elt (cenv C)) (fun x l₄ => ∃ c l₅, CV x c ∧ Le l₄ ([(it, RIt a b (i + 1))] ++ (D, Lst acc) :: (C, IsNs ns vn) :: l₅) ∧ Inv (i + 1) (acc ++ [c]) l₅) Ef l₂) Ef ((it, RIt a b (i + 1)) :: (D, Lst acc) :: (C, IsNs ns vn) :: l))
    (done : ∀ acc l D, Inv (b - a) acc l → R D acc l) (ht : ∀ v, letOwnedTupleGo target (.ref it) v = pure () := by intro _; rfl) : CompU G A target elt ns vn cenv R (.ref it) ((it, RIt a b 0) :: l) :=
  ⟨it, rngIter it a b, Inv, l, rfl, rngIter_ok hh hab ht, Le.refl _, h0, fun l Q hq => ⟨fun s M => by
      obtain ⟨o, ho, rfl⟩ := M.at_ (a := it) (P := RIt a b 0) (.head _)
      exact wpAny_pyIter_rangeiter ho ⟨_, M, hq⟩⟩,
    fun i acc l D C hI => ⟨hn i acc l hI, _, .head _⟩, fun i acc l D C hi hI t => turn i acc l D C hi hI t, done⟩
theorem U_ListComp {iter : Expr} {scope : Scope} {cl : List (Str × Addr)} {Q : Value → Led → Prop} (ns : List Str) (vn : List (Option Value))
    (hclos : closureFor scope env = pure cl) (hok : (scope.names.all fun y => decide (y.2 ≠ .cell) && (decide (y.2 ≠ .local) || scope.names.lookup y.1 == some .local)) = true) (hkind : scope.kind = .function)
    (h : TT G A (eval iter env) (fun xv l₁ => TT G A (pyIter xv) (CompU G A target elt ns vn (fun C => compEnvC scope cl C env) (fun D acc l₂ => Q (.ref D) ((D, Lst acc) :: l₂))) E l₁) E l)
    (hs : ∀ x, foldedSetIterable iter env x = pure x := by intro _; rfl) (hvn : vn = List.replicate ns.length none := by rfl) : TU G A (eval (.ListComp elt [⟨target, iter, [], 0⟩] scope pos) env) Q E l := by
  rw [eval_ListComp]
  refine compCoreU (p' := firstIterPos [⟨target, iter, [], 0⟩] pos) hvn hclos (fun y hy => ?_) hkind (fun y hy e => ?_) h hs
  · have := List.all_eq_true.mp hok y hy
    simp only [Bool.and_eq_true, decide_eq_true_eq] at this
    exact this.1
  · have := List.all_eq_true.mp hok y hy
    simp only [Bool.and_eq_true, decide_eq_true_eq, Bool.or_eq_true, beq_iff_eq] at this
    exact this.2.resolve_left fun q => q e

end
end
section
section
variable {G : Gd} {A : Around} {E : Value → Led → Prop} {l l' : Led} {env : Env} {pos : Pos}
open PySem.Builtin PySem.Builtin.Str
theorem ItemOn.toks {M : Model} {E : Value → Shared → Prop} {o i : Value} {Q : Value → Shared → Prop} {s : Shared} {n : Nat} (hn : n ≤ s.toks) (h : ItemOn M A (fun e s' => n ≤ s'.toks → E e s') o i (fun v s' => n ≤ s'.toks → Q v s') s) : ItemOn M A E o i Q s := by
  obtain ⟨T, id, a, b, c⟩ := h
  exact ⟨T, id, a, b, wpAny_with_toks hn c⟩
theorem T_sliceS {value : Expr} {lower upper : Option Expr} {p : Pos} {Q : Value → Led → Prop}
    (h : TT G A (eval value env) (fun o l₁ => TT G A (evalPart lower env) (fun vl l₂ => TT G A (evalPart upper env) (fun vu l₃ =>
      ∃ x t lo hi, o = .str x t ∧ (∃ e : Ent, e ∈ l₃) ∧ x.length ≤ sizeLine ∧ IsPart vl lo ∧ IsPart vu hi ∧ ∀ t', Q (.str (Txt.slice x lo hi) t') l₃) E l₂) E l₁) E l)
    (ht : ∀ o r, letTemporaryGo value o r = pure () := by intro _ _; rfl) : TT G A (eval (.Subscript value (.Slice lower upper none p) pos) env) Q E l :=
  ⟨fun s M => by
    refine Subscript_Slice (h.k M fun o s₁ l₁ m₁ q => wpAny_Slice (q.k m₁ fun vl s₂ l₂ m₂ q => q.k m₂ fun vu s₃ l₃ m₃ q => ?_)) ht
    obtain ⟨x, t, lo, hi, rfl, ⟨en, hen⟩, hz, pl, pu, q⟩ := q
    refine evalPart_none_step ?_
    have hk : KeptH fun h' : Heap => ∀ b o, s₃.heap.get? b = some o → h'.get? b = some o := fun h ob hh b o e => Heap.get?_push_of_some _ (hh b o e)
    have h0 : ∀ b o, s₃.heap.get? b = some o → s₃.heap.get? b = some o := fun _ _ e => e
    refine ItemOn.toks (n := s₃.toks) (Nat.le_refl _) ?_
    cases pl <;> cases pu
    · exact SBH.sliceItem_nn hk h0 (fun h' t' k hP htk => ⟨l₃, m₃.keeps hP hen k htk, q t'⟩) hz
    · exact SBH.sliceItem_ns hk h0 (fun h' t' k hP htk => ⟨l₃, m₃.keeps hP hen k htk, q t'⟩) hz
    · exact SBH.sliceItem_sn hk h0 (fun h' t' k hP htk => ⟨l₃, m₃.keeps hP hen k htk, q t'⟩) hz
    · exact SBH.sliceItem_ss hk h0 (fun h' t' k hP htk => ⟨l₃, m₃.keeps hP hen k htk, q t'⟩) hz⟩
section
variable {x y : Str} {t u v : Tok}
theorem gm_find {pl : Sem Bool} {Q : Value × List Value → Led → Prop} (h : Q (.builtin "str.find", [.str x t]) l) : TT G A (getMethod (.str x t) (Str.ofString "find") pl) Q E l := ⟨fun s M => GM.find ⟨l, M, h⟩⟩
theorem gm_split {pl : Sem Bool} {Q : Value × List Value → Led → Prop} (h : Q (.builtin "str.split", [.str x t]) l) : TT G A (getMethod (.str x t) (Str.ofString "split") pl) Q E l := ⟨fun s M => GM.split ⟨l, M, h⟩⟩
theorem T_find {Q : Value → Led → Prop} (h : ∀ t, Q (.int (Txt.find x y) t) l) : TT G A (call (.builtin "str.find") [.str x t, .str y u]) Q E l := ⟨fun s M => SC.find ⟨l, M.toks _, h _⟩⟩
theorem T_find3 {i : Int} {Q : Value → Led → Prop} (h : ∀ t, Q (.int (Txt.find3 x y i) t) l) : TT G A (call (.builtin "str.find") [.str x t, .str y u, .int i v]) Q E l := ⟨fun s M => SC.find3 ⟨l, M.toks _, h _⟩⟩
theorem T_itemS {value slice : Expr} {i : Int} {Q : Value → Led → Prop} (hr : fitsSsize i = true) (h1 : -(x.length : Int) ≤ i) (h2 : i < x.length) (h : ∀ t, Q (.str (Txt.item x i) t) l)
    (hs : subscripted slice false (.str x t) (.int i u) = operate [.str x t, .int i u] (getItem (.str x t) (.int i u)) := by with_unfolding_all rfl)
    (ht : ∀ r, letTemporaryGo value (.str x t) r = pure () := by intro _; with_unfolding_all rfl) : TT G A (subscriptTail value slice (.str x t) (.int i u)) Q E l :=
  ⟨fun s M => item_str hr h1 h2 (fun _ => ⟨l, M.toks _, h _⟩) hs ht⟩
theorem strs_cv (ss : List (Str × Tok)) : (strValues ss).toArray.toList.map cv = (ss.map (·.1)).map sv := by
  simp [strValues, cv, Function.comp_def]
theorem T_split {Q : Value → Led → Prop} (hy : (y.length == 0) = false) (hsz : x.length ≤ sizeLine) (hsz2 : (partsBetween x (occurrences x y 0 x.length (x.length + 1)) y.length).length ≤ sizeLine)
    (h : ∀ D, Q (.ref D) ((D, Lst ((Txt.split x y).map sv)) :: l)) : TT G A (call (.builtin "str.split") [.str x t, .str y u]) Q E l :=
  ⟨fun s M => by
    have fin : ∀ (ss : List (Str × Tok)) (tk : Nat), s.toks ≤ tk → ss.map (·.1) = Txt.split x y → ∃ l', Mod G l' { s with heap := s.heap.push { cls := .type "list", data := .seq (strValues ss).toArray }, toks := tk } ∧ Q (.ref s.heap.objs.size) l' := fun ss tk htk e =>
      ⟨_, M.push (P := Lst ((Txt.split x y).map sv)) ⟨_, 0, rfl, by rw [strs_cv, e]⟩ rfl tk htk, h _⟩
    cases h1 : (decide (x.length < y.length) || decide (strKind x < strKind y))
    · cases hf : (occurrences x y 0 x.length (x.length + 1)).isEmpty
      · refine call_meets F.slot_str_split (typeIs_str _ _ _) F.entry_str_split (F.args_str_split_2 _ _) (meets_str_split_sep x y t u h1 hy hf hsz hsz2) ?_
        show wants _ _ _ { s with toks := _, heap := s.heap.push { cls := .type "list", data := .seq (strsFrom s.toks (partsBetween x (occurrences x y 0 x.length (x.length + 1)) y.length)).toArray } }
        rw [strsFrom_eq]
        exact fin (numbered s.toks _) _ (Nat.le_add_right _ _) ((numbered_texts _ _).trans ((if_neg (ne_true_of_eq_false h1)).trans (if_neg (ne_true_of_eq_false hf))).symm)
      · exact call_meets F.slot_str_split (typeIs_str _ _ _) F.entry_str_split (F.args_str_split_2 _ _) (meets_str_split_not_found x y t u h1 hy hf)
          (fin [(x, t)] s.toks (Nat.le_refl _) ((if_neg (ne_true_of_eq_false h1)).trans (if_pos hf)).symm)
    · exact call_meets F.slot_str_split (typeIs_str _ _ _) F.entry_str_split (F.args_str_split_2 _ _) (meets_str_split_cannot_occur x y t u h1)
        (fin [(x, t)] s.toks (Nat.le_refl _) (if_pos h1).symm)⟩
theorem T_intText {n : Int} {Q : Value → Led → Prop} (hn : PySem.intText? x = some n) (hl : x.length ≤ 640) (h : ∀ t, Q (.int n t) l) : TT G A (call (.type "int") [.str x t]) Q E l := ⟨fun s M => KIN.call_text hn hl ⟨l, M.toks _, h _⟩⟩
end

end
end
section
section
variable {G : Gd} {A : Around} {E : Value → Led → Prop} {l l' : Led} {env : Env} {pos : Pos}
open PySem.Builtin PySem.Builtin.BaseException PySem.Builtin.Str
theorem st44 {w : World} : findIn (KK w) (.ref 44) (Str.ofString "__str__") = some (some (.builtin "BaseException.__str__")) := by kernel_rfl
theorem st56 {w : World} : findIn (KK w) (.ref 56) (Str.ofString "__str__") = some (some (.builtin "BaseException.__str__")) := by kernel_rfl
theorem mr44 {w : World} : mroIn (KK w) 44 (.type "BaseException") = some true := by kernel_rfl
theorem mr56 {w : World} : mroIn (KK w) 56 (.type "BaseException") = some true := by kernel_rfl
theorem slotBE : Slot "Exception" "__str__" "BaseException.__str__" := .of (owner := "BaseException") (n := "__str__") (by rw [typeLookup_type, builtinLookup_eq_fast]; kernel_rfl) (by decide +kernel) (by decide +kernel) (by decide +kernel) (by first | exact .inl (by decide +kernel) | exact .inr (by decide +kernel)) (by rw [isSubtype_type]; kernel_rfl)
theorem bexcArgs_own {M : Model} {E : Value → Shared → Prop} {s : Shared} {e t0 : Addr} {o : Obj} {vs : Array Value} {its : Array Value} {n : Nat} {Q : Value × List Value → Shared → Prop} (ho : s.heap.get? e = some o) (hd : o.data = .fields vs) (h0 : vs[0]? = some (.ref t0))
    (ht : s.heap.get? t0 = some { cls := .type "tuple", data := .seq its n }) (hq : Q (.ref t0, its.toList) s) : wpAny M A (bexcArgs (.ref e)) Q E s := by
  unfold bexcArgs
  exact wpAny_bind (wpAny_field ho hd h0 (wpAny_bind (wpAny_seqItems ht rfl (wpAny_pure hq))))
theorem bexcStr_own {prog : Program} {w : World} {E : Value → Shared → Prop} {s : Shared} {e t0 : Addr} {o : Obj} {vs : Array Value} {n : Nat} {m : Str} {tk : Tok} {Q : Fin → Shared → Prop} (ho : s.heap.get? e = some o) (hd : o.data = .fields vs) (h0 : vs[0]? = some (.ref t0))
    (ht : s.heap.get? t0 = some { cls := .type "tuple", data := .seq #[.str m tk] n }) (hq : Q (.done (.ret (.str m tk))) s) : wpAny (model prog w) A (Builtin.«BaseException.__str__» ⟨[.ref e], []⟩) Q E s := by
  unfold Builtin.«BaseException.__str__»
  repeat (first | with_reducible refine bexcArgs_own ho hd h0 ht ?_ | wp_step)
  exact hq
theorem special_own {M : Model} {E : Value → Shared → Prop} {s : Shared} {K : Frag} {x C : Addr} {name : Str} {id : String} {args : List Value} {Q : Option Value → Shared → Prop} (X : K.In s.heap) (LT : Looks M s.heap (typeOf (.ref x)) (.ref C)) (hs : findIn K (.ref C) name = some (some (.builtin id)))
    (hb : ∀ self, bindSpecial (.builtin id) self = pure (.builtin id, [self])) (h : wpAny M A (call (.builtin id) (.ref x :: args)) (fun v => Q (some v)) E s) : wpAny M A (callSpecial? (.ref x) name args) Q E s :=
  wpAny_bind (wpAny_bind (LT.here ((looks_findIn X hs).here (wpAny_holding (wpAny_bind ((Looks.of_pure (hb _)).here (wpAny_bind (wpAny_mono h (fun _ _ z => wpAny_pure z) fun _ _ z => z))))))))
theorem T_strExc {e as C : Addr} {T₀ : Addr} {m : Str} {Q : Value → Led → Prop} (hs : findIn (KK G.w) (.ref C) (Str.ofString "__str__") = some (some (.builtin "BaseException.__str__"))) (hm : mroIn (KK G.w) C (.type "BaseException") = some true) (hu : A.units + 5 < cLine)
    (he : (e, ExT (.ref C) (some as) T₀) ∈ l) (ha : (as, Tup [sv m]) ∈ l) (h : ∀ t, Q (.str m t) l) : TT G A (call (.type "str") [.ref e]) Q E l :=
  ⟨fun s M => by
    obtain ⟨o, ho, vs, hc, hd, _, h0⟩ := M.at_ he
    obtain ⟨o', ho', xs, n, rfl, hx⟩ := M.at_ ha
    have h0 := h0 as rfl
    obtain ⟨tk, rfl⟩ : ∃ tk, xs = #[.str m tk] := by
      obtain ⟨ys⟩ := xs
      match ys, hx with
      | [], hx => simp at hx
      | [y], hx =>
        simp only [List.map_cons, List.map_nil, List.cons.injEq, and_true] at hx
        obtain ⟨tk, rfl⟩ := cv_str hx
        exact ⟨tk, rfl⟩
      | _ :: _ :: _, hx => simp at hx
    have LT : Looks (model prg G.w) s.heap (typeOf (.ref e)) (.ref C) := (Looks.ld ho).andThen (by rw [hc]; exact .now)
    refine callType_new F.called_str (by decide) (F.typeCall_str_1 _) (F.newCall_str_1 _) (fun obj => F.args_object_init_2 obj _) F.entry_str_new
      (meets_str_new (S := fun A' R s' => A'.in1.in1.units < cLine ∧ s'.heap = s.heap ∧ R (.ok (.ret (.str m tk))) s') fun prog w A' R s' hq => ?_) ⟨by show A.units + 1 + 1 + 1 < _; omega, rfl, typeIs_str _ _ _, l, M, h _⟩
    obtain ⟨hu', hh, hR⟩ := hq
    have ho2 : s'.heap.get? e = some o := by rw [hh]; exact ho
    have ht2 : s'.heap.get? as = some { cls := .type "tuple", data := .seq #[.str m tk] n } := by rw [hh]; exact ho'
    have X : (KK G.w).In s'.heap := by rw [hh]; exact M.X
    have LT2 : Looks (model prog w) s'.heap (typeOf (.ref e)) (.ref C) := (Looks.ld ho2).andThen (by rw [hc]; exact .now)
    show wpAny (model prog w) A'.in1 (PySem.Builtin.Str.strOf (.ref e)) _ _ s'
    unfold PySem.Builtin.Str.strOf
    show wpAny (model prog w) A'.in1 (cRoomFor _ _ >>= _) _ _ s'
    refine wpAny_bind (m := cRoomFor _ _) (wpAny_cRoomFor (by have : A'.in1.units + 1 < cLine := hu'; omega) ?_)
    refine wpAny_bind (m := callSpecial? (.ref e) (Str.ofString "__str__")) (special_own X LT2 hs slotBE.bind ?_)
    refine wpAny_call (codeAny_call_builtin slotBE.plain F.entry_bexc_str (check_slot (i := "BaseException.__str__") (owner := "BaseException") (n := "__str__") (by decide +kernel) (by decide +kernel) (LT2.andThen (looks_mroIn X hm)) (F.args_bexc_str _) ?_))
    exact bexcStr_own ho2 hd h0 ht2 (wpAny_pure hR)⟩

end
end
section
section
variable {G : Gd} {A : Around} {E : Value → Led → Prop} {l l' : Led} {env : Env} {pos : Pos}
theorem T_nameGoes {L : Addr} {ns : List Str} {vs vn : List (Option Value)} {n : Str} {i : Nat} {Q : Unit → Led → Prop} (F : Lay env L ns) (hi : ns[i]? = some n) (hvn : vn = List.replicate ns.length none) (hr : Rep L (IsNs ns vs) (IsNs ns vn) l l') (h : Q () l') :
    TT G A (do bindName env n .none; unbindBehindTheSuite env n pos) Q E l :=
  ⟨fun s M => by
    obtain ⟨o, ho, hn⟩ := M.at_ hr.mem
    obtain ⟨m, hns, _⟩ := ns_at ho hn
    have hl := F.loc
    subst hl
    refine wpAny_nameGoes (F.local_ hi).1 hns (by rw [F.kind]; rfl) fun h' m' hn' hs => ⟨l', M.upd hr hs ?_ _, h⟩
    exact isNs_of hn' fun i x c _ hc => by
      have := List.mem_of_getElem? hc
      rw [hvn, List.mem_replicate] at this
      cases this.2⟩
theorem T_handleOA {e T₀ : Addr} {cls c : Value} {b : Bool} {as : Option Addr} {t : Expr} {n : Str} {b₀ : Stmt} {suite : List Stmt} {rest : List ExceptHandler} {Q : Flow → Led → Prop} (hx : exmOne (KK G.w) cls c = some b)
    (h : TT G (A.mark (some (.ref e))) (eval t env) (fun c' l₁ => c' = c ∧ (e, ExT cls as T₀) ∈ l₁ ∧ Br b (TT G (A.mark (some (.ref e))) (setFlight (.ref e) none) (fun _ l₂ => TT G (A.mark (some (.ref e))) (storeName env n (.ref e)) (fun _ l₃ =>
        TT G (A.mark (some (.ref e))) (execs (b₀ :: suite) env) (fun f l₄ => TT G A (do bindName env n .none; unbindBehindTheSuite env n pos) (fun _ l₅ => Q f l₅) E l₄) Ef l₃) Ef l₂) Ef l₁) (TT G A (handleBy (.ref e) env rest) Q E l₁)) Ef l) :
    TT G A (handleBy (.ref e) env (.ExceptHandler (some t) (some n) (b₀ :: suite) pos :: rest)) Q E l :=
  ⟨fun s M => by
    refine wpAny_handleBy_cons (codeAny_handlers_test (wpAny_mono (h.go s M) (fun c' s₁ q => ?_) fun _ _ q => modFalse q)) (by intro q; cases q)
    obtain ⟨l₁, m, rfl, he, q⟩ := q
    obtain ⟨o, ho, vs, hc, _⟩ := m.at_ he
    have LT : Looks (model prg G.w) s₁.heap (typeOf (.ref e)) cls := (Looks.ld ho).andThen (by rw [hc]; exact .now)
    refine (exm_one m.X LT hx).here ?_
    cases b with
    | true =>
      refine codeAny_handlers_suite_as (wpAny_mono ((q.yes rfl).go s₁ m) (fun _ s₂ q₂ => ?_) fun _ _ q => modFalse q)
      obtain ⟨l₂, m₂, q₂⟩ := q₂
      refine wpAny_mono (q₂.go s₂ m₂) (fun _ s₃ q₃ => ?_) fun _ _ q => modFalse q
      obtain ⟨l₃, m₃, q₃⟩ := q₃
      refine wpAny_mono (q₃.go s₃ m₃) (fun f s₄ q₄ => ?_) fun _ _ q => modFalse q
      obtain ⟨l₄, m₄, q₄⟩ := q₄
      exact q₄.go s₄ m₄
    | false => exact (q.no rfl).go s₁ m⟩
theorem xm44 {w : World} : exmOne (KK w) (.ref 44) (.ref 44) = some true := by kernel_rfl
theorem xm56 {w : World} : exmOne (KK w) (.ref 56) (.ref 56) = some true := by kernel_rfl
theorem xm5644 {w : World} : exmOne (KK w) (.ref 56) (.ref 44) = some false := by kernel_rfl
theorem xmV44 {w : World} : exmOne (KK w) (.type "ValueError") (.ref 44) = some false := by kernel_rfl
theorem xmV56 {w : World} : exmOne (KK w) (.type "ValueError") (.ref 56) = some false := by kernel_rfl

end
end
section
section
variable {G : Gd} {A : Around} {E : Value → Led → Prop} {l l' : Led} {env : Env} {pos : Pos}
open PySem.Builtin.Str PySem.NumText
inductive PO
  | ok (n : Int)
  | reply
  | proto
  | value
noncomputable def pL (r : Str) : Int := Txt.find r (Str.ofString "(")
noncomputable def pJ (r : Str) : Int := Txt.find3 r (Str.ofString ")") (pL r + 1)
noncomputable def pC (r : Str) : Str := Txt.item r (pL r + 1)
noncomputable def pS (r : Str) : Str := Txt.slice r (some (pL r + 1)) (some (pJ r))
noncomputable def pP (r : Str) : List Str := Txt.split (pS r) (pC r)
noncomputable def pX (r : Str) : Str := (pP r).getD 3 Str.empty
noncomputable def pG1 (r : Str) : Bool := decide (0 ≤ pL r + 1) && decide (pL r + 1 < r.length) && fitsSsize (pL r + 1) && decide (0 ≤ pJ r - 1) && decide (pJ r - 1 < r.length) && fitsSsize (pJ r - 1)
noncomputable def pG2 (r : Str) : Bool := !((pC r).length == 0) && decide ((pS r).length ≤ 1000) && decide ((partsBetween (pS r) (occurrences (pS r) (pC r) 0 (pS r).length ((pS r).length + 1)) (pC r).length).length ≤ 1000) && decide ((pP r).length ≤ 1000)
noncomputable def pG3 (r : Str) : Bool := decide ((pX r).length ≤ 640) && decide ((reprText (pX r)).length ≤ 2000) && ((numSeenOf (pX r)).length == (numTextOf (pX r)).length)
/-- what parse229 does with a reply -/
noncomputable def parseR (r : Str) : Option PO :=
  if !(decide (r.length ≤ 1000)) then none else
  if Txt.slice r none (some 3) != Str.ofString "229" then some .reply else
  if pL r < 0 then some .proto else
  if pJ r < 0 then some .proto else
  if !pG1 r then none else
  if Txt.item r (pL r + 1) != Txt.item r (pJ r - 1) then some .proto else
  if !pG2 r then none else
  if ((pP r).length : Int) != 5 then some .proto else
  if !pG3 r then none else
  match PySem.intText? (pX r) with
  | some n => some (.ok n)
  | none => some .value
theorem numeral_bad {x : Str} (h0 : PySem.intText? x = none) (hl : x.length ≤ 640) (h : ((numSeenOf x).length == (numTextOf x).length) = true) : (int_private% "readNumeral") 0 10 (numSeenOf x) = int_private% "Numeral.invalid" := by
  rcases read0 x (Nat.le_trans (seen_length x) hl) with ⟨n, h1, _⟩ | ⟨_, h1 | ⟨i, _, h2⟩⟩
  · rw [h0] at h1; cases h1
  · exact h1
  · exact absurd h h2
theorem leave_spec {fd : FuncData} {L f e t : Addr} {C : Value} {as : List Value} {ns : List Str} {vs : List (Option Value)} {pre l2 : Led} {X : Value → Led → Prop} (hF : Frs A pre) (hk : fd.scope.kind = .function) (hle : Le l2 ((L, IsNs ns vs) :: pre))
    (h : ∀ T, X (.ref e) ((e, ExT C (some t) T) :: (T, Trc .none) :: (t, Tup as) :: pre)) :
    TT G (A.deeper (callEnv fd L f)) (leaving (callEnv fd L f) (.ref e)) (fun _ l₂ => ∃ l₃, Le l₂ l₃ ∧ X (.ref e) l₃) Ef ((e, ExN C (some t)) :: (t, Tup as) :: l2) := by
  refine TT.le (.keep (fun _ h => h) (.keep (fun _ h => h) hle)) ?_
  obtain ⟨fs, hfs, _⟩ := id hF.go
  refine T_leaveN (l' := fun T => (e, ExT C (some t) T) :: _) ?_ ⟨fs, Around.frames_deeper hfs⟩ rfl (fun T => Rep.head) fun T => ?_
  · exact (hF.deeper (L := L) (ns := ns) (vs := vs) hk).sub fun p hp => .tail _ (.tail _ hp)
  · refine ⟨_, ?_, h T⟩
    walk_at "le"
theorem parse_spec {r host : Str} {tr : Tok} {pa : Addr} {pp : Value} {o : PO} {pre : Led} {Q X : Value → Led → Prop} (ax : Ax A 1) (hF : Frs A pre) (hp : parseR r = some o) (hP : (pa, Tup [sv host, pp]) ∈ pre)
    (hok : ∀ n tu, o = .ok n → Q (.ref tu) ((tu, Tup [sv host, iv n]) :: pre))
    (hrep : o = .reply → ∀ e t T, X (.ref e) ((e, ExT (.ref 44) (some t) T) :: (T, Trc .none) :: (t, Tup [sv r]) :: pre))
    (hpro : o = .proto → ∀ e t T, X (.ref e) ((e, ExT (.ref 56) (some t) T) :: (T, Trc .none) :: (t, Tup [sv r]) :: pre))
    (hval : o = .value → ∀ e t T vs, X (.ref e) ((e, ExT (.type "ValueError") (some t) T) :: (T, Trc .none) :: (t, Tup vs) :: pre)) :
    TU G A (call (.ref 65) [.str r tr, .ref pa]) Q X pre := by
  refine (C_defU [Str.ofString "left", Str.ofString "right", Str.ofString "parts", Str.ofString "host", Str.ofString "port"] (ns := [Str.ofString "resp", Str.ofString "peer", Str.ofString "left", Str.ofString "right", Str.ofString "parts", Str.ofString "host", Str.ofString "port"]) (vs := [some (sv r), some (.ref pa), none, none, none, none, none]) ax.room (by exact rfl) rfl (fun s _ => BindsTo.of_eq rfl) rfl rfl (by kernel_rfl) ⟨rfl, rfl, rfl, rfl, rfl⟩ fun L F => ?_).callE
  have e20 : 3000 ≤ sizeLine := by decide
  have hout : ∀ env : Env, ∃ outer, (A.deeper env).frames = some (env :: outer) := fun env => by
    obtain ⟨fs, hfs, _⟩ := hF.go
    exact ⟨fs, Around.frames_deeper hfs⟩
  unfold parseR at hp
  split at hp
  · cases hp
  rename_i g0
  have hz : r.length ≤ 1000 := by simpa using g0
  refine U_execsT (T_If (T_isCompare (T_sliceS (T_ld F (by walk_at "mem") (by walk_at "at") ?_))))
  intro t1
  refine T_part_none (T_part (T_int fun t2 => ⟨_, _, _, _, rfl, ⟨_, .head _⟩, by omega, .none, .int 3 _, fun t3 => ?_⟩))
  refine T_str fun t4 => T_str_ne (T_truthy_bool ⟨fun e1 => ?_, fun e1 => ?_⟩)
  · rw [if_pos e1] at hp
    cases hp
    obtain ⟨nid, iid, bm, FB, hex⟩ := ex44 (w := G.w)
    refine T_execs (T_RaiseOwn F g_error_reply (by rfl) FB hex ax.hd ?_)
    refine T_items (T_ld F (by walk_at "mem") (by walk_at "at") ?_)
    intro t5
    refine T_items_nil ⟨(Nat.le_of_ble_eq_true rfl), fun e t => ?_⟩
    exact leave_spec hF rfl (Le.refl _) fun T => hrep rfl e t T
  rw [if_neg (by rw [e1]; exact Bool.false_ne_true)] at hp
  refine T_execs_nil ?_
  refine U_execsT (T_Assign (T_MCall (T_ld F (by walk_at "mem") (by walk_at "at") ?_)))
  intro t5
  refine gm_find (T_cw Callee.builtin (T_items (T_str fun t6 => T_items_nil (T_find fun t7 => ?_))))
  refine T_st F (by walk_at "mem") (by walk_at "cv") (by walk_at "put") (by walk_at "rep") ?_
  refine U_execsT (T_If (T_isCompare (T_ld F (by walk_at "mem") (by walk_at "at") ?_)))
  intro t8
  refine T_int fun t9 => T_lt (T_truthy_bool ⟨fun e2 => ?_, fun e2 => ?_⟩)
  · have e2 := of_decide_eq_true e2
    rw [if_pos (by exact e2)] at hp
    cases hp
    obtain ⟨nid, iid, bm, FB, hex⟩ := ex56 (w := G.w)
    refine T_execs (T_RaiseOwn F g_error_proto (by rfl) FB hex ax.hd ?_)
    refine T_items (T_ld F (by walk_at "mem") (by walk_at "at") ?_)
    intro t5
    refine T_items_nil ⟨(Nat.le_of_ble_eq_true rfl), fun e t => ?_⟩
    exact leave_spec hF rfl (Le.refl _) fun T => hpro rfl e t T
  have e2 := of_decide_eq_false e2
  rw [if_neg (by exact e2)] at hp
  refine T_execs_nil ?_
  refine U_execsT (T_Assign (T_MCall (T_ld F (by walk_at "mem") (by walk_at "at") ?_)))
  intro t5
  refine gm_find (T_cw Callee.builtin (T_items (T_str fun t6 => T_items (T_BinOp (T_ld F (by walk_at "mem") (by walk_at "at") ?_)))))
  intro t7
  refine T_int fun t8 => T_add fun t9 => T_items_nil (T_find3 fun t10 => ?_)
  refine T_st F (by walk_at "mem") (by walk_at "cv") (by walk_at "put") (by walk_at "rep") ?_
  refine U_execsT (T_If (T_isCompare (T_ld F (by walk_at "mem") (by walk_at "at") ?_)))
  intro t11
  refine T_int fun t12 => T_lt (T_truthy_bool ⟨fun e3 => ?_, fun e3 => ?_⟩)
  · have e3 := of_decide_eq_true e3
    rw [if_pos (by exact e3)] at hp
    cases hp
    obtain ⟨nid, iid, bm, FB, hex⟩ := ex56 (w := G.w)
    refine T_execs (T_RaiseOwn F g_error_proto (by rfl) FB hex ax.hd ?_)
    refine T_items (T_ld F (by walk_at "mem") (by walk_at "at") ?_)
    intro t5
    refine T_items_nil ⟨(Nat.le_of_ble_eq_true rfl), fun e t => ?_⟩
    exact leave_spec hF rfl (Le.refl _) fun T => hpro rfl e t T
  have e3 := of_decide_eq_false e3
  rw [if_neg (by exact e3)] at hp
  refine T_execs_nil ?_
  split at hp
  · cases hp
  rename_i g1
  have g1 : pG1 r = true := by simpa using g1
  simp only [pG1, Bool.and_eq_true, decide_eq_true_eq] at g1
  obtain ⟨⟨⟨⟨⟨k1, k2⟩, k3⟩, k4⟩, k5⟩, k6⟩ := g1
  refine U_execsT (T_If (T_isCompare (T_Sub (T_ld F (by walk_at "mem") (by walk_at "at") ?_))))
  intro t13
  refine T_BinOp (T_ld F (by walk_at "mem") (by walk_at "at") ?_)
  intro t14
  refine T_int fun t15 => T_add fun t16 => ?_
  refine T_itemS k3 (by omega) k2 fun t17 => ?_
  refine T_Sub (T_ld F (by walk_at "mem") (by walk_at "at") ?_)
  intro t18
  refine T_BinOp (T_ld F (by walk_at "mem") (by walk_at "at") ?_)
  intro t19
  refine T_int fun t20 => T_sub fun t21 => ?_
  refine T_itemS k6 (by omega) k5 fun t22 => ?_
  refine T_str_ne (T_truthy_bool ⟨fun e4 => ?_, fun e4 => ?_⟩)
  · rw [if_pos (by exact e4)] at hp
    cases hp
    obtain ⟨nid, iid, bm, FB, hex⟩ := ex56 (w := G.w)
    refine T_execs (T_RaiseOwn F g_error_proto (by rfl) FB hex ax.hd ?_)
    refine T_items (T_ld F (by walk_at "mem") (by walk_at "at") ?_)
    intro t5
    refine T_items_nil ⟨(Nat.le_of_ble_eq_true rfl), fun e t => ?_⟩
    exact leave_spec hF rfl (Le.refl _) fun T => hpro rfl e t T
  rw [if_neg (by rw [show (Txt.item r (pL r + 1) != Txt.item r (pJ r - 1)) = false from e4]; exact Bool.false_ne_true)] at hp
  refine T_execs_nil ?_
  split at hp
  · cases hp
  rename_i g2
  have g2 : pG2 r = true := by simpa using g2
  simp only [pG2, Bool.and_eq_true, decide_eq_true_eq, Bool.not_eq_true'] at g2
  obtain ⟨⟨⟨j1, j2⟩, j3⟩, j4⟩ := g2
  refine U_execsT (T_Assign (T_MCall (T_sliceS (T_ld F (by walk_at "mem") (by walk_at "at") ?_))))
  intro t23
  refine T_part (T_BinOp (T_ld F (by walk_at "mem") (by walk_at "at") ?_))
  intro t24
  refine T_int fun t25 => T_add fun t26 => ?_
  refine T_part (T_ld F (by walk_at "mem") (by walk_at "at") ?_)
  intro t27
  refine ⟨_, _, _, _, rfl, ⟨_, .head _⟩, by omega, .int _ _, .int _ _, fun t28 => ?_⟩
  refine gm_split ?_
  refine T_cw Callee.builtin (T_items (T_Sub (T_ld F (by walk_at "mem") (by walk_at "at") ?_)))
  intro t29
  refine T_BinOp (T_ld F (by walk_at "mem") (by walk_at "at") ?_)
  intro t30
  refine T_int fun t31 => T_add fun t32 => ?_
  refine T_itemS k3 (by omega) k2 fun t33 => ?_
  refine T_items_nil (T_split (x := pS r) (y := pC r) j1 (Nat.le_trans j2 (by omega)) (Nat.le_trans j3 (by omega)) fun D => ?_)
  refine TT.as (l' := (D, Lst ((pP r).map sv)) :: _) rfl ?_
  refine T_st F (by walk_at "mem") (by walk_at "cv") (by walk_at "put") (by walk_at "rep") ?_
  refine U_execsT (T_If (T_isCompare (T_Call (T_blt F b_len (by rfl) ?_))))
  refine T_cw Callee.builtin (T_items (T_ld F (by walk_at "mem") (by walk_at "at") ?_))
  refine T_items_nil (T_len (by walk_at "mem") (by rw [List.length_map]; omega) fun t34 => ?_)
  refine T_int fun t35 => T_ne (T_truthy_bool ⟨fun e5 => ?_, fun e5 => ?_⟩)
  · rw [List.length_map] at e5
    rw [if_pos (by exact e5)] at hp
    cases hp
    obtain ⟨nid, iid, bm, FB, hex⟩ := ex56 (w := G.w)
    refine T_execs (T_RaiseOwn F g_error_proto (by rfl) FB hex ax.hd ?_)
    refine T_items (T_ld F (by walk_at "mem") (by walk_at "at") ?_)
    intro t5
    refine T_items_nil ⟨(Nat.le_of_ble_eq_true rfl), fun e t => ?_⟩
    exact leave_spec hF rfl (.drop (Le.refl _)) fun T => hpro rfl e t T
  rw [List.length_map] at e5
  rw [if_neg (by rw [e5]; exact Bool.false_ne_true)] at hp
  refine T_execs_nil ?_
  split at hp
  · cases hp
  rename_i g3
  have g3 : pG3 r = true := by simpa using g3
  simp only [pG3, Bool.and_eq_true, decide_eq_true_eq] at g3
  obtain ⟨⟨n1, n2⟩, n3⟩ := g3
  have hl5 : (pP r).length = 5 := by
    have : ((pP r).length : Int) = 5 := by simpa using e5
    omega
  refine U_execsT (T_Assign (T_Sub (T_ld F (by walk_at "mem") (by walk_at "at") ?_)))
  refine T_int fun t36 => T_itemT (c := sv host) (by walk_at "mem") (by decide) (by decide) rfl ?_
  intro t37
  refine T_st F (by walk_at "mem") (by walk_at "cv") (by walk_at "put") (by walk_at "rep") ?_
  cases hi : PySem.intText? (pX r) with
  | some n =>
    rw [hi] at hp
    cases hp
    refine U_execsT (T_Assign (T_Call (T_blt F b_int (by rfl) ?_)))
    refine T_cw Callee.type (T_items (T_Sub (T_ld F (by walk_at "mem") (by walk_at "at") ?_)))
    refine T_int fun t38 => T_item (c := sv (pX r)) (by walk_at "mem") (by decide) (by decide) (sv_get (by rw [hl5]; decide)) ?_
    intro t39
    refine T_items_nil (T_intText hi n1 fun t40 => ?_)
    refine T_st F (by walk_at "mem") (by walk_at "cv") (by walk_at "put") (by walk_at "rep") ?_
    refine U_execsT (T_Return (T_Tuple (T_items (T_ld F (by walk_at "mem") (by walk_at "at") ?_))))
    intro t41
    refine T_items (T_ld F (by walk_at "mem") (by walk_at "at") ?_)
    intro t42
    refine T_items_nil ⟨(Nat.le_of_ble_eq_true rfl), fun tu => ⟨_, ?_, hok n tu rfl⟩⟩
    show Le ((tu, Tup [sv host, iv n]) :: _) _
    walk_at "le"
  | none =>
    rw [hi] at hp
    cases hp
    refine U_execs (U_Assign (U_Call (T_blt F b_int (by rfl) ?_)))
    refine U_cw Callee.type (T_items (T_Sub (T_ld F (by walk_at "mem") (by walk_at "at") ?_)))
    refine T_int fun t38 => T_item (c := sv (pX r)) (by walk_at "mem") (by decide) (by decide) (sv_get (by rw [hl5]; decide)) ?_
    intro t39
    refine T_items_nil (U_int ax.hd (Nat.le_trans (seen_length _) n1) (numeral_bad hi n1 n3) (Nat.le_trans n2 (by omega)) fun e t vs => ?_)
    refine leave_spec (X := X) hF rfl (.drop (Le.refl _)) fun T => hval rfl e t T vs

end
end
section
section
variable {G : Gd} {A : Around} {E : Value → Led → Prop} {l l' : Led} {env : Env} {pos : Pos}
noncomputable def ansOf (r : Str) : PO → Ans
  | .ok n => .told n
  | .reply => .reply r
  | .proto => .proto r
  | .value => .bad
theorem kp65 {w : World} : keepIn (KK w) (.ref 65) = true := by kernel_rfl
theorem sub_val_base : isSubtype (.type "ValueError") (.type "BaseException") = pure true := by rw [isSubtype_type]; kernel_rfl
theorem meta_val : isSubtype (.type ((Manifest.find? "ValueError").elim "type" fun x => x.metatype)) (.type "tuple") = pure false := by rw [isSubtype_type]; kernel_rfl
theorem sub_val_val : isSubtype (.type "ValueError") (.type "ValueError") = pure true := by rw [isSubtype_type]; kernel_rfl
theorem ask_spec {r host : Str} {tr : Tok} {pa : Addr} {pp : Value} {o : PO} {pre : Led} {Q : Value → Led → Prop} (ax : Ax A 3) (hF : Frs A pre) (hp : parseR r = some o) (hP : (pa, Tup [sv host, pp]) ∈ pre)
    (h : ∀ row : AR, row.v = ansOf r o → Q (.ref row.a) (ansE host row ++ pre)) :
    TU G A (call (.ref 206) [.str r tr, .ref pa]) Q E pre := by
  refine (C_defU [Str.ofString "problem"] (ns := [Str.ofString "reply", Str.ofString "peer", Str.ofString "problem"]) (vs := [some (sv r), some (.ref pa), none]) ax.room (by exact rfl) rfl (fun s _ => BindsTo.of_eq rfl) rfl rfl (by kernel_rfl) ⟨rfl, rfl, rfl, rfl, rfl⟩ fun L F => ?_).callE
  have hout : ∀ env : Env, ∃ outer, (A.deeper env).frames = some (env :: outer) := fun env => by
    obtain ⟨fs, hfs, _⟩ := hF.go
    exact ⟨fs, Around.frames_deeper hfs⟩
  have hu : ∀ (env : Env) (v : Option Value), ((A.deeper env).mark v).units + 5 < cLine := fun env v => by
    have := (ax.deeper (env := env)).units
    show (A.deeper env).units + 5 < cLine
    omega
  refine U_execs (U_try (U_execs (U_Return (U_List (U_items (TU.of (T_str fun t1 => ?_)))))))
  refine U_items (U_Call (T_glob F g_parse229 (by rfl) ?_))
  refine U_cw (Callee.K kp65) (T_items (T_ld F (by walk_at "mem") (by walk_at "at") ?_))
  intro t2
  refine T_items (T_ld F (by walk_at "mem") (by walk_at "at") ?_)
  refine T_items_nil ?_
  refine parse_spec (pre := (L, IsNs [Str.ofString "reply", Str.ofString "peer", Str.ofString "problem"] [some (sv r), some (.ref pa), none]) :: pre) (ax.deeper.le (by decide)) (hF.deeper rfl) hp (.tail _ hP) (fun n tu ho => ?_) (fun ho e t T => ?_) (fun ho e t T => ?_) (fun ho e t T vs => ?_)
  · refine TU.of (T_items_nil ⟨(Nat.le_of_ble_eq_true rfl), fun a => ⟨_, ?_, h ⟨a, tu, .told n⟩ (by rw [ho]; rfl)⟩⟩)
    show Le ((a, Lst (ansV tu (.told n))) :: (tu, Tup [sv host, iv n]) :: (L, _) :: pre) ((a, Lst (ansV tu (.told n))) :: (tu, Tup [sv host, iv n]) :: pre)
    walk_at "le"
  · refine T_noteT (T₀ := T) (l' := fun T' => (e, ExT (.ref 44) (some t) T') :: _) ?_ (hout _) rfl (by exact .tail _ (.head _)) (fun T' => Rep.head) fun T' => ?_
    · exact (hF.deeper (L := L) (ns := [Str.ofString "reply", Str.ofString "peer", Str.ofString "problem"]) (vs := [some (sv r), some (.ref pa), none]) rfl).sub fun p hp => .tail _ (.tail _ (.tail _ hp))
    refine T_flight (e := e) (T := T') (by exact .tail _ (.head _)) Rep.head ?_
    refine T_handleOA (T₀ := T') (as := some t) xm44 (T_glob F g_error_reply (by rfl) ⟨rfl, by exact .tail _ (.head _), Br.tt rfl ?_⟩)
    refine T_flight (e := e) (T := T') (by exact .tail _ (.head _)) Rep.head ?_
    refine TT.as (l' := (T', Trc .none) :: (e, ExT (.ref 44) (some t) T') :: (T, Trc .none) :: (t, Tup [sv r]) :: (L, IsNs [Str.ofString "reply", Str.ofString "peer", Str.ofString "problem"] [some (sv r), some (.ref pa), none]) :: pre) rfl ?_
    refine T_st F (by walk_at "mem") (by walk_at "cv") (by walk_at "put") (by walk_at "rep") ?_
    refine T_execs (T_Return (T_List (T_items (T_str fun t3 => T_items (T_Call (T_blt F b_str (by rfl) ?_))))))
    refine T_cw Callee.type (T_items (T_ld F (by walk_at "mem") (by walk_at "at") ?_))
    refine T_items_nil (T_strExc st44 mr44 (hu _ _) (by walk_at "mem") (by walk_at "mem") fun t4 => ?_)
    refine T_items_nil ⟨(Nat.le_of_ble_eq_true rfl), fun a => ?_⟩
    refine T_nameGoes (i := 2) (vn := [none, none, none]) F rfl rfl (by walk_at "rep") ?_
    refine ⟨_, ?_, h ⟨a, 0, .reply r⟩ (by rw [ho]; rfl)⟩
    show Le ((a, Lst (ansV 0 (.reply r))) :: _) ((a, Lst (ansV 0 (.reply r))) :: pre)
    walk_at "le"
  · refine T_noteT (T₀ := T) (l' := fun T' => (e, ExT (.ref 56) (some t) T') :: _) ?_ (hout _) rfl (by exact .tail _ (.head _)) (fun T' => Rep.head) fun T' => ?_
    · exact (hF.deeper (L := L) (ns := [Str.ofString "reply", Str.ofString "peer", Str.ofString "problem"]) (vs := [some (sv r), some (.ref pa), none]) rfl).sub fun p hp => .tail _ (.tail _ (.tail _ hp))
    refine T_flight (e := e) (T := T') (by exact .tail _ (.head _)) Rep.head ?_
    refine T_handleOA (T₀ := T') (as := some t) xm5644 (T_glob F g_error_reply (by rfl) ⟨rfl, by exact .tail _ (.head _), Br.ff rfl ?_⟩)
    refine T_handleOA (T₀ := T') (as := some t) xm56 (T_glob F g_error_proto (by rfl) ⟨rfl, by exact .tail _ (.head _), Br.tt rfl ?_⟩)
    refine T_flight (e := e) (T := T') (by exact .tail _ (.head _)) Rep.head ?_
    refine TT.as (l' := (T', Trc .none) :: (e, ExT (.ref 56) (some t) T') :: (T, Trc .none) :: (t, Tup [sv r]) :: (L, IsNs [Str.ofString "reply", Str.ofString "peer", Str.ofString "problem"] [some (sv r), some (.ref pa), none]) :: pre) rfl ?_
    refine T_st F (by walk_at "mem") (by walk_at "cv") (by walk_at "put") (by walk_at "rep") ?_
    refine T_execs (T_Return (T_List (T_items (T_str fun t3 => T_items (T_Call (T_blt F b_str (by rfl) ?_))))))
    refine T_cw Callee.type (T_items (T_ld F (by walk_at "mem") (by walk_at "at") ?_))
    refine T_items_nil (T_strExc st56 mr56 (hu _ _) (by walk_at "mem") (by walk_at "mem") fun t4 => ?_)
    refine T_items_nil ⟨(Nat.le_of_ble_eq_true rfl), fun a => ?_⟩
    refine T_nameGoes (i := 2) (vn := [none, none, none]) F rfl rfl (by walk_at "rep") ?_
    refine ⟨_, ?_, h ⟨a, 0, .proto r⟩ (by rw [ho]; rfl)⟩
    show Le ((a, Lst (ansV 0 (.proto r))) :: _) ((a, Lst (ansV 0 (.proto r))) :: pre)
    walk_at "le"
  · refine T_noteT (T₀ := T) (l' := fun T' => (e, ExT (.type "ValueError") (some t) T') :: _) ?_ (hout _) rfl (by exact .tail _ (.head _)) (fun T' => Rep.head) fun T' => ?_
    · exact (hF.deeper (L := L) (ns := [Str.ofString "reply", Str.ofString "peer", Str.ofString "problem"]) (vs := [some (sv r), some (.ref pa), none]) rfl).sub fun p hp => .tail _ (.tail _ (.tail _ hp))
    refine T_flight (e := e) (T := T') (by exact .tail _ (.head _)) Rep.head ?_
    refine T_handleOA (T₀ := T') (as := some t) xmV44 (T_glob F g_error_reply (by rfl) ⟨rfl, by exact .tail _ (.head _), Br.ff rfl ?_⟩)
    refine T_handleOA (T₀ := T') (as := some t) xmV56 (T_glob F g_error_proto (by rfl) ⟨rfl, by exact .tail _ (.head _), Br.ff rfl ?_⟩)
    refine T_handleB (T₀ := T') (as := some t) sub_val_base meta_val sub_val_val (T_blt F b_ValueError (by rfl) ⟨rfl, by exact .tail _ (.head _), Br.tt rfl ?_⟩)
    refine T_flight (e := e) (T := T') (by exact .tail _ (.head _)) Rep.head ?_
    refine T_execs (T_Return (T_List (T_items (T_str fun t3 => ?_))))
    refine T_items_nil ⟨(Nat.le_of_ble_eq_true rfl), fun a => ⟨_, ?_, h ⟨a, 0, .bad⟩ (by rw [ho]; rfl)⟩⟩
    show Le ((a, Lst (ansV 0 .bad)) :: (T', Trc .none) :: (e, ExT (.type "ValueError") (some t) T') :: (T, Trc .none) :: (t, Tup vs) :: (L, _) :: pre) ((a, Lst (ansV 0 .bad)) :: pre)
    walk_at "le"

end
end
section
section
variable {G : Gd} {A : Around} {E : Value → Led → Prop} {l l' : Led} {env : Env} {pos : Pos}
noncomputable def isPO : PO → Option PO → Bool
  | .ok n, some (.ok m) => n == m
  | .reply, some .reply => true
  | .proto, some .proto => true
  | .value, some .value => true
  | _, _ => false
theorem noB {P : Prop} {b : Bool} (h : b = true) (e : b = false) : P := by rw [e] at h; cases h
theorem isPO_eq {a : PO} {b : Option PO} (h : isPO a b = true) : b = some a := by
  cases a <;> rcases b with _ | b
  all_goals first | exact noB h rfl | cases b
  all_goals first | exact noB h rfl | rfl | exact congrArg (fun x => some (PO.ok x)) (eq_of_beq h).symm
noncomputable def rep0 (f : Str) (k : Nat) : Str := Txt.replace f (Str.ofString "N") (Str.ofString (toString (21 + 97 * (k : Int))))
noncomputable def expB (i k : Nat) : PO := if i < 3 then .reply else if i < 9 then .proto else .value
theorem good_parse : ((List.range 4).all fun i => (List.range 10).all fun k => isPO (.ok (21 + 97 * (k : Int))) (parseR (rep0 (goodL.getD i Str.empty) k))) = true := by decide +kernel
theorem bad_parse : ((List.range 12).all fun i => (List.range 10).all fun k => isPO (expB i k) (parseR (rep0 (badL.getD i Str.empty) k))) = true := by decide +kernel
theorem reply_parse {n : Nat} {x : Int} (hn : 0 < n) (hn' : n ≤ 10) : ∃ o, parseR (replyOf n x) = some o ∧ ansOf (replyOf n x) o = due n x (replyOf n x) := by
  obtain ⟨q1, q2⟩ := tgt_range (n := n) x hn
  obtain ⟨k, hk⟩ : ∃ k : Nat, tgt n x = k := ⟨(tgt n x).toNat, (Int.toNat_of_nonneg q1).symm⟩
  have hk10 : k < 10 := Int.ofNat_lt.mp (hk ▸ Int.lt_of_lt_of_le q2 (Int.ofNat_le.mpr hn'))
  unfold replyOf formOf due
  split
  · have h4 := Int.fmod_lt_of_pos x (b := 4) (by decide)
    have h4' := Int.fmod_nonneg_of_pos x (b := 4) (by decide)
    have := List.all_eq_true.mp (List.all_eq_true.mp good_parse (x.fmod 4).toNat (List.mem_range.mpr (toNatLt (n := 4) h4' h4))) k (List.mem_range.mpr hk10)
    rw [hk]
    exact ⟨_, isPO_eq this, rfl⟩
  · have h4 := Int.fmod_lt_of_pos x (b := 12) (by decide)
    have h4' := Int.fmod_nonneg_of_pos x (b := 12) (by decide)
    have := List.all_eq_true.mp (List.all_eq_true.mp bad_parse (x.fmod 12).toNat (List.mem_range.mpr (toNatLt (n := 12) h4' h4))) k (List.mem_range.mpr hk10)
    rw [hk]
    refine ⟨_, isPO_eq this, ?_⟩
    unfold expB
    by_cases c1 : x.fmod 12 < 3
    · rw [if_pos (by omega), if_pos c1]; rfl
    · rw [if_neg (by omega), if_neg c1]
      by_cases c2 : x.fmod 12 < 9
      · rw [if_pos (by omega), if_pos c2]; rfl
      · rw [if_neg (by omega), if_neg c2]; rfl

end
end
section
section
variable {G : Gd} {A : Around} {E : Value → Led → Prop} {l l' : Led} {env : Env} {pos : Pos}
/-- rank of the ports: who is taken in which round -/
structure RK (ports : List Int) (succ : Int → List Int) (rank : Int → Nat) : Prop where
  rk : ∀ q ∈ ports, ∀ r, r < ports.length → ((∀ p ∈ ports, q ∈ succ p → rank p < r) ↔ rank q ≤ r)
theorem cnt_zero {ports : List Int} {succ : Int → List Int} {D : List Int} {q : Int} : cnt ports succ D q = 0 ↔ ∀ p ∈ ports, q ∈ succ p → p ∈ D := by
  unfold cnt
  rw [List.count_eq_zero]
  constructor
  · intro h p hp hq
    by_cases hd : p ∈ D
    · exact hd
    · exact absurd (List.mem_flatMap.mpr ⟨p, List.mem_filter.mpr ⟨hp, by simpa using hd⟩, hq⟩) h
  · intro h hm
    obtain ⟨p, hp, hq⟩ := List.mem_flatMap.mp hm
    obtain ⟨hp1, hp2⟩ := List.mem_filter.mp hp
    exact absurd (h p hp1 hq) (by simpa using hp2)
theorem sorted_eq {a b : List Int} (ha : a.Pairwise (· ≤ ·)) (hb : b.Pairwise (· ≤ ·)) (h : a.Perm b) : a = b := h.eq_of_pairwise (fun x y _ _ h1 h2 => Int.le_antisymm h1 h2) ha hb
theorem LevF.dsub {ports : List Int} {succ : Int → List Int} {D : List Int} {ls : List (List Int)} (h : LevF ports succ D ls) : D.Nodup ∧ (∀ q ∈ D, q ∈ ports) ∧ ls.length ≤ D.length := by
  induction h with
  | nil => exact ⟨List.nodup_nil, fun _ h => (nomatch h), Nat.le_refl _⟩
  | snoc h hR hne hnd hp hs ih =>
    refine ⟨List.nodup_append.mpr ⟨ih.1, hnd, fun a ha b hb e => ((hR b).mp hb).2.1 (e ▸ ha)⟩, fun q hq => ?_, ?_⟩
    · rcases List.mem_append.mp hq with hq | hq
      · exact ih.2.1 q hq
      · exact ((hR q).mp hq).1
    · rw [List.length_append, List.length_append, List.length_singleton]
      have : 0 < List.length _ := List.length_pos_iff.mpr hne
      have := ih.2.2
      omega
theorem LevF.rank {ports : List Int} {succ : Int → List Int} {rank : Int → Nat} {lv : Nat → List Int} (k : RK ports succ rank) (hlv : ∀ s q, q ∈ lv s ↔ q ∈ ports ∧ rank q = s) (hls : ∀ s, (lv s).Pairwise (· ≤ ·)) (hln : ∀ s, (lv s).Nodup)
    {D : List Int} {ls : List (List Int)} (h : LevF ports succ D ls) : ls.length ≤ ports.length ∧ (∀ q, q ∈ D ↔ q ∈ ports ∧ rank q < ls.length) ∧ ls = (List.range ls.length).map lv ∧ ∀ s, s < ls.length → lv s ≠ [] := by
  induction h with
  | nil => exact ⟨Nat.zero_le _, fun q => ⟨fun h => (nomatch h), fun h => absurd h.2 (Nat.not_lt_zero _)⟩, rfl, fun s h => absurd h (Nat.not_lt_zero _)⟩
  | @snoc D ls R s h hR hne hnd hp hs ih =>
    obtain ⟨i1, i2, i3, i4⟩ := ih
    have full := (LevF.snoc h hR hne hnd hp hs).dsub
    have hlen : ls.length + 1 ≤ ports.length := by
      have h1 := full.2.2
      rw [List.length_append, List.length_singleton] at h1
      exact Nat.le_trans h1 (len_sub full.1 full.2.1)
    have hRm : ∀ q, q ∈ R ↔ q ∈ ports ∧ rank q = ls.length := fun q => by
      rw [hR q]
      constructor
      · rintro ⟨h1, h2, h3⟩
        have h4 := (k.rk q h1 ls.length hlen).mp fun p hp hq => ((i2 p).mp (cnt_zero.mp h3 p hp hq)).2
        have h5 : ¬ rank q < ls.length := fun h6 => h2 ((i2 q).mpr ⟨h1, h6⟩)
        exact ⟨h1, by omega⟩
      · rintro ⟨h1, h2⟩
        refine ⟨h1, fun h3 => by have := ((i2 q).mp h3).2; omega, cnt_zero.mpr fun p hp hq => (i2 p).mpr ⟨hp, ?_⟩⟩
        exact (k.rk q h1 ls.length hlen).mpr (by omega) p hp hq
    have hsl : s = lv ls.length := by
      refine sorted_eq hs (hls _) (hp.trans ?_)
      exact (List.perm_ext_iff_of_nodup hnd (hln _)).mpr fun q => by rw [hRm, hlv]
    rw [List.length_append, List.length_singleton]
    refine ⟨hlen, fun q => ?_, ?_, fun t ht => ?_⟩
    · rw [List.mem_append, i2, hRm]
      constructor
      · rintro (⟨h1, h2⟩ | ⟨h1, h2⟩)
        · exact ⟨h1, by omega⟩
        · exact ⟨h1, by omega⟩
      · rintro ⟨h1, h2⟩
        by_cases h3 : rank q < ls.length
        · exact .inl ⟨h1, h3⟩
        · exact .inr ⟨h1, by omega⟩
    · rw [List.range_succ, List.map_append, ← i3, hsl]; rfl
    · by_cases h3 : t < ls.length
      · exact i4 t h3
      · have : t = ls.length := by omega
        subst this
        intro e
        rw [← hsl] at e
        subst e
        exact hne (List.Perm.eq_nil hp.symm)
theorem LevF.rounds {ports : List Int} {succ : Int → List Int} {rank : Int → Nat} {lv : Nat → List Int} (k : RK ports succ rank) (hlv : ∀ s q, q ∈ lv s ↔ q ∈ ports ∧ rank q = s) (hls : ∀ s, (lv s).Pairwise (· ≤ ·)) (hln : ∀ s, (lv s).Nodup)
    {D : List Int} {ls : List (List Int)} (h : LevF ports succ D ls) (hend : ∀ q ∈ ports, q ∉ D → cnt ports succ D q ≠ 0) : ls = ((List.range ports.length).map lv).filter fun l => !l.isEmpty := by
  obtain ⟨i1, i2, i3, i4⟩ := h.rank k hlv hls hln
  have e0 : ∀ s, ls.length ≤ s → s < ports.length → lv s = [] := by
    intro s
    induction s with
    | zero =>
      intro h1 h2
      rw [List.eq_nil_iff_forall_not_mem]
      intro q hq
      obtain ⟨q1, q2⟩ := (hlv 0 q).mp hq
      have hd : q ∉ D := fun h => by have := ((i2 q).mp h).2; omega
      refine hend q q1 hd (cnt_zero.mpr fun p hp hqp => ?_)
      have := (k.rk q q1 0 h2).mpr (by omega) p hp hqp
      omega
    | succ s ih =>
      intro h1 h2
      rw [List.eq_nil_iff_forall_not_mem]
      intro q hq
      obtain ⟨q1, q2⟩ := (hlv (s + 1) q).mp hq
      by_cases h3 : ls.length ≤ s
      · have hs := ih h3 (by omega)
        have hn : ¬ rank q ≤ s := by omega
        rw [← k.rk q q1 s (by omega)] at hn
        apply hn
        intro p hp hqp
        have h4 := (k.rk q q1 (s + 1) h2).mpr (by omega) p hp hqp
        by_cases h5 : rank p = s
        · exact absurd ((hlv s p).mpr ⟨hp, h5⟩) (by rw [hs]; exact List.not_mem_nil)
        · omega
      · have h6 : ls.length = s + 1 := by omega
        have hd : q ∉ D := fun h => by have := ((i2 q).mp h).2; omega
        refine hend q q1 hd (cnt_zero.mpr fun p hp hqp => (i2 p).mpr ⟨hp, ?_⟩)
        have := (k.rk q q1 (s + 1) h2).mpr (by omega) p hp hqp
        omega
  have e1 : (List.range ports.length).map lv = (List.range ls.length).map lv ++ ((List.range' ls.length (ports.length - ls.length)).map lv) := by
    rw [← List.map_append]
    congr 1
    have := List.range'_append_1 (s := 0) (m := ls.length) (n := ports.length - ls.length)
    rw [Nat.zero_add] at this
    rw [List.range_eq_range', List.range_eq_range', this]
    congr 1; omega
  rw [e1, List.filter_append, ← i3]
  have e2 : ls.filter (fun l => !l.isEmpty) = ls := by
    rw [List.filter_eq_self]
    intro l hl
    rw [i3] at hl
    obtain ⟨s, hs, rfl⟩ := List.mem_map.mp hl
    have := i4 s (List.mem_range.mp hs)
    simpa using this
  have e3 : ((List.range' ls.length (ports.length - ls.length)).map lv).filter (fun l => !l.isEmpty) = [] := by
    rw [List.filter_eq_nil_iff]
    intro l hl
    obtain ⟨s, hs, rfl⟩ := List.mem_map.mp hl
    have := List.mem_range'_1.mp hs
    rw [e0 s this.1 (by omega)]
    simp
  rw [e2, e3, List.append_nil]

end
end
section
section
variable {G : Gd} {A : Around} {E : Value → Led → Prop} {l l' : Led} {env : Env} {pos : Pos}
noncomputable def nxt (xs : List Int) (a : Int) : Option Int := if told (xs.getD a.toNat 0) then some (tgt xs.length (xs.getD a.toNat 0)) else none
noncomputable def it (xs : List Int) : Nat → Int → Option Int
  | 0, a => some a
  | k + 1, a => (nxt xs a).bind (it xs k)
theorem walk_succ (xs : List Int) (f : Nat) (a : Int) : walkFrom xs (f + 1) a = a :: (match nxt xs a with | some b => walkFrom xs f b | none => []) := by
  rw [walkFrom, nxt]
  by_cases h : told (xs.getD a.toNat 0) = true
  · rw [if_pos h, if_pos h]
  · rw [if_neg h, if_neg h]
theorem walk_get (xs : List Int) : ∀ (f k : Nat) (a : Int), (walkFrom xs f a)[k]? = if k ≤ f then it xs k a else none
  | 0, 0, a => rfl
  | 0, k + 1, a => by rw [if_neg (by omega)]; rfl
  | f + 1, 0, a => by rw [walk_succ, if_pos (Nat.zero_le _)]; rfl
  | f + 1, k + 1, a => by
    rw [walk_succ, List.getElem?_cons_succ, it]
    cases h : nxt xs a with
    | none => simp
    | some b =>
      show (walkFrom xs f b)[k]? = _
      rw [walk_get xs f k b]
      by_cases hk : k ≤ f
      · rw [if_pos hk, if_pos (by omega)]; rfl
      · rw [if_neg hk, if_neg (by omega)]
theorem it_succ (xs : List Int) : ∀ (k : Nat) (a : Int), it xs (k + 1) a = (it xs k a).bind (nxt xs)
  | 0, a => by
    show (nxt xs a).bind (fun a => some a) = nxt xs a
    cases nxt xs a <;> rfl
  | k + 1, a => by
    show (nxt xs a).bind (it xs (k + 1)) = ((nxt xs a).bind (it xs k)).bind (nxt xs)
    cases h : nxt xs a with
    | none => rfl
    | some b => exact it_succ xs k b
theorem nxt_range {xs : List Int} {a b : Int} (h0 : 0 < xs.length) (h : nxt xs a = some b) : 0 ≤ b ∧ b < xs.length := by
  unfold nxt at h
  split at h
  · cases h; exact tgt_range _ h0
  · cases h
theorem it_range {xs : List Int} {a b : Int} {k : Nat} (h0 : 0 < xs.length) (ha : 0 ≤ a ∧ a < xs.length) (h : it xs k a = some b) : 0 ≤ b ∧ b < xs.length := by
  cases k with
  | zero => cases h; exact ha
  | succ k =>
    rw [it_succ] at h
    cases hk : it xs k a with
    | none => rw [hk] at h; cases h
    | some c => rw [hk] at h; exact nxt_range h0 h
theorem walk_pos (xs : List Int) (f : Nat) (a : Int) : 1 ≤ (walkFrom xs f a).length := by cases f <;> simp [walkFrom]
theorem walk_le (xs : List Int) : ∀ (f : Nat) (a : Int), (walkFrom xs f a).length ≤ f + 1
  | 0, a => Nat.le_refl _
  | f + 1, a => by
    rw [walk_succ, List.length_cons]
    cases nxt xs a with
    | none => simp
    | some b => exact Nat.succ_le_succ (walk_le xs f b)
theorem walk_min (xs : List Int) : ∀ (f : Nat) (a : Int), (walkFrom xs f a).length = min (f + 1) (walkFrom xs (f + 1) a).length
  | 0, a => by have := walk_pos xs 1 a; have h : (walkFrom xs 0 a).length = 1 := by simp [walkFrom]
               simp only [Nat.zero_add] at *; omega
  | f + 1, a => by
    rw [walk_succ xs f, walk_succ xs (f + 1), List.length_cons, List.length_cons]
    cases nxt xs a with
    | none => simp
    | some b =>
      show (walkFrom xs f b).length + 1 = min (f + 1 + 1) ((walkFrom xs (f + 1) b).length + 1)
      have := walk_min xs f b
      omega
theorem walk_range {xs : List Int} {f : Nat} {a b : Int} (h0 : 0 < xs.length) (ha : 0 ≤ a ∧ a < xs.length) (h : b ∈ walkFrom xs f a) : 0 ≤ b ∧ b < xs.length := by
  obtain ⟨k, hk⟩ := List.getElem?_of_mem h
  rw [walk_get] at hk
  split at hk
  · exact it_range h0 ha hk
  · cases hk
noncomputable def Pt (i : Int) : Int := 21 + 97 * i
noncomputable def unP (q : Int) : Int := (q - 21) / 97
theorem unP_Pt (i : Int) : unP (Pt i) = i := by unfold unP Pt; omega
theorem Pt_inj {i j : Int} (h : Pt i = Pt j) : i = j := by unfold Pt at h; omega
noncomputable def rkT (xs : List Int) (a : Int) : Nat := (walkFrom xs xs.length a).length - 1
theorem rkT_none {xs : List Int} {i : Int} (h : nxt xs i = none) : rkT xs i = 0 := by
  unfold rkT
  cases h0 : xs.length with
  | zero => rfl
  | succ n => rw [walk_succ, h]; rfl
theorem rkT_some {xs : List Int} {i j : Int} (h0 : 0 < xs.length) (h : nxt xs i = some j) : rkT xs i = min xs.length (rkT xs j + 1) := by
  unfold rkT
  obtain ⟨n, hn⟩ : ∃ n, xs.length = n + 1 := ⟨xs.length - 1, (Nat.sub_add_cancel h0).symm⟩
  rw [hn, walk_succ xs n i, h, Nat.sub_add_cancel (walk_pos xs (n + 1) j)]
  exact walk_min xs n j
theorem rk_there {xs : List Int} {ports : List Int} {succ : Int → List Int} (h0 : 0 < xs.length) (hlen : ports.length = xs.length) (hp : ∀ q, q ∈ ports ↔ ∃ i : Int, 0 ≤ i ∧ i < xs.length ∧ q = Pt i)
    (hs : ∀ i j : Int, 0 ≤ i → i < xs.length → 0 ≤ j → j < xs.length → (Pt i ∈ succ (Pt j) ↔ nxt xs i = some j)) : RK ports succ (fun q => rkT xs (unP q)) := by
  refine ⟨fun q hq r hr => ?_⟩
  obtain ⟨i, i1, i2, rfl⟩ := (hp q).mp hq
  rw [hlen] at hr
  simp only [unP_Pt]
  constructor
  · intro h
    cases hn : nxt xs i with
    | none => rw [rkT_none hn]; exact Nat.zero_le _
    | some j =>
      obtain ⟨j1, j2⟩ := nxt_range h0 hn
      have := h (Pt j) ((hp _).mpr ⟨j, j1, j2, rfl⟩) ((hs i j i1 i2 j1 j2).mpr hn)
      rw [unP_Pt] at this
      rw [rkT_some h0 hn]
      omega
  · intro h p hpm hsu
    obtain ⟨j, j1, j2, rfl⟩ := (hp p).mp hpm
    have hn := (hs i j i1 i2 j1 j2).mp hsu
    rw [rkT_some h0 hn] at h
    rw [unP_Pt]
    omega
-- the last place of a port in a walk
theorem bump_get {ls : List Int} {a : Int} {k j : Nat} (hj : j < ls.length) : (bump ls a k).getD j 0 = if a.toNat = j then max (ls.getD j 0) k else ls.getD j 0 := by
  unfold bump
  rw [List.getD_eq_getElem?_getD, List.getElem?_set]
  by_cases h : a.toNat = j
  · subst h
    rw [if_pos rfl, if_pos rfl, if_pos hj]; rfl
  · rw [if_neg h, if_neg h, List.getD_eq_getElem?_getD]
theorem le_max' {v a b : Int} : v ≤ max a b ↔ v ≤ a ∨ v ≤ b := by omega
theorem lastW_get (w : List Int) : ∀ (m : Nat) (ls : List Int) (j : Nat), j < ls.length → ∀ v : Int, (v ≤ (lastW w m ls).getD j 0 ↔ v ≤ ls.getD j 0 ∨ ∃ k : Nat, k < m ∧ v ≤ k ∧ (w.getD k 0).toNat = j)
  | 0, ls, j, hj, v => ⟨fun h => .inl h, fun h => h.elim id fun ⟨k, hk, _⟩ => absurd hk (Nat.not_lt_zero _)⟩
  | m + 1, ls, j, hj, v => by
    rw [lastW_succ, bump_get (by rw [lastW_len]; exact hj)]
    have ih := lastW_get w m ls j hj v
    by_cases h : (w.getD m 0).toNat = j
    · rw [if_pos h]
      constructor
      · intro hv
        rcases le_max'.mp hv with hv | hv
        · rcases ih.mp hv with h1 | ⟨k, k1, k2⟩
          · exact .inl h1
          · exact .inr ⟨k, by omega, k2⟩
        · exact .inr ⟨m, Nat.lt_succ_self m, hv, h⟩
      · rintro (h1 | ⟨k, k1, k2, k3⟩)
        · exact le_max'.mpr (.inl (ih.mpr (.inl h1)))
        · by_cases hk : k = m
          · subst hk; exact le_max'.mpr (.inr k2)
          · exact le_max'.mpr (.inl (ih.mpr (.inr ⟨k, by omega, k2, k3⟩)))
    · rw [if_neg h, ih]
      constructor
      · rintro (h1 | ⟨k, k1, k2⟩)
        · exact .inl h1
        · exact .inr ⟨k, by omega, k2⟩
      · rintro (h1 | ⟨k, k1, k2, k3⟩)
        · exact .inl h1
        · have hk : k ≠ m := fun e => h (e ▸ k3)
          exact .inr ⟨k, by omega, k2, k3⟩
theorem lastF_get : ∀ (ws : List (List Int)) (ls : List Int) (j : Nat), j < ls.length → ∀ v : Int, (v ≤ (ws.foldl (fun ls w => lastW w w.length ls) ls).getD j 0 ↔ v ≤ ls.getD j 0 ∨ ∃ w ∈ ws, ∃ k : Nat, k < w.length ∧ v ≤ k ∧ (w.getD k 0).toNat = j)
  | [], ls, j, hj, v => ⟨fun h => .inl h, fun h => h.elim id fun ⟨w, hw, _⟩ => absurd hw List.not_mem_nil⟩
  | w :: ws, ls, j, hj, v => by
    rw [List.foldl_cons, lastF_get ws _ j (by rw [lastW_len]; exact hj) v, lastW_get w w.length ls j hj v]
    constructor
    · rintro ((h1 | ⟨k, h2⟩) | ⟨w', h3, h4⟩)
      · exact .inl h1
      · exact .inr ⟨w, .head _, k, h2⟩
      · exact .inr ⟨w', .tail _ h3, h4⟩
    · rintro (h1 | ⟨w', h3, h4⟩)
      · exact .inl (.inl h1)
      · rcases List.mem_cons.mp h3 with rfl | h3
        · exact .inl (.inr h4)
        · exact .inr ⟨w', h3, h4⟩
theorem toNat_inj' {a b : Int} (ha : 0 ≤ a) (hb : 0 ≤ b) (h : a.toNat = b.toNat) : a = b := by omega
theorem last_get {xs : List Int} {j : Int} (hj : 0 ≤ j ∧ j < xs.length) (v : Int) : v ≤ (lastA (walksOf xs) xs.length).getD j.toNat 0 ↔ v ≤ 0 ∨ ∃ s : Int, 0 ≤ s ∧ s < xs.length ∧ ∃ k : Nat, k ≤ xs.length ∧ v ≤ k ∧ it xs k s = some j := by
  have hjl := toNatLt hj.1 hj.2
  have h0 : 0 < xs.length := Nat.lt_of_le_of_lt (Nat.zero_le _) hjl
  unfold lastA
  rw [lastF_get _ _ j.toNat (by rw [List.length_replicate]; exact hjl) v]
  have e0 : (List.replicate xs.length (0 : Int)).getD j.toNat 0 = 0 := by
    rw [List.getD_eq_getElem?_getD, List.getElem?_replicate]; split <;> rfl
  rw [e0]
  constructor
  · rintro (h | ⟨w, hw, k, k1, k2, k3⟩)
    · exact .inl h
    · obtain ⟨s, hs, rfl⟩ := List.mem_map.mp hw
      have hs := List.mem_range.mp hs
      have hk := List.getElem?_eq_getElem k1
      have hr := walk_range h0 (a := (s : Int)) ⟨Int.natCast_nonneg _, Int.ofNat_lt.mpr hs⟩ (List.getElem_mem k1)
      rw [List.getD_eq_getElem?_getD, hk] at k3
      have k3 : ((walkFrom xs xs.length (s : Int))[k]).toNat = j.toNat := k3
      rw [walk_get] at hk
      split at hk
      · rename_i hkn
        refine .inr ⟨s, Int.natCast_nonneg _, Int.ofNat_lt.mpr hs, k, hkn, k2, ?_⟩
        rw [hk]; congr 1; exact toNat_inj' hr.1 hj.1 k3
      · cases hk
  · rintro (h | ⟨s, s1, s2, k, k1, k2, k3⟩)
    · exact .inl h
    · refine .inr ⟨walkFrom xs xs.length s, List.mem_map.mpr ⟨s.toNat, List.mem_range.mpr (toNatLt s1 s2), by rw [Int.toNat_of_nonneg s1]⟩, k, ?_, k2, ?_⟩
      · have := walk_get xs xs.length k s
        rw [if_pos k1, k3] at this
        exact (List.getElem?_eq_some_iff.mp this).1
      · have := walk_get xs xs.length k s
        rw [if_pos k1, k3] at this
        rw [List.getD_eq_getElem?_getD, this]; rfl
noncomputable def rkB (xs : List Int) (j : Int) : Nat := ((lastA (walksOf xs) xs.length).getD j.toNat 0).toNat
theorem rkB_le {xs : List Int} {j : Int} (hj : 0 ≤ j ∧ j < xs.length) (v : Nat) : v ≤ rkB xs j ↔ v = 0 ∨ ∃ s : Int, 0 ≤ s ∧ s < xs.length ∧ ∃ k : Nat, k ≤ xs.length ∧ v ≤ k ∧ it xs k s = some j := by
  unfold rkB
  have h1 := last_get hj (v : Int)
  have h2 : (0 : Int) ≤ (lastA (walksOf xs) xs.length).getD j.toNat 0 := (last_get hj 0).mpr (.inl (Int.le_refl _))
  constructor
  · intro h
    rcases h1.mp ((Int.le_toNat h2).mp h) with h3 | ⟨s, s1, s2, k, k1, k2, k3⟩
    · exact .inl (Nat.le_zero.mp (Int.ofNat_le.mp h3))
    · exact .inr ⟨s, s1, s2, k, k1, Int.ofNat_le.mp k2, k3⟩
  · rintro (h | ⟨s, s1, s2, k, k1, k2, k3⟩)
    · rw [h]; exact Nat.zero_le _
    · exact (Int.le_toNat h2).mpr (h1.mpr (.inr ⟨s, s1, s2, k, k1, Int.ofNat_le.mpr k2, k3⟩))
theorem rk_back {xs : List Int} {ports : List Int} {succ : Int → List Int} (h0 : 0 < xs.length) (hlen : ports.length = xs.length) (hp : ∀ q, q ∈ ports ↔ ∃ i : Int, 0 ≤ i ∧ i < xs.length ∧ q = Pt i)
    (hs : ∀ i j : Int, 0 ≤ i → i < xs.length → 0 ≤ j → j < xs.length → (Pt j ∈ succ (Pt i) ↔ nxt xs i = some j)) : RK ports succ (fun q => rkB xs (unP q)) := by
  refine ⟨fun q hq r hr => ?_⟩
  obtain ⟨j, j1, j2, rfl⟩ := (hp q).mp hq
  rw [hlen] at hr
  simp only [unP_Pt]
  constructor
  · intro h
    by_cases hc : rkB xs j ≤ r
    · exact hc
    · exfalso
      rcases (rkB_le ⟨j1, j2⟩ (r + 1)).mp (Nat.lt_of_not_le hc) with h1 | ⟨s, s1, s2, k, k1, k2, k3⟩
      · exact absurd h1 (Nat.succ_ne_zero r)
      · obtain ⟨k', rfl⟩ : ∃ k', k = k' + 1 := ⟨k - 1, (Nat.sub_add_cancel (Nat.le_trans (Nat.succ_pos r) k2)).symm⟩
        rw [it_succ] at k3
        cases hi : it xs k' s with
        | none => rw [hi] at k3; cases k3
        | some i =>
          rw [hi] at k3
          have k3 : nxt xs i = some j := k3
          obtain ⟨i1, i2⟩ := it_range h0 ⟨s1, s2⟩ hi
          have := h (Pt i) ((hp _).mpr ⟨i, i1, i2, rfl⟩) ((hs i j i1 i2 j1 j2).mpr k3)
          rw [unP_Pt] at this
          have h2 := (rkB_le ⟨i1, i2⟩ r).mpr (.inr ⟨s, s1, s2, k', Nat.le_of_succ_le k1, Nat.le_of_succ_le_succ k2, hi⟩)
          exact absurd this (Nat.not_lt.mpr h2)
  · intro h p hpm hsu
    obtain ⟨i, i1, i2, rfl⟩ := (hp p).mp hpm
    have hn := (hs i j i1 i2 j1 j2).mp hsu
    rw [unP_Pt]
    by_cases hc : rkB xs i < r
    · exact hc
    · exfalso
      have key : ∃ s : Int, 0 ≤ s ∧ s < xs.length ∧ ∃ k : Nat, k ≤ xs.length ∧ r + 1 ≤ k ∧ it xs k s = some j := by
        rcases (rkB_le ⟨i1, i2⟩ r).mp (Nat.le_of_not_lt hc) with h1 | ⟨s, s1, s2, k, k1, k2, k3⟩
        · exact ⟨i, i1, i2, 1, h0, Nat.succ_le_succ (Nat.le_of_eq h1), by show (nxt xs i).bind (fun a => some a) = some j; rw [hn]; rfl⟩
        · by_cases hk : k < xs.length
          · exact ⟨s, s1, s2, k + 1, hk, Nat.succ_le_succ k2, by rw [it_succ, k3]; exact hn⟩
          · have hk : k = xs.length := Nat.le_antisymm k1 (Nat.le_of_not_lt hk)
            have hj : it xs (k + 1) s = some j := by rw [it_succ, k3]; exact hn
            have hj' : (nxt xs s).bind (it xs k) = some j := hj
            cases hs' : nxt xs s with
            | none => rw [hs'] at hj'; cases hj'
            | some s' =>
              rw [hs'] at hj'
              obtain ⟨a1, a2⟩ := nxt_range h0 hs'
              exact ⟨s', a1, a2, k, k1, Nat.lt_of_lt_of_le hr (Nat.le_of_eq hk.symm), hj'⟩
      have := (rkB_le ⟨j1, j2⟩ (r + 1)).mpr (.inr key)
      exact absurd this (Nat.not_lt.mpr h)

end
end
section
section
variable {G : Gd} {A : Around} {E : Value → Led → Prop} {l l' : Led} {env : Env} {pos : Pos}
theorem succ_ens (g : List AN) (p q : Int) : succOf (ens p g) q = succOf g q := by
  unfold ens succOf
  split
  · rfl
  · rw [List.find?_append]
    cases h : g.find? (fun a => a.port == q) with
    | some a => rfl
    | none => rw [Option.none_or, List.find?_cons]; split <;> rfl
theorem np_ens (g : List AN) (p q : Int) : npOf (ens p g) q = npOf g q := by
  unfold ens npOf
  split
  · rfl
  · rw [List.find?_append]
    cases h : g.find? (fun a => a.port == q) with
    | some a => rfl
    | none => rw [Option.none_or, List.find?_cons]; split <;> rfl
theorem mem_ens (g : List AN) (p q : Int) : q ∈ portsA (ens p g) ↔ q ∈ portsA g ∨ q = p := by
  unfold ens
  split
  · rename_i h
    obtain ⟨a, ha, e⟩ := List.any_eq_true.mp h
    have e : a.port = p := by simpa using e
    exact ⟨.inl, fun h => h.elim id fun h => by subst h; subst e; exact List.mem_map.mpr ⟨a, ha, rfl⟩⟩
  · rw [portsA, List.map_append, List.mem_append]; simp
theorem succ_su {g : List AN} {p q z : Int} (hq : q ∈ portsA g) : succOf (updA q (suAdd p) g) z = if z = q then succOf g z ++ [p] else succOf g z := by
  unfold succOf updA
  rw [List.find?_map]
  have : ((fun a : AN => a.port == z) ∘ fun a => if a.port = q then suAdd p a else a) = fun a => a.port == z := by
    funext a
    simp only [Function.comp]
    split <;> simp [suAdd]
  rw [this]
  cases e : g.find? (fun a => a.port == z) with
  | none =>
    rw [if_neg]
    · rfl
    · rintro rfl
      obtain ⟨a, ha, rfl⟩ := List.mem_map.mp hq
      have := List.find?_eq_none.mp e a ha
      simp at this
  | some a =>
    have h1 : a.port = z := by simpa using List.find?_some e
    simp only [Option.map_some, Option.getD_some]
    subst h1
    split <;> rfl
theorem np_su {g : List AN} {p q z : Int} : npOf (updA q (suAdd p) g) z = npOf g z := by
  unfold npOf updA
  rw [List.find?_map]
  have : ((fun a : AN => a.port == z) ∘ fun a => if a.port = q then suAdd p a else a) = fun a => a.port == z := by
    funext a
    simp only [Function.comp]
    split <;> simp [suAdd]
  rw [this]
  cases e : g.find? (fun a => a.port == z) with
  | none => rfl
  | some a =>
    simp only [Option.map_some, Option.getD_some]
    split <;> rfl
theorem np_add {g : List AN} {p z k : Int} (hp : p ∈ portsA g) : npOf (updA p (npAdd k) g) z = if z = p then npOf g z + k else npOf g z := by
  rw [npOf_upd (f := npAdd k) (fun _ => rfl) hp]
  by_cases h : z = p
  · subst h; rw [if_pos rfl, if_pos rfl, find_np hp]
  · rw [if_neg h, if_neg h]
/-- the graph of a list of edges -/
structure Gr (g : List AN) (es : List (Int × Int)) (P : Int → Prop) : Prop where
  nd : (portsA g).Nodup
  mem : ∀ q, q ∈ portsA g ↔ P q
  suc : ∀ q, succOf g q = (es.filter fun e => e.1 == q).map (·.2)
  np : ∀ q, npOf g q = ((es.filter fun e => e.2 == q).length : Int)
theorem Gr.nil : Gr [] [] (fun _ => False) := ⟨List.nodup_nil, fun q => ⟨fun h => (nomatch h), fun h => h.elim⟩, fun _ => rfl, fun _ => rfl⟩
theorem Gr.as {g : List AN} {es : List (Int × Int)} {P P' : Int → Prop} (h : Gr g es P) (e : ∀ q, P q ↔ P' q) : Gr g es P' := ⟨h.nd, fun q => (h.mem q).trans (e q), h.suc, h.np⟩
theorem Gr.ens_ {g : List AN} {es : List (Int × Int)} {P : Int → Prop} (h : Gr g es P) (p : Int) : Gr (ens p g) es (fun q => P q ∨ q = p) :=
  ⟨(ports_ens h.nd).1, fun q => by rw [mem_ens, h.mem], fun q => by rw [succ_ens, h.suc], fun q => by rw [np_ens, h.np]⟩
theorem Gr.add0 {g : List AN} {es : List (Int × Int)} {P : Int → Prop} (h : Gr g es P) (p : Int) : Gr (addA p [] g) es (fun q => P q ∨ q = p) := by
  have h1 := h.ens_ p
  refine ⟨?_, ?_, ?_, ?_⟩
  · show (portsA (updA p (npAdd (0 : Nat)) (ens p g))).Nodup
    rw [ports_upd (f := npAdd (0 : Nat)) (fun _ => rfl)]; exact h1.nd
  · intro q
    show q ∈ portsA (updA p (npAdd (0 : Nat)) (ens p g)) ↔ _
    rw [ports_upd (f := npAdd (0 : Nat)) (fun _ => rfl)]; exact h1.mem q
  · intro q
    show succOf (updA p (npAdd (0 : Nat)) (ens p g)) q = _
    rw [updA_succ (f := npAdd (0 : Nat)) (fun _ => ⟨rfl, rfl⟩)]; exact h1.suc q
  · intro q
    show npOf (updA p (npAdd (0 : Nat)) (ens p g)) q = _
    rw [np_add ((h1.mem p).mpr (.inr rfl)), ← h1.np q]
    split <;> simp
theorem Gr.add1 {g : List AN} {es : List (Int × Int)} {P : Int → Prop} (h : Gr g es P) (p b : Int) : Gr (addA p [b] g) (es ++ [(b, p)]) (fun q => P q ∨ q = p ∨ q = b) := by
  have h1 := h.ens_ p
  have e : addA p [b] g = updA b (suAdd p) (ens b (updA p (npAdd (1 : Nat)) (ens p g))) := rfl
  have hb : b ∈ portsA (ens b (updA p (npAdd (1 : Nat)) (ens p g))) := (mem_ens ..).mpr (.inr rfl)
  have nd1 : (portsA (updA p (npAdd (1 : Nat)) (ens p g))).Nodup := by rw [ports_upd (f := npAdd (1 : Nat)) (fun _ => rfl)]; exact h1.nd
  rw [e]
  refine ⟨?_, ?_, ?_, ?_⟩
  · rw [ports_upd (f := suAdd p) (fun _ => rfl)]; exact (ports_ens nd1).1
  · intro q
    rw [ports_upd (f := suAdd p) (fun _ => rfl), mem_ens, ports_upd (f := npAdd (1 : Nat)) (fun _ => rfl), h1.mem, or_assoc]
  · intro q
    rw [succ_su hb, succ_ens, updA_succ (f := npAdd (1 : Nat)) (fun _ => ⟨rfl, rfl⟩), h1.suc, List.filter_append, List.map_append]
    by_cases hq : q = b
    · subst hq; rw [if_pos rfl]; simp
    · rw [if_neg hq]
      have : (b == q) = false := by simpa using fun h => hq h.symm
      simp [this]
  · intro q
    rw [np_su, np_ens, np_add ((h1.mem p).mpr (.inr rfl)), h1.np, List.filter_append, List.length_append]
    by_cases hq : q = p
    · subst hq; rw [if_pos rfl]; simp
    · rw [if_neg hq]
      have : (p == q) = false := by simpa using fun h => hq h.symm
      simp [this]
theorem sum_zero (l : List Int) : (l.map fun _ => 0).sum = 0 := by
  induction l with
  | nil => rfl
  | cons a l ih => rw [List.map_cons, List.sum_cons, ih]
theorem sum_one {e : Int} {b : Bool} : ∀ {ports : List Int}, ports.Nodup → e ∈ ports → (ports.map fun p => if e == p && b then 1 else 0).sum = if b then 1 else 0
  | p :: ports, nd, he => by
    have nd' := List.nodup_cons.mp nd
    rw [List.map_cons, List.sum_cons]
    by_cases h : e = p
    · subst h
      have : (ports.map fun p => if e == p && b then 1 else 0).sum = 0 := by
        have e0 : (ports.map fun p => if e == p && b then 1 else 0) = ports.map fun _ => 0 := List.map_congr_left fun p hp => by
          have : (e == p) = false := by
            have hne : e ≠ p := fun h => nd'.1 (by rw [h]; exact hp)
            simpa using hne
          rw [this]; rfl
        rw [e0]
        exact sum_zero ports
      rw [this]; simp
    · have h2 : (e == p) = false := by simpa using h
      rw [h2, sum_one nd'.2 ((List.mem_cons.mp he).resolve_left h)]; simp
theorem cnt_edges {ports : List Int} (nd : ports.Nodup) (q : Int) : ∀ {es : List (Int × Int)}, (∀ e ∈ es, e.1 ∈ ports) → ((ports.flatMap fun p => (es.filter fun e => e.1 == p).map (·.2)).count q) = (es.filter fun e => e.2 == q).length
  | [], _ => by
    have e0 : (ports.flatMap fun p => (([] : List (Int × Int)).filter fun e => e.1 == p).map (·.2)) = [] := by
      rw [List.flatMap_eq_nil_iff]; intro x _; rfl
    rw [e0]; rfl
  | e :: es, h => by
    have ih := cnt_edges nd q (es := es) fun e he => h e (.tail _ he)
    rw [List.count_flatMap] at ih ⊢
    have e1 : (ports.map (List.count q ∘ fun p => ((e :: es).filter fun e => e.1 == p).map (·.2))) = ports.map fun p => (if e.1 == p && e.2 == q then 1 else 0) + (List.count q ∘ fun p => (es.filter fun e => e.1 == p).map (·.2)) p := by
      apply List.map_congr_left
      intro p _
      simp only [Function.comp, List.filter_cons]
      by_cases h1 : e.1 == p
      · rw [if_pos h1, List.map_cons, List.count_cons, Nat.add_comm]; simp [h1]
      · simp [h1]
    rw [e1]
    have e2 : ∀ (f g : Int → Nat) (l : List Int), (l.map fun p => f p + g p).sum = (l.map f).sum + (l.map g).sum := by
      intro f g l
      induction l with
      | nil => rfl
      | cons a l ih => simp only [List.map_cons, List.sum_cons, ih]; omega
    rw [e2, sum_one nd (h e (.head _)), ih, List.filter_cons]
    split <;> simp [Nat.add_comm]
theorem Gr.ki {rs : List NR} {es : List (Int × Int)} {P : Int → Prop} (h : Gr (absL rs) es P) (he : ∀ e ∈ es, P e.1 ∧ P e.2) : KI (portsA (absL rs)) (succOf (absL rs)) [] (ready0 rs) (npOf (absL rs)) := by
  have hsu : succOf (absL rs) = fun p => (es.filter fun e => e.1 == p).map (·.2) := funext h.suc
  have hc : ∀ q, cnt (portsA (absL rs)) (succOf (absL rs)) [] q = (es.filter fun e => e.2 == q).length := fun q => by
    unfold cnt
    rw [show ((portsA (absL rs)).filter fun p => decide (p ∉ ([] : List Int))) = portsA (absL rs) from List.filter_eq_self.mpr fun a _ => by simp, hsu]
    exact cnt_edges h.nd q fun e hm => (h.mem _).mpr (he e hm).1
  have hpo : portsA (absL rs) = rs.map (·.port) := by rw [portsA, absL, List.map_map]; rfl
  have hn : ∀ q ∈ portsA (absL rs), npOf (absL rs) q = cnt (portsA (absL rs)) (succOf (absL rs)) [] q := fun q _ => by rw [hc, h.np]
  refine ⟨h.nd, ?_, fun q hq => (nomatch hq), fun q hq _ => hn q hq, fun q => ?_, fun q hq => (nomatch hq), fun p q hq => ?_⟩
  · rw [List.nil_append]
    have := h.nd
    rw [hpo] at this
    exact this.sublist (List.filter_sublist.map _)
  · constructor
    · intro hq
      obtain ⟨r, hr, rfl⟩ := List.mem_map.mp hq
      obtain ⟨hr, h0⟩ := List.mem_filter.mp hr
      have hp : r.port ∈ portsA (absL rs) := by rw [hpo]; exact List.mem_map.mpr ⟨r, hr, rfl⟩
      refine ⟨hp, fun h => (nomatch h), ?_⟩
      obtain ⟨i, hi⟩ := List.getElem?_of_mem hr
      have h1 := hn _ hp
      rw [npOf_abs hi h.nd] at h1
      have h0 : r.np = 0 := by simpa using h0
      omega
    · rintro ⟨hp, _, h0⟩
      have hp' := hp
      rw [hpo] at hp'
      obtain ⟨r, hr, rfl⟩ := List.mem_map.mp hp'
      obtain ⟨i, hi⟩ := List.getElem?_of_mem hr
      have h1 := hn _ hp
      rw [npOf_abs hi h.nd, h0] at h1
      exact List.mem_map.mpr ⟨r, List.mem_filter.mpr ⟨hr, by rw [h1]; rfl⟩, rfl⟩
  · rw [h.suc] at hq
    obtain ⟨e, hm, rfl⟩ := List.mem_map.mp hq
    exact (h.mem _).mpr (he e (List.mem_filter.mp hm).1).2
theorem Gr.len {g : List AN} {es : List (Int × Int)} {P : Int → Prop} (h : Gr g es P) (q : Int) : (succOf g q).length ≤ es.length := by
  rw [h.suc, List.length_map]; exact List.length_filter_le ..
theorem Gr.in {g : List AN} {es : List (Int × Int)} {P : Int → Prop} (h : Gr g es P) {a b : Int} : b ∈ succOf g a ↔ (a, b) ∈ es := by
  rw [h.suc]
  constructor
  · intro hb
    obtain ⟨e, hm, rfl⟩ := List.mem_map.mp hb
    obtain ⟨h1, h2⟩ := List.mem_filter.mp hm
    have h2 : e.1 = a := by simpa using h2
    rw [← h2]; exact h1
  · intro hm
    exact List.mem_map.mpr ⟨(a, b), List.mem_filter.mpr ⟨hm, by simp⟩, rfl⟩
-- rings and orders
theorem it_all {xs : List Int} {S : Int → Prop} (h : ∀ i, S i → ∃ j, nxt xs i = some j ∧ S j) : ∀ (k : Nat) (i : Int), S i → ∃ j, it xs k i = some j ∧ S j
  | 0, i, hi => ⟨i, rfl, hi⟩
  | k + 1, i, hi => by
    obtain ⟨j, hj, hs⟩ := h i hi
    obtain ⟨t, ht, hst⟩ := it_all h k j hs
    exact ⟨t, by show (nxt xs i).bind (it xs k) = _; rw [hj]; exact ht, hst⟩
theorem it_up {xs : List Int} {f : Int → Nat} (h0 : 0 < xs.length) (h : ∀ i j : Int, 0 ≤ i → i < xs.length → nxt xs i = some j → f i < f j) : ∀ (k : Nat) (i j : Int), 0 ≤ i → i < xs.length → it xs k i = some j → f i + k ≤ f j
  | 0, i, j, h1, h2, hj => by cases hj; exact Nat.le_refl _
  | k + 1, i, j, h1, h2, hj => by
    have hj : (nxt xs i).bind (it xs k) = some j := hj
    cases hn : nxt xs i with
    | none => rw [hn] at hj; cases hj
    | some t =>
      rw [hn] at hj
      obtain ⟨t1, t2⟩ := nxt_range h0 hn
      have := it_up h0 h k t j t1 t2 hj
      have := h i t h1 h2 hn
      omega
theorem it_down {xs : List Int} {f : Int → Nat} (h0 : 0 < xs.length) (h : ∀ i j : Int, 0 ≤ i → i < xs.length → nxt xs i = some j → f j < f i) : ∀ (k : Nat) (i j : Int), 0 ≤ i → i < xs.length → it xs k i = some j → f j + k ≤ f i
  | 0, i, j, h1, h2, hj => by cases hj; exact Nat.le_refl _
  | k + 1, i, j, h1, h2, hj => by
    have hj : (nxt xs i).bind (it xs k) = some j := hj
    cases hn : nxt xs i with
    | none => rw [hn] at hj; cases hj
    | some t =>
      rw [hn] at hj
      obtain ⟨t1, t2⟩ := nxt_range h0 hn
      have := it_down h0 h k t j t1 t2 hj
      have := h i t h1 h2 hn
      omega
noncomputable def Ringed (xs : List Int) : Prop := ∃ s t : Int, 0 ≤ s ∧ s < xs.length ∧ it xs xs.length s = some t
theorem idx_take {l : List Int} {q : Int} : ∀ {n : Nat}, q ∈ l.take n → l.idxOf q < n := by
  induction l with
  | nil => intro n h; simp at h
  | cons a l ih =>
    intro n h
    cases n with
    | zero => simp at h
    | succ n =>
      rw [List.idxOf_cons]
      by_cases e : a = q
      · subst e; simp
      · have e' : (a == q) = false := by simpa using e
        rw [e']
        rw [List.take_succ_cons] at h
        have := ih ((List.mem_cons.mp h).resolve_left fun h => e h.symm)
        simp only [cond_false]
        omega
structure Net (xs : List Int) (g : List AN) (es : List (Int × Int)) : Prop where
  gr : Gr g es fun q => ∃ i : Int, 0 ≤ i ∧ i < xs.length ∧ q = Pt i
  pos : 0 < xs.length
noncomputable def EsT (xs : List Int) (es : List (Int × Int)) : Prop := ∀ a b, (a, b) ∈ es ↔ ∃ i j : Int, 0 ≤ i ∧ i < xs.length ∧ nxt xs i = some j ∧ a = Pt j ∧ b = Pt i
noncomputable def EsB (xs : List Int) (es : List (Int × Int)) : Prop := ∀ a b, (a, b) ∈ es ↔ ∃ i j : Int, 0 ≤ i ∧ i < xs.length ∧ nxt xs i = some j ∧ a = Pt i ∧ b = Pt j
theorem fin_idx {fin : List Int} {p : Int} (h : p ∈ fin) : fin[fin.idxOf p]? = some p := by
  have hlt : fin.idxOf p < fin.length := List.idxOf_lt_length_of_mem h
  rw [List.getElem?_eq_getElem hlt, List.getElem_idxOf hlt]
theorem Net.orderT {xs : List Int} {g : List AN} {es : List (Int × Int)} {fin : List Int} (N : Net xs g es) (he : EsT xs es) (ht : Topo g fin) (hall : ∀ p ∈ portsA g, p ∈ fin) (hl : fin.length ≤ xs.length) : ¬ Ringed xs := by
  rintro ⟨s, t, s1, s2, hs⟩
  have hin : ∀ i : Int, 0 ≤ i → i < xs.length → Pt i ∈ fin := fun i i1 i2 => hall _ ((N.gr.mem _).mpr ⟨i, i1, i2, rfl⟩)
  have := it_up (f := fun i => fin.idxOf (Pt i)) N.pos (fun i j i1 i2 hn => by
    obtain ⟨j1, j2⟩ := nxt_range N.pos hn
    exact idx_take (ht _ _ (fin_idx (hin j j1 j2)) _ (N.gr.in.mpr ((he _ _).mpr ⟨i, j, i1, i2, hn, rfl, rfl⟩)))) xs.length s t s1 s2 hs
  obtain ⟨t1, t2⟩ := it_range N.pos ⟨s1, s2⟩ hs
  have h2 : fin.idxOf (Pt t) < fin.length := List.idxOf_lt_length_of_mem (hin t t1 t2)
  omega
theorem Net.orderB {xs : List Int} {g : List AN} {es : List (Int × Int)} {fin : List Int} (N : Net xs g es) (he : EsB xs es) (ht : Topo g fin) (hall : ∀ p ∈ portsA g, p ∈ fin) (hl : fin.length ≤ xs.length) : ¬ Ringed xs := by
  rintro ⟨s, t, s1, s2, hs⟩
  have hin : ∀ i : Int, 0 ≤ i → i < xs.length → Pt i ∈ fin := fun i i1 i2 => hall _ ((N.gr.mem _).mpr ⟨i, i1, i2, rfl⟩)
  have := it_down (f := fun i => fin.idxOf (Pt i)) N.pos (fun i j i1 i2 hn => by
    exact idx_take (ht _ _ (fin_idx (hin i i1 i2)) _ (N.gr.in.mpr ((he _ _).mpr ⟨i, j, i1, i2, hn, rfl, rfl⟩)))) xs.length s t s1 s2 hs
  have h2 : fin.idxOf (Pt s) < fin.length := List.idxOf_lt_length_of_mem (hin s s1 s2)
  omega
theorem ring_first {ring : List Int} (h2 : 2 ≤ ring.length) (he : ring.head? = ring.getLast?) {a : Int} (h : ring[0]? = some a) : ring[ring.length - 1]? = some a := by
  rw [← List.getLast?_eq_getElem?, ← he, List.head?_eq_getElem?, h]
theorem Net.ringT {xs : List Int} {g : List AN} {es : List (Int × Int)} {ring : List Int} (N : Net xs g es) (he : EsT xs es) (hr : RingOk g ring) : Ringed xs := by
  have key : ∀ i : Int, Pt i ∈ ring → ∃ j, nxt xs i = some j ∧ Pt j ∈ ring := by
    intro i hi
    obtain ⟨m, hm, hm0⟩ : ∃ m, ring[m + 1]? = some (Pt i) ∧ m + 1 < ring.length := by
      obtain ⟨m, hm⟩ := List.getElem?_of_mem hi
      have hlt := (List.getElem?_eq_some_iff.mp hm).1
      cases m with
      | succ m => exact ⟨m, hm, hlt⟩
      | zero => exact ⟨ring.length - 2, by have := hr.two; rw [show ring.length - 2 + 1 = ring.length - 1 by omega]; exact ring_first hr.two hr.ends hm, by have := hr.two; omega⟩
    have hm' := List.getElem?_eq_getElem (show m < ring.length by omega)
    obtain ⟨i', j, i1, i2, hn, e1, e2⟩ := (he _ _).mp (N.gr.in.mp (hr.edge m _ _ hm' hm))
    cases Pt_inj e2
    exact ⟨j, hn, by rw [← e1]; exact List.getElem_mem _⟩
  have h2 := hr.two
  obtain ⟨i, j, i1, i2, hn, e1, e2⟩ := (he _ _).mp (N.gr.in.mp (hr.edge 0 _ _ (List.getElem?_eq_getElem (by omega)) (List.getElem?_eq_getElem (by omega))))
  obtain ⟨t, ht, _⟩ := it_all (S := fun i => Pt i ∈ ring) key xs.length i (by show Pt i ∈ ring; rw [← e2]; exact List.getElem_mem _)
  exact ⟨i, t, i1, i2, ht⟩
theorem Net.ringB {xs : List Int} {g : List AN} {es : List (Int × Int)} {ring : List Int} (N : Net xs g es) (he : EsB xs es) (hr : RingOk g ring) : Ringed xs := by
  have key : ∀ i : Int, Pt i ∈ ring → ∃ j, nxt xs i = some j ∧ Pt j ∈ ring := by
    intro i hi
    have h2 := hr.two
    obtain ⟨m, hm, hm0⟩ : ∃ m, ring[m]? = some (Pt i) ∧ m + 1 < ring.length := by
      obtain ⟨m, hm⟩ := List.getElem?_of_mem hi
      have hlt := (List.getElem?_eq_some_iff.mp hm).1
      by_cases hl : m + 1 < ring.length
      · exact ⟨m, hm, hl⟩
      · refine ⟨0, ?_, by omega⟩
        have h0 := List.getElem?_eq_getElem (show 0 < ring.length by omega)
        have := ring_first hr.two hr.ends h0
        rw [show ring.length - 1 = m by omega, hm] at this
        rw [h0, ← this]
    obtain ⟨i', j, i1, i2, hn, e1, e2⟩ := (he _ _).mp (N.gr.in.mp (hr.edge m _ _ hm (List.getElem?_eq_getElem hm0)))
    cases Pt_inj e1
    exact ⟨j, hn, by rw [← e2]; exact List.getElem_mem _⟩
  have h2 := hr.two
  obtain ⟨i, j, i1, i2, hn, e1, e2⟩ := (he _ _).mp (N.gr.in.mp (hr.edge 0 _ _ (List.getElem?_eq_getElem (by omega)) (List.getElem?_eq_getElem (by omega))))
  obtain ⟨t, ht, _⟩ := it_all (S := fun i => Pt i ∈ ring) key xs.length i (by show Pt i ∈ ring; rw [← e1]; exact List.getElem_mem _)
  exact ⟨i, t, i1, i2, ht⟩
-- levels
noncomputable def lvl (n : Nat) (rank : Int → Nat) (s : Nat) : List Int := ((List.range n).filter fun (k : Nat) => rank (k : Int) == s).map fun k => Pt ((k : Nat) : Int)
theorem lvl_mem {n : Nat} {rank : Int → Nat} {s : Nat} {q : Int} : q ∈ lvl n rank s ↔ (∃ i : Int, 0 ≤ i ∧ i < n ∧ q = Pt i) ∧ rank (unP q) = s := by
  unfold lvl
  constructor
  · intro h
    obtain ⟨k, hk, rfl⟩ := List.mem_map.mp h
    obtain ⟨h1, h2⟩ := List.mem_filter.mp hk
    have h1 := List.mem_range.mp h1
    exact ⟨⟨k, by omega, by omega, rfl⟩, by rw [unP_Pt]; simpa using h2⟩
  · rintro ⟨⟨i, i1, i2, rfl⟩, h⟩
    rw [unP_Pt] at h
    exact List.mem_map.mpr ⟨i.toNat, List.mem_filter.mpr ⟨List.mem_range.mpr (by omega), by rw [show ((i.toNat : Nat) : Int) = i by omega]; simpa using h⟩, by rw [show ((i.toNat : Nat) : Int) = i by omega]⟩
theorem lvl_lt (n : Nat) (rank : Int → Nat) (s : Nat) : (lvl n rank s).Pairwise (· < ·) := by
  unfold lvl
  rw [List.pairwise_map]
  refine (List.pairwise_lt_range.filter _).imp fun {a b} h => ?_
  unfold Pt; omega
theorem lvl_le (n : Nat) (rank : Int → Nat) (s : Nat) : (lvl n rank s).Pairwise (· ≤ ·) := (lvl_lt n rank s).imp fun h => Int.le_of_lt h
theorem lvl_nd (n : Nat) (rank : Int → Nat) (s : Nat) : (lvl n rank s).Nodup := (lvl_lt n rank s).imp fun h => Int.ne_of_lt h
theorem lvlB_eq (xs : List Int) (s : Nat) : lvlB (lastA (walksOf xs) xs.length) s = lvl xs.length (rkB xs) s := by
  unfold lvlB lvl
  rw [lastA_len]
  congr 1
  apply List.filter_congr
  intro k hk
  have hk := List.mem_range.mp hk
  have h2 : (0 : Int) ≤ (lastA (walksOf xs) xs.length).getD k 0 := (last_get (j := (k : Int)) ⟨by omega, by omega⟩ 0).mpr (.inl (Int.le_refl _))
  rw [Bool.eq_iff_iff]
  unfold rkB
  simp only [beq_iff_eq, Int.toNat_natCast]
  omega
theorem walk_head (xs : List Int) (f : Nat) (a : Int) : (walkFrom xs f a).headD 0 = a := by cases f <;> rfl
theorem lvlE_eq {xs : List Int} {wk : List (Addr × List Int)} (hw : wk.map (·.2) = walksOf xs) (s : Nat) : lvlE wk s = lvl xs.length (rkT xs) s := by
  have e1 : lvlE wk s = ((wk.map (·.2)).filter fun w => w.length == s + 1).map fun w => 21 + 97 * w.headD 0 := by
    rw [List.filter_map, List.map_map]; rfl
  rw [e1, hw, walksOf, List.filter_map, List.map_map, lvl]
  have e2 : ((List.range xs.length).filter ((fun w : List Int => w.length == s + 1) ∘ fun (s : Nat) => walkFrom xs xs.length (s : Int))) = (List.range xs.length).filter fun (k : Nat) => rkT xs (k : Int) == s := by
    apply List.filter_congr
    intro k hk
    rw [Bool.eq_iff_iff]
    have := walk_pos xs xs.length (k : Int)
    simp only [Function.comp, beq_iff_eq, rkT]
    omega
  rw [e2]
  apply List.map_congr_left
  intro k hk
  simp only [Function.comp, walk_head, Pt]
theorem Net.len {xs : List Int} {g : List AN} {es : List (Int × Int)} (N : Net xs g es) : g.length = xs.length := by
  have h : (portsA g).Perm ((List.range xs.length).map fun k => Pt ((k : Nat) : Int)) := by
    refine (List.perm_ext_iff_of_nodup N.gr.nd ?_).mpr fun q => ?_
    · rw [List.nodup_iff_pairwise_ne, List.pairwise_map]
      refine List.pairwise_lt_range.imp fun {a b} h => ?_
      unfold Pt; omega
    · rw [N.gr.mem, List.mem_map]
      constructor
      · rintro ⟨i, i1, i2, rfl⟩
        exact ⟨i.toNat, List.mem_range.mpr (by omega), by rw [show ((i.toNat : Nat) : Int) = i by omega]⟩
      · rintro ⟨k, hk, rfl⟩
        have hk := List.mem_range.mp hk
        exact ⟨k, by omega, by omega, rfl⟩
  have := h.length_eq
  simpa using this
theorem Net.roundsT {xs : List Int} {g : List AN} {es : List (Int × Int)} {D : List Int} {ls : List (List Int)} (N : Net xs g es) (he : EsT xs es) (h : LevF (portsA g) (succOf g) D ls) (hend : ∀ q ∈ portsA g, q ∉ D → cnt (portsA g) (succOf g) D q ≠ 0) : ls = ((List.range xs.length).map (lvl xs.length (rkT xs))).filter fun l => !l.isEmpty := by
  have hl : (portsA g).length = xs.length := by rw [List.length_map, N.len]
  have := LevF.rounds (rk_there N.pos hl N.gr.mem fun i j i1 i2 j1 j2 => by
    rw [N.gr.in, he]
    exact ⟨fun ⟨i', j', _, _, h, e1, e2⟩ => by cases Pt_inj e1; cases Pt_inj e2; exact h, fun h => ⟨i, j, i1, i2, h, rfl, rfl⟩⟩) (lv := lvl xs.length (rkT xs)) (fun s q => by rw [lvl_mem, N.gr.mem]) (lvl_le _ _) (lvl_nd _ _) h hend
  rw [hl] at this
  exact this
theorem Net.roundsB {xs : List Int} {g : List AN} {es : List (Int × Int)} {D : List Int} {ls : List (List Int)} (N : Net xs g es) (he : EsB xs es) (h : LevF (portsA g) (succOf g) D ls) (hend : ∀ q ∈ portsA g, q ∉ D → cnt (portsA g) (succOf g) D q ≠ 0) : ls = ((List.range xs.length).map (lvl xs.length (rkB xs))).filter fun l => !l.isEmpty := by
  have hl : (portsA g).length = xs.length := by rw [List.length_map, N.len]
  have := LevF.rounds (rk_back N.pos hl N.gr.mem fun i j i1 i2 j1 j2 => by
    rw [N.gr.in, he]
    exact ⟨fun ⟨i', j', _, _, h, e1, e2⟩ => by cases Pt_inj e1; cases Pt_inj e2; exact h, fun h => ⟨i, j, i1, i2, h, rfl, rfl⟩⟩) (lv := lvl xs.length (rkB xs)) (fun s q => by rw [lvl_mem, N.gr.mem]) (lvl_le _ _) (lvl_nd _ _) h hend
  rw [hl] at this
  exact this
theorem filt_snd (all : List (Addr × List Int)) : (all.filter fun p => !p.2.isEmpty).map (·.2) = (all.map (·.2)).filter fun l => !l.isEmpty := by rw [List.filter_map]; rfl

end
end
section
section
variable {G : Gd} {A : Around} {E : Value → Led → Prop} {l l' : Led} {env : Env} {pos : Pos}
theorem Gr.tab : ∀ (ts : List TR) {g : List AN} {es : List (Int × Int)} {P : Int → Prop}, Gr g es P → (∀ t ∈ ts, t.ps.length ≤ 1) → Gr (ts.foldl (fun g t => addA t.p t.ps g) g) (es ++ ts.flatMap fun t => t.ps.map fun b => (b, t.p)) (fun q => P q ∨ ∃ t ∈ ts, q = t.p ∨ q ∈ t.ps)
  | [], g, es, P, h, _ => by
    simp only [List.foldl_nil, List.flatMap_nil, List.append_nil]
    exact h.as fun q => ⟨.inl, fun h => h.elim id fun ⟨t, ht, _⟩ => absurd ht List.not_mem_nil⟩
  | t :: ts, g, es, P, h, hl => by
    have h1 : Gr (addA t.p t.ps g) (es ++ t.ps.map fun b => (b, t.p)) (fun q => P q ∨ q = t.p ∨ q ∈ t.ps) := by
      have ht := hl t (.head _)
      match hps : t.ps, ht with
      | [], _ => rw [List.map_nil, List.append_nil]; exact (h.add0 t.p).as fun q => by simp
      | [b], _ => exact (h.add1 t.p b).as fun q => by simp
    rw [List.foldl_cons, List.flatMap_cons, ← List.append_assoc]
    refine (Gr.tab ts h1 fun t ht => hl t (.tail _ ht)).as fun q => ?_
    constructor
    · rintro ((h | h) | ⟨t', h1, h2⟩)
      · exact .inl h
      · exact .inr ⟨t, .head _, h⟩
      · exact .inr ⟨t', .tail _ h1, h2⟩
    · rintro (h | ⟨t', h1, h2⟩)
      · exact .inl (.inl h)
      · rcases List.mem_cons.mp h1 with rfl | h1
        · exact .inl (.inr h2)
        · exact .inr ⟨t', h1, h2⟩
noncomputable def rowOf (xs : List Int) (k : Nat) : Int × List Int := (Pt (k : Int), ((nxt xs (k : Int)).map Pt).toList)
noncomputable def linksOf (xs : List Int) : List (Int × Int) := (List.range xs.length).filterMap fun (k : Nat) => (nxt xs (k : Int)).map fun j => (Pt (k : Int), Pt j)
theorem links_in (xs : List Int) : EsB xs (linksOf xs) := by
  intro a b
  unfold linksOf
  rw [List.mem_filterMap]
  constructor
  · rintro ⟨k, hk, h⟩
    have hk := List.mem_range.mp hk
    obtain ⟨j, hj, e⟩ := Option.map_eq_some_iff.mp h
    cases e
    exact ⟨k, j, by omega, by omega, hj, rfl, rfl⟩
  · rintro ⟨i, j, i1, i2, hn, rfl, rfl⟩
    refine ⟨i.toNat, List.mem_range.mpr (by omega), ?_⟩
    rw [show ((i.toNat : Nat) : Int) = i by omega, hn]; rfl
theorem EsB.flip {xs : List Int} {es : List (Int × Int)} (h : EsB xs es) : EsT xs (es.map fun e => (e.2, e.1)) := by
  intro a b
  rw [List.mem_map]
  constructor
  · rintro ⟨⟨x, y⟩, hm, e⟩
    cases e
    obtain ⟨i, j, i1, i2, hn, e1, e2⟩ := (h _ _).mp hm
    exact ⟨i, j, i1, i2, hn, e2, e1⟩
  · rintro ⟨i, j, i1, i2, hn, rfl, rfl⟩
    exact ⟨(Pt i, Pt j), (h _ _).mpr ⟨i, j, i1, i2, hn, rfl, rfl⟩, rfl⟩
theorem there_net {xs : List Int} {ts : List TR} (h0 : 0 < xs.length) (hts : ts.map (fun t => (t.p, t.ps)) = (List.range xs.length).map (rowOf xs)) : ∃ es, es.length ≤ xs.length ∧ Net xs (tabA ts) es ∧ EsT xs es := by
  have row : ∀ t ∈ ts, ∃ k : Nat, k < xs.length ∧ t.p = Pt (k : Int) ∧ t.ps = ((nxt xs (k : Int)).map Pt).toList := fun t ht => by
    have : (t.p, t.ps) ∈ ts.map (fun t => (t.p, t.ps)) := List.mem_map.mpr ⟨t, ht, rfl⟩
    rw [hts] at this
    obtain ⟨k, hk, e⟩ := List.mem_map.mp this
    exact ⟨k, List.mem_range.mp hk, (congrArg (·.1) e).symm, (congrArg (·.2) e).symm⟩
  have col : ∀ k : Nat, k < xs.length → ∃ t ∈ ts, t.p = Pt (k : Int) ∧ t.ps = ((nxt xs (k : Int)).map Pt).toList := fun k hk => by
    have : rowOf xs k ∈ ts.map (fun t => (t.p, t.ps)) := by rw [hts]; exact List.mem_map.mpr ⟨k, List.mem_range.mpr hk, rfl⟩
    obtain ⟨t, ht, e⟩ := List.mem_map.mp this
    exact ⟨t, ht, congrArg (·.1) e, congrArg (·.2) e⟩
  have hl : ∀ t ∈ ts, t.ps.length ≤ 1 := fun t ht => by
    obtain ⟨k, hk, e1, e2⟩ := row t ht
    rw [e2]; cases nxt xs k <;> simp
  have hlen : ts.length = xs.length := by have := congrArg List.length hts; simpa using this
  refine ⟨ts.flatMap fun t => t.ps.map fun b => (b, t.p), ?_, ⟨?_, h0⟩, fun a b => ?_⟩
  · rw [← hlen]
    clear hts row col hlen
    induction ts with
    | nil => exact Nat.le_refl _
    | cons t ts ih =>
      have := ih fun t ht => hl t (.tail _ ht)
      have := hl t (.head _)
      rw [List.flatMap_cons, List.length_append, List.length_map, List.length_cons]
      omega
  · have h1 := Gr.tab ts Gr.nil hl
    rw [List.nil_append] at h1
    refine h1.as fun q => ?_
    constructor
    · rintro (h | ⟨t, ht, h⟩)
      · exact h.elim
      · obtain ⟨k, hk, e1, e2⟩ := row t ht
        rcases h with h | h
        · exact ⟨k, by omega, by omega, h.trans e1⟩
        · rw [e2] at h
          cases hn : nxt xs k with
          | none => rw [hn] at h; exact absurd h List.not_mem_nil
          | some j =>
            rw [hn] at h
            obtain ⟨j1, j2⟩ := nxt_range h0 hn
            exact ⟨j, j1, j2, by simpa using h⟩
    · rintro ⟨i, i1, i2, rfl⟩
      obtain ⟨t, ht, e1, e2⟩ := col i.toNat (by omega)
      refine .inr ⟨t, ht, .inl ?_⟩
      rw [e1, show ((i.toNat : Nat) : Int) = i by omega]
  · rw [List.mem_flatMap]
    constructor
    · rintro ⟨t, ht, h⟩
      obtain ⟨k, hk, e1, e2⟩ := row t ht
      obtain ⟨y, hy, e⟩ := List.mem_map.mp h
      cases e
      rw [e2] at hy
      cases hn : nxt xs k with
      | none => rw [hn] at hy; exact absurd hy List.not_mem_nil
      | some j => rw [hn] at hy; exact ⟨k, j, by omega, by omega, hn, by simpa using hy, e1⟩
    · rintro ⟨i, j, i1, i2, hn, rfl, rfl⟩
      obtain ⟨t, ht, e1, e2⟩ := col i.toNat (by omega)
      rw [show ((i.toNat : Nat) : Int) = i by omega] at e1 e2
      refine ⟨t, ht, List.mem_map.mpr ⟨Pt j, ?_, by rw [e1]⟩⟩
      rw [e2, hn]; simp
theorem links_len (xs : List Int) : (linksOf xs).length ≤ xs.length := by
  have := List.length_filterMap_le (fun (k : Nat) => (nxt xs (k : Int)).map fun j => (Pt (k : Int), Pt j)) (List.range xs.length)
  rw [List.length_range] at this
  exact this
noncomputable def backG (es : List (Int × Int)) : List AN := es.foldl (fun g e => addA e.2 [e.1] g) []
noncomputable def portsG (g : List AN) (ps : List Int) : List AN := ps.foldl (fun g p => addA p [] g) g
theorem Gr.back : ∀ (ls : List (Int × Int)) {g : List AN} {es : List (Int × Int)} {P : Int → Prop}, Gr g es P → Gr (ls.foldl (fun g e => addA e.2 [e.1] g) g) (es ++ ls) (fun q => P q ∨ ∃ e ∈ ls, q = e.2 ∨ q = e.1)
  | [], g, es, P, h => by
    rw [List.append_nil]
    exact h.as fun q => ⟨.inl, fun h => h.elim id fun ⟨t, ht, _⟩ => absurd ht List.not_mem_nil⟩
  | e :: ls, g, es, P, h => by
    have h1 := h.add1 e.2 e.1
    rw [List.foldl_cons, show es ++ e :: ls = es ++ [(e.1, e.2)] ++ ls by simp]
    refine (Gr.back ls h1).as fun q => ?_
    constructor
    · rintro ((h | h) | ⟨t', h1, h2⟩)
      · exact .inl h
      · exact .inr ⟨e, .head _, h⟩
      · exact .inr ⟨t', .tail _ h1, h2⟩
    · rintro (h | ⟨t', h1, h2⟩)
      · exact .inl (.inl h)
      · rcases List.mem_cons.mp h1 with rfl | h1
        · exact .inl (.inr h2)
        · exact .inr ⟨t', h1, h2⟩
theorem Gr.ports : ∀ (ps : List Int) {g : List AN} {es : List (Int × Int)} {P : Int → Prop}, Gr g es P → Gr (portsG g ps) es (fun q => P q ∨ q ∈ ps)
  | [], g, es, P, h => h.as fun q => ⟨.inl, fun h => h.elim id fun h => absurd h List.not_mem_nil⟩
  | p :: ps, g, es, P, h => (Gr.ports ps (h.add0 p)).as fun q => by rw [List.mem_cons, or_assoc]
noncomputable def portsX (n : Nat) : List Int := (List.range n).map fun k => Pt ((k : Nat) : Int)
theorem back_net {xs : List Int} (h0 : 0 < xs.length) : Net xs (portsG (backG (linksOf xs)) (portsX xs.length)) (linksOf xs) := by
  have h1 := (Gr.back (linksOf xs) Gr.nil).ports (portsX xs.length)
  rw [List.nil_append] at h1
  refine ⟨h1.as fun q => ?_, h0⟩
  constructor
  · rintro ((h | ⟨⟨a, b⟩, hm, h⟩) | h)
    · exact h.elim
    · obtain ⟨i, j, i1, i2, hn, rfl, rfl⟩ := (links_in xs _ _).mp hm
      obtain ⟨j1, j2⟩ := nxt_range h0 hn
      rcases h with rfl | rfl
      · exact ⟨j, j1, j2, rfl⟩
      · exact ⟨i, i1, i2, rfl⟩
    · obtain ⟨k, hk, rfl⟩ := List.mem_map.mp h
      have hk := List.mem_range.mp hk
      exact ⟨k, by omega, by omega, rfl⟩
  · rintro ⟨i, i1, i2, rfl⟩
    exact .inr (List.mem_map.mpr ⟨i.toNat, List.mem_range.mpr (by omega), by rw [show ((i.toNat : Nat) : Int) = i by omega]⟩)
theorem Net.he {xs : List Int} {g : List AN} {es : List (Int × Int)} (N : Net xs g es) (h : EsT xs es ∨ EsB xs es) : ∀ e ∈ es, (∃ i : Int, 0 ≤ i ∧ i < xs.length ∧ e.1 = Pt i) ∧ ∃ i : Int, 0 ≤ i ∧ i < xs.length ∧ e.2 = Pt i := by
  rintro ⟨a, b⟩ hm
  rcases h with h | h
  · obtain ⟨i, j, i1, i2, hn, rfl, rfl⟩ := (h _ _).mp hm
    obtain ⟨j1, j2⟩ := nxt_range N.pos hn
    exact ⟨⟨j, j1, j2, rfl⟩, i, i1, i2, rfl⟩
  · obtain ⟨i, j, i1, i2, hn, rfl, rfl⟩ := (h _ _).mp hm
    obtain ⟨j1, j2⟩ := nxt_range N.pos hn
    exact ⟨⟨i, i1, i2, rfl⟩, j, j1, j2, rfl⟩
theorem row_due (xs : List Int) (k : Nat) (t : Str) : tgts (due xs.length (xs.getD k 0) t) = ((nxt xs (k : Int)).map Pt).toList := by
  unfold due nxt told
  rw [Int.toNat_natCast]
  by_cases h : (xs.getD k 0).fmod 24 < 12
  · rw [if_pos h, if_pos (by simpa using h)]; rfl
  · have h' : ¬ (decide ((xs.getD k 0).fmod 24 < 12) = true) := fun e => h (of_decide_eq_true e)
    rw [if_neg h, if_neg h']
    split
    · rfl
    · split <;> rfl
-- the greatest length
noncomputable def ringedB (xs : List Int) : Bool := (walksOf xs).any fun w => decide (xs.length < w.length)
theorem ringed_iff {xs : List Int} : ringedB xs = true ↔ Ringed xs := by
  unfold ringedB Ringed walksOf
  rw [List.any_eq_true]
  constructor
  · rintro ⟨w, hw, h⟩
    obtain ⟨s, hs, rfl⟩ := List.mem_map.mp hw
    have hs := List.mem_range.mp hs
    have h := of_decide_eq_true h
    have := walk_get xs xs.length xs.length (s : Int)
    rw [if_pos (Nat.le_refl _), List.getElem?_eq_getElem h] at this
    exact ⟨s, _, by omega, by omega, this.symm⟩
  · rintro ⟨s, t, s1, s2, h⟩
    refine ⟨walkFrom xs xs.length s, List.mem_map.mpr ⟨s.toNat, List.mem_range.mpr (by omega), by rw [show ((s.toNat : Nat) : Int) = s by omega]⟩, decide_eq_true ?_⟩
    have := walk_get xs xs.length xs.length s
    rw [if_pos (Nat.le_refl _), h] at this
    exact (List.getElem?_eq_some_iff.mp this).1

end
end
section
section
variable {G : Gd} {A : Around} {E : Value → Led → Prop} {l l' : Led} {env : Env} {pos : Pos}
theorem listIterP_ok {a it : Addr} {vs : List Value} {elts : List Expr} {k : Nat} {p : Pos} (hr : ∀ v ∈ vs, ∃ T, v = .ref T) (hh : A.handled = none) : (listIter it a vs).Ok G A (.Tuple elts k p) it where
  next i l K hi hn hK := ⟨fun s M => by
    obtain ⟨o, ho, hc, hd⟩ := M.at_ (a := it) (P := LIt a i) (.head _)
    obtain ⟨xs, n, hl, e, hsz⟩ := lst_at M (List.mem_cons_of_mem _ hn)
    have hlt : i < xs.size := by rw [hsz]; exact hi
    have hx : xs[i]? = some xs[i] := Array.getElem?_eq_getElem hlt
    have hv : vs[i]? = some (cv xs[i]) := by rw [← e, List.getElem?_map, Array.getElem?_toList, hx]; rfl
    obtain ⟨T, hT⟩ : ∃ T, xs[i] = .ref T := by
      obtain ⟨T, hT⟩ := hr _ (List.mem_of_getElem? hv)
      refine ⟨T, ?_⟩
      generalize xs[i] = y at hT
      cases y <;> cases hT; rfl
    refine wpAny_pyNext_list_item ⟨o, ho, hc, hd⟩ hl.isList hx fun h' hit hs => ⟨(it, LIt a (i + 1)) :: l, ?_, _, rfl, ?_⟩
    · obtain ⟨o', ho', hc', hd'⟩ := hit
      exact M.upd (P' := LIt a (i + 1)) .head hs ⟨o', ho', hc', hd'⟩ _
    · have hK' := any_cv (hK _ hv)
      rw [hT] at hK' ⊢
      refine ⟨fun s' M' => ?_⟩
      obtain ⟨o, ho, hc, hd⟩ := M'.at_ (a := it) (P := LIt a (i + 1)) (.head _)
      exact wpAny_letOwnedTupleGo_listiter ⟨o, ho, hc, hd⟩ ⟨_, M', l, rfl, hK'⟩⟩
  stop l hn := ⟨fun s M => by
    obtain ⟨o, ho, hc, hd⟩ := M.at_ (a := it) (P := LIt a vs.length) (.head _)
    obtain ⟨xs, n, hl, e, hsz⟩ := lst_at M (List.mem_cons_of_mem _ hn)
    exact wpAny_pyNext_list_end hh ⟨o, ho, hc, hd⟩ hl.isList (Array.getElem?_eq_none (by omega)) fun h' hx => ⟨l, M.extBut hx hn _, rfl, rfl⟩⟩
theorem Loop.listP {a it : Addr} {vs : List Value} {elts : List Expr} {k : Nat} {p : Pos} {body : List Stmt} {Q : Flow → Led → Prop} (hr : ∀ v ∈ vs, ∃ T, v = .ref T) (Inv : Nat → Led → Prop) (hh : A.handled = none) (h0 : Inv 0 l) (hn : ∀ i l, Inv i l → (a, Lst vs) ∈ l)
    (turn : ∀ i l c, vs[i]? = some c → Inv i l → Any c fun v => TT G A (assign (.Tuple elts k p) env v) (fun _ l₂ => TT G A (execs body env) (LoopEnd Q [(it, LIt a (i + 1))] (Inv (i + 1))) Ef l₂) Ef ((it, LIt a (i + 1)) :: l))
    (done : ∀ l, Inv vs.length l → Q .next l) : Loop G A (.Tuple elts k p) env body Q (.ref it) ((it, LIt a 0) :: l) :=
  ⟨it, listIter it a vs, Inv, l, rfl, listIterP_ok hr hh, Le.refl _, h0, hn, fun i l hi hI c hc => turn i l c hc hI, done⟩
variable {elt : Expr} {ifs : List Expr} {ns : List Str} {vn : List (Option Value)} {cenv : Addr → Env} {R : Addr → List Value → Led → Prop}
theorem Comp.listP {a it : Addr} {vs : List Value} {elts : List Expr} {k : Nat} {p : Pos} (hr : ∀ v ∈ vs, ∃ T, v = .ref T) (Inv : Nat → List Value → Led → Prop) (hh : A.handled = none) (h0 : Inv 0 [] l) (hn : ∀ i acc l, Inv i acc l → acc.length ≤ sizeLine ∧ (a, Lst vs) ∈ l)
    (turn : ∀ i acc l D C c, vs[i]? = some c → Inv i acc l → Any c fun v => TT G A (assign (.Tuple elts k p) (cenv C) v) (fun _ => CTurn G A elt ifs ns vn (cenv C) D C acc [(it, LIt a (i + 1))] (Inv (i + 1))) Ef ((it, LIt a (i + 1)) :: (D, Lst acc) :: (C, IsNs ns vn) :: l))
    (done : ∀ acc l D, Inv vs.length acc l → R D acc l) : Comp G A (.Tuple elts k p) elt ifs ns vn cenv R (.ref it) ((it, LIt a 0) :: l) :=
  ⟨it, listIter it a vs, Inv, l, rfl, listIterP_ok hr hh, Le.refl _, h0, fun l Q hq => ⟨fun s M => by
      obtain ⟨o, ho, hc, hd⟩ := M.at_ (a := it) (P := LIt a 0) (.head _)
      exact wpAny_pyIter_listiter ⟨o, ho, hc, hd⟩ ⟨_, M, hq⟩⟩,
    fun i acc l D C hI => ⟨(hn i acc l hI).1, .tail _ (.tail _ (hn i acc l hI).2)⟩, fun i acc l D C hi hI c hc => turn i acc l D C c hc hI, done⟩

end
end
section
section
variable {G : Gd} {A : Around} {E : Value → Led → Prop} {l l' : Led} {env : Env} {pos : Pos}
theorem iv_getR {ls : List Int} {k : Nat} (h : k < ls.length) : (ls.map iv)[k]? = some (iv (ls.getD k 0)) := by
  rw [List.getElem?_map, List.getElem?_eq_getElem h, List.getD_eq_getElem?_getD, List.getElem?_eq_getElem h]; rfl
theorem ring_none_spec {Lk : Addr} {pre : Led} {Q : Value → Led → Prop} (ax : Ax A 1) (h : Q (.bool true) pre) : TT G A (call (.ref 235) [.none, .ref Lk, .bool false]) Q E pre := by
  refine (C_defC (ns := [Str.ofString "ringed"]) (vs := [some (.bool false)]) (binds := [((Str.ofString "ring"), .none), ((Str.ofString "links"), .ref Lk), ((Str.ofString "ringed"), .bool false)]) (fun L => [(L + 2, Cel (some (.ref Lk))), (L + 1, Cel (some .none))]) ax.room (by exact rfl) rfl (fun s _ => BindsTo.of_eq rfl) (by rfl) (fun L => by rfl) (by kernel_rfl) ⟨rfl, rfl, rfl, rfl, rfl, rfl⟩ fun L F => ?_).call
  refine TT.as (l' := (L, IsNs [Str.ofString "ringed"] [some (.bool false)]) :: (L + 2, Cel (some (.ref Lk))) :: (L + 1, Cel (some .none)) :: pre) rfl ?_
  refine T_execs (T_If (T_isNot (T_isValue (T_ld F (by walk_at "mem") (by walk_at "at") ?_))))
  refine T_truthy_bool (Br.tt rfl ?_)
  refine T_execs (T_Return (T_Compare (T_cell F (by rfl) (by rfl) (by walk_at "mem") ?_)))
  refine T_none (T_is_none ?_)
  exact ⟨pre, (by walk_at "le"), h⟩
theorem ring_lt2 {n : Nat} (h : 2 ≤ n) : ¬ (n : Int) < 2 := by omega
theorem ring_neg {n : Nat} (h : 2 ≤ n) : -(n : Int) ≤ -1 := by omega
theorem ring_last {n : Nat} (h : 2 ≤ n) : (-1 + (n : Int)).toNat = n - 1 := by omega
theorem ring_k {k n : Nat} (h : 2 ≤ n) (hk : k < n - 1) : k + 1 < n := by omega
theorem fit1 {k n : Nat} (h : k + 1 < n) (hn : n ≤ 30) : ((1 + k : Nat) : Int) < 2 ^ 63 := by omega
theorem toNat1 (k : Nat) : ((1 + k : Nat) : Int).toNat = k + 1 := by omega
theorem sub1_nn (k : Nat) : 0 ≤ ((1 + k : Nat) : Int) - 1 := by omega
theorem fit1s {k n : Nat} (h : k + 1 < n) (hn : n ≤ 30) : ((1 + k : Nat) : Int) - 1 < 2 ^ 63 := by omega
theorem toNat1s (k : Nat) : (((1 + k : Nat) : Int) - 1).toNat = k := by omega
theorem ring_spec {R Lk : Addr} {ring : List Int} {lk : List (Addr × Int × Int)} {pre : Led} {Q : Value → Led → Prop} (ax : Ax A 2) (hz : ring.length ≤ 30) (h2 : 2 ≤ ring.length) (hends : ring.head? = ring.getLast?) (hnd : (ring.drop 1).Nodup)
    (hedge : ∀ (i : Nat) a b, ring[i]? = some a → ring[i + 1]? = some b → (a, b) ∈ lk.map (·.2))
    (hR : (R, Lst (ring.map iv)) ∈ pre) (hL : (Lk, Lst (lk.map fun p => .ref p.1)) ∈ pre) (hp : ∀ p ∈ lk, (p.1, Tup [iv p.2.1, iv p.2.2]) ∈ pre)
    (h : Q (.bool true) pre) : TT G A (call (.ref 235) [.ref R, .ref Lk, .bool true]) Q E pre := by
  refine (C_defC (ns := [Str.ofString "ringed"]) (vs := [some (.bool true)]) (binds := [((Str.ofString "ring"), .ref R), ((Str.ofString "links"), .ref Lk), ((Str.ofString "ringed"), .bool true)]) (fun L => [(L + 2, Cel (some (.ref Lk))), (L + 1, Cel (some (.ref R)))]) ax.room (by exact rfl) rfl (fun s _ => BindsTo.of_eq rfl) (by rfl) (fun L => by rfl) (by kernel_rfl) ⟨rfl, rfl, rfl, rfl, rfl, rfl⟩ fun L F => ?_).call
  refine TT.as (l' := (L, IsNs [Str.ofString "ringed"] [some (.bool true)]) :: (L + 2, Cel (some (.ref Lk))) :: (L + 1, Cel (some (.ref R))) :: pre) rfl ?_
  have e20 : 100 ≤ sizeLine := by decide
  have hrl : (ring.map iv).length = ring.length := List.length_map ..
  have hr0' : 0 < ring.length := Nat.lt_of_lt_of_le (by decide) h2
  have hrz : (ring.map iv).length ≤ 30 := by rw [hrl]; exact hz
  have hr1 : 1 ≤ (ring.map iv).length := by rw [hrl]; exact hr0'
  have hu : ∀ env : Env, (A.deeper env).units + 3 < cLine := fun env => Nat.lt_of_le_of_lt (Nat.add_le_add_left (by decide) _) (ax.deeper (env := env)).units
  have hu' : ∀ env : Env, (A.deeper env).units < cLine := fun env => Nat.lt_of_le_of_lt (Nat.le_add_right ..) (hu env)
  refine T_execs (T_If (T_isNot (T_isValue (T_ld F (by walk_at "mem") (by walk_at "at") ?_))))
  refine T_truthy_bool (Br.ff rfl (T_execs_nil ?_))
  obtain ⟨r0, hr0, hrl0⟩ : ∃ r0, ring[0]? = some r0 ∧ ring[ring.length - 1]? = some r0 := by
    rw [List.head?_eq_getElem?, List.getLast?_eq_getElem?] at hends
    refine ⟨ring[0], List.getElem?_eq_getElem hr0', ?_⟩
    rw [← hends]; exact List.getElem?_eq_getElem hr0'
  refine T_execs (T_If (T_isBoolOp (T_or_cons (T_isCompare (T_Call (T_blt F b_type (by rfl) ?_))))))
  refine T_cw Callee.type (T_items (T_cell F (by rfl) (by rfl) (by walk_at "mem") ?_))
  refine T_items_nil (T_type (P := Lst (ring.map iv)) (by walk_at "mem") (fun o ho => (lst_cls o ho).1) (by decide) ?_)
  refine T_blt F b_list (by rfl) (T_isn rfl (T_truthy_bool (Br.ff (by rfl) ?_)))
  refine T_or_cons (T_isCompare (T_Call (T_blt F b_len (by rfl) ?_)))
  refine T_cw Callee.builtin (T_items (T_cell F (by rfl) (by rfl) (by walk_at "mem") ?_))
  refine T_items_nil (T_len (by walk_at "mem") (Nat.le_trans hrz (by decide)) fun t1 => ?_)
  refine T_int fun t2 => T_lt (T_truthy_bool (Br.ff (by rw [hrl]; exact decide_eq_false (ring_lt2 h2)) ?_))
  refine T_or_cons (T_isCompare (T_Sub (T_cell F (by rfl) (by rfl) (by walk_at "mem") ?_)))
  refine T_int fun t3 => T_item (c := iv r0) (by walk_at "mem") (by decide) (by decide) (by rw [List.getElem?_map]; exact congrArg (Option.map iv) hr0) ?_
  intro t4
  refine T_Sub (T_cell F (by rfl) (by rfl) (by walk_at "mem") ?_)
  refine T_UnaryOp (T_int fun t5 => T_neg fun t6 => ?_)
  refine T_itemNeg (c := iv r0) (by walk_at "mem") (by decide) (by rw [hrl]; exact ring_neg h2) (by decide) (by rw [hrl, ring_last h2, List.getElem?_map, hrl0]; rfl) ?_
  intro t7
  refine T_ne (T_truthy_bool (Br.ff (by simp) (T_or_nil (Br.ff rfl (T_execs_nil ?_)))))
  refine T_execs (T_If (T_isCompare (T_ListComp (cl := [((Str.ofString "ring"), L + 1)]) [Str.ofString "k"] [none] (by rfl) (by decide) rfl (T_Call (T_blt F b_range (by rfl) ?_)))))
  refine T_cw Callee.type (T_items (T_int fun t8 => T_items (T_Call (T_blt F b_len (by rfl) ?_))))
  refine T_cw Callee.builtin (T_items (T_cell F (by rfl) (by rfl) (by walk_at "mem") ?_))
  refine T_items_nil (T_len (by walk_at "mem") (Nat.le_trans hrz (by decide)) fun t9 => ?_)
  refine T_items_nil (T_range2 (a := 1) (b := (ring.map iv).length) fun rg => ?_)
  refine T_iter_range (by walk_at "mem") hr1 (Nat.le_trans hrz (by decide)) fun it => ?_
  refine Comp.range (fun k acc l2 => acc = [] ∧ l2 = (rg, Rng 1 (ring.map iv).length) :: (L, IsNs [Str.ofString "ringed"] [some (.bool true)]) :: (L + 2, Cel (some (.ref Lk))) :: (L + 1, Cel (some (.ref R))) :: pre) ax.hd hr1 ⟨rfl, rfl⟩ ?_ ?_ ?_
  · rintro k acc l2 ⟨rfl, rfl⟩
    exact Nat.zero_le _
  · rintro k acc l2 D C hk ⟨rfl, rfl⟩ t1
    rw [hrl] at hk
    have hk1 : k + 1 < ring.length := ring_k h2 hk
    refine T_assignName (T_st (compLay (ns := [Str.ofString "k"]) F (by rfl) (by rfl) (by decide)) (by walk_at "mem") (by walk_at "cv") (by walk_at "put") (by walk_at "rep") ?_)
    refine T_tests1 (T_isCompare (T_Sub (T_cell (compLay (ns := [Str.ofString "k"]) F (by rfl) (by rfl) (by decide)) (by rfl) (by rfl) (by walk_at "mem") ?_)))
    refine T_ld (compLay (ns := [Str.ofString "k"]) F (by rfl) (by rfl) (by decide)) (by walk_at "mem") (by walk_at "at") ?_
    intro t2
    refine T_item (c := iv (ring.getD (k + 1) 0)) (by walk_at "mem") (Int.natCast_nonneg _) (fit1 hk1 hz) (by rw [toNat1]; exact iv_getR hk1) ?_
    intro t3
    refine T_slice (T_cell (compLay (ns := [Str.ofString "k"]) F (by rfl) (by rfl) (by decide)) (by rfl) (by rfl) (by walk_at "mem") ?_)
    refine T_part (T_int fun t4 => T_part (T_ld (compLay (ns := [Str.ofString "k"]) F (by rfl) (by rfl) (by decide)) (by walk_at "mem") (by walk_at "at") ?_))
    intro t5
    refine ⟨_, _, _, _, rfl, (by walk_at "mem"), Nat.le_trans hrz (by decide), .int 1 _, .int _ _, fun D1 => ?_⟩
    rw [show (slicePick (ring.map iv).toArray (some 1) (some ((1 + k : Nat) : Int)) none).toList = ((ring.drop 1).take k).map iv by
      rw [show (1 : Int) = ((1 : Nat) : Int) from rfl, slicePick_run _ 1 (1 + k) (by rw [List.size_toArray, hrl, Nat.add_comm]; exact Nat.le_of_lt hk1) (Nat.le_add_right ..)]
      simp [List.map_take, List.map_drop]]
    refine T_inInts (ns := (ring.drop 1).take k) (by walk_at "mem") (T_truthy_bool (Br.ff ?_ ?_))
    · rw [List.any_eq_false]
      intro z hz1 hz2
      have hz3 := eq_of_beq hz2
      obtain ⟨j, hj, hj2⟩ := List.getElem_of_mem hz1
      rw [List.getElem_take, List.getElem_drop] at hj2
      rw [List.length_take, List.length_drop] at hj
      have hjk := Nat.lt_of_lt_of_le hj (Nat.min_le_left ..)
      have hp1 := List.pairwise_iff_getElem.mp hnd j k (by rw [List.length_drop]; exact Nat.lt_trans hjk hk) (by rw [List.length_drop]; exact hk) hjk
      rw [List.getElem_drop, List.getElem_drop] at hp1
      apply hp1
      rw [hj2, hz3, List.getD_eq_getElem?_getD, List.getElem?_eq_getElem hk1]
      show ring[k + 1] = ring[1 + k]
      congr 1; exact Nat.add_comm ..
    · exact ⟨_, (by walk_at "le"), rfl, rfl⟩
  · rintro acc l2 D ⟨rfl, rfl⟩
    refine T_List (T_items_nil ⟨(Nat.le_of_ble_eq_true rfl), fun N => ?_⟩)
    refine T_neNil (b := N) (xs := []) (hu' _) (by walk_at "mem") (by exact List.Mem.head _) (T_truthy_bool (Br.ff rfl (T_execs_nil ?_)))
    refine TT.le (l' := (L, IsNs [Str.ofString "ringed"] [some (.bool true)]) :: (L + 2, Cel (some (.ref Lk))) :: (L + 1, Cel (some (.ref R))) :: pre) (by walk_at "le") ?_
    refine T_execs (T_Return (T_Compare (T_ListComp (cl := [((Str.ofString "ring"), L + 1), ((Str.ofString "links"), L + 2)]) [Str.ofString "k"] [none] (by rfl) (by decide) rfl (T_Call (T_blt F b_range (by rfl) ?_)))))
    refine T_cw Callee.type (T_items (T_int fun t8 => T_items (T_Call (T_blt F b_len (by rfl) ?_))))
    refine T_cw Callee.builtin (T_items (T_cell F (by rfl) (by rfl) (by walk_at "mem") ?_))
    refine T_items_nil (T_len (by walk_at "mem") (Nat.le_trans hrz (by decide)) fun t9 => ?_)
    refine T_items_nil (T_range2 (a := 1) (b := (ring.map iv).length) fun rg => ?_)
    refine T_iter_range (by walk_at "mem") hr1 (Nat.le_trans hrz (by decide)) fun it => ?_
    refine Comp.range (fun k acc l2 => acc = [] ∧ l2 = (rg, Rng 1 (ring.map iv).length) :: (L, IsNs [Str.ofString "ringed"] [some (.bool true)]) :: (L + 2, Cel (some (.ref Lk))) :: (L + 1, Cel (some (.ref R))) :: pre) ax.hd hr1 ⟨rfl, rfl⟩ ?_ ?_ ?_
    · rintro k acc l2 ⟨rfl, rfl⟩
      exact Nat.zero_le _
    · rintro k acc l2 D C hk ⟨rfl, rfl⟩ t1
      rw [hrl] at hk
      have hk1 : k + 1 < ring.length := ring_k h2 hk
      refine T_assignName (T_st (compLay (ns := [Str.ofString "k"]) F (by rfl) (by rfl) (by decide)) (by walk_at "mem") (by walk_at "cv") (by walk_at "put") (by walk_at "rep") ?_)
      refine T_tests1 (T_isCompare (T_Tuple (T_items (T_Sub (T_cell (compLay (ns := [Str.ofString "k"]) F (by rfl) (by rfl) (by decide)) (by rfl) (by rfl) (by walk_at "mem") ?_)))))
      refine T_BinOp (T_ld (compLay (ns := [Str.ofString "k"]) F (by rfl) (by rfl) (by decide)) (by walk_at "mem") (by walk_at "at") ?_)
      intro t2
      refine T_int fun t3 => T_sub fun t4 => ?_
      refine T_item (c := iv (ring.getD k 0)) (by walk_at "mem") (sub1_nn k) (fit1s hk1 hz) (by rw [toNat1s]; exact iv_getR (Nat.lt_of_succ_lt hk1)) ?_
      intro t5
      refine T_items (T_Sub (T_cell (compLay (ns := [Str.ofString "k"]) F (by rfl) (by rfl) (by decide)) (by rfl) (by rfl) (by walk_at "mem") ?_))
      refine T_ld (compLay (ns := [Str.ofString "k"]) F (by rfl) (by rfl) (by decide)) (by walk_at "mem") (by walk_at "at") ?_
      intro t6
      refine T_item (c := iv (ring.getD (k + 1) 0)) (by walk_at "mem") (Int.natCast_nonneg _) (fit1 hk1 hz) (by rw [toNat1]; exact iv_getR hk1) ?_
      intro t7
      refine T_items_nil ⟨(Nat.le_of_ble_eq_true rfl), fun N => ?_⟩
      refine T_cell (compLay (ns := [Str.ofString "k"]) F (by rfl) (by rfl) (by decide)) (by rfl) (by rfl) (by walk_at "mem") ?_
      refine T_notInPairs (lk := lk) (u := ring.getD k 0) (v := ring.getD (k + 1) 0) (hu _) (by walk_at "mem") (by exact List.Mem.head _) (fun p hpm => ?_) ?_ (T_truthy_bool (Br.ff rfl ?_))
      · have := hp p hpm
        walk_at "mem"
      · refine hedge k _ _ ?_ ?_
        · rw [List.getD_eq_getElem?_getD, List.getElem?_eq_getElem (Nat.lt_of_succ_lt hk1)]; rfl
        · rw [List.getD_eq_getElem?_getD, List.getElem?_eq_getElem hk1]; rfl
      · exact ⟨_, (by walk_at "le"), rfl, rfl⟩
    · rintro acc l2 D ⟨rfl, rfl⟩
      refine T_List (T_items_nil ⟨(Nat.le_of_ble_eq_true rfl), fun N => ?_⟩)
      refine T_eqNil (b := N) (xs := []) (hu' _) (by walk_at "mem") (by exact List.Mem.head _) ?_
      exact ⟨pre, (by walk_at "le"), h⟩

end
end
section
section
variable {G : Gd} {A : Around} {E : Value → Led → Prop} {l l' : Led} {env : Env} {pos : Pos}
noncomputable def Found (ringed : Bool) (es : List (Int × Int)) (n : Nat) (l0 : Led) (v : Value) (l1 : Led) : Prop :=
  (v = .none ∧ ringed = false ∧ l1 = l0) ∨ ∃ (D : Addr) (ring : List Int), v = .ref D ∧ ringed = true ∧ 2 ≤ ring.length ∧ ring.length ≤ n + 1 ∧ ring.head? = ring.getLast? ∧ (ring.drop 1).Nodup ∧ (∀ (i : Nat) a b, ring[i]? = some a → ring[i + 1]? = some b → (a, b) ∈ es) ∧ l1 = (D, Lst (ring.map iv)) :: l0
theorem Found.sub {ringed : Bool} {es : List (Int × Int)} {n : Nat} {l0 l1 : Led} {v : Value} (h : Found ringed es n l0 v l1) : ∀ e ∈ l0, e ∈ l1 := by
  intro e he
  rcases h with ⟨_, _, rfl⟩ | ⟨D, ring, _, _, _, _, _, _, _, rfl⟩
  · exact he
  · exact .tail _ he
theorem Found.le {ringed : Bool} {es : List (Int × Int)} {n : Nat} {l0 l1 : Led} {v : Value} (h : Found ringed es n l0 v l1) : Le l1 l0 := by
  rcases h with ⟨_, _, rfl⟩ | ⟨D, ring, _, _, _, _, _, _, _, rfl⟩
  · exact Le.refl _
  · exact .drop (Le.refl _)
theorem ring_not {xs : List Int} {ringed : Bool} (hrg : ringedB xs = ringed) (h : ¬ Ringed xs) : ringed = false := by
  cases ringed with
  | false => rfl
  | true => exact absurd (ringed_iff.mp hrg) h
theorem Net.hr1 {xs : List Int} {g : List AN} {es : List (Int × Int)} {ringed : Bool} (N : Net xs g es) (hes : EsT xs es ∨ EsB xs es) (hrg : ringedB xs = ringed) : ∀ fin, Topo g fin → (∀ p ∈ portsA g, p ∈ fin) → fin.length ≤ g.length → ringed = false := fun fin t1 t2 t3 => by
  rw [N.len] at t3
  exact ring_not hrg (hes.elim (fun h => N.orderT h t1 t2 t3) fun h => N.orderB h t1 t2 t3)
theorem Net.hr2 {xs : List Int} {g : List AN} {es : List (Int × Int)} {ringed : Bool} (N : Net xs g es) (hes : EsT xs es ∨ EsB xs es) (hrg : ringedB xs = ringed) : ∀ ring, RingOk g ring → ringed = true := fun ring h => by
  rw [← hrg]
  exact ringed_iff.mpr (hes.elim (fun e => N.ringT e h) fun e => N.ringB e h)
theorem found_spec {x d n2i : Addr} {rs : List NR} {pre post : Led} {xs : List Int} {es : List (Int × Int)} {ringed : Bool} (ax : Ax A 1) (hF : Frs A pre) (N : Net xs (absL rs) es) (hes : EsT xs es ∨ EsB xs es) (hrg : ringedB xs = ringed) (hz : xs.length ≤ 20) :
    TT G A (call (.ref 171) [.ref x]) (Found ringed es xs.length (pre ++ SL G.w x d n2i .none (iv 0) (iv 0) rs post)) E (pre ++ SL G.w x d n2i .none (iv 0) (iv 0) rs post) := by
  have hl : rs.length = xs.length := by have := N.len; rwa [absL, List.length_map] at this
  refine find_cycle_spec ax hF N.gr.nd (by omega) (fun p q hq => ?_) (fun fin t1 t2 t3 => ?_) fun ring D hr hl2 => ?_
  · exact (N.gr.mem _).mpr (N.he hes _ (N.gr.in.mp hq)).2
  · exact .inl ⟨rfl, N.hr1 hes hrg fin t1 t2 (by rw [absL, List.length_map]; exact t3), rfl⟩
  · exact .inr ⟨D, ring, rfl, N.hr2 hes hrg ring hr, hr.two, by omega, hr.ends, hr.nd, fun i a b h1 h2 => N.gr.in.mp (hr.edge i a b h1 h2), rfl⟩
theorem stands_spec {Lk : Addr} {lk : List (Addr × Int × Int)} {ringed : Bool} {es : List (Int × Int)} {n : Nat} {l0 l1 pre : Led} {v : Value} {Q : Value → Led → Prop} (ax : Ax A 2) (hf : Found ringed es n l0 v l1) (hn : n ≤ 20) (hsub : ∀ e ∈ l1, e ∈ pre)
    (hes : ∀ a b, (a, b) ∈ es → (a, b) ∈ lk.map (·.2)) (hL : (Lk, Lst (lk.map fun p => .ref p.1)) ∈ pre) (hp : ∀ p ∈ lk, (p.1, Tup [iv p.2.1, iv p.2.2]) ∈ pre)
    (h : Q (.bool true) pre) : TT G A (call (.ref 235) [v, .ref Lk, .bool ringed]) Q E pre := by
  rcases hf with ⟨rfl, rfl, rfl⟩ | ⟨D, ring, rfl, rfl, h1, h2, h3, h4, h5, rfl⟩
  · exact ring_none_spec (ax.le (by decide)) h
  · exact ring_spec ax (by omega) h1 h3 h4 (fun i a b ha hb => hes _ _ (h5 i a b ha hb)) (hsub _ (.head _)) hL hp h
theorem rounds_net {x d n2i : Addr} {rs : List NR} {pre post : Led} {xs : List Int} {es : List (Int × Int)} {ringed : Bool} {Q : Value → Led → Prop} (ax : Ax A 4) (hF : Frs A pre) (N : Net xs (absL rs) es) (hel : es.length ≤ 20) (hes : EsT xs es ∨ EsB xs es) (hrg : ringedB xs = ringed) (hz : xs.length ≤ 20)
    (h : ∀ Rn rnd, (∀ rank, (EsT xs es ∧ rank = rkT xs ∨ EsB xs es ∧ rank = rkB xs) → rnd.map (·.2) = ((List.range xs.length).map (lvl xs.length rank)).filter fun l => !l.isEmpty) → Q (.ref Rn) ((Rn, Lst (rnd.map fun p => .ref p.1)) :: (rndL rnd ++ (pre ++ post)))) :
    TT G A (call (.ref 242) [.ref x, .bool ringed]) Q E (pre ++ SL G.w x d n2i .none (iv 0) (iv 0) rs post) := by
  have hl : rs.length = xs.length := by have := N.len; rwa [absL, List.length_map] at this
  refine rounds_spec ax hF (by omega) (fun p => Nat.le_trans (N.gr.len p) hel) (N.gr.ki (N.he hes)) (fun fin t1 t2 t3 => N.hr1 hes hrg fin t1 t2 (by rw [absL, List.length_map]; exact t3)) (N.hr2 hes hrg) fun Rn rnd D h1 h2 h3 => h Rn rnd fun rank hrk => ?_
  rcases hrk with ⟨e, rfl⟩ | ⟨e, rfl⟩
  · exact N.roundsT e h1 h3
  · exact N.roundsB e h1 h3
theorem same_rounds {l : Led} {rnd all : List (Addr × List Int)} (he : rnd.map (·.2) = all.map (·.2)) (h1 : ∀ p ∈ rnd, (p.1, Lst (p.2.map iv)) ∈ l) (h2 : ∀ p ∈ all, (p.1, Lst (p.2.map iv)) ∈ l) (i : Nat) (x y : Value)
    (hx : (rnd.map fun p => Value.ref p.1)[i]? = some x) (hy : (all.map fun p => Value.ref p.1)[i]? = some y) : Same l 1 x y := by
  rw [List.getElem?_map] at hx hy
  obtain ⟨p, hp, rfl⟩ := Option.map_eq_some_iff.mp hx
  obtain ⟨q, hq, rfl⟩ := Option.map_eq_some_iff.mp hy
  have e : p.2 = q.2 := by
    have := congrArg (·[i]?) he
    simp only [List.getElem?_map, hp, hq] at this
    exact Option.some.inj this
  refine .list (h1 p (List.mem_of_getElem? hp)) (h2 q (List.mem_of_getElem? hq)) (by rw [e]) fun j a b ha hb => ?_
  rw [e, hb] at ha
  cases ha
  rw [List.getElem?_map] at hb
  obtain ⟨z, _, rfl⟩ := Option.map_eq_some_iff.mp hb
  exact .int

end
end
section
section
variable {G : Gd} {A : Around} {E : Value → Led → Prop} {l l' : Led} {env : Env} {pos : Pos}
theorem kp192 {w : World} : keepIn (KK w) (.ref 192) = true := by kernel_rfl
theorem kp199 {w : World} : keepIn (KK w) (.ref 199) = true := by kernel_rfl
theorem kp206 {w : World} : keepIn (KK w) (.ref 206) = true := by kernel_rfl
theorem T_sliceB {value : Expr} {lower upper : Option Expr} {p : Pos} {a : Addr} {items : Array Value} {Q : Value → Led → Prop} (hb : G.h₀.IsList a items) (hz : items.size ≤ sizeLine)
    (h : TT G A (eval value env) (fun o l₁ => TT G A (evalPart lower env) (fun vl l₂ => TT G A (evalPart upper env) (fun vu l₃ =>
      ∃ lo hi, o = .ref a ∧ IsPart vl lo ∧ IsPart vu hi ∧ ∀ D, Q (.ref D) ((D, Lst ((slicePick items lo hi none).toList.map cv)) :: l₃)) E l₂) E l₁) E l)
    (ht : ∀ o r, letTemporaryGo value o r = pure () := by intro _ _; rfl) : TT G A (eval (.Subscript value (.Slice lower upper none p) pos) env) Q E l :=
  ⟨fun s M => by
    refine wpAny_Subscript_list_slice (h.k M fun o s₁ l₁ m₁ q => q.k m₁ fun vl s₂ l₂ m₂ q => q.k m₂ fun vu s₃ l₃ m₃ q => ?_) ht
    obtain ⟨lo, hi, rfl, pl, pu, q⟩ := q
    have hl : s₃.heap.IsList a items := by
      obtain ⟨o, ho, hr⟩ := hb
      exact ⟨o, m₃.keep _ _ ho, hr⟩
    refine ⟨a, items, lo, hi, rfl, hl, hz, pl, pu, ?_⟩
    have M₁ := m₃.push (o := { cls := .type "slice", data := .fields #[vl, vu, .none] }) (P := fun _ => True) trivial rfl s₃.toks
    have M₂ := M₁.push (o := { cls := .type "list", data := .seq (slicePick items lo hi none) }) (P := Lst ((slicePick items lo hi none).toList.map cv)) ⟨_, 0, rfl, rfl⟩ rfl s₃.toks
    simp only [Heap.size_push] at M₂
    exact ⟨_, M₂.le (.keep (fun _ h => h) (.drop (Le.refl _))), q _⟩⟩
theorem upto_list (vs : List Value) (k : Nat) : (slicePick vs.toArray none (some (k : Int)) none).toList = vs.take k := by rw [slicePick_upto']
theorem sum_bound : ∀ {dd : List Int}, (∀ d ∈ dd, 0 ≤ d ∧ d < 1000000) → 0 ≤ dd.sum ∧ dd.sum ≤ 1000000 * dd.length
  | [], _ => by simp
  | d :: dd, h => by
    have h1 := sum_bound (dd := dd) fun d hd => h d (.tail _ hd)
    have h2 := h d (.head _)
    rw [List.sum_cons, List.length_cons]
    omega
theorem log_small {a : Int} (h : 0 ≤ a ∧ a < 4294967296) : a.natAbs.log2 < 1920 := by
  by_cases h0 : a.natAbs = 0
  · rw [h0]; decide
  · have : a.natAbs.log2 < 32 := (Nat.log2_lt h0).mpr (by omega)
    omega
theorem str_small {a : Int} (h : 0 ≤ a ∧ a < 4294967296) : (Str.ofString (toString a)).length ≤ 33 := by
  have h1 : a.natAbs.log2 < 32 := by
    by_cases h0 : a.natAbs = 0
    · rw [h0]; decide
    · exact (Nat.log2_lt h0).mpr (by omega)
  have h2 := int_text_length_le (k := 32) (by decide) h1
  rw [PySem.ofString_length]; exact h2
theorem portsX_succ (i : Nat) : portsX (i + 1) = portsX i ++ [Pt (i : Int)] := by unfold portsX; rw [List.range_succ, List.map_append]; rfl
theorem Frs.deeperC {fd : FuncData} {L f : Addr} {ns : List Str} {vs : List (Option Value)} (h : Frs A l) (hk : fd.scope.kind = .function) : Frs (A.deeper (callEnvC fd L f)) ((L, IsNs ns vs) :: l) := by
  obtain ⟨fs, h1, h2⟩ := h.go
  refine ⟨callEnvC fd L f :: fs, Around.frames_deeper h1, fun env he => ?_⟩
  rcases List.mem_cons.mp he with rfl | he
  · refine ⟨?_, L, ns, vs, rfl, .head _⟩
    show fd.scope.kind ≠ _
    rw [hk]; decide
  · obtain ⟨a, L', ns', vs', b, c⟩ := h2 env he
    exact ⟨a, L', ns', vs', b, .tail _ c⟩
theorem ansL_snoc (host : Str) (rows : List AR) (r : AR) : ansL host (rows ++ [r]) = ansL host rows ++ ansE host r := by
  simp only [ansL, List.flatMap_append, List.flatMap_cons, List.flatMap_nil, List.append_nil]
theorem portsX_get {n k : Nat} (h : k < n) : ((portsX n).map iv)[k]? = some (iv (Pt (k : Int))) := by
  rw [portsX, List.map_map, List.getElem?_map, List.getElem?_range h]; rfl
theorem rep_get {xs : List Int} {k : Nat} (h : k < xs.length) : ((xs.map (replyOf xs.length)).map sv)[k]? = some (sv (replyOf xs.length (xs.getD k 0))) := by
  rw [List.map_map, List.getElem?_map, List.getElem?_eq_getElem h, List.getD_eq_getElem?_getD, List.getElem?_eq_getElem h]; rfl
theorem kp213 {w : World} : keepIn (KK w) (.ref 213) = true := by kernel_rfl
theorem kp218 {w : World} : keepIn (KK w) (.ref 218) = true := by kernel_rfl
theorem kp223 {w : World} : keepIn (KK w) (.ref 223) = true := by kernel_rfl
theorem kp230 {w : World} : keepIn (KK w) (.ref 230) = true := by kernel_rfl
theorem kp235 {w : World} : keepIn (KK w) (.ref 235) = true := by kernel_rfl
theorem kp242 {w : World} : keepIn (KK w) (.ref 242) = true := by kernel_rfl
theorem kp181 {w : World} : keepIn (KK w) (.ref 181) = true := by kernel_rfl
theorem same_ans {host : Str} {r q : AR} {l : Led} (h : r.v = q.v) (h1 : ∀ e ∈ ansE host r, e ∈ l) (h2 : ∀ e ∈ ansE host q, e ∈ l) : Same l 2 (.ref r.a) (.ref q.a) := by
  obtain ⟨a, t, v⟩ := r
  obtain ⟨b, u, v'⟩ := q
  cases h
  cases v with
  | told p =>
    refine .list (h1 _ (.head _)) (h2 _ (.head _)) rfl fun i x y hx hy => ?_
    match i with
    | 0 => cases hx; cases hy; exact .str
    | 1 =>
      cases hx; cases hy
      refine .tup (h1 _ (.tail _ (.head _))) (h2 _ (.tail _ (.head _))) rfl fun i x y hx hy => ?_
      match i with
      | 0 => cases hx; cases hy; exact .str
      | 1 => cases hx; cases hy; exact .int
      | i + 2 => cases hx
    | i + 2 => cases hx
  | reply p =>
    refine .list (h1 _ (.head _)) (h2 _ (.head _)) rfl fun i x y hx hy => ?_
    match i with
    | 0 => cases hx; cases hy; exact .str
    | 1 => cases hx; cases hy; exact .str
    | i + 2 => cases hx
  | proto p =>
    refine .list (h1 _ (.head _)) (h2 _ (.head _)) rfl fun i x y hx hy => ?_
    match i with
    | 0 => cases hx; cases hy; exact .str
    | 1 => cases hx; cases hy; exact .str
    | i + 2 => cases hx
  | bad =>
    refine .list (h1 _ (.head _)) (h2 _ (.head _)) rfl fun i x y hx hy => ?_
    match i with
    | 0 => cases hx; cases hy; exact .str
    | i + 1 => cases hx
theorem due_zip (xs : List Int) : (xs.zip (xs.map (replyOf xs.length))).map (fun q => due xs.length q.1 q.2) = (List.range xs.length).map (fun k => due xs.length (xs.getD k 0) (replyOf xs.length (xs.getD k 0))) := by
  apply List.ext_getElem?
  intro i
  rw [List.getElem?_map, List.getElem?_map]
  by_cases h : i < xs.length
  · rw [List.getElem?_range h, List.getElem?_zip_eq_some (z := (xs[i], replyOf xs.length xs[i])) |>.mpr ⟨List.getElem?_eq_getElem h, by rw [List.getElem?_map, List.getElem?_eq_getElem h]; rfl⟩]
    have hd : xs.getD i 0 = xs[i] := by rw [List.getD_eq_getElem?_getD, List.getElem?_eq_getElem h]; rfl
    rw [Option.map_some, Option.map_some, hd]
  · rw [List.getElem?_eq_none (by rw [List.length_zip, List.length_map]; omega), List.getElem?_eq_none (by rw [List.length_range]; omega)]; rfl
theorem ans_head (tu : Addr) (v : Ans) : ∃ tag, (ansV tu v)[0]? = some (sv tag) ∧ ((tag == (Str.ofString "told")) = true → ∃ q, v = .told q) ∧ ((tag == (Str.ofString "told")) = false → tgts v = []) := by
  cases v with
  | told p => exact ⟨_, rfl, fun _ => ⟨p, rfl⟩, fun h => absurd h (by decide +kernel)⟩
  | reply p => exact ⟨_, rfl, fun h => absurd h (by decide +kernel), fun _ => rfl⟩
  | proto p => exact ⟨_, rfl, fun h => absurd h (by decide +kernel), fun _ => rfl⟩
  | bad => exact ⟨_, rfl, fun h => absurd h (by decide +kernel), fun _ => rfl⟩
noncomputable def linksTo (xs : List Int) (i : Nat) : List (Int × Int) := (List.range i).filterMap fun (k : Nat) => (nxt xs (k : Int)).map fun j => (Pt (k : Int), Pt j)
theorem linksTo_succ (xs : List Int) (i : Nat) : linksTo xs (i + 1) = linksTo xs i ++ ((nxt xs (i : Int)).map fun j => (Pt (i : Int), Pt j)).toList := by
  unfold linksTo
  rw [List.range_succ, List.filterMap_append]
  congr 1
noncomputable abbrev lkL (lk : List (Addr × Int × Int)) : Led := lk.map fun p => (p.1, Tup [iv p.2.1, iv p.2.2])
theorem SL_nil {w : World} {x d n2i : Addr} {a b c : Value} {rs : List NR} : SL w x d n2i a b c rs [] = (x, Inst 181 d) :: (d, SD (.ref n2i) a b c) :: (n2i, Dct w n2i (n2iK rs)) :: nodesL rs := by
  simp only [SL, List.append_nil]
theorem SL_split {w : World} {x d n2i : Addr} {a b c : Value} {rs : List NR} {Z Y : Led} : Z ++ SL w x d n2i a b c rs Y = (Z ++ SL w x d n2i a b c rs []) ++ Y := by
  simp only [SL, List.append_assoc, List.cons_append, List.append_nil]
theorem tab_rows {xs : List Int} {rows : List AR} (hr : rows.map (fun (r : AR) => r.v) = (List.range xs.length).map (fun k => due xs.length (xs.getD k 0) (replyOf xs.length (xs.getD k 0)))) : ((portsX xs.length).zip rows).map (fun q => (q.1, tgts q.2.v)) = (List.range xs.length).map (rowOf xs) := by
  have hrl : rows.length = xs.length := by have := congrArg List.length hr; simpa using this
  apply List.ext_getElem?
  intro i
  rw [List.getElem?_map, List.getElem?_map]
  by_cases h : i < xs.length
  · have h1 : (portsX xs.length)[i]? = some (Pt (i : Int)) := by rw [portsX, List.getElem?_map, List.getElem?_range h]; rfl
    obtain ⟨r, hrr⟩ : ∃ r, rows[i]? = some r := ⟨_, List.getElem?_eq_getElem (by omega)⟩
    have h2 := congrArg (·[i]?) hr
    simp only [List.getElem?_map, hrr, List.getElem?_range h] at h2
    have h' : r.v = due xs.length (xs.getD i 0) (replyOf xs.length (xs.getD i 0)) := Option.some.inj h2
    rw [List.getElem?_range h, List.getElem?_zip_eq_some (z := (Pt (i : Int), r)) |>.mpr ⟨h1, hrr⟩, Option.map_some, Option.map_some]
    show some (Pt (i : Int), tgts r.v) = some (rowOf xs i)
    rw [h', row_due]; rfl
  · rw [List.getElem?_eq_none (by rw [List.length_zip, hrl]; omega), List.getElem?_eq_none (by rw [List.length_range]; omega)]; rfl
theorem portsX_nd (n : Nat) : (portsX n).Nodup := by
  unfold portsX
  rw [List.nodup_iff_pairwise_ne, List.pairwise_map]
  refine List.pairwise_lt_range.imp fun {a b} h => ?_
  unfold Pt; omega
theorem add1_len (p b : Int) (g : List AN) : (addA p [b] g).length ≤ g.length + 2 := by
  show (updA b (suAdd p) (ens b (updA p (npAdd (1 : Nat)) (ens p g)))).length ≤ _
  rw [len_upd]
  have h1 := len_ens b (updA p (npAdd (1 : Nat)) (ens p g))
  rw [len_upd] at h1
  have h2 := len_ens p g
  omega
theorem add0_len (p : Int) (g : List AN) : (addA p [] g).length ≤ g.length + 1 := by
  show (updA p (npAdd (0 : Nat)) (ens p g)).length ≤ _
  rw [len_upd]
  exact len_ens p g
theorem backF_len : ∀ (ls : List (Int × Int)) (g : List AN), (ls.foldl (fun g e => addA e.2 [e.1] g) g).length ≤ g.length + 2 * ls.length
  | [], g => by simp
  | e :: ls, g => by
    have h1 := backF_len ls (addA e.2 [e.1] g)
    have h2 := add1_len e.2 e.1 g
    rw [List.foldl_cons, List.length_cons]; omega
theorem portsG_len : ∀ (ps : List Int) (g : List AN), (portsG g ps).length ≤ g.length + ps.length
  | [], g => by simp [portsG]
  | p :: ps, g => by
    have h1 := portsG_len ps (addA p [] g)
    have h2 := add0_len p g
    show (portsG (addA p [] g) ps).length ≤ _
    rw [List.length_cons]; omega
theorem lk_refs (lk : List (Addr × Int × Int)) : ∀ v ∈ lk.map (fun p => Value.ref p.1), ∃ T, v = .ref T := fun v hv => by
  obtain ⟨p, _, rfl⟩ := List.mem_map.mp hv
  exact ⟨_, rfl⟩
theorem Gr.fits {g : List AN} {es : List (Int × Int)} {P : Int → Prop} (h : Gr g es P) (hl : es.length ≤ 900) : SuccLe 900 g := fun a ha => by
  obtain ⟨i, hi⟩ := List.getElem?_of_mem ha
  have h1 : succOf g a.port = a.succ := by
    unfold succOf
    have : g.find? (fun b => b.port == a.port) = some a := by
      clear hl
      have nd := h.nd
      clear h
      induction g generalizing i with
      | nil => cases ha
      | cons b g ih =>
        rw [List.find?_cons]
        have nd' := List.nodup_cons.mp (show (b.port :: portsA g).Nodup from nd)
        rcases List.mem_cons.mp ha with rfl | ha
        · simp
        · have hne : (b.port == a.port) = false := by
            have : b.port ≠ a.port := fun e => nd'.1 (by rw [e]; exact List.mem_map.mpr ⟨a, ha, rfl⟩)
            simpa using this
          rw [hne]
          obtain ⟨j, hj⟩ := List.getElem?_of_mem ha
          exact ih ha j hj nd'.2
    rw [this]; rfl
  rw [← h1]
  exact Nat.le_trans (h.len _) hl
theorem lkL_snoc (lk : List (Addr × Int × Int)) (p : Addr × Int × Int) : lkL (lk ++ [p]) = lkL lk ++ [(p.1, Tup [iv p.2.1, iv p.2.2])] := List.map_append ..
set_option maxHeartbeats 0 in
theorem law_spec {S : Addr} {items : Array Value} {zs : List Int} (ax : Ax A 8) (hF : Frs A []) (hS : G.h₀.IsList S items) (hz : items.size ≤ 1000) (hi : items.toList.map cv = zs.map iv) :
    CU G A (.call (.ref 247) ⟨[.ref S], []⟩) (fun r l' => ∃ v, r = .ok (.ret v) ∧ v = .bool true) [] := by
  have e20 : 1000 ≤ sizeLine := by decide
  have hu : ∀ env : Env, (A.deeper env).units + 6 < cLine := fun env => Nat.lt_of_le_of_lt (Nat.add_le_add_left (by decide) _) (ax.deeper (env := env)).units
  refine C_defCU (Q := fun v _ => v = .bool true) (ns := [Str.ofString "script", Str.ofString "drawn", Str.ofString "numbers", Str.ofString "walks", Str.ofString "ringed", Str.ofString "links", Str.ofString "there", Str.ofString "back", Str.ofString "port", Str.ofString "named"]) (vs := [some (.ref S), none, none, none, none, none, none, none, none, none]) (binds := [((Str.ofString "script"), .ref S)]) (fun L => [(L + 4, Cel none), (L + 3, Cel none), (L + 2, Cel none), (L + 1, Cel none)]) ax.room (by exact rfl) rfl (fun s _ => BindsTo.of_eq rfl) (by rfl) (fun L => by rfl) (by kernel_rfl) ⟨rfl, rfl, rfl, rfl, rfl, rfl⟩ fun L F => ?_
  refine U_execsT (T_AssignComp [Str.ofString "number"] [none] (by rfl) (cl := []) (by rfl) (by decide) rfl (T_sliceB hS (Nat.le_trans hz e20) (T_ld F (by walk_at "mem") (by walk_at "at") ?_)))
  refine T_part_none (T_part (T_int fun t1 => ⟨_, _, rfl, .none, .int _ _, fun D0 => ?_⟩))
  have ed : (slicePick items none (some 63) none).toList.map cv = (zs.take 63).map iv := by
    rw [show (63 : Int) = ((63 : Nat) : Int) from rfl, slicePick_upto', List.map_take, List.map_take, ← hi]
  rw [ed]
  generalize hzz : zs.take 63 = zz
  have hzl : zz.length ≤ 63 := by rw [← hzz]; exact List.length_take_le ..
  refine T_iter_list (by walk_at "mem") fun it => ?_
  refine Comp.list (vs := zz.map iv) (fun i acc l2 => acc = ((zz.take i).map fun z => z.fmod 1000000).map iv ∧ l2 = (D0, Lst (zz.map iv)) :: (L, IsNs [Str.ofString "script", Str.ofString "drawn", Str.ofString "numbers", Str.ofString "walks", Str.ofString "ringed", Str.ofString "links", Str.ofString "there", Str.ofString "back", Str.ofString "port", Str.ofString "named"] [some (.ref S), none, none, none, none, none, none, none, none, none]) :: (L + 4, Cel none) :: (L + 3, Cel none) :: (L + 2, Cel none) :: (L + 1, Cel none) :: []) ax.hd ⟨rfl, rfl⟩ ?_ ?_ ?_
  · rintro i acc l2 ⟨rfl, rfl⟩
    exact ⟨by rw [List.length_map, List.length_map]; exact Nat.le_trans (List.length_take_le' ..) (Nat.le_trans hzl (by decide)), by exact .head _⟩
  · rintro i acc l2 D C c hc ⟨rfl, rfl⟩
    rw [List.getElem?_map] at hc
    obtain ⟨z, hz', rfl⟩ := Option.map_eq_some_iff.mp hc
    intro t2
    refine T_assignName (T_st (compLay (ns := [Str.ofString "number"]) F (by rfl) (by rfl) (by decide)) (by walk_at "mem") (by walk_at "cv") (by walk_at "put") (by walk_at "rep") ?_)
    refine T_tests0 (Br.tt rfl ?_)
    refine T_BinOp (T_ld (compLay (ns := [Str.ofString "number"]) F (by rfl) (by rfl) (by decide)) (by walk_at "mem") (by walk_at "at") ?_)
    intro t3
    refine T_BinOp (T_int fun t4 => T_int fun t5 => T_pow (by decide) (by decide) (by decide) fun t6 => ?_)
    refine T_mod (by decide) fun t7 => ?_
    refine ⟨_, _, CV.int, ?_, ?_, rfl⟩
    · walk_at "le"
    · rw [List.take_add_one, hz', Option.toList_some]; simp
  rintro acc l2 D ⟨rfl, rfl⟩ C
  refine T_st F (by walk_at "mem") (by walk_at "cv") (by walk_at "put") (by walk_at "rep") ?_
  rw [show (zz.map iv).length = zz.length from List.length_map .., List.take_length]
  generalize hdd : (zz.map fun z => z.fmod 1000000) = dd
  have hdl : dd.length ≤ 63 := by rw [← hdd, List.length_map]; exact hzl
  have hdb : ∀ d ∈ dd, 0 ≤ d ∧ d < 1000000 := by
    rw [← hdd]
    intro d hd
    obtain ⟨z, _, rfl⟩ := List.mem_map.mp hd
    exact ⟨Int.fmod_nonneg_of_pos _ (by decide), Int.fmod_lt_of_pos _ (by decide)⟩
  refine ⟨(L, IsNs [Str.ofString "script", Str.ofString "drawn", Str.ofString "numbers", Str.ofString "walks", Str.ofString "ringed", Str.ofString "links", Str.ofString "there", Str.ofString "back", Str.ofString "port", Str.ofString "named"] [some (.ref S), some (.ref D), none, none, none, none, none, none, none, none]) :: (L + 4, Cel none) :: (L + 3, Cel none) :: (L + 2, Cel none) :: (L + 1, Cel none) :: (D, Lst (dd.map iv)) :: [], ?_, ?_⟩
  · walk_at "le"
  refine U_execsT (T_Assign (T_BinOp (T_slice (T_ld F (by walk_at "mem") (by walk_at "at") ?_))))
  refine T_part_none (T_part (T_int fun t1 => ⟨_, _, _, _, rfl, (by walk_at "mem"), by rw [List.length_map]; exact Nat.le_trans hdl (by decide), .none, .int _ _, fun D1 => ?_⟩))
  rw [show (slicePick (dd.map iv).toArray none (some 5) none).toList = (dd.take 5).map iv by rw [show (5 : Int) = ((5 : Nat) : Int) from rfl, upto_list, List.map_take]]
  refine T_List (T_items (T_int fun u1 => T_items (T_int fun u2 => T_items (T_int fun u3 => T_items (T_int fun u4 => T_items (T_int fun u5 => T_items_nil ⟨(Nat.le_of_ble_eq_true rfl), fun N0 => ?_⟩)))))) 
  refine T_addList (xs := (dd.take 5).map iv) (ys := [iv 1, iv 50, iv 87, iv 51, iv 0]) (by walk_at "mem") (by exact .head _) (by rw [List.length_map, List.length_take]; exact Nat.le_trans (Nat.add_le_add_right (Nat.min_le_left _ _) _) (by decide)) fun N => ?_
  rw [show (dd.take 5).map iv ++ [iv 1, iv 50, iv 87, iv 51, iv 0] = (dd.take 5 ++ [1, 50, 87, 51, 0]).map iv by simp]
  generalize hxs : dd.take 5 ++ [1, 50, 87, 51, 0] = xs
  have hxl : 0 < xs.length ∧ xs.length ≤ 10 := by rw [← hxs, List.length_append, List.length_take]; exact ⟨Nat.lt_of_lt_of_le (by decide) (Nat.le_add_left _ _), Nat.add_le_add_right (Nat.min_le_left _ _) _⟩
  have hx20 : xs.length ≤ 20 := Nat.le_trans hxl.2 (by decide)
  refine T_st F (by walk_at "mem") (by walk_at "cv") (by walk_at "put") (by walk_at "rep") ?_
  refine TU.le (l' := (L, IsNs [Str.ofString "script", Str.ofString "drawn", Str.ofString "numbers", Str.ofString "walks", Str.ofString "ringed", Str.ofString "links", Str.ofString "there", Str.ofString "back", Str.ofString "port", Str.ofString "named"] [some (.ref S), some (.ref D), some (.ref N), none, none, none, none, none, none, none]) :: (L + 4, Cel none) :: (L + 3, Cel none) :: (L + 2, Cel none) :: (L + 1, Cel none) :: (D, Lst (dd.map iv)) :: (N, Lst (xs.map iv)) :: []) (by walk_at "le") ?_
  refine U_execsT (T_Assign (T_BinOp (T_str fun t1 => ?_)))
  refine T_Call (T_blt F b_str (by rfl) ?_)
  refine T_cw Callee.type (T_items (T_Call (T_blt F b_sum (by rfl) ?_)))
  refine T_cw Callee.builtin (T_items (T_ld F (by walk_at "mem") (by walk_at "at") ?_))
  refine T_items_nil (T_sum ax.hd (by walk_at "mem") fun t2 => ?_)
  have hsum := sum_bound hdb
  have hs32 : 0 ≤ dd.sum ∧ dd.sum < 4294967296 := by omega
  refine T_items_nil (T_strInt (log_small hs32) fun t3 _ => ?_)
  refine T_addStr (by show 1 + _ ≤ _; exact Nat.le_trans (Nat.add_le_add_left (str_small hs32) 1) (by decide)) fun t4 => ?_
  generalize hho : Str.ofString "h" ++ Str.ofString (toString dd.sum) = host
  refine T_stc F (by rfl) (by rfl) (c := sv host) (by walk_at "cv") (by walk_at "rep") ?_
  refine U_execsT (T_Assign (T_ListComp [Str.ofString "k"] [none] (cl := []) (by rfl) (by decide) rfl (T_Call (T_blt F b_range (by rfl) ?_))))
  refine T_cw Callee.type (T_items (T_Call (T_blt F b_len (by rfl) ?_)))
  refine T_cw Callee.builtin (T_items (T_ld F (by walk_at "mem") (by walk_at "at") ?_))
  have hxm : (xs.map iv).length = xs.length := List.length_map ..
  have hxz : (xs.map iv).length ≤ 10 := by rw [hxm]; exact hxl.2
  refine T_items_nil (T_len (by walk_at "mem") (Nat.le_trans hxz (by decide)) fun t1 => ?_)
  refine T_items_nil (T_range1 fun rg => ?_)
  refine T_iter_range (by walk_at "mem") (Nat.zero_le _) (Nat.le_trans hxz (by decide)) fun it => ?_
  refine Comp.range (fun i acc l2 => i ≤ xs.length ∧ acc = (portsX i).map iv ∧ l2 = (rg, Rng 0 (xs.map iv).length) :: (L, IsNs [Str.ofString "script", Str.ofString "drawn", Str.ofString "numbers", Str.ofString "walks", Str.ofString "ringed", Str.ofString "links", Str.ofString "there", Str.ofString "back", Str.ofString "port", Str.ofString "named"] [some (.ref S), some (.ref D), some (.ref N), none, none, none, none, none, none, none]) :: (L + 4, Cel none) :: (L + 3, Cel none) :: (L + 2, Cel none) :: (L + 1, Cel (some (sv host))) :: (D, Lst (dd.map iv)) :: (N, Lst (xs.map iv)) :: []) ax.hd (Nat.zero_le _) ⟨Nat.zero_le _, rfl, rfl⟩ ?_ ?_ ?_
  · rintro i acc l2 ⟨hi', rfl, rfl⟩
    rw [List.length_map, portsX, List.length_map, List.length_range]; exact Nat.le_trans hi' (Nat.le_trans hxl.2 (by decide))
  · rintro i acc l2 D1 C hi' ⟨hi2, rfl, rfl⟩ t2
    rw [hxm] at hi'
    refine T_assignName (T_st (compLay (ns := [Str.ofString "k"]) F (by rfl) (by rfl) (by decide)) (by walk_at "mem") (by walk_at "cv") (by walk_at "put") (by walk_at "rep") ?_)
    refine T_tests0 (Br.tt rfl ?_)
    refine T_BinOp (T_int fun t3 => T_BinOp (T_int fun t4 => ?_))
    refine T_ld (compLay (ns := [Str.ofString "k"]) F (by rfl) (by rfl) (by decide)) (by walk_at "mem") (by walk_at "at") ?_
    intro t5
    refine T_mul mul97 fun t6 => T_add fun t7 => ?_
    refine ⟨_, _, CV.int, ?_, hi', ?_, rfl⟩
    · walk_at "le"
    · rw [portsX_succ, List.map_append, Nat.zero_add]; rfl
  rintro acc l2 P ⟨_, rfl, rfl⟩
  refine T_stc F (by rfl) (by rfl) (c := .ref P) (by walk_at "cv") (by walk_at "rep") ?_
  rw [show (xs.map iv).length - 0 = xs.length from hxm]
  refine TU.le (l' := (L, IsNs [Str.ofString "script", Str.ofString "drawn", Str.ofString "numbers", Str.ofString "walks", Str.ofString "ringed", Str.ofString "links", Str.ofString "there", Str.ofString "back", Str.ofString "port", Str.ofString "named"] [some (.ref S), some (.ref D), some (.ref N), none, none, none, none, none, none, none]) :: (L + 4, Cel none) :: (L + 3, Cel none) :: (L + 2, Cel (some (.ref P))) :: (L + 1, Cel (some (sv host))) :: (D, Lst (dd.map iv)) :: (N, Lst (xs.map iv)) :: (P, Lst ((portsX xs.length).map iv)) :: []) (by walk_at "le") ?_
  refine U_execsT (T_Assign (T_Call (T_glob F g_law_replies (by rfl) ?_)))
  refine T_cw (Callee.K kp192) (T_items (T_ld F (by walk_at "mem") (by walk_at "at") ?_))
  refine T_items_nil (replies_spec (xs := xs) ((ax.le (by decide)).deeper (k := 1)) hx20 (by walk_at "mem") fun Rp => ?_)
  refine T_stc F (by rfl) (by rfl) (c := .ref Rp) (by walk_at "cv") (by walk_at "rep") ?_
  refine TU.le (l' := (L, IsNs [Str.ofString "script", Str.ofString "drawn", Str.ofString "numbers", Str.ofString "walks", Str.ofString "ringed", Str.ofString "links", Str.ofString "there", Str.ofString "back", Str.ofString "port", Str.ofString "named"] [some (.ref S), some (.ref D), some (.ref N), none, none, none, none, none, none, none]) :: (L + 4, Cel none) :: (L + 3, Cel (some (.ref Rp))) :: (L + 2, Cel (some (.ref P))) :: (L + 1, Cel (some (sv host))) :: (D, Lst (dd.map iv)) :: (N, Lst (xs.map iv)) :: (P, Lst ((portsX xs.length).map iv)) :: (Rp, Lst ((xs.map (replyOf xs.length)).map sv)) :: []) (by walk_at "le") ?_
  refine U_execs (U_Assign (U_ListComp [Str.ofString "k"] [none] (cl := [((Str.ofString "replies"), L + 3), ((Str.ofString "ports"), L + 2), ((Str.ofString "host"), L + 1)]) (by rfl) (by decide) rfl (T_Call (T_blt F b_range (by rfl) ?_))))
  refine T_cw Callee.type (T_items (T_Call (T_blt F b_len (by rfl) ?_)))
  refine T_cw Callee.builtin (T_items (T_cell F (by rfl) (by rfl) (by walk_at "mem") ?_))
  have hpm : ((portsX xs.length).map iv).length = xs.length := by rw [List.length_map, portsX, List.length_map, List.length_range]
  have hpz : ((portsX xs.length).map iv).length ≤ 10 := by rw [hpm]; exact hxl.2
  refine T_items_nil (T_len (by walk_at "mem") (Nat.le_trans hpz (by decide)) fun t1 => ?_)
  refine T_items_nil (T_range1 fun rg => ?_)
  refine T_iter_range (by walk_at "mem") (Nat.zero_le _) (Nat.le_trans hpz (by decide)) fun it => ?_
  refine CompU.range (fun i acc l2 => i ≤ xs.length ∧ ∃ rows, rows.map (fun (r : AR) => r.v) = (List.range i).map (fun k => due xs.length (xs.getD k 0) (replyOf xs.length (xs.getD k 0))) ∧ acc = (rows.map fun r => .ref r.a) ∧
    l2 = (rg, Rng 0 ((portsX xs.length).map iv).length) :: (L, IsNs [Str.ofString "script", Str.ofString "drawn", Str.ofString "numbers", Str.ofString "walks", Str.ofString "ringed", Str.ofString "links", Str.ofString "there", Str.ofString "back", Str.ofString "port", Str.ofString "named"] [some (.ref S), some (.ref D), some (.ref N), none, none, none, none, none, none, none]) :: (L + 4, Cel none) :: (L + 3, Cel (some (.ref Rp))) :: (L + 2, Cel (some (.ref P))) :: (L + 1, Cel (some (sv host))) :: (D, Lst (dd.map iv)) :: (N, Lst (xs.map iv)) :: (P, Lst ((portsX xs.length).map iv)) :: (Rp, Lst ((xs.map (replyOf xs.length)).map sv)) :: ansL host rows) ax.hd (Nat.zero_le _) ⟨Nat.zero_le _, [], rfl, rfl, rfl⟩ ?_ ?_ ?_
  · rintro i acc l2 ⟨hi', rows, hr, rfl, rfl⟩
    have := congrArg List.length hr
    simp only [List.length_map, List.length_range] at this ⊢
    exact Nat.le_trans (Nat.le_of_eq this) (Nat.le_trans hi' (Nat.le_trans hxl.2 (by decide)))
  · rintro i acc l2 D1 C hi' ⟨hi2, rows, hr, rfl, rfl⟩ t2
    rw [hpm] at hi'
    have hix : i < xs.length := hi'
    refine T_assignName (T_st (compLay (ns := [Str.ofString "k"]) F (by rfl) (by rfl) (by decide)) (by walk_at "mem") (by walk_at "cv") (by walk_at "put") (by walk_at "rep") ?_)
    refine U_Call (T_glob (compLay (ns := [Str.ofString "k"]) F (by rfl) (by rfl) (by decide)) g_law_ask (by rfl) ?_)
    refine U_cw (Callee.K kp206) (T_items (T_Sub (T_cell (compLay (ns := [Str.ofString "k"]) F (by rfl) (by rfl) (by decide)) (by rfl) (by rfl) (by walk_at "mem") ?_)))
    refine T_ld (compLay (ns := [Str.ofString "k"]) F (by rfl) (by rfl) (by decide)) (by walk_at "mem") (by walk_at "at") ?_
    intro t3
    refine T_item (c := sv (replyOf xs.length (xs.getD i 0))) (by walk_at "mem") (Int.natCast_nonneg _) (fit63 hix (Nat.le_trans hx20 (by decide))) (by rw [toNat0]; exact rep_get hix) ?_
    intro t4
    refine T_items (T_Tuple (T_items (T_cell (compLay (ns := [Str.ofString "k"]) F (by rfl) (by rfl) (by decide)) (by rfl) (by rfl) (by walk_at "mem") ?_)))
    intro t5
    refine T_items (T_Sub (T_cell (compLay (ns := [Str.ofString "k"]) F (by rfl) (by rfl) (by decide)) (by rfl) (by rfl) (by walk_at "mem") ?_))
    refine T_ld (compLay (ns := [Str.ofString "k"]) F (by rfl) (by rfl) (by decide)) (by walk_at "mem") (by walk_at "at") ?_
    intro t6
    refine T_item (c := iv (Pt (i : Int))) (by walk_at "mem") (Int.natCast_nonneg _) (fit63 hix (Nat.le_trans hx20 (by decide))) (by rw [toNat0]; exact portsX_get hix) ?_
    intro t7
    refine T_items_nil ⟨(Nat.le_of_ble_eq_true rfl), fun pa => T_items_nil ?_⟩
    obtain ⟨o, ho, hd⟩ := reply_parse (x := xs.getD i 0) hxl.1 hxl.2
    refine ask_spec (host := host) (pp := iv (Pt (i : Int))) ((ax.le (by decide)).deeper (k := 3)) ((Frs.deeperC (l := []) (ns := [Str.ofString "script", Str.ofString "drawn", Str.ofString "numbers", Str.ofString "walks", Str.ofString "ringed", Str.ofString "links", Str.ofString "there", Str.ofString "back", Str.ofString "port", Str.ofString "named"]) (vs := [some (.ref S), some (.ref D), some (.ref N), none, none, none, none, none, none, none]) hF rfl).sub ?_) ho (by exact .head _) fun row hrow => ?_
    · intro p hp
      rcases List.mem_singleton.mp hp with rfl
      walk_at "mem"
    rw [hd] at hrow
    refine ⟨_, _, CV.ref, ?_, hix, rows ++ [row], ?_, ?_, rfl⟩
    · rw [ansL_snoc]
      show Le (ansE host row ++ (pa, _) :: _) ((it, _) :: (D1, _) :: (C, _) :: _)
      walk_at "le"
    · rw [List.map_append, hr, List.range_succ, List.map_append, List.map_cons, List.map_nil, hrow]; rfl
    · rw [List.map_append]; rfl
  rintro acc l2 An ⟨_, rows, hr, rfl, rfl⟩
  refine T_stc F (by rfl) (by rfl) (c := .ref An) (by walk_at "cv") (by walk_at "rep") ?_
  rw [show ((portsX xs.length).map iv).length - 0 = xs.length from hpm] at hr
  have hrl : rows.length = xs.length := by have := congrArg List.length hr; simpa using this
  refine TU.of ?_
  refine TT.le (l' := (L, IsNs [Str.ofString "script", Str.ofString "drawn", Str.ofString "numbers", Str.ofString "walks", Str.ofString "ringed", Str.ofString "links", Str.ofString "there", Str.ofString "back", Str.ofString "port", Str.ofString "named"] [some (.ref S), none, some (.ref N), none, none, none, none, none, none, none]) :: (L + 4, Cel (some (.ref An))) :: (L + 3, Cel (some (.ref Rp))) :: (L + 2, Cel (some (.ref P))) :: (L + 1, Cel (some (sv host))) :: (N, Lst (xs.map iv)) :: (P, Lst ((portsX xs.length).map iv)) :: (Rp, Lst ((xs.map (replyOf xs.length)).map sv)) :: (An, Lst (rows.map fun r => .ref r.a)) :: ansL host rows) (by walk_at "le") ?_
  refine T_execs (T_If (T_isCompare (T_cell F (by rfl) (by rfl) (by walk_at "mem") ?_)))
  refine T_Call (T_glob F g_law_dues (by rfl) ?_)
  refine T_cw (Callee.K kp199) (T_items (T_cell F (by rfl) (by rfl) (by walk_at "mem") ?_))
  intro t8
  refine T_items (T_ld F (by walk_at "mem") (by walk_at "at") ?_)
  refine T_items (T_cell F (by rfl) (by rfl) (by walk_at "mem") ?_)
  refine T_items_nil (dues_spec (xs := xs) (reps := xs.map (replyOf xs.length)) ((ax.le (by decide)).deeper (k := 1)) hx20 (by rw [List.length_map]) (by walk_at "mem") (by walk_at "mem") fun Du rows2 hr2 => ?_)
  rw [due_zip, ← hr] at hr2
  have hrl2 : rows2.length = rows.length := by have := congrArg List.length hr2; simpa using this
  refine T_neLists (d := 2) (xs := rows.map fun r => .ref r.a) (ys := rows2.map fun r => .ref r.a) (by exact hu _) (by walk_at "mem") (by walk_at "mem") (by rw [List.length_map, List.length_map, hrl2]) ?_ ?_
  · intro i x y hx hy
    rw [List.getElem?_map] at hx hy
    obtain ⟨r, hrr, rfl⟩ := Option.map_eq_some_iff.mp hx
    obtain ⟨q, hqq, rfl⟩ := Option.map_eq_some_iff.mp hy
    have hv : r.v = q.v := by
      have := congrArg (·[i]?) hr2
      simp only [List.getElem?_map, hrr, hqq] at this
      exact (Option.some.inj this).symm
    refine same_ans (host := host) hv (fun e he => ?_) fun e he => ?_
    · have : e ∈ ansL host rows := List.mem_flatMap.mpr ⟨r, List.mem_of_getElem? hrr, he⟩
      walk_at "mem"
    · have : e ∈ ansL host rows2 := List.mem_flatMap.mpr ⟨q, List.mem_of_getElem? hqq, he⟩
      walk_at "mem"
  refine T_truthy_bool (Br.ff rfl (T_execs_nil ?_))
  refine T_execs (T_Assign (T_Call (T_glob F g_law_walks (by rfl) ?_)))
  refine T_cw (Callee.K kp213) (T_items (T_ld F (by walk_at "mem") (by walk_at "at") ?_))
  refine T_items_nil (walks_spec (xs := xs) ((ax.le (by decide)).deeper (k := 1)) hx20 (by walk_at "mem") fun W wk hwk => ?_)
  refine T_st F (by walk_at "mem") (by walk_at "cv") (by walk_at "put") (by walk_at "rep") ?_
  refine TT.le (l' := (L, IsNs [Str.ofString "script", Str.ofString "drawn", Str.ofString "numbers", Str.ofString "walks", Str.ofString "ringed", Str.ofString "links", Str.ofString "there", Str.ofString "back", Str.ofString "port", Str.ofString "named"] [some (.ref S), none, some (.ref N), some (.ref W), none, none, none, none, none, none]) :: (L + 4, Cel (some (.ref An))) :: (L + 3, Cel (some (.ref Rp))) :: (L + 2, Cel (some (.ref P))) :: (L + 1, Cel (some (sv host))) :: (N, Lst (xs.map iv)) :: (P, Lst ((portsX xs.length).map iv)) :: (An, Lst (rows.map fun r => .ref r.a)) :: (W, Lst (wk.map fun p => .ref p.1)) :: (wkL wk ++ ansL host rows)) (by walk_at "le") ?_
  have hwl : wk.length = xs.length := by have := congrArg List.length hwk; simpa [walksOf] using this
  have hwm : (wk.map fun p => Value.ref p.1).length = wk.length := List.length_map ..
  have hwz : wk.length ≤ 10 := by rw [hwl]; exact hxl.2
  refine T_execs (T_Assign (T_Compare (T_Call (T_blt F b_max (by rfl) ?_))))
  refine T_cw Callee.builtin (T_items (T_ListComp [Str.ofString "walk"] [none] (cl := []) (by rfl) (by decide) rfl (T_ld F (by walk_at "mem") (by walk_at "at") ?_)))
  refine T_iter_list (by walk_at "mem") fun it2 => ?_
  refine Comp.list (vs := wk.map fun p => .ref p.1) (fun i acc l2 => acc = ((wk.take i).map fun p => (p.2.length : Int)).map iv ∧ l2 = (L, IsNs [Str.ofString "script", Str.ofString "drawn", Str.ofString "numbers", Str.ofString "walks", Str.ofString "ringed", Str.ofString "links", Str.ofString "there", Str.ofString "back", Str.ofString "port", Str.ofString "named"] [some (.ref S), none, some (.ref N), some (.ref W), none, none, none, none, none, none]) :: (L + 4, Cel (some (.ref An))) :: (L + 3, Cel (some (.ref Rp))) :: (L + 2, Cel (some (.ref P))) :: (L + 1, Cel (some (sv host))) :: (N, Lst (xs.map iv)) :: (P, Lst ((portsX xs.length).map iv)) :: (An, Lst (rows.map fun r => .ref r.a)) :: (W, Lst (wk.map fun p => .ref p.1)) :: (wkL wk ++ ansL host rows)) ax.hd ⟨rfl, rfl⟩ ?_ ?_ ?_
  · rintro i acc l2 ⟨rfl, rfl⟩
    exact ⟨by rw [List.length_map, List.length_map]; exact Nat.le_trans (List.length_take_le' ..) (Nat.le_trans hwz (by decide)), (by walk_at "mem")⟩
  · rintro i acc l2 D1 C c hc ⟨rfl, rfl⟩
    rw [List.getElem?_map] at hc
    obtain ⟨p, hp, rfl⟩ := Option.map_eq_some_iff.mp hc
    have m_p : (p.1, Lst (p.2.map iv)) ∈ wkL wk := List.mem_map.mpr ⟨p, List.mem_of_getElem? hp, rfl⟩
    have hpl : p.2.length ≤ 30 := by
      have : p.2 ∈ walksOf xs := by rw [← hwk]; exact List.mem_map.mpr ⟨p, List.mem_of_getElem? hp, rfl⟩
      obtain ⟨s, _, e⟩ := List.mem_map.mp this
      rw [← e]
      exact Nat.le_trans (walk_le xs xs.length (s : Int)) (Nat.le_trans (Nat.add_le_add_right hxl.2 1) (by decide))
    refine T_assignName (T_st (compLay (ns := [Str.ofString "walk"]) F (by rfl) (by rfl) (by decide)) (by walk_at "mem") (by walk_at "cv") (by walk_at "put") (by walk_at "rep") ?_)
    refine T_tests0 (Br.tt rfl ?_)
    refine T_Call (T_blt (compLay (ns := [Str.ofString "walk"]) F (by rfl) (by rfl) (by decide)) b_len (by rfl) ?_)
    refine T_cw Callee.builtin (T_items (T_ld (compLay (ns := [Str.ofString "walk"]) F (by rfl) (by rfl) (by decide)) (by walk_at "mem") (by walk_at "at") ?_))
    refine T_items_nil (T_len (by walk_at "mem") (by rw [List.length_map]; exact Nat.le_trans hpl (by decide)) fun t9 => ?_)
    refine ⟨_, _, CV.int, ?_, ?_, rfl⟩
    · walk_at "le"
    · rw [List.take_add_one, hp, Option.toList_some, List.map_append, List.map_append, List.length_map]; rfl
  rintro acc l2 Ml ⟨rfl, rfl⟩
  rw [hwm, List.take_length]
  refine T_items_nil (T_maxL (ns := wk.map fun p => (p.2.length : Int)) ax.hd (by exact .head _) (by rw [List.length_map, hwl]; exact hxl.1) fun M t10 hM hMb => ?_)
  refine T_Call (T_blt F b_len (by rfl) ?_)
  refine T_cw Callee.builtin (T_items (T_ld F (by walk_at "mem") (by walk_at "at") ?_))
  refine T_items_nil (T_len (by walk_at "mem") (by rw [hwm]; exact Nat.le_trans hwz (by decide)) fun t11 => ?_)
  refine T_gt ?_
  have hring : decide (((wk.map fun p => Value.ref p.1).length : Int) < M) = ringedB xs := by
    rw [hwm, hwl, Bool.eq_iff_iff, decide_eq_true_iff, ringedB, ← hwk, List.any_map, List.any_eq_true]
    constructor
    · intro h
      obtain ⟨p, hp, rfl⟩ := List.mem_map.mp hM
      exact ⟨p, hp, by simp only [Function.comp, decide_eq_true_eq]; exact Int.ofNat_lt.mp h⟩
    · rintro ⟨p, hp, h⟩
      have := hMb _ (List.mem_map.mpr ⟨p, hp, rfl⟩)
      simp only [Function.comp, decide_eq_true_eq] at h
      exact Int.lt_of_lt_of_le (Int.ofNat_lt.mpr h) this
  rw [hring]
  generalize hrg : ringedB xs = ringed
  refine T_st F (by walk_at "mem") (by walk_at "cv") (by walk_at "put") (by walk_at "rep") ?_
  refine TT.le (l' := (L, IsNs [Str.ofString "script", Str.ofString "drawn", Str.ofString "numbers", Str.ofString "walks", Str.ofString "ringed", Str.ofString "links", Str.ofString "there", Str.ofString "back", Str.ofString "port", Str.ofString "named"] [some (.ref S), none, some (.ref N), some (.ref W), some (.bool ringed), none, none, none, none, none]) :: (L + 4, Cel (some (.ref An))) :: (L + 3, Cel (some (.ref Rp))) :: (L + 2, Cel (some (.ref P))) :: (L + 1, Cel (some (sv host))) :: (N, Lst (xs.map iv)) :: (P, Lst ((portsX xs.length).map iv)) :: (An, Lst (rows.map fun r => .ref r.a)) :: (W, Lst (wk.map fun p => .ref p.1)) :: (wkL wk ++ ansL host rows)) (by walk_at "le") ?_
  refine T_execs (T_AssignComp [Str.ofString "k"] [none] (by rfl) (cl := [((Str.ofString "ports"), L + 2), ((Str.ofString "answers"), L + 4)]) (by rfl) (by decide) rfl (T_Call (T_blt F b_range (by rfl) ?_)))
  refine T_cw Callee.type (T_items (T_Call (T_blt F b_len (by rfl) ?_)))
  refine T_cw Callee.builtin (T_items (T_cell F (by rfl) (by rfl) (by walk_at "mem") ?_))
  refine T_items_nil (T_len (by walk_at "mem") (Nat.le_trans hpz (by decide)) fun u1 => ?_)
  refine T_items_nil (T_range1 fun rg2 => ?_)
  refine T_iter_range (by walk_at "mem") (Nat.zero_le _) (Nat.le_trans hpz (by decide)) fun it3 => ?_
  refine Comp.range (fun i acc l2 => i ≤ xs.length ∧ ∃ lk : List (Addr × Int × Int), lk.map (·.2) = linksTo xs i ∧ acc = (lk.map fun p => .ref p.1) ∧ l2 = (rg2, Rng 0 ((portsX xs.length).map iv).length) :: (L, IsNs [Str.ofString "script", Str.ofString "drawn", Str.ofString "numbers", Str.ofString "walks", Str.ofString "ringed", Str.ofString "links", Str.ofString "there", Str.ofString "back", Str.ofString "port", Str.ofString "named"] [some (.ref S), none, some (.ref N), some (.ref W), some (.bool ringed), none, none, none, none, none]) :: (L + 4, Cel (some (.ref An))) :: (L + 3, Cel (some (.ref Rp))) :: (L + 2, Cel (some (.ref P))) :: (L + 1, Cel (some (sv host))) :: (N, Lst (xs.map iv)) :: (P, Lst ((portsX xs.length).map iv)) :: (An, Lst (rows.map fun r => .ref r.a)) :: (W, Lst (wk.map fun p => .ref p.1)) :: (lkL lk ++ (wkL wk ++ ansL host rows))) ax.hd (Nat.zero_le _) ⟨Nat.zero_le _, [], rfl, rfl, rfl⟩ ?_ ?_ ?_
  · rintro i acc l2 ⟨hi', lk, hlk, rfl, rfl⟩
    have h1 := congrArg List.length hlk
    have h2 := List.length_filterMap_le (fun (k : Nat) => (nxt xs (k : Int)).map fun j => (Pt (k : Int), Pt j)) (List.range i)
    rw [List.length_map] at h1 ⊢
    rw [List.length_range] at h2
    have h3 : (linksTo xs i).length ≤ i := h2
    exact Nat.le_trans (Nat.le_of_eq h1) (Nat.le_trans h3 (Nat.le_trans hi' (Nat.le_trans hxl.2 (by decide))))
  · rintro i acc l2 D1 C hi' ⟨hi2, lk, hlk, rfl, rfl⟩ u2
    rw [hpm] at hi'
    have hix : i < xs.length := hi'
    obtain ⟨r, hrr⟩ : ∃ r, rows[i]? = some r := ⟨_, List.getElem?_eq_getElem (hrl ▸ hix)⟩
    have hrm : ((rows.map fun r => Value.ref r.a))[i]? = some (.ref r.a) := by rw [List.getElem?_map, hrr]; rfl
    have hrt : tgts r.v = ((nxt xs (i : Int)).map Pt).toList := by
      have := congrArg (·[i]?) hr
      simp only [List.getElem?_map, hrr, List.getElem?_range hix] at this
      have h' : r.v = due xs.length (xs.getD i 0) (replyOf xs.length (xs.getD i 0)) := Option.some.inj this
      rw [h']; exact row_due ..
    have m_a : (r.a, Lst (ansV r.tu r.v)) ∈ ansL host rows := List.mem_flatMap.mpr ⟨r, List.mem_of_getElem? hrr, .head _⟩
    obtain ⟨tag, htag, hyes, hno⟩ := ans_head r.tu r.v
    refine T_assignName (T_st (compLay (ns := [Str.ofString "k"]) F (by rfl) (by rfl) (by decide)) (by walk_at "mem") (by walk_at "cv") (by walk_at "put") (by walk_at "rep") ?_)
    refine T_tests1 (T_isCompare (T_Sub (T_Sub (T_cell (compLay (ns := [Str.ofString "k"]) F (by rfl) (by rfl) (by decide)) (by rfl) (by rfl) (by walk_at "mem") ?_))))
    refine T_ld (compLay (ns := [Str.ofString "k"]) F (by rfl) (by rfl) (by decide)) (by walk_at "mem") (by walk_at "at") ?_
    intro u3
    refine T_item (c := .ref r.a) (by walk_at "mem") (Int.natCast_nonneg _) (fit63 hix (Nat.le_trans hx20 (by decide))) (by rw [toNat0]; exact hrm) ?_
    refine T_int fun u4 => T_item (c := sv tag) (by walk_at "mem") (by decide) (by decide) htag ?_
    intro u5
    refine T_str fun u6 => T_str_eq (T_truthy_bool ⟨fun e => ?_, fun e => ?_⟩)
    · obtain ⟨q, hv⟩ := hyes e
      have m_t : (r.tu, Tup [sv host, iv q]) ∈ ansL host rows := List.mem_flatMap.mpr ⟨r, List.mem_of_getElem? hrr, by unfold ansE; rw [hv]; exact .tail _ (.head _)⟩
      rw [hv] at m_a hrt
      have hq : ∃ j, nxt xs (i : Int) = some j ∧ q = Pt j := by
        cases hn : nxt xs (i : Int) with
        | none => rw [hn] at hrt; cases hrt
        | some j => rw [hn] at hrt; exact ⟨j, rfl, by simpa [tgts] using hrt⟩
      obtain ⟨j, hj, rfl⟩ := hq
      refine T_Tuple (T_items (T_Sub (T_cell (compLay (ns := [Str.ofString "k"]) F (by rfl) (by rfl) (by decide)) (by rfl) (by rfl) (by walk_at "mem") ?_)))
      refine T_ld (compLay (ns := [Str.ofString "k"]) F (by rfl) (by rfl) (by decide)) (by walk_at "mem") (by walk_at "at") ?_
      intro u7
      refine T_item (c := iv (Pt (i : Int))) (by walk_at "mem") (Int.natCast_nonneg _) (fit63 hix (Nat.le_trans hx20 (by decide))) (by rw [toNat0]; exact portsX_get hix) ?_
      intro u8
      refine T_items (T_Sub (T_Sub (T_Sub (T_cell (compLay (ns := [Str.ofString "k"]) F (by rfl) (by rfl) (by decide)) (by rfl) (by rfl) (by walk_at "mem") ?_))))
      refine T_ld (compLay (ns := [Str.ofString "k"]) F (by rfl) (by rfl) (by decide)) (by walk_at "mem") (by walk_at "at") ?_
      intro u9
      refine T_item (c := .ref r.a) (by walk_at "mem") (Int.natCast_nonneg _) (fit63 hix (Nat.le_trans hx20 (by decide))) (by rw [toNat0]; exact hrm) ?_
      refine T_int fun u10 => T_item (c := .ref r.tu) (by walk_at "mem") (by decide) (by decide) (by rfl) ?_
      refine T_int fun u11 => T_itemT (c := iv (Pt j)) (by walk_at "mem") (by decide) (by decide) (by rfl) ?_
      intro u12
      refine T_items_nil ⟨(Nat.le_of_ble_eq_true rfl), fun tp => ?_⟩
      refine ⟨_, _, CV.ref, ?_, hix, lk ++ [(tp, Pt (i : Int), Pt j)], ?_, ?_, rfl⟩
      · rw [lkL_snoc, List.append_assoc]
        show Le ((tp, Tup [iv (Pt (i : Int)), iv (Pt j)]) :: _) ((it3, _) :: (D1, _) :: (C, _) :: (rg2, _) :: (L, _) :: (L + 4, Cel (some (.ref An))) :: (L + 3, Cel (some (.ref Rp))) :: (L + 2, Cel (some (.ref P))) :: (L + 1, Cel (some (sv host))) :: (N, Lst (xs.map iv)) :: (P, Lst ((portsX xs.length).map iv)) :: (An, Lst (rows.map fun r => .ref r.a)) :: (W, Lst (wk.map fun p => .ref p.1)) :: (lkL lk ++ ((tp, Tup [iv (Pt (i : Int)), iv (Pt j)]) :: (wkL wk ++ ansL host rows))))
        walk_at "le"
      · rw [List.map_append, hlk, linksTo_succ, hj]; rfl
      · rw [List.map_append]; rfl
    · have h0 := hno e
      rw [hrt] at h0
      have hn : nxt xs (i : Int) = none := by
        cases hn : nxt xs (i : Int) with
        | none => rfl
        | some j => rw [hn] at h0; cases h0
      refine ⟨_, ?_, hix, lk, ?_, rfl, rfl⟩
      · walk_at "le"
      · rw [hlk, linksTo_succ, hn]; simp
  rintro acc l2 Lk ⟨_, lk, hlk, rfl, rfl⟩ C
  rw [show ((portsX xs.length).map iv).length - 0 = xs.length from hpm] at hlk
  have hlk : lk.map (·.2) = linksOf xs := hlk
  refine T_st F (by walk_at "mem") (by walk_at "cv") (by walk_at "put") (by walk_at "rep") ?_
  refine ⟨(L, IsNs [Str.ofString "script", Str.ofString "drawn", Str.ofString "numbers", Str.ofString "walks", Str.ofString "ringed", Str.ofString "links", Str.ofString "there", Str.ofString "back", Str.ofString "port", Str.ofString "named"] [some (.ref S), none, some (.ref N), some (.ref W), some (.bool ringed), some (.ref Lk), none, none, none, none]) :: (L + 4, Cel (some (.ref An))) :: (L + 3, Cel (some (.ref Rp))) :: (L + 2, Cel (some (.ref P))) :: (L + 1, Cel (some (sv host))) :: (N, Lst (xs.map iv)) :: (P, Lst ((portsX xs.length).map iv)) :: (An, Lst (rows.map fun r => .ref r.a)) :: (W, Lst (wk.map fun p => .ref p.1)) :: (Lk, Lst (lk.map fun p => .ref p.1)) :: (lkL lk ++ (wkL wk ++ ansL host rows)), ?_, ?_⟩
  · walk_at "le"
  generalize hZ : lkL lk ++ (wkL wk ++ ansL host rows) = Z
  have zl : ∀ e ∈ lkL lk, e ∈ Z := fun e he => by rw [← hZ]; exact List.mem_append_left _ he
  have zw : ∀ e ∈ wkL wk, e ∈ Z := fun e he => by rw [← hZ]; exact List.mem_append_right _ (List.mem_append_left _ he)
  have za : ∀ e ∈ ansL host rows, e ∈ Z := fun e he => by rw [← hZ]; exact List.mem_append_right _ (List.mem_append_right _ he)
  have hpn : (portsX xs.length).length = xs.length := by rw [portsX, List.length_map, List.length_range]
  refine T_execs (T_Assign (T_Call (T_glob F g_TopologicalSorter (by rfl) ?_)))
  refine T_cw (Callee.K kp181) (T_items (T_Call (T_glob F g_law_table (by rfl) ?_)))
  refine T_cw (Callee.K kp230) (T_items (T_cell F (by rfl) (by rfl) (by walk_at "mem") ?_))
  refine T_items (T_cell F (by rfl) (by rfl) (by walk_at "mem") ?_)
  refine T_items_nil (table_spec (host := host) (ps := portsX xs.length) (rows := rows) ((ax.le (by decide)).deeper (k := 1)) (by rw [hrl]; exact hx20) (by rw [hpn, hrl]) (portsX_nd _) (by walk_at "mem") (by walk_at "mem") (fun r hr e he => ?_) fun T ts hts => ?_)
  · have := za e (List.mem_flatMap.mpr ⟨r, hr, he⟩)
    walk_at "mem"
  rw [tab_rows hr] at hts
  have htl : ts.length = xs.length := by have := congrArg List.length hts; simpa using this
  have htp : ∀ t ∈ ts, t.ps.length ≤ 1 := fun t ht => by
    have : (t.p, t.ps) ∈ (List.range xs.length).map (rowOf xs) := by rw [← hts]; exact List.mem_map.mpr ⟨t, ht, rfl⟩
    obtain ⟨k, _, e⟩ := List.mem_map.mp this
    have e2 : ((nxt xs (k : Int)).map Pt).toList = t.ps := congrArg (·.2) e
    rw [← e2]; cases nxt xs (k : Int) <;> simp
  obtain ⟨es, hel, NT, hET⟩ := there_net hxl.1 hts
  refine T_items_nil ((C_make mk181 in181 fn117 fun x1 d1 => sinit_graph (ts := ts) (Ax.make (k := 5) ((ax.le (by decide)).deeper (k := 6))) (by rw [htl]; exact hx20) htp fun n1 rs1 hrs1 => ?_).call)
  rw [← hrs1] at NT
  refine T_st F (by walk_at "mem") (by walk_at "cv") (by walk_at "put") (by walk_at "rep") ?_
  refine TT.le (l' := (L, IsNs [Str.ofString "script", Str.ofString "drawn", Str.ofString "numbers", Str.ofString "walks", Str.ofString "ringed", Str.ofString "links", Str.ofString "there", Str.ofString "back", Str.ofString "port", Str.ofString "named"] [some (.ref S), none, some (.ref N), some (.ref W), some (.bool ringed), some (.ref Lk), some (.ref x1), none, none, none]) :: (L + 4, Cel (some (.ref An))) :: (L + 3, Cel (some (.ref Rp))) :: (L + 2, Cel (some (.ref P))) :: (L + 1, Cel (some (sv host))) :: (N, Lst (xs.map iv)) :: (P, Lst ((portsX xs.length).map iv)) :: (An, Lst (rows.map fun r => .ref r.a)) :: (W, Lst (wk.map fun p => .ref p.1)) :: (Lk, Lst (lk.map fun p => .ref p.1)) :: (Z ++ SL G.w x1 d1 n1 .none (iv 0) (iv 0) rs1 [])) ?_ ?_
  · rw [SL_nil]
    walk_at "le"
  refine T_execs (T_Assign (T_Call (T_glob F g_TopologicalSorter (by rfl) ?_)))
  refine T_cw0 (Callee.K kp181) ((C_make mk181 in181 fn117 fun x2 d2 => sinit_none (Ax.make (k := 1) ((ax.le (by decide)).deeper (k := 2))) fun n2 => ?_).call)
  generalize hZ2 : Z ++ SL G.w x1 d1 n1 .none (iv 0) (iv 0) rs1 [] = Z2
  refine T_st F (by walk_at "mem") (by walk_at "cv") (by walk_at "put") (by walk_at "rep") ?_
  have z2 : ∀ e ∈ Z, e ∈ Z2 := fun e he => by rw [← hZ2]; exact List.mem_append_left _ he
  refine TT.le (l' := (L, IsNs [Str.ofString "script", Str.ofString "drawn", Str.ofString "numbers", Str.ofString "walks", Str.ofString "ringed", Str.ofString "links", Str.ofString "there", Str.ofString "back", Str.ofString "port", Str.ofString "named"] [some (.ref S), none, some (.ref N), some (.ref W), some (.bool ringed), some (.ref Lk), some (.ref x1), some (.ref x2), none, none]) :: (L + 4, Cel (some (.ref An))) :: (L + 3, Cel (some (.ref Rp))) :: (L + 2, Cel (some (.ref P))) :: (L + 1, Cel (some (sv host))) :: (N, Lst (xs.map iv)) :: (P, Lst ((portsX xs.length).map iv)) :: (An, Lst (rows.map fun r => .ref r.a)) :: (W, Lst (wk.map fun p => .ref p.1)) :: (Lk, Lst (lk.map fun p => .ref p.1)) :: (Z2 ++ SL G.w x2 d2 n2 .none (iv 0) (iv 0) [] [])) ?_ ?_
  · rw [show SL G.w x2 d2 n2 .none (iv 0) (iv 0) [] [] = [(x2, Inst 181 d2), (d2, SD (.ref n2) .none (iv 0) (iv 0)), (n2, Dct G.w n2 (n2iK []))] from rfl]
    show Le (_ :: _ :: _ :: _) _
    walk_at "le"
  refine T_cut (fun l1 => ∃ rs2, absL rs2 = backG (linksOf xs) ∧ l1 = (L, IsNs [Str.ofString "script", Str.ofString "drawn", Str.ofString "numbers", Str.ofString "walks", Str.ofString "ringed", Str.ofString "links", Str.ofString "there", Str.ofString "back", Str.ofString "port", Str.ofString "named"] [some (.ref S), none, some (.ref N), some (.ref W), some (.bool ringed), some (.ref Lk), some (.ref x1), some (.ref x2), none, none]) :: (L + 4, Cel (some (.ref An))) :: (L + 3, Cel (some (.ref Rp))) :: (L + 2, Cel (some (.ref P))) :: (L + 1, Cel (some (sv host))) :: (N, Lst (xs.map iv)) :: (P, Lst ((portsX xs.length).map iv)) :: (An, Lst (rows.map fun r => .ref r.a)) :: (W, Lst (wk.map fun p => .ref p.1)) :: (Lk, Lst (lk.map fun p => .ref p.1)) :: (Z2 ++ SL G.w x2 d2 n2 .none (iv 0) (iv 0) rs2 [])) ?_ ?_
  · refine T_for (T_ld F (by walk_at "mem") (by walk_at "at") ?_)
    refine T_iter_list (by walk_at "mem") fun it4 => ?_
    refine Loop.listP (vs := lk.map fun p => .ref p.1) (lk_refs lk) (fun j l1 => ∃ rs2, absL rs2 = backG ((lk.take j).map (·.2)) ∧ l1 = (L, IsNs [Str.ofString "script", Str.ofString "drawn", Str.ofString "numbers", Str.ofString "walks", Str.ofString "ringed", Str.ofString "links", Str.ofString "there", Str.ofString "back", Str.ofString "port", Str.ofString "named"] [some (.ref S), none, some (.ref N), some (.ref W), some (.bool ringed), some (.ref Lk), some (.ref x1), some (.ref x2), none, none]) :: (L + 4, Cel (some (.ref An))) :: (L + 3, Cel (some (.ref Rp))) :: (L + 2, Cel (some (.ref P))) :: (L + 1, Cel (some (sv host))) :: (N, Lst (xs.map iv)) :: (P, Lst ((portsX xs.length).map iv)) :: (An, Lst (rows.map fun r => .ref r.a)) :: (W, Lst (wk.map fun p => .ref p.1)) :: (Lk, Lst (lk.map fun p => .ref p.1)) :: (Z2 ++ SL G.w x2 d2 n2 .none (iv 0) (iv 0) rs2 [])) ax.hd ⟨[], rfl, rfl⟩ ?_ ?_ ?_
    · rintro i l1 ⟨rs2, _, rfl⟩
      walk_at "mem"
    · rintro i l1 c hc ⟨rs2, hrs2, rfl⟩
      rw [List.getElem?_map] at hc
      obtain ⟨p, hp, rfl⟩ := Option.map_eq_some_iff.mp hc
      have m_p : (p.1, Tup [iv p.2.1, iv p.2.2]) ∈ Z2 := z2 _ (zl _ (List.mem_map.mpr ⟨p, List.mem_of_getElem? hp, rfl⟩))
      have hgr := Gr.back ((lk.take i).map (·.2)) Gr.nil
      rw [List.nil_append] at hgr
      have hgr : Gr (absL rs2) ((lk.take i).map (·.2)) (fun q => False ∨ ∃ e ∈ (lk.take i).map (·.2), q = e.2 ∨ q = e.1) := by rw [hrs2]; exact hgr
      have hlkl : lk.length ≤ 10 := by
        have h1 := congrArg List.length hlk
        rw [List.length_map] at h1
        exact Nat.le_trans (Nat.le_of_eq h1) (Nat.le_trans (links_len xs) hxl.2)
      have htk : ((lk.take i).map (·.2)).length ≤ 10 := by rw [List.length_map]; exact Nat.le_trans (List.length_take_le' ..) hlkl
      have hrl2 : rs2.length ≤ 20 := by
        have h1 := backF_len ((lk.take i).map (·.2)) []
        have h2 := congrArg List.length hrs2
        rw [absL, List.length_map, backG] at h2
        rw [List.length_nil] at h1
        exact Nat.le_trans (Nat.le_of_eq h2) (Nat.le_trans h1 (Nat.add_le_add_left (Nat.mul_le_mul_left 2 htk) 0))
      refine T_assignPair ax.hd (by walk_at "mem") ?_
      intro t1 t2
      refine T_assignName (T_st F (by walk_at "mem") (by walk_at "cv") (by walk_at "put") (by walk_at "rep") ?_)
      refine T_assignName (T_st F (by walk_at "mem") (by walk_at "cv") (by walk_at "put") (by walk_at "rep") ?_)
      refine T_execs (T_Expr (T_MCall (T_ld F (by walk_at "mem") (by walk_at "at") ?_)))
      refine T_smeth m_add (by walk_at "mem") (by walk_at "mem") ?_
      refine T_cw (Callee.K m_add.keep) (T_items (T_ld F (by walk_at "mem") (by walk_at "at") ?_))
      intro t3
      refine T_items (T_ld F (by walk_at "mem") (by walk_at "at") ?_)
      intro t4
      refine T_items_nil ?_
      refine TT.as (l' := ((it4, LIt Lk (i + 1)) :: (L, IsNs [Str.ofString "script", Str.ofString "drawn", Str.ofString "numbers", Str.ofString "walks", Str.ofString "ringed", Str.ofString "links", Str.ofString "there", Str.ofString "back", Str.ofString "port", Str.ofString "named"] [some (.ref S), none, some (.ref N), some (.ref W), some (.bool ringed), some (.ref Lk), some (.ref x1), some (.ref x2), some (iv p.2.1), some (iv p.2.2)]) :: (L + 4, Cel (some (.ref An))) :: (L + 3, Cel (some (.ref Rp))) :: (L + 2, Cel (some (.ref P))) :: (L + 1, Cel (some (sv host))) :: (N, Lst (xs.map iv)) :: (P, Lst ((portsX xs.length).map iv)) :: (An, Lst (rows.map fun r => .ref r.a)) :: (W, Lst (wk.map fun p => .ref p.1)) :: (Lk, Lst (lk.map fun p => .ref p.1)) :: Z2) ++ SL G.w x2 d2 n2 .none (iv 0) (iv 0) rs2 []) rfl ?_
      refine (add_spec (p := p.2.2) (preds := [p.2.1]) (vals := [.int p.2.1 t4]) ((ax.le (by decide)).deeper (k := 4)) rfl (by rw [List.length_singleton]; exact Nat.le_trans (Nat.add_le_add_right hrl2 1) (by decide)) hgr.nd (hgr.fits (Nat.le_trans htk (by decide))) fun rs3 hrs3 => ?_).call
      refine ⟨fun a e => (by cases e), T_execs_nil ⟨_, ?_, rs3, ?_, rfl⟩⟩
      · show Le ((it4, _) :: (L, _) :: (L + 4, _) :: (L + 3, _) :: (L + 2, _) :: (L + 1, _) :: (N, _) :: (P, _) :: (An, _) :: (W, _) :: (Lk, _) :: (Z2 ++ _)) ((it4, _) :: (L, _) :: (L + 4, _) :: (L + 3, _) :: (L + 2, _) :: (L + 1, _) :: (N, _) :: (P, _) :: (An, _) :: (W, _) :: (Lk, _) :: (Z2 ++ _))
        walk_at "le"
      · rw [hrs3, hrs2, List.take_add_one, hp, Option.toList_some, List.map_append]
        unfold backG
        rw [List.foldl_append]; rfl
    · rintro l1 ⟨rs2, hrs2, rfl⟩
      rw [List.length_map, List.take_length, hlk] at hrs2
      exact ⟨_, Le.refl _, rs2, hrs2, rfl⟩
  rintro l1 ⟨rs2, hrs2, rfl⟩
  have hl10 : (linksOf xs).length ≤ 10 := Nat.le_trans (links_len xs) hxl.2
  have hgb := Gr.back (linksOf xs) Gr.nil
  rw [List.nil_append] at hgb
  have hbl : (backG (linksOf xs)).length ≤ 20 := by
    have := backF_len (linksOf xs) []
    rw [List.length_nil] at this
    exact Nat.le_trans this (Nat.add_le_add_left (Nat.mul_le_mul_left 2 hl10) 0)
  refine T_cut (fun l1 => ∃ rs2, absL rs2 = portsG (backG (linksOf xs)) (portsX xs.length) ∧ l1 = (L, IsNs [Str.ofString "script", Str.ofString "drawn", Str.ofString "numbers", Str.ofString "walks", Str.ofString "ringed", Str.ofString "links", Str.ofString "there", Str.ofString "back", Str.ofString "port", Str.ofString "named"] [some (.ref S), none, some (.ref N), some (.ref W), some (.bool ringed), some (.ref Lk), some (.ref x1), some (.ref x2), none, none]) :: (L + 4, Cel (some (.ref An))) :: (L + 3, Cel (some (.ref Rp))) :: (L + 2, Cel (some (.ref P))) :: (L + 1, Cel (some (sv host))) :: (N, Lst (xs.map iv)) :: (P, Lst ((portsX xs.length).map iv)) :: (An, Lst (rows.map fun r => .ref r.a)) :: (W, Lst (wk.map fun p => .ref p.1)) :: (Lk, Lst (lk.map fun p => .ref p.1)) :: (Z2 ++ SL G.w x2 d2 n2 .none (iv 0) (iv 0) rs2 [])) ?_ ?_
  · refine T_for (T_cell F (by rfl) (by rfl) (by walk_at "mem") ?_)
    refine T_iter_list (by walk_at "mem") fun it5 => ?_
    refine Loop.list (vs := (portsX xs.length).map iv) (fun j l1 => ∃ rs2, absL rs2 = portsG (backG (linksOf xs)) ((portsX xs.length).take j) ∧ l1 = (L, IsNs [Str.ofString "script", Str.ofString "drawn", Str.ofString "numbers", Str.ofString "walks", Str.ofString "ringed", Str.ofString "links", Str.ofString "there", Str.ofString "back", Str.ofString "port", Str.ofString "named"] [some (.ref S), none, some (.ref N), some (.ref W), some (.bool ringed), some (.ref Lk), some (.ref x1), some (.ref x2), none, none]) :: (L + 4, Cel (some (.ref An))) :: (L + 3, Cel (some (.ref Rp))) :: (L + 2, Cel (some (.ref P))) :: (L + 1, Cel (some (sv host))) :: (N, Lst (xs.map iv)) :: (P, Lst ((portsX xs.length).map iv)) :: (An, Lst (rows.map fun r => .ref r.a)) :: (W, Lst (wk.map fun p => .ref p.1)) :: (Lk, Lst (lk.map fun p => .ref p.1)) :: (Z2 ++ SL G.w x2 d2 n2 .none (iv 0) (iv 0) rs2 [])) ax.hd ⟨rs2, hrs2, rfl⟩ ?_ ?_ ?_
    · rintro i l1 ⟨rs2, _, rfl⟩
      walk_at "mem"
    · rintro i l1 c hc ⟨rs2, hrs2, rfl⟩
      rw [List.getElem?_map] at hc
      obtain ⟨q, hq, rfl⟩ := Option.map_eq_some_iff.mp hc
      have hgr : Gr (absL rs2) (linksOf xs) (fun q => (False ∨ ∃ e ∈ linksOf xs, q = e.2 ∨ q = e.1) ∨ q ∈ (portsX xs.length).take i) := by rw [hrs2]; exact hgb.ports _
      have hrl2 : rs2.length ≤ 40 := by
        have h1 := portsG_len ((portsX xs.length).take i) (backG (linksOf xs))
        have h2 := congrArg List.length hrs2
        rw [absL, List.length_map] at h2
        exact Nat.le_trans (Nat.le_of_eq h2) (Nat.le_trans h1 (Nat.add_le_add hbl (Nat.le_trans (List.length_take_le' ..) (by rw [hpn]; exact hx20))))
      intro t1
      refine T_assignName (T_st F (by walk_at "mem") (by walk_at "cv") (by walk_at "put") (by walk_at "rep") ?_)
      refine T_execs (T_Expr (T_MCall (T_ld F (by walk_at "mem") (by walk_at "at") ?_)))
      refine T_smeth m_add (by walk_at "mem") (by walk_at "mem") ?_
      refine T_cw (Callee.K m_add.keep) (T_items (T_ld F (by walk_at "mem") (by walk_at "at") ?_))
      intro t3
      refine T_items_nil ?_
      refine TT.as (l' := ((it5, LIt P (i + 1)) :: (L, IsNs [Str.ofString "script", Str.ofString "drawn", Str.ofString "numbers", Str.ofString "walks", Str.ofString "ringed", Str.ofString "links", Str.ofString "there", Str.ofString "back", Str.ofString "port", Str.ofString "named"] [some (.ref S), none, some (.ref N), some (.ref W), some (.bool ringed), some (.ref Lk), some (.ref x1), some (.ref x2), some (iv q), none]) :: (L + 4, Cel (some (.ref An))) :: (L + 3, Cel (some (.ref Rp))) :: (L + 2, Cel (some (.ref P))) :: (L + 1, Cel (some (sv host))) :: (N, Lst (xs.map iv)) :: (P, Lst ((portsX xs.length).map iv)) :: (An, Lst (rows.map fun r => .ref r.a)) :: (W, Lst (wk.map fun p => .ref p.1)) :: (Lk, Lst (lk.map fun p => .ref p.1)) :: Z2) ++ SL G.w x2 d2 n2 .none (iv 0) (iv 0) rs2 []) rfl ?_
      refine (add_spec (p := q) (preds := []) (vals := []) ((ax.le (by decide)).deeper (k := 4)) rfl (by rw [List.length_nil]; exact Nat.le_trans hrl2 (by decide)) hgr.nd (hgr.fits (Nat.le_trans hl10 (by decide))) fun rs3 hrs3 => ?_).call
      refine ⟨fun a e => (by cases e), T_execs_nil ⟨_, ?_, rs3, ?_, rfl⟩⟩
      · show Le ((it5, _) :: (L, _) :: (L + 4, _) :: (L + 3, _) :: (L + 2, _) :: (L + 1, _) :: (N, _) :: (P, _) :: (An, _) :: (W, _) :: (Lk, _) :: (Z2 ++ _)) ((it5, _) :: (L, _) :: (L + 4, _) :: (L + 3, _) :: (L + 2, _) :: (L + 1, _) :: (N, _) :: (P, _) :: (An, _) :: (W, _) :: (Lk, _) :: (Z2 ++ _))
        walk_at "le"
      · rw [hrs3, hrs2, List.take_add_one, hq, Option.toList_some]
        unfold portsG
        rw [List.foldl_append]; rfl
    · rintro l1 ⟨rs2, hrs2, rfl⟩
      rw [List.length_map, List.take_length] at hrs2
      exact ⟨_, Le.refl _, rs2, hrs2, rfl⟩
  clear hrs2 rs2
  rintro l1 ⟨rs2, hrs2, rfl⟩
  have NB := back_net hxl.1
  rw [← hrs2] at NB
  have wfact : ∀ p ∈ wk, 1 ≤ p.2.length ∧ p.2.length ≤ 30 ∧ ∀ a ∈ p.2, 0 ≤ a ∧ a < xs.length := fun p hp => by
    have : p.2 ∈ walksOf xs := by rw [← hwk]; exact List.mem_map.mpr ⟨p, hp, rfl⟩
    obtain ⟨s, hs, e⟩ := List.mem_map.mp this
    have hs := List.mem_range.mp hs
    rw [← e]
    have h1 := walk_le xs xs.length (s : Int)
    exact ⟨walk_pos .., Nat.le_trans h1 (Nat.le_trans (Nat.add_le_add_right hxl.2 1) (by decide)), fun a ha => walk_range hxl.1 ⟨Int.natCast_nonneg _, Int.ofNat_lt.mpr hs⟩ ha⟩
  have m_lk : ∀ p ∈ lk, (p.1, Tup [iv p.2.1, iv p.2.2]) ∈ Z := fun p hp => zl _ (List.mem_map.mpr ⟨p, hp, rfl⟩)
  have m_wk : ∀ p ∈ wk, (p.1, Lst (p.2.map iv)) ∈ Z := fun p hp => zw _ (List.mem_map.mpr ⟨p, hp, rfl⟩)
  subst hZ2
  refine TT.as (l' := (L, IsNs [Str.ofString "script", Str.ofString "drawn", Str.ofString "numbers", Str.ofString "walks", Str.ofString "ringed", Str.ofString "links", Str.ofString "there", Str.ofString "back", Str.ofString "port", Str.ofString "named"] [some (.ref S), none, some (.ref N), some (.ref W), some (.bool ringed), some (.ref Lk), some (.ref x1), some (.ref x2), none, none]) :: (L + 4, Cel (some (.ref An))) :: (L + 3, Cel (some (.ref Rp))) :: (L + 2, Cel (some (.ref P))) :: (L + 1, Cel (some (sv host))) :: (N, Lst (xs.map iv)) :: (P, Lst ((portsX xs.length).map iv)) :: (An, Lst (rows.map fun r => .ref r.a)) :: (W, Lst (wk.map fun p => .ref p.1)) :: (Lk, Lst (lk.map fun p => .ref p.1)) :: (Z ++ SL G.w x1 d1 n1 .none (iv 0) (iv 0) rs1 (SL G.w x2 d2 n2 .none (iv 0) (iv 0) rs2 []))) (by rw [SL_split (Y := SL G.w x2 d2 n2 .none (iv 0) (iv 0) rs2 [])]) ?_
  refine T_cut (fun l1 => l1 = (L, IsNs [Str.ofString "script", Str.ofString "drawn", Str.ofString "numbers", Str.ofString "walks", Str.ofString "ringed", Str.ofString "links", Str.ofString "there", Str.ofString "back", Str.ofString "port", Str.ofString "named"] [some (.ref S), none, some (.ref N), some (.ref W), some (.bool ringed), some (.ref Lk), some (.ref x1), some (.ref x2), none, none]) :: (L + 4, Cel (some (.ref An))) :: (L + 3, Cel (some (.ref Rp))) :: (L + 2, Cel (some (.ref P))) :: (L + 1, Cel (some (sv host))) :: (N, Lst (xs.map iv)) :: (P, Lst ((portsX xs.length).map iv)) :: (An, Lst (rows.map fun r => .ref r.a)) :: (W, Lst (wk.map fun p => .ref p.1)) :: (Lk, Lst (lk.map fun p => .ref p.1)) :: (Z ++ SL G.w x1 d1 n1 .none (iv 0) (iv 0) rs1 (SL G.w x2 d2 n2 .none (iv 0) (iv 0) rs2 []))) ?_ ?_
  · refine T_If (T_isNot (T_isValue (T_Call (T_glob F g_law_ring_stands (by rfl) ?_))))
    refine T_cw (Callee.K kp235) (T_items (T_MCall (T_ld F (by walk_at "mem") (by walk_at "at") ?_)))
    refine T_smeth m_find_cycle (by walk_at "mem") (by walk_at "mem") ?_
    refine T_cw0 (Callee.K m_find_cycle.keep) ?_
    refine TT.as (l' := ((L, IsNs [Str.ofString "script", Str.ofString "drawn", Str.ofString "numbers", Str.ofString "walks", Str.ofString "ringed", Str.ofString "links", Str.ofString "there", Str.ofString "back", Str.ofString "port", Str.ofString "named"] [some (.ref S), none, some (.ref N), some (.ref W), some (.bool ringed), some (.ref Lk), some (.ref x1), some (.ref x2), none, none]) :: (L + 4, Cel (some (.ref An))) :: (L + 3, Cel (some (.ref Rp))) :: (L + 2, Cel (some (.ref P))) :: (L + 1, Cel (some (sv host))) :: (N, Lst (xs.map iv)) :: (P, Lst ((portsX xs.length).map iv)) :: (An, Lst (rows.map fun r => .ref r.a)) :: (W, Lst (wk.map fun p => .ref p.1)) :: (Lk, Lst (lk.map fun p => .ref p.1)) ::  Z) ++ SL G.w x1 d1 n1 .none (iv 0) (iv 0) rs1 (SL G.w x2 d2 n2 .none (iv 0) (iv 0) rs2 [])) rfl ?_
    refine TT.mono (found_spec ((ax.le (by decide)).deeper (k := 1)) ((Frs.deeperC (l := []) (ns := [Str.ofString "script", Str.ofString "drawn", Str.ofString "numbers", Str.ofString "walks", Str.ofString "ringed", Str.ofString "links", Str.ofString "there", Str.ofString "back", Str.ofString "port", Str.ofString "named"]) (vs := [some (.ref S), none, some (.ref N), some (.ref W), some (.bool ringed), some (.ref Lk), some (.ref x1), some (.ref x2), none, none]) hF rfl).sub fun p hp => ?_) NT (.inl hET) hrg hx20) (fun v l1 hf => ?_) fun _ _ e => e
    · rcases List.mem_singleton.mp hp with rfl
      exact .head _
    have m_L : (L, IsNs [Str.ofString "script", Str.ofString "drawn", Str.ofString "numbers", Str.ofString "walks", Str.ofString "ringed", Str.ofString "links", Str.ofString "there", Str.ofString "back", Str.ofString "port", Str.ofString "named"] [some (.ref S), none, some (.ref N), some (.ref W), some (.bool ringed), some (.ref Lk), some (.ref x1), some (.ref x2), none, none]) ∈ l1 := hf.sub _ (by exact .head _)
    have m_Lk : (Lk, Lst (lk.map fun p => .ref p.1)) ∈ l1 := hf.sub _ (by
      show _ ∈ (L, IsNs [Str.ofString "script", Str.ofString "drawn", Str.ofString "numbers", Str.ofString "walks", Str.ofString "ringed", Str.ofString "links", Str.ofString "there", Str.ofString "back", Str.ofString "port", Str.ofString "named"] [some (.ref S), none, some (.ref N), some (.ref W), some (.bool ringed), some (.ref Lk), some (.ref x1), some (.ref x2), none, none]) :: (L + 4, Cel (some (.ref An))) :: (L + 3, Cel (some (.ref Rp))) :: (L + 2, Cel (some (.ref P))) :: (L + 1, Cel (some (sv host))) :: (N, Lst (xs.map iv)) :: (P, Lst ((portsX xs.length).map iv)) :: (An, Lst (rows.map fun r => .ref r.a)) :: (W, Lst (wk.map fun p => .ref p.1)) :: (Lk, Lst (lk.map fun p => .ref p.1)) :: (Z ++ SL G.w x1 d1 n1 .none (iv 0) (iv 0) rs1 (SL G.w x2 d2 n2 .none (iv 0) (iv 0) rs2 []))
      walk_at "mem")
    have m_l1 : ∀ p ∈ lk, (p.1, Tup [iv p.2.1, iv p.2.2]) ∈ l1 := fun p hp => hf.sub _ (by
      have := m_lk p hp
      show _ ∈ (L, IsNs [Str.ofString "script", Str.ofString "drawn", Str.ofString "numbers", Str.ofString "walks", Str.ofString "ringed", Str.ofString "links", Str.ofString "there", Str.ofString "back", Str.ofString "port", Str.ofString "named"] [some (.ref S), none, some (.ref N), some (.ref W), some (.bool ringed), some (.ref Lk), some (.ref x1), some (.ref x2), none, none]) :: (L + 4, Cel (some (.ref An))) :: (L + 3, Cel (some (.ref Rp))) :: (L + 2, Cel (some (.ref P))) :: (L + 1, Cel (some (sv host))) :: (N, Lst (xs.map iv)) :: (P, Lst ((portsX xs.length).map iv)) :: (An, Lst (rows.map fun r => .ref r.a)) :: (W, Lst (wk.map fun p => .ref p.1)) :: (Lk, Lst (lk.map fun p => .ref p.1)) :: (Z ++ SL G.w x1 d1 n1 .none (iv 0) (iv 0) rs1 (SL G.w x2 d2 n2 .none (iv 0) (iv 0) rs2 []))
      walk_at "mem")
    refine T_items (T_ListComp [Str.ofString "port", Str.ofString "named"] [none, none] (cl := []) (by rfl) (by decide) rfl (T_ld F (by walk_at "mem") (by walk_at "at") ?_))
    refine T_iter_list (by walk_at "mem") fun it6 => ?_
    refine Comp.listP (vs := lk.map fun p => .ref p.1) (lk_refs lk) (fun i acc l2 => i ≤ lk.length ∧ ∃ lk2 : List (Addr × Int × Int), lk2.map (·.2) = ((lk.take i).map (·.2)).map (fun e => (e.2, e.1)) ∧ acc = (lk2.map fun p => .ref p.1) ∧ l2 = lkL lk2 ++ l1) ax.hd ⟨Nat.zero_le _, [], rfl, rfl, rfl⟩ ?_ ?_ ?_
    · rintro i acc l2 ⟨hi', lk2, h2, rfl, rfl⟩
      refine ⟨?_, (by walk_at "mem")⟩
      have h3 := congrArg List.length h2
      have h4 := congrArg List.length hlk
      rw [List.length_map] at h4
      simp only [List.length_map, List.length_take] at h3 ⊢
      exact Nat.le_trans (Nat.le_of_eq h3) (Nat.le_trans (Nat.min_le_right ..) (Nat.le_trans (Nat.le_of_eq h4) (Nat.le_trans hl10 (by decide))))
    · rintro i acc l2 D1 C c hc ⟨hi', lk2, h2, rfl, rfl⟩
      rw [List.getElem?_map] at hc
      obtain ⟨p, hp, rfl⟩ := Option.map_eq_some_iff.mp hc
      have hil : i < lk.length := (List.getElem?_eq_some_iff.mp hp).1
      have m_p := m_l1 p (List.mem_of_getElem? hp)
      refine T_assignPair ax.hd (by walk_at "mem") ?_
      intro t1 t2
      refine T_assignName (T_st (compLay (ns := [Str.ofString "port", Str.ofString "named"]) F (by rfl) (by rfl) (by decide)) (by walk_at "mem") (by walk_at "cv") (by walk_at "put") (by walk_at "rep") ?_)
      refine T_assignName (T_st (compLay (ns := [Str.ofString "port", Str.ofString "named"]) F (by rfl) (by rfl) (by decide)) (by walk_at "mem") (by walk_at "cv") (by walk_at "put") (by walk_at "rep") ?_)
      refine T_tests0 (Br.tt rfl ?_)
      refine T_Tuple (T_items (T_ld (compLay (ns := [Str.ofString "port", Str.ofString "named"]) F (by rfl) (by rfl) (by decide)) (by walk_at "mem") (by walk_at "at") ?_))
      intro t3
      refine T_items (T_ld (compLay (ns := [Str.ofString "port", Str.ofString "named"]) F (by rfl) (by rfl) (by decide)) (by walk_at "mem") (by walk_at "at") ?_)
      intro t4
      refine T_items_nil ⟨(Nat.le_of_ble_eq_true rfl), fun tp => ?_⟩
      refine ⟨_, _, CV.ref, ?_, hil, lk2 ++ [(tp, p.2.2, p.2.1)], ?_, ?_, rfl⟩
      · rw [lkL_snoc, List.append_assoc]
        show Le ((tp, Tup [iv p.2.2, iv p.2.1]) :: _) ((it6, _) :: (D1, _) :: (C, _) :: (lkL lk2 ++ ((tp, Tup [iv p.2.2, iv p.2.1]) :: l1)))
        walk_at "le"
      · rw [List.map_append, h2, List.take_add_one, hp, Option.toList_some, List.map_append, List.map_append]; rfl
      · rw [List.map_append]; rfl
    rintro acc l2 Fl ⟨_, lk2, h2, rfl, rfl⟩
    rw [List.length_map, List.take_length, hlk] at h2
    refine T_items (T_ld F (by walk_at "mem") (by walk_at "at") ?_)
    refine T_items_nil (stands_spec (lk := lk2) ((ax.le (by decide)).deeper (k := 2)) hf hx20 (fun e he => (by walk_at "mem")) (fun a b hab => ?_) (by exact .head _) (fun p hp => ?_) ?_)
    · rw [h2]; exact ((links_in xs).flip a b).mpr ((hET a b).mp hab)
    · have : (p.1, Tup [iv p.2.1, iv p.2.2]) ∈ lkL lk2 := List.mem_map.mpr ⟨p, hp, rfl⟩
      walk_at "mem"
    refine T_truthy_bool (Br.ff rfl (T_execs_nil ⟨_, ?_, rfl⟩))
    refine Le.trans (b := l1) ?_ hf.le
    walk_at "le"
  rintro l1 rfl
  refine T_cut (fun l1 => l1 = (L, IsNs [Str.ofString "script", Str.ofString "drawn", Str.ofString "numbers", Str.ofString "walks", Str.ofString "ringed", Str.ofString "links", Str.ofString "there", Str.ofString "back", Str.ofString "port", Str.ofString "named"] [some (.ref S), none, some (.ref N), some (.ref W), some (.bool ringed), some (.ref Lk), some (.ref x1), some (.ref x2), none, none]) :: (L + 4, Cel (some (.ref An))) :: (L + 3, Cel (some (.ref Rp))) :: (L + 2, Cel (some (.ref P))) :: (L + 1, Cel (some (sv host))) :: (N, Lst (xs.map iv)) :: (P, Lst ((portsX xs.length).map iv)) :: (An, Lst (rows.map fun r => .ref r.a)) :: (W, Lst (wk.map fun p => .ref p.1)) :: (Lk, Lst (lk.map fun p => .ref p.1)) :: (Z ++ SL G.w x1 d1 n1 .none (iv 0) (iv 0) rs1 (SL G.w x2 d2 n2 .none (iv 0) (iv 0) rs2 []))) ?_ ?_
  · refine T_If (T_isNot (T_isValue (T_Call (T_glob F g_law_ring_stands (by rfl) ?_))))
    refine T_cw (Callee.K kp235) (T_items (T_MCall (T_ld F (by walk_at "mem") (by walk_at "at") ?_)))
    refine T_smeth m_find_cycle (by walk_at "mem") (by walk_at "mem") ?_
    refine T_cw0 (Callee.K m_find_cycle.keep) ?_
    refine TT.as (l' := ((L, IsNs [Str.ofString "script", Str.ofString "drawn", Str.ofString "numbers", Str.ofString "walks", Str.ofString "ringed", Str.ofString "links", Str.ofString "there", Str.ofString "back", Str.ofString "port", Str.ofString "named"] [some (.ref S), none, some (.ref N), some (.ref W), some (.bool ringed), some (.ref Lk), some (.ref x1), some (.ref x2), none, none]) :: (L + 4, Cel (some (.ref An))) :: (L + 3, Cel (some (.ref Rp))) :: (L + 2, Cel (some (.ref P))) :: (L + 1, Cel (some (sv host))) :: (N, Lst (xs.map iv)) :: (P, Lst ((portsX xs.length).map iv)) :: (An, Lst (rows.map fun r => .ref r.a)) :: (W, Lst (wk.map fun p => .ref p.1)) :: (Lk, Lst (lk.map fun p => .ref p.1)) :: (Z ++ SL G.w x1 d1 n1 .none (iv 0) (iv 0) rs1 [])) ++ SL G.w x2 d2 n2 .none (iv 0) (iv 0) rs2 []) (by rw [SL_split (Y := SL G.w x2 d2 n2 .none (iv 0) (iv 0) rs2 [])]; rfl) ?_
    refine TT.mono (found_spec ((ax.le (by decide)).deeper (k := 1)) ((Frs.deeperC (l := []) (ns := [Str.ofString "script", Str.ofString "drawn", Str.ofString "numbers", Str.ofString "walks", Str.ofString "ringed", Str.ofString "links", Str.ofString "there", Str.ofString "back", Str.ofString "port", Str.ofString "named"]) (vs := [some (.ref S), none, some (.ref N), some (.ref W), some (.bool ringed), some (.ref Lk), some (.ref x1), some (.ref x2), none, none]) hF rfl).sub fun p hp => ?_) NB (.inr (links_in xs)) hrg hx20) (fun v l1 hf => ?_) fun _ _ e => e
    · rcases List.mem_singleton.mp hp with rfl
      exact .head _
    have m_L : (L, IsNs [Str.ofString "script", Str.ofString "drawn", Str.ofString "numbers", Str.ofString "walks", Str.ofString "ringed", Str.ofString "links", Str.ofString "there", Str.ofString "back", Str.ofString "port", Str.ofString "named"] [some (.ref S), none, some (.ref N), some (.ref W), some (.bool ringed), some (.ref Lk), some (.ref x1), some (.ref x2), none, none]) ∈ l1 := hf.sub _ (by exact .head _)
    have m_Lk : (Lk, Lst (lk.map fun p => .ref p.1)) ∈ l1 := hf.sub _ (by
      show _ ∈ (L, IsNs [Str.ofString "script", Str.ofString "drawn", Str.ofString "numbers", Str.ofString "walks", Str.ofString "ringed", Str.ofString "links", Str.ofString "there", Str.ofString "back", Str.ofString "port", Str.ofString "named"] [some (.ref S), none, some (.ref N), some (.ref W), some (.bool ringed), some (.ref Lk), some (.ref x1), some (.ref x2), none, none]) :: (L + 4, Cel (some (.ref An))) :: (L + 3, Cel (some (.ref Rp))) :: (L + 2, Cel (some (.ref P))) :: (L + 1, Cel (some (sv host))) :: (N, Lst (xs.map iv)) :: (P, Lst ((portsX xs.length).map iv)) :: (An, Lst (rows.map fun r => .ref r.a)) :: (W, Lst (wk.map fun p => .ref p.1)) :: (Lk, Lst (lk.map fun p => .ref p.1)) :: (Z ++ SL G.w x1 d1 n1 .none (iv 0) (iv 0) rs1 [] ++ SL G.w x2 d2 n2 .none (iv 0) (iv 0) rs2 [])
      walk_at "mem")
    have m_l1 : ∀ p ∈ lk, (p.1, Tup [iv p.2.1, iv p.2.2]) ∈ l1 := fun p hp => hf.sub _ (by
      have := List.mem_append_left (SL G.w x1 d1 n1 .none (iv 0) (iv 0) rs1 []) (m_lk p hp)
      show _ ∈ (L, IsNs [Str.ofString "script", Str.ofString "drawn", Str.ofString "numbers", Str.ofString "walks", Str.ofString "ringed", Str.ofString "links", Str.ofString "there", Str.ofString "back", Str.ofString "port", Str.ofString "named"] [some (.ref S), none, some (.ref N), some (.ref W), some (.bool ringed), some (.ref Lk), some (.ref x1), some (.ref x2), none, none]) :: (L + 4, Cel (some (.ref An))) :: (L + 3, Cel (some (.ref Rp))) :: (L + 2, Cel (some (.ref P))) :: (L + 1, Cel (some (sv host))) :: (N, Lst (xs.map iv)) :: (P, Lst ((portsX xs.length).map iv)) :: (An, Lst (rows.map fun r => .ref r.a)) :: (W, Lst (wk.map fun p => .ref p.1)) :: (Lk, Lst (lk.map fun p => .ref p.1)) :: (Z ++ SL G.w x1 d1 n1 .none (iv 0) (iv 0) rs1 [] ++ SL G.w x2 d2 n2 .none (iv 0) (iv 0) rs2 [])
      walk_at "mem")
    refine T_items (T_ld F (by walk_at "mem") (by walk_at "at") ?_)
    refine T_items (T_ld F (by walk_at "mem") (by walk_at "at") ?_)
    refine T_items_nil (stands_spec (lk := lk) ((ax.le (by decide)).deeper (k := 2)) hf hx20 (fun e he => he) (fun a b hab => by rw [hlk]; exact hab) m_Lk m_l1 ?_)
    refine T_truthy_bool (Br.ff rfl (T_execs_nil ⟨_, ?_, rfl⟩))
    refine Le.trans hf.le ?_
    rw [SL_split (Y := SL G.w x2 d2 n2 .none (iv 0) (iv 0) rs2 [])]; exact Le.refl _
  rintro l1 rfl
  have hwl2 : wk.length = xs.length := by rw [← List.length_map (f := (·.2)), hwk, walksOf, List.length_map, List.length_range]
  refine T_cut (fun l1 => l1 = (L, IsNs [Str.ofString "script", Str.ofString "drawn", Str.ofString "numbers", Str.ofString "walks", Str.ofString "ringed", Str.ofString "links", Str.ofString "there", Str.ofString "back", Str.ofString "port", Str.ofString "named"] [some (.ref S), none, some (.ref N), some (.ref W), some (.bool ringed), some (.ref Lk), some (.ref x1), some (.ref x2), none, none]) :: (L + 4, Cel (some (.ref An))) :: (L + 3, Cel (some (.ref Rp))) :: (L + 2, Cel (some (.ref P))) :: (L + 1, Cel (some (sv host))) :: (N, Lst (xs.map iv)) :: (P, Lst ((portsX xs.length).map iv)) :: (An, Lst (rows.map fun r => .ref r.a)) :: (W, Lst (wk.map fun p => .ref p.1)) :: (Lk, Lst (lk.map fun p => .ref p.1)) :: (Z ++ SL G.w x2 d2 n2 .none (iv 0) (iv 0) rs2 [])) ?_ ?_
  · refine T_If (T_isCompare (T_Call (T_glob F g_law_rounds (by rfl) ?_)))
    refine T_cw (Callee.K kp242) (T_items (T_ld F (by walk_at "mem") (by walk_at "at") ?_))
    refine T_items (T_ld F (by walk_at "mem") (by walk_at "at") ?_)
    refine T_items_nil ?_
    refine TT.as (l' := ((L, IsNs [Str.ofString "script", Str.ofString "drawn", Str.ofString "numbers", Str.ofString "walks", Str.ofString "ringed", Str.ofString "links", Str.ofString "there", Str.ofString "back", Str.ofString "port", Str.ofString "named"] [some (.ref S), none, some (.ref N), some (.ref W), some (.bool ringed), some (.ref Lk), some (.ref x1), some (.ref x2), none, none]) :: (L + 4, Cel (some (.ref An))) :: (L + 3, Cel (some (.ref Rp))) :: (L + 2, Cel (some (.ref P))) :: (L + 1, Cel (some (sv host))) :: (N, Lst (xs.map iv)) :: (P, Lst ((portsX xs.length).map iv)) :: (An, Lst (rows.map fun r => .ref r.a)) :: (W, Lst (wk.map fun p => .ref p.1)) :: (Lk, Lst (lk.map fun p => .ref p.1)) :: Z) ++ SL G.w x1 d1 n1 .none (iv 0) (iv 0) rs1 (SL G.w x2 d2 n2 .none (iv 0) (iv 0) rs2 [])) rfl ?_
    refine rounds_net ((ax.le (by decide)).deeper (k := 4)) ((Frs.deeperC (l := []) (ns := [Str.ofString "script", Str.ofString "drawn", Str.ofString "numbers", Str.ofString "walks", Str.ofString "ringed", Str.ofString "links", Str.ofString "there", Str.ofString "back", Str.ofString "port", Str.ofString "named"]) (vs := [some (.ref S), none, some (.ref N), some (.ref W), some (.bool ringed), some (.ref Lk), some (.ref x1), some (.ref x2), none, none]) hF rfl).sub fun p hp => ?_) NT (Nat.le_trans hel hx20) (.inl hET) hrg hx20 fun Rn rnd hrn => ?_
    · rcases List.mem_singleton.mp hp with rfl
      exact .head _
    have hrn := hrn _ (.inl ⟨hET, rfl⟩)
    refine TT.as (l' := (Rn, Lst (rnd.map fun p => .ref p.1)) :: (rndL rnd ++ ((L, IsNs [Str.ofString "script", Str.ofString "drawn", Str.ofString "numbers", Str.ofString "walks", Str.ofString "ringed", Str.ofString "links", Str.ofString "there", Str.ofString "back", Str.ofString "port", Str.ofString "named"] [some (.ref S), none, some (.ref N), some (.ref W), some (.bool ringed), some (.ref Lk), some (.ref x1), some (.ref x2), none, none]) :: (L + 4, Cel (some (.ref An))) :: (L + 3, Cel (some (.ref Rp))) :: (L + 2, Cel (some (.ref P))) :: (L + 1, Cel (some (sv host))) :: (N, Lst (xs.map iv)) :: (P, Lst ((portsX xs.length).map iv)) :: (An, Lst (rows.map fun r => .ref r.a)) :: (W, Lst (wk.map fun p => .ref p.1)) :: (Lk, Lst (lk.map fun p => .ref p.1)) :: (Z ++ SL G.w x2 d2 n2 .none (iv 0) (iv 0) rs2 [])))) rfl ?_
    refine T_Call (T_glob F g_law_to_the_end (by rfl) ?_)
    refine T_cw (Callee.K kp218) (T_items (T_ld F (by walk_at "mem") (by walk_at "at") ?_))
    refine T_items_nil (to_the_end_spec (wk := wk) ((ax.le (by decide)).deeper (k := 2)) (Nat.le_trans hwz (by decide)) (fun p hp => ⟨(wfact p hp).1, (wfact p hp).2.1, fun a ha => ⟨((wfact p hp).2.2 a ha).1, le1000 ((wfact p hp).2.2 a ha).2 hx20⟩⟩) (by walk_at "mem") (fun p hp => ?_) fun R all hal => ?_)
    · have := m_wk p hp
      walk_at "mem"
    rw [hwl2, List.map_congr_left fun s _ => lvlE_eq hwk s] at hal
    have he : rnd.map (·.2) = (all.filter fun p => !p.2.isEmpty).map (·.2) := by rw [filt_snd, hal, hrn]
    refine T_neLists (d := 1) (xs := rnd.map fun p => .ref p.1) (ys := (all.filter fun p => !p.2.isEmpty).map fun p => .ref p.1) (Nat.lt_trans (Nat.add_lt_add_left (by decide : 2 * (1 + 1) < 6) _) (hu _)) (by walk_at "mem") (by walk_at "mem") (by have := congrArg List.length he; rw [List.length_map, List.length_map] at this; rw [List.length_map, List.length_map, this]) (same_rounds he (fun p hp => ?_) fun p hp => ?_) ?_
    · have : (p.1, Lst (p.2.map iv)) ∈ rndL rnd := List.mem_map.mpr ⟨p, hp, rfl⟩
      walk_at "mem"
    · have : (p.1, Lst (p.2.map iv)) ∈ rndL all := List.mem_map.mpr ⟨p, (List.mem_filter.mp hp).1, rfl⟩
      walk_at "mem"
    refine T_truthy_bool (Br.ff rfl (T_execs_nil ⟨_, ?_, rfl⟩))
    walk_at "le"
  rintro l1 rfl
  refine T_execs (T_Return (T_Compare (T_Call (T_glob F g_law_rounds (by rfl) ?_))))
  refine T_cw (Callee.K kp242) (T_items (T_ld F (by walk_at "mem") (by walk_at "at") ?_))
  refine T_items (T_ld F (by walk_at "mem") (by walk_at "at") ?_)
  refine T_items_nil ?_
  refine TT.as (l' := ((L, IsNs [Str.ofString "script", Str.ofString "drawn", Str.ofString "numbers", Str.ofString "walks", Str.ofString "ringed", Str.ofString "links", Str.ofString "there", Str.ofString "back", Str.ofString "port", Str.ofString "named"] [some (.ref S), none, some (.ref N), some (.ref W), some (.bool ringed), some (.ref Lk), some (.ref x1), some (.ref x2), none, none]) :: (L + 4, Cel (some (.ref An))) :: (L + 3, Cel (some (.ref Rp))) :: (L + 2, Cel (some (.ref P))) :: (L + 1, Cel (some (sv host))) :: (N, Lst (xs.map iv)) :: (P, Lst ((portsX xs.length).map iv)) :: (An, Lst (rows.map fun r => .ref r.a)) :: (W, Lst (wk.map fun p => .ref p.1)) :: (Lk, Lst (lk.map fun p => .ref p.1)) :: Z) ++ SL G.w x2 d2 n2 .none (iv 0) (iv 0) rs2 []) rfl ?_
  refine rounds_net ((ax.le (by decide)).deeper (k := 4)) ((Frs.deeperC (l := []) (ns := [Str.ofString "script", Str.ofString "drawn", Str.ofString "numbers", Str.ofString "walks", Str.ofString "ringed", Str.ofString "links", Str.ofString "there", Str.ofString "back", Str.ofString "port", Str.ofString "named"]) (vs := [some (.ref S), none, some (.ref N), some (.ref W), some (.bool ringed), some (.ref Lk), some (.ref x1), some (.ref x2), none, none]) hF rfl).sub fun p hp => ?_) NB (Nat.le_trans hl10 (by decide)) (.inr (links_in xs)) hrg hx20 fun Rn rnd hrn => ?_
  · rcases List.mem_singleton.mp hp with rfl
    exact .head _
  have hrn := hrn _ (.inr ⟨links_in xs, rfl⟩)
  refine TT.as (l' := (Rn, Lst (rnd.map fun p => .ref p.1)) :: (rndL rnd ++ ((L, IsNs [Str.ofString "script", Str.ofString "drawn", Str.ofString "numbers", Str.ofString "walks", Str.ofString "ringed", Str.ofString "links", Str.ofString "there", Str.ofString "back", Str.ofString "port", Str.ofString "named"] [some (.ref S), none, some (.ref N), some (.ref W), some (.bool ringed), some (.ref Lk), some (.ref x1), some (.ref x2), none, none]) :: (L + 4, Cel (some (.ref An))) :: (L + 3, Cel (some (.ref Rp))) :: (L + 2, Cel (some (.ref P))) :: (L + 1, Cel (some (sv host))) :: (N, Lst (xs.map iv)) :: (P, Lst ((portsX xs.length).map iv)) :: (An, Lst (rows.map fun r => .ref r.a)) :: (W, Lst (wk.map fun p => .ref p.1)) :: (Lk, Lst (lk.map fun p => .ref p.1)) :: Z))) (by rw [List.append_nil]) ?_
  refine T_Call (T_glob F g_law_from_afar (by rfl) ?_)
  refine T_cw (Callee.K kp223) (T_items (T_ld F (by walk_at "mem") (by walk_at "at") ?_))
  refine T_items_nil (from_afar_spec (wk := wk) ((ax.le (by decide)).deeper (k := 2)) (Nat.le_trans hwz (by decide)) (fun p hp => ⟨(wfact p hp).2.1, fun a ha => ⟨((wfact p hp).2.2 a ha).1, by rw [hwl]; exact ((wfact p hp).2.2 a ha).2⟩⟩) (by walk_at "mem") (fun p hp => ?_) fun R all hal => ?_)
  · have := m_wk p hp
    walk_at "mem"
  rw [hwl2, hwk, List.map_congr_left fun s _ => lvlB_eq xs s] at hal
  have he : rnd.map (·.2) = (all.filter fun p => !p.2.isEmpty).map (·.2) := by rw [filt_snd, hal, hrn]
  refine T_eqLists (d := 1) (xs := rnd.map fun p => .ref p.1) (ys := (all.filter fun p => !p.2.isEmpty).map fun p => .ref p.1) (Nat.lt_trans (Nat.add_lt_add_left (by decide : 2 * (1 + 1) < 6) _) (hu _)) (by walk_at "mem") (by walk_at "mem") (by have := congrArg List.length he; rw [List.length_map, List.length_map] at this; rw [List.length_map, List.length_map, this]) (same_rounds he (fun p hp => ?_) fun p hp => ?_) ?_
  · have : (p.1, Lst (p.2.map iv)) ∈ rndL rnd := List.mem_map.mpr ⟨p, hp, rfl⟩
    walk_at "mem"
  · have : (p.1, Lst (p.2.map iv)) ∈ rndL all := List.mem_map.mpr ⟨p, (List.mem_filter.mp hp).1, rfl⟩
    walk_at "mem"
  exact ⟨_, Le.refl _, rfl⟩

end
end
section
section
variable {G : Gd} {A : Around} {E : Value → Led → Prop} {l l' : Led} {env : Env} {pos : Pos}
/-- what ends well under the caller ends -/
theorem ends_U {prog : Program} {w : World} {t : Sem Fin} {s : Shared} {R : Result → Shared → Prop} (hreg : s.asleep)
    (h : wpU (model prog w) callerA t (fun fin s' => ∃ f, fin = .done f ∧ (R (.ok f) s' ∧ leftWithCleanup s'.gens = false)) (fun e s' => R (.error e) s' ∧ leftWithCleanup s'.gens = false) s) :
    ∃ n r s' s'', runN (denote table) prog w n s ⟨t, .builtin "claim.caller" {}, default, []⟩ = .halted (outcomeOf r) s' ∧
      schedN (denote table) prog w n (.single s ⟨t, .builtin "claim.caller" {}, default, []⟩) = .halted (outcomeOf r) s' ∧ s'.forget = s''.forget ∧ R r s'' := by
  have h0 : Sem.wp (model prog w) ⟨.builtin "claim.caller" {}, none, none, [], none⟩ t (Sem.finPost (model prog w) ⟨.builtin "claim.caller" {}, none, none, [], none⟩ fun r s' => R r s' ∧ leftWithCleanup s'.gens = false)
      (fun e _ s' => R (.error e) s' ∧ leftWithCleanup s'.gens = false) default s := by
    refine Sem.wp_mono _ _ t (fun fin p' s' h' => ?_) (fun _ _ _ h' => h') default s (h _ default caller_in (by show (Code.isCaller (.builtin "claim.caller" {}) || _) = true; rfl))
    obtain ⟨f, rfl, hf⟩ := h'
    exact hf
  obtain ⟨n, r, s₁, s₂, hs, hn, hfo, hR⟩ := wp_halts_full (M := model prog w) (R := R) hreg h0
  exact ⟨n, r, s₂, s₁, hn, hs, hfo, hR⟩
theorem ax_caller : Ax callerA 8 := ⟨by decide +kernel, by decide +kernel, rfl⟩
theorem frs_caller : Frs callerA [] := ⟨[], rfl, fun _ h => by cases h⟩
theorem g_law {w : World} : nsIn (KK w) mainGlobals (Str.ofString "law") = some (some (.ref 247)) := by kernel_rfl
theorem reads_ints {R : WRecords} {cl : Str → Option Addr} {h : Heap} (zs : List Int) : ∀ (vs : List Value) (as : List Addr), ReadsAllW R cl h vs (zs.map .int) as → vs.map cv = zs.map iv := by
  induction zs with
  | nil => intro vs as r; rw [List.eq_nil_of_length_eq_zero r.length]; rfl
  | cons z zs ih =>
    intro vs as r
    obtain ⟨v, vs', a, b, rfl, -, r1, r2⟩ := readsAllW_cons_inv r
    obtain ⟨t, rfl, -⟩ := readsW_int_inv r1
    rw [List.map_cons, List.map_cons, ih _ _ r2]; rfl
theorem reads_script {R : WRecords} {cl : Str → Option Addr} {h : Heap} {zs : List Int} {vs : List Value} {as : List Addr} (r : ReadsAllW R cl h vs [.list (zs.map .int)] as) : ∃ S items, vs = [.ref S] ∧ h.IsList S items ∧ items.toList.map cv = zs.map iv := by
  obtain ⟨v, vs', a, b, rfl, -, r1, r2⟩ := readsAllW_cons_inv r
  obtain ⟨S, items, as', rfl, h1, h2, -⟩ := readsW_list_inv r1
  rw [List.eq_nil_of_length_eq_zero r2.length]
  exact ⟨S, items, rfl, h1, reads_ints _ _ _ h2⟩
theorem law_args {args : List WData} (h : rwR.claim.pre args = true) : ∃ zs : List Int, args = [.list (zs.map .int)] ∧ zs.length ≤ 63 := by
  obtain ⟨h1, h2⟩ := pre_splitW h
  obtain ⟨d, r, rfl, h3, h4⟩ := hasAllW_cons h1
  obtain rfl := hasAllW_nil h4
  obtain ⟨xs, rfl, h5⟩ := hasW_list h3
  obtain ⟨zs, rfl⟩ := items_int h5
  refine ⟨zs, rfl, ?_⟩
  change (WTm.and (.not (.lt (.lit (.int 63)) (.len (.arg 0)))) (.lit (.bool true))).holds [] { args := [.list (zs.map .int)] } = true at h2
  simp only [WTm.holds, WTm.value, List.getElem?_cons_zero, List.length_map, less?, Num.less?, Option.map_some] at h2
  rcases Nat.lt_or_ge 63 zs.length with q | q
  · have : decide ((63 : Int) < (zs.length : Int)) = true := decide_eq_true (by omega)
    rw [this] at h2
    cases h2
  · exact q
theorem law_code {w : World} {s₀ s₁ : Shared} {mg mb : Str → Option Value} {S : Addr} {items : Array Value} {zs : List Int} (X : (KK w).In s₁.heap) (T : Top vw (looseW vw [Str.ofString "_NodeInfo"]) (ExcName.means s₀.heap) mg mb s₁.heap) (hg : s₁.gens = #[])
    (hS : s₁.heap.IsList S items) (hz : items.size ≤ 1000) (hi : items.toList.map cv = zs.map iv) :
    wpU (model prg w) callerA (do match ← nsGet mainNs (Str.ofString "law") with
      | some f => do ret (← PySem.call f [.ref S])
      | none => unsupported "claim.caller:no-such-global") (fun fin s' => fin = .done (.ret (.bool true)) ∧ (∀ b o, s₁.heap.get? b = some o → s'.heap.get? b = some o) ∧ s'.gens = #[] ∧ s'.os = s₁.os) (fun _ _ => False) s₁ := by
  refine wpU_any (wpAny_nsGet T.g ?_)
  rw [mg_of X T.g g_law]
  refine wpU_bind (wpU_call ?_)
  refine codeU_mono ((law_spec (G := { w := w, h₀ := s₁.heap, os := s₁.os, mg := mg, mb := mb, mean := ExcName.means s₀.heap }) (A := callerA) ax_caller frs_caller hS hz hi).go s₁ ⟨⟨X, T⟩, fun _ _ e => e, fun _ h => (by cases h), List.nodup_nil, hg, rfl, Nat.zero_le _⟩) fun r s' h => ?_
  obtain ⟨l', M, v, rfl, rfl⟩ := h
  exact wpU.of (wpAny_pure ⟨rfl, M.keep, M.gens, M.os⟩)
theorem law_from {w : World} {s : Shared} {free : Addr → Prop} {gens : Prop} {kept : Heap → Prop} (hz : s.asleep) (hgens : s.gens = #[]) (G : Ground vw [Str.ofString "_NodeInfo"] [] (XL vw []) w s (s.heap.nsMap mainGlobals) (s.heap.nsMap builtinsNs) s.heap)
    (Y : hk.says w s.heap) (hkept : ∀ h', kept h') : rwR.claim.CallFrom (callStub (Str.ofString "law")) w free gens kept s := by
  intro args hpre hlay ord hord
  obtain ⟨zs, rfl, hzl⟩ := law_args hpre
  obtain ⟨⟨vs, s₁⟩, hlaid⟩ := Option.isSome_iff_exists.mp (layAllW_isSome (R := rwR.claim.records) (cl := classAt s.heap) (P := w.params) (ord := ord) G.has [.list (zs.map .int)] rwR.args s (pre_splitW hpre).1)
  have keeps := layAllW_keeps _ _ _ hlaid
  have hal := layAllW_rest _ _ _ hlaid
  obtain ⟨as, hrd, hin, hold⟩ := reads_layAllW hord _ _ _ hlaid hlay s₁.heap (fun _ _ e => e)
  have G₁ := G.keeps XL.keeps keeps
  have X₁ : (KK w).In s₁.heap := kIn_of (hk.keeps _ _ _ Y keeps)
  obtain ⟨S, items, rfl, hS, hi⟩ := reads_script hrd
  have hsz : items.size ≤ 1000 := by
    have := congrArg List.length hi
    rw [List.length_map, List.length_map, Array.length_toList] at this
    omega
  obtain ⟨k, r, s', s'', hrun, hsched, hfo, hr', hk', hos⟩ := ends_U (prog := prg) (w := w) (s := s₁) (R := fun r s' => r = .ok (.ret (.bool true)) ∧ (∀ b o, s₁.heap.get? b = some o → s'.heap.get? b = some o) ∧ s'.os = s₁.os)
    (Shared.asleep_of_life hal.2.2.2 hz) (wpU_mono (law_code X₁ G₁.T (hal.1.trans hgens) hS hsz hi) (by
      rintro fin s' ⟨rfl, h1, h2, h3⟩
      exact ⟨_, rfl, ⟨rfl, h1, h3⟩, leftWithCleanup_false_of_bare (AllBare.of_eq h2)⟩) fun _ _ h => h.elim)
  obtain ⟨eh, _, _, eo, _⟩ := Shared.forget_eq hfo
  have keep' : ∀ b o, s₁.heap.get? b = some o → s'.heap.get? b = some o := by rw [eh]; exact hk'
  have hlife : s'.heap.life = s.heap.life := (runN_life _ _ _ hrun).trans hal.2.2.2
  subst hr'
  refine ⟨_, s₁, hlaid, k, _, s', hsched, .inl ⟨.bool true, rfl, fun _ => rfl, ⟨.bool true, [.list (zs.map .int)], [], as, .bool true, hrd.keepsK (fun b o e _ => keep' b o e), ?_, fun _ => ⟨List.nodup_nil, fun _ h => (by cases h), fun _ h => (by cases h)⟩, fun _ _ => ?_⟩, fun i h => (by cases h), fun b o hb _ _ _ => .inl (keep' b o hb), fun i h => (by cases h)⟩,
    (fun _ i x hx => by rw [hgens] at hx; simp at hx), hkept _, by rw [hlife], Shared.rest_eq ?_⟩
  · show (WShape.has [] (.bool true) .bool && WTm.holds [] (.eq .res (.lit (.bool true))) _) = true
    simp [WShape.has, WShape.arms, WTm.holds, WTm.value, PySem.W.same]
  · exact ident_freeW rfl rfl rfl _ _
  · rw [eo, hos]; exact hal.2.2.1
theorem law_promised : rwR.promised := ⟨[.list []], by decide +kernel, by decide +kernel⟩
theorem law_holds : PySem.Challenge.rw_mr0298_01.Holds := by
  refine holds_law Mine.said fun said => ⟨said, law_promised, ⟨⟨⟨rfl, rfl, rfl, rfl, rfl, by decide +kernel⟩, by decide +kernel, rfl⟩, law_promised.witness, fun w => ?_⟩⟩
  have B := left.behind (XP := XL vw []) (fun s e => xl_of s (Bool.and_eq_true_iff.mp e).1) (by decide +kernel) w
  refine ⟨B.1, fun s' hs' => ?_⟩
  obtain ⟨s₀, hf, hg0, s, hT, hz, hgens, hg, G, y⟩ := B.2 s' hs'
  refine ⟨s₀, hf, hg0, s, hT, fun n hn => ?_, fun x hx => (nomatch hx), fun x hx => (nomatch hx), law_from hz (Array.eq_empty_of_size_eq_zero (beq_iff_eq.mp hgens)) G (hk.of w s y) fun _ e => (by cases e)⟩
  obtain rfl : n = Str.ofString "law" := List.mem_singleton.mp hn
  obtain ⟨⟨d, kwd⟩, hdef⟩ : ∃ x, defOf vw (Str.ofString "law") = some x := Option.isSome_iff_exists.mp (by decide +kernel)
  have e1 : prg.theDef (Str.ofString "law") = (defOf vw (Str.ofString "law")).map fun x => (x.1.params, x.1.body, x.1.scope) := by kernel_rfl
  have e2 : (defOf vw (Str.ofString "law")).map (fun x => kwWritten? x.1.params.kwonlyargs x.1.params.kw_defaults) = (defOf vw (Str.ofString "law")).map fun x => some x.2 := by kernel_rfl
  rw [hdef] at e1 e2
  exact pinned_of_view hg G hdef e1 (Option.some.inj e2)

end
end
end Mine
theorem PySem.Challenge.cw_mr0298_01_holds : PySem.Challenge.rw_mr0298_01.Holds :=
  Mine.law_holds
