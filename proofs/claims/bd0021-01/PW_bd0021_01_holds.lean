import PyProof.Rows.All
import Wide.All
import OpenK.AllK
import Wide.FinOn
import KE.KParD
import KE.KDictList
import PyProof.GenQ
import KE.KTryOn
import KE.KItemsList
import KE.KSetDisp
import Lean
import PySem.Challenge.RW_bd0021_01
open PySem PySem.W PyProof.Rows PySem.Calls
set_option Elab.async false
set_option maxRecDepth 100000
set_option maxHeartbeats 0
set_option linter.all false
namespace Mine
noncomputable abbrev prg : Program := PySem.Challenge.rw_bd0021_01.row.prog
noncomputable def nthS : List Stmt → Nat → Stmt
 | [], _ => default
 | x :: _, 0 => x
 | _ :: r, n + 1 => nthS r n
noncomputable def st (i : Nat) : Stmt := nthS prg.main.body i
noncomputable def clsBody : Stmt → List Stmt
 | .ClassDef (body := b) .. => b
 | _ => []
noncomputable def mt (i j : Nat) : Stmt := nthS (clsBody (st i)) j
noncomputable def fo (x : Stmt) (qual : Str) (dV kV doc pm cd : Value) (b : Addr) : Obj := match x with
 | .FunctionDef (name := n) (args := ps) (body := bd) (scope := sc) .. => { cls := .type "function", data := .func { name := n, qualname := qual, params := ps, body := .stmts bd, scope := sc, globals := mainGlobals, closure := [], defaults := dV, kwdefaults := kV, doc := doc, pyModule := pm, code := cd, builtins := b } }
 | _ => default
noncomputable abbrev en (P : Params) (k : Str) (t : Tok) (v : Value) : DictEntry := ⟨PyData.keyHash P k, .str k t, v⟩
noncomputable abbrev tu (vs : List Value) : Obj := { cls := .type "tuple", data := .seq vs.toArray }
noncomputable def K (P : Params) : Frag := [
 (2, { cls := .none, data := .dict #[en P "type.__subclasses__.Exception.0" 212 (.int 31 0), en P "type.__subclasses__.Exception.n" 213 (.int 1 0)] 2 }),
 (3, { cls := .type "dict", data := .dict #[en P "__name__" 165 (.str "law_bd0021_01" 591), en P "__doc__" 166 (.none), en P "__package__" 167 (.none), en P "__loader__" 168 (.builtin "__main__.__loader__#opaque"), en P "__spec__" 169 (.none), en P "__annotations__" 170 (.ref 6), en P "__builtins__" 171 (.ref 4), en P "__file__" 173 (.str "/claim/cut.py" 172), en P "__cached__" 174 (.none), en P "_wall" 193 (.ref 21), en P "NetworkXException" 215 (.ref 31), en P "NetworkXError" 231 (.ref 44), en P "maximal_matching" 245 (.ref 53), en P "matching_dict_to_set" 256 (.ref 60), en P "is_matching" 268 (.ref 67), en P "is_maximal_matching" 281 (.ref 74), en P "is_perfect_matching" 293 (.ref 81), en P "EdgeView" 367 (.ref 132), en P "Graph" 590 (.ref 310), en P "_law_draw" 598 (.ref 319), en P "_law_take" 607 (.ref 326), en P "_law_said" 616 (.ref 333), en P "_law_due" 622 (.ref 338), en P "_law_drawn" 628 (.ref 343), en P "_law_set_of" 635 (.ref 350), en P "_law_fine" 641 (.ref 355), en P "law" 654 (.ref 362)] 27 }),
 (15, tu []),
 (17, tu [.str "k" 190]),
 (18, tu []),
 (20, { cls := .type "code", data := .fields #[.str "_wall" 187, .str "_wall" 188, .str "/claim/cut.py" 189, .int 1 0, .int 1 0, .int 0 0, .int 0 0, .int 3 0, .ref 15, .bool true, .int 181 0, .ref 16, .none, .ref 17, .ref 18, .ref 19, .int 191 0, .int 1 0, .str "/claim/cut.py" 192] }),
 (21, fo (st 0) "_wall" (.none) (.none) (.none) (.str "__main__" 164) (.ref 20) 0),
 (22, tu [.type "Exception"]),
 (29, tu []),
 (30, { cls := .type "dict", data := .dict #[en P "__module__" 203 (.str "networkx.exception" 194), en P "__firstlineno__" 207 (.int 5 206), en P "__static_attributes__" 208 (.ref 29), en P "__weakref__" 210 (.ref 32), en P "__doc__" 211 (.none)] 3 }),
 (31, { cls := .type "type", data := .cls { name := "NetworkXException", bases := [.type "Exception"], mro := [.ref 31, .type "Exception", .type "BaseException", .type "object"], ns := 30, qualname := "NetworkXException", hasDict := true, slotNames := [], subclasses := [.ref 44], abstract := false, collection := none, hasDel := false }, slots := #[some (.ref 22), none, some (.str "NetworkXException" 196), some (.str "NetworkXException" 204), some (.builtin "Exception.__new__"), some (.bool true)] }),
 (32, { cls := .type "getset_descriptor", data := .fields #[.str "__weakref__" 209, .ref 31, .builtin "ExceptionGroup.__weakref__", .none] }),
 (35, tu [.ref 31]),
 (42, tu []),
 (43, { cls := .type "dict", data := .dict #[en P "__module__" 223 (.str "networkx.exception" 194), en P "__firstlineno__" 227 (.int 7 226), en P "__static_attributes__" 228 (.ref 42), en P "__doc__" 229 (.none)] 2 }),
 (44, { cls := .type "type", data := .cls { name := "NetworkXError", bases := [.ref 31], mro := [.ref 44, .ref 31, .type "Exception", .type "BaseException", .type "object"], ns := 43, qualname := "NetworkXError", hasDict := true, slotNames := [], subclasses := [], abstract := false, collection := none, hasDel := false }, slots := #[some (.ref 35), none, some (.str "NetworkXError" 216), some (.str "NetworkXError" 224), some (.builtin "Exception.__new__"), some (.bool true)] }),
 (47, tu []),
 (49, tu [.str "G" 237, .str "matching" 238, .str "nodes" 239, .str "edge" 240, .str "u" 241, .str "v" 242]),
 (50, tu []),
 (52, { cls := .type "code", data := .fields #[.str "maximal_matching" 234, .str "maximal_matching" 235, .str "/claim/cut.py" 236, .int 10 0, .int 1 0, .int 0 0, .int 0 0, .int 3 0, .ref 47, .bool true, .int 181 0, .ref 48, .none, .ref 49, .ref 50, .ref 51, .int 243 0, .int 10 0, .str "/claim/cut.py" 244] }),
 (53, fo (st 5) "maximal_matching" (.none) (.none) (.none) (.str "networkx.algorithms.matching" 232) (.ref 52) 0),
 (54, tu []),
 (56, tu [.str "matching" 249, .str "edges" 250, .str "edge" 251, .str "u" 252, .str "v" 253]),
 (57, tu []),
 (59, { cls := .type "code", data := .fields #[.str "matching_dict_to_set" 246, .str "matching_dict_to_set" 247, .str "/claim/cut.py" 248, .int 19 0, .int 1 0, .int 0 0, .int 0 0, .int 3 0, .ref 54, .bool true, .int 181 0, .ref 55, .none, .ref 56, .ref 57, .ref 58, .int 254 0, .int 19 0, .str "/claim/cut.py" 255] }),
 (60, fo (st 6) "matching_dict_to_set" (.none) (.none) (.none) (.str "networkx.algorithms.matching" 232) (.ref 59) 0),
 (61, tu []),
 (63, tu [.str "G" 260, .str "matching" 261, .str "nodes" 262, .str "edge" 263, .str "u" 264, .str "v" 265]),
 (64, tu []),
 (66, { cls := .type "code", data := .fields #[.str "is_matching" 257, .str "is_matching" 258, .str "/claim/cut.py" 259, .int 29 0, .int 2 0, .int 0 0, .int 0 0, .int 3 0, .ref 61, .bool true, .int 181 0, .ref 62, .none, .ref 63, .ref 64, .ref 65, .int 266 0, .int 29 0, .str "/claim/cut.py" 267] }),
 (67, fo (st 7) "is_matching" (.none) (.none) (.none) (.str "networkx.algorithms.matching" 232) (.ref 66) 0),
 (68, tu []),
 (70, tu [.str "G" 272, .str "matching" 273, .str "edges" 274, .str "nodes" 275, .str "edge" 276, .str "u" 277, .str "v" 278]),
 (71, tu []),
 (73, { cls := .type "code", data := .fields #[.str "is_maximal_matching" 269, .str "is_maximal_matching" 270, .str "/claim/cut.py" 271, .int 47 0, .int 2 0, .int 0 0, .int 0 0, .int 3 0, .ref 68, .bool true, .int 181 0, .ref 69, .none, .ref 70, .ref 71, .ref 72, .int 279 0, .int 47 0, .str "/claim/cut.py" 280] }),
 (74, fo (st 8) "is_maximal_matching" (.none) (.none) (.none) (.str "networkx.algorithms.matching" 232) (.ref 73) 0),
 (75, tu []),
 (77, tu [.str "G" 285, .str "matching" 286, .str "nodes" 287, .str "edge" 288, .str "u" 289, .str "v" 290]),
 (78, tu []),
 (80, { cls := .type "code", data := .fields #[.str "is_perfect_matching" 282, .str "is_perfect_matching" 283, .str "/claim/cut.py" 284, .int 72 0, .int 2 0, .int 0 0, .int 0 0, .int 3 0, .ref 75, .bool true, .int 181 0, .ref 76, .none, .ref 77, .ref 78, .ref 79, .int 291 0, .int 72 0, .str "/claim/cut.py" 292] }),
 (81, fo (st 9) "is_perfect_matching" (.none) (.none) (.none) (.str "networkx.algorithms.matching" 232) (.ref 80) 0),
 (89, tu []),
 (91, tu [.str "self" 311, .str "G" 312]),
 (92, tu []),
 (94, { cls := .type "code", data := .fields #[.str "__init__" 308, .str "EdgeView.__init__" 309, .str "/claim/cut.py" 310, .int 93 0, .int 2 0, .int 0 0, .int 0 0, .int 3 0, .ref 89, .bool true, .int 181 0, .ref 90, .none, .ref 91, .ref 92, .ref 93, .int 313 0, .int 93 0, .str "/claim/cut.py" 314] }),
 (95, fo (mt 11 0) "EdgeView.__init__" (.none) (.none) (.none) (.str "networkx.classes.graph" 294) (.ref 94) 0),
 (96, tu []),
 (98, tu [.str "self" 319]),
 (99, tu []),
 (101, { cls := .type "code", data := .fields #[.str "__len__" 316, .str "EdgeView.__len__" 317, .str "/claim/cut.py" 318, .int 96 0, .int 1 0, .int 0 0, .int 0 0, .int 3 0, .ref 96, .bool true, .int 181 0, .ref 97, .none, .ref 98, .ref 99, .ref 100, .int 320 0, .int 96 0, .str "/claim/cut.py" 321] }),
 (102, fo (mt 11 1) "EdgeView.__len__" (.none) (.none) (.none) (.str "networkx.classes.graph" 294) (.ref 101) 0),
 (103, tu []),
 (105, tu [.str "self" 326, .str "u" 327, .str "v" 328, .str "d" 329]),
 (106, tu []),
 (108, { cls := .type "code", data := .fields #[.str "__iter__" 323, .str "EdgeView.__iter__" 324, .str "/claim/cut.py" 325, .int 99 0, .int 1 0, .int 0 0, .int 0 0, .int 35 0, .ref 103, .bool true, .int 181 0, .ref 104, .none, .ref 105, .ref 106, .ref 107, .int 330 0, .int 99 0, .str "/claim/cut.py" 331] }),
 (109, fo (mt 11 2) "EdgeView.__iter__" (.none) (.none) (.none) (.str "networkx.classes.graph" 294) (.ref 108) 0),
 (110, tu []),
 (112, tu [.str "self" 336, .str "e" 337, .str "u" 338, .str "v" 339]),
 (113, tu []),
 (115, { cls := .type "code", data := .fields #[.str "__contains__" 333, .str "EdgeView.__contains__" 334, .str "/claim/cut.py" 335, .int 103 0, .int 2 0, .int 0 0, .int 0 0, .int 3 0, .ref 110, .bool true, .int 181 0, .ref 111, .none, .ref 112, .ref 113, .ref 114, .int 340 0, .int 103 0, .str "/claim/cut.py" 341] }),
 (116, fo (mt 11 3) "EdgeView.__contains__" (.none) (.none) (.none) (.str "networkx.classes.graph" 294) (.ref 115) 0),
 (117, tu []),
 (119, tu [.str "self" 346, .str "e" 347, .str "u" 348, .str "v" 349]),
 (120, tu []),
 (122, { cls := .type "code", data := .fields #[.str "__getitem__" 343, .str "EdgeView.__getitem__" 344, .str "/claim/cut.py" 345, .int 107 0, .int 2 0, .int 0 0, .int 0 0, .int 3 0, .ref 117, .bool true, .int 181 0, .ref 118, .none, .ref 119, .ref 120, .ref 121, .int 350 0, .int 107 0, .str "/claim/cut.py" 351] }),
 (123, fo (mt 11 4) "EdgeView.__getitem__" (.none) (.none) (.none) (.str "networkx.classes.graph" 294) (.ref 122) 0),
 (124, tu [.none, .bool false, .none]),
 (125, tu []),
 (128, { cls := .type "code", data := .fields #[.str "__call__" 353, .str "EdgeView.__call__" 354, .str "/claim/cut.py" 355, .int 111 0, .int 4 0, .int 0 0, .int 0 0, .int 3 0, .ref 125, .bool true, .int 181 0, .ref 126, .none, .none, .none, .ref 127, .int 356 0, .int 111 0, .str "/claim/cut.py" 357] }),
 (129, fo (mt 11 5) "EdgeView.__call__" (.ref 124) (.none) (.none) (.str "networkx.classes.graph" 294) (.ref 128) 0),
 (130, tu [.str "_graph" 359]),
 (131, { cls := .type "dict", data := .dict #[en P "__module__" 303 (.str "networkx.classes.graph" 294), en P "__firstlineno__" 307 (.int 91 306), en P "__init__" 315 (.ref 95), en P "__len__" 322 (.ref 102), en P "__iter__" 332 (.ref 109), en P "__contains__" 342 (.ref 116), en P "__getitem__" 352 (.ref 123), en P "__call__" 358 (.ref 129), en P "__static_attributes__" 360 (.ref 130), en P "__dict__" 362 (.ref 133), en P "__weakref__" 364 (.ref 134), en P "__doc__" 365 (.none)] 4 }),
 (132, { cls := .type "type", data := .cls { name := "EdgeView", bases := [.type "object"], mro := [.ref 132, .type "object"], ns := 131, qualname := "EdgeView", hasDict := true, slotNames := [], subclasses := [], abstract := false, collection := none, hasDel := false }, slots := #[none, none, some (.str "EdgeView" 296), some (.str "EdgeView" 304), some (.builtin "object.__new__"), some (.bool true)] }),
 (133, { cls := .type "getset_descriptor", data := .fields #[.str "__dict__" 361, .ref 132, .builtin "function.__dict__", .builtin "function.__dict__#set"] }),
 (134, { cls := .type "getset_descriptor", data := .fields #[.str "__weakref__" 363, .ref 132, .builtin "ExceptionGroup.__weakref__", .none] }),
 (144, tu [.none]),
 (145, tu []),
 (147, tu [.str "self" 383, .str "incoming_graph_data" 384, .str "attr" 385, .str "n" 386, .str "d" 387, .str "u" 388, .str "nbrs" 389, .str "v" 390]),
 (148, tu []),
 (150, { cls := .type "code", data := .fields #[.str "__init__" 380, .str "Graph.__init__" 381, .str "/claim/cut.py" 382, .int 120 0, .int 2 0, .int 0 0, .int 0 0, .int 11 0, .ref 145, .bool true, .int 181 0, .ref 146, .none, .ref 147, .ref 148, .ref 149, .int 391 0, .int 120 0, .str "/claim/cut.py" 392] }),
 (151, fo (mt 12 0) "Graph.__init__" (.ref 144) (.none) (.none) (.str "networkx.classes.graph" 294) (.ref 150) 0),
 (152, tu []),
 (154, tu [.str "self" 397]),
 (155, tu []),
 (157, { cls := .type "code", data := .fields #[.str "adj" 394, .str "Graph.adj" 395, .str "/claim/cut.py" 396, .int 135 0, .int 1 0, .int 0 0, .int 0 0, .int 3 0, .ref 152, .bool true, .int 181 0, .ref 153, .none, .ref 154, .ref 155, .ref 156, .int 398 0, .int 135 0, .str "/claim/cut.py" 399] }),
 (158, fo (mt 12 1) "Graph.adj" (.none) (.none) (.none) (.str "networkx.classes.graph" 294) (.ref 157) 0),
 (159, { cls := .type "property", data := .fields #[.ref 158, .none, .none, .none, .str "adj" 401, .bool false] }),
 (160, tu []),
 (162, tu [.str "self" 405]),
 (163, tu []),
 (165, { cls := .type "code", data := .fields #[.str "nodes" 402, .str "Graph.nodes" 403, .str "/claim/cut.py" 404, .int 139 0, .int 1 0, .int 0 0, .int 0 0, .int 3 0, .ref 160, .bool true, .int 181 0, .ref 161, .none, .ref 162, .ref 163, .ref 164, .int 406 0, .int 139 0, .str "/claim/cut.py" 407] }),
 (166, fo (mt 12 2) "Graph.nodes" (.none) (.none) (.none) (.str "networkx.classes.graph" 294) (.ref 165) 0),
 (167, { cls := .type "property", data := .fields #[.ref 166, .none, .none, .none, .str "nodes" 409, .bool false] }),
 (168, tu []),
 (170, tu [.str "self" 413]),
 (171, tu []),
 (173, { cls := .type "code", data := .fields #[.str "edges" 410, .str "Graph.edges" 411, .str "/claim/cut.py" 412, .int 143 0, .int 1 0, .int 0 0, .int 0 0, .int 3 0, .ref 168, .bool true, .int 181 0, .ref 169, .none, .ref 170, .ref 171, .ref 172, .int 414 0, .int 143 0, .str "/claim/cut.py" 415] }),
 (174, fo (mt 12 3) "Graph.edges" (.none) (.none) (.none) (.str "networkx.classes.graph" 294) (.ref 173) 0),
 (175, { cls := .type "property", data := .fields #[.ref 174, .none, .none, .none, .str "edges" 417, .bool false] }),
 (176, tu []),
 (178, tu [.str "self" 421]),
 (179, tu []),
 (181, { cls := .type "code", data := .fields #[.str "__iter__" 418, .str "Graph.__iter__" 419, .str "/claim/cut.py" 420, .int 147 0, .int 1 0, .int 0 0, .int 0 0, .int 3 0, .ref 176, .bool true, .int 181 0, .ref 177, .none, .ref 178, .ref 179, .ref 180, .int 422 0, .int 147 0, .str "/claim/cut.py" 423] }),
 (182, fo (mt 12 4) "Graph.__iter__" (.none) (.none) (.none) (.str "networkx.classes.graph" 294) (.ref 181) 0),
 (183, tu []),
 (185, tu [.str "self" 428, .str "n" 429]),
 (186, tu []),
 (188, { cls := .type "code", data := .fields #[.str "__contains__" 425, .str "Graph.__contains__" 426, .str "/claim/cut.py" 427, .int 150 0, .int 2 0, .int 0 0, .int 0 0, .int 3 0, .ref 183, .bool true, .int 181 0, .ref 184, .none, .ref 185, .ref 186, .ref 187, .int 430 0, .int 150 0, .str "/claim/cut.py" 431] }),
 (189, fo (mt 12 5) "Graph.__contains__" (.none) (.none) (.none) (.str "networkx.classes.graph" 294) (.ref 188) 0),
 (190, tu []),
 (192, tu [.str "self" 436]),
 (193, tu []),
 (195, { cls := .type "code", data := .fields #[.str "__len__" 433, .str "Graph.__len__" 434, .str "/claim/cut.py" 435, .int 153 0, .int 1 0, .int 0 0, .int 0 0, .int 3 0, .ref 190, .bool true, .int 181 0, .ref 191, .none, .ref 192, .ref 193, .ref 194, .int 437 0, .int 153 0, .str "/claim/cut.py" 438] }),
 (196, fo (mt 12 6) "Graph.__len__" (.none) (.none) (.none) (.str "networkx.classes.graph" 294) (.ref 195) 0),
 (197, tu []),
 (199, tu [.str "self" 443, .str "n" 444]),
 (200, tu []),
 (202, { cls := .type "code", data := .fields #[.str "__getitem__" 440, .str "Graph.__getitem__" 441, .str "/claim/cut.py" 442, .int 156 0, .int 2 0, .int 0 0, .int 0 0, .int 3 0, .ref 197, .bool true, .int 181 0, .ref 198, .none, .ref 199, .ref 200, .ref 201, .int 445 0, .int 156 0, .str "/claim/cut.py" 446] }),
 (203, fo (mt 12 7) "Graph.__getitem__" (.none) (.none) (.none) (.str "networkx.classes.graph" 294) (.ref 202) 0),
 (204, tu []),
 (206, tu [.str "self" 451, .str "node_for_adding" 452, .str "attr" 453]),
 (207, tu []),
 (209, { cls := .type "code", data := .fields #[.str "add_node" 448, .str "Graph.add_node" 449, .str "/claim/cut.py" 450, .int 159 0, .int 2 0, .int 0 0, .int 0 0, .int 11 0, .ref 204, .bool true, .int 181 0, .ref 205, .none, .ref 206, .ref 207, .ref 208, .int 454 0, .int 159 0, .str "/claim/cut.py" 455] }),
 (210, fo (mt 12 8) "Graph.add_node" (.none) (.none) (.none) (.str "networkx.classes.graph" 294) (.ref 209) 0),
 (211, tu []),
 (213, tu [.str "self" 460, .str "nodes_for_adding" 461, .str "attr" 462, .str "n" 463]),
 (214, tu []),
 (216, { cls := .type "code", data := .fields #[.str "add_nodes_from" 457, .str "Graph.add_nodes_from" 458, .str "/claim/cut.py" 459, .int 167 0, .int 2 0, .int 0 0, .int 0 0, .int 11 0, .ref 211, .bool true, .int 181 0, .ref 212, .none, .ref 213, .ref 214, .ref 215, .int 464 0, .int 167 0, .str "/claim/cut.py" 465] }),
 (217, fo (mt 12 9) "Graph.add_nodes_from" (.none) (.none) (.none) (.str "networkx.classes.graph" 294) (.ref 216) 0),
 (218, tu []),
 (220, tu [.str "self" 470, .str "u_of_edge" 471, .str "v_of_edge" 472, .str "attr" 473, .str "u" 474, .str "v" 475, .str "datadict" 476]),
 (221, tu []),
 (223, { cls := .type "code", data := .fields #[.str "add_edge" 467, .str "Graph.add_edge" 468, .str "/claim/cut.py" 469, .int 171 0, .int 3 0, .int 0 0, .int 0 0, .int 11 0, .ref 218, .bool true, .int 181 0, .ref 219, .none, .ref 220, .ref 221, .ref 222, .int 477 0, .int 171 0, .str "/claim/cut.py" 478] }),
 (224, fo (mt 12 10) "Graph.add_edge" (.none) (.none) (.none) (.str "networkx.classes.graph" 294) (.ref 223) 0),
 (225, tu []),
 (227, tu [.str "self" 483, .str "ebunch_to_add" 484, .str "attr" 485, .str "e" 486, .str "ne" 487, .str "u" 488, .str "v" 489, .str "dd" 490]),
 (228, tu []),
 (230, { cls := .type "code", data := .fields #[.str "add_edges_from" 480, .str "Graph.add_edges_from" 481, .str "/claim/cut.py" 482, .int 180 0, .int 2 0, .int 0 0, .int 0 0, .int 11 0, .ref 225, .bool true, .int 181 0, .ref 226, .none, .ref 227, .ref 228, .ref 229, .int 491 0, .int 180 0, .str "/claim/cut.py" 492] }),
 (231, fo (mt 12 11) "Graph.add_edges_from" (.none) (.none) (.none) (.str "networkx.classes.graph" 294) (.ref 230) 0),
 (232, tu [.str "weight" 494]),
 (233, tu []),
 (235, tu [.str "self" 498, .str "ebunch_to_add" 499, .str "weight" 500, .str "attr" 501]),
 (236, tu []),
 (238, { cls := .type "code", data := .fields #[.str "add_weighted_edges_from" 495, .str "Graph.add_weighted_edges_from" 496, .str "/claim/cut.py" 497, .int 193 0, .int 3 0, .int 0 0, .int 0 0, .int 11 0, .ref 233, .bool true, .int 181 0, .ref 234, .none, .ref 235, .ref 236, .ref 237, .int 502 0, .int 193 0, .str "/claim/cut.py" 503] }),
 (239, fo (mt 12 12) "Graph.add_weighted_edges_from" (.ref 232) (.none) (.none) (.str "networkx.classes.graph" 294) (.ref 238) 0),
 (240, tu []),
 (242, tu [.str "self" 508, .str "u" 509, .str "v" 510]),
 (243, tu []),
 (245, { cls := .type "code", data := .fields #[.str "remove_edge" 505, .str "Graph.remove_edge" 506, .str "/claim/cut.py" 507, .int 196 0, .int 3 0, .int 0 0, .int 0 0, .int 3 0, .ref 240, .bool true, .int 181 0, .ref 241, .none, .ref 242, .ref 243, .ref 244, .int 511 0, .int 196 0, .str "/claim/cut.py" 512] }),
 (246, fo (mt 12 13) "Graph.remove_edge" (.none) (.none) (.none) (.str "networkx.classes.graph" 294) (.ref 245) 0),
 (247, tu []),
 (249, tu [.str "self" 517, .str "n" 518]),
 (250, tu []),
 (252, { cls := .type "code", data := .fields #[.str "has_node" 514, .str "Graph.has_node" 515, .str "/claim/cut.py" 516, .int 199 0, .int 2 0, .int 0 0, .int 0 0, .int 3 0, .ref 247, .bool true, .int 181 0, .ref 248, .none, .ref 249, .ref 250, .ref 251, .int 519 0, .int 199 0, .str "/claim/cut.py" 520] }),
 (253, fo (mt 12 14) "Graph.has_node" (.none) (.none) (.none) (.str "networkx.classes.graph" 294) (.ref 252) 0),
 (254, tu []),
 (256, tu [.str "self" 525, .str "u" 526, .str "v" 527]),
 (257, tu []),
 (259, { cls := .type "code", data := .fields #[.str "has_edge" 522, .str "Graph.has_edge" 523, .str "/claim/cut.py" 524, .int 202 0, .int 3 0, .int 0 0, .int 0 0, .int 3 0, .ref 254, .bool true, .int 181 0, .ref 255, .none, .ref 256, .ref 257, .ref 258, .int 528 0, .int 202 0, .str "/claim/cut.py" 529] }),
 (260, fo (mt 12 15) "Graph.has_edge" (.none) (.none) (.none) (.str "networkx.classes.graph" 294) (.ref 259) 0),
 (261, tu []),
 (263, tu [.str "self" 534, .str "n" 535]),
 (264, tu []),
 (266, { cls := .type "code", data := .fields #[.str "neighbors" 531, .str "Graph.neighbors" 532, .str "/claim/cut.py" 533, .int 205 0, .int 2 0, .int 0 0, .int 0 0, .int 3 0, .ref 261, .bool true, .int 181 0, .ref 262, .none, .ref 263, .ref 264, .ref 265, .int 536 0, .int 205 0, .str "/claim/cut.py" 537] }),
 (267, fo (mt 12 16) "Graph.neighbors" (.none) (.none) (.none) (.str "networkx.classes.graph" 294) (.ref 266) 0),
 (268, tu []),
 (270, tu [.str "self" 542]),
 (271, tu []),
 (273, { cls := .type "code", data := .fields #[.str "number_of_nodes" 539, .str "Graph.number_of_nodes" 540, .str "/claim/cut.py" 541, .int 208 0, .int 1 0, .int 0 0, .int 0 0, .int 3 0, .ref 268, .bool true, .int 181 0, .ref 269, .none, .ref 270, .ref 271, .ref 272, .int 543 0, .int 208 0, .str "/claim/cut.py" 544] }),
 (274, fo (mt 12 17) "Graph.number_of_nodes" (.none) (.none) (.none) (.str "networkx.classes.graph" 294) (.ref 273) 0),
 (275, tu []),
 (277, tu [.str "self" 549]),
 (278, tu []),
 (280, { cls := .type "code", data := .fields #[.str "number_of_edges" 546, .str "Graph.number_of_edges" 547, .str "/claim/cut.py" 548, .int 211 0, .int 1 0, .int 0 0, .int 0 0, .int 3 0, .ref 275, .bool true, .int 181 0, .ref 276, .none, .ref 277, .ref 278, .ref 279, .int 550 0, .int 211 0, .str "/claim/cut.py" 551] }),
 (281, fo (mt 12 18) "Graph.number_of_edges" (.none) (.none) (.none) (.str "networkx.classes.graph" 294) (.ref 280) 0),
 (282, tu []),
 (284, tu [.str "self" 556]),
 (285, tu []),
 (287, { cls := .type "code", data := .fields #[.str "size" 553, .str "Graph.size" 554, .str "/claim/cut.py" 555, .int 214 0, .int 1 0, .int 0 0, .int 0 0, .int 3 0, .ref 282, .bool true, .int 181 0, .ref 283, .none, .ref 284, .ref 285, .ref 286, .int 557 0, .int 214 0, .str "/claim/cut.py" 558] }),
 (288, fo (mt 12 19) "Graph.size" (.none) (.none) (.none) (.str "networkx.classes.graph" 294) (.ref 287) 0),
 (289, tu []),
 (291, tu [.str "self" 563]),
 (292, tu []),
 (294, { cls := .type "code", data := .fields #[.str "is_multigraph" 560, .str "Graph.is_multigraph" 561, .str "/claim/cut.py" 562, .int 217 0, .int 1 0, .int 0 0, .int 0 0, .int 3 0, .ref 289, .bool true, .int 181 0, .ref 290, .none, .ref 291, .ref 292, .ref 293, .int 564 0, .int 217 0, .str "/claim/cut.py" 565] }),
 (295, fo (mt 12 20) "Graph.is_multigraph" (.none) (.none) (.none) (.str "networkx.classes.graph" 294) (.ref 294) 0),
 (296, tu []),
 (298, tu [.str "self" 570]),
 (299, tu []),
 (301, { cls := .type "code", data := .fields #[.str "is_directed" 567, .str "Graph.is_directed" 568, .str "/claim/cut.py" 569, .int 220 0, .int 1 0, .int 0 0, .int 0 0, .int 3 0, .ref 296, .bool true, .int 181 0, .ref 297, .none, .ref 298, .ref 299, .ref 300, .int 571 0, .int 220 0, .str "/claim/cut.py" 572] }),
 (302, fo (mt 12 21) "Graph.is_directed" (.none) (.none) (.none) (.str "networkx.classes.graph" 294) (.ref 301) 0),
 (303, tu []),
 (306, { cls := .type "code", data := .fields #[.str "edge_rows" 574, .str "Graph.edge_rows" 575, .str "/claim/cut.py" 576, .int 223 0, .int 2 0, .int 0 0, .int 0 0, .int 3 0, .ref 303, .bool true, .int 181 0, .ref 304, .none, .none, .none, .ref 305, .int 577 0, .int 223 0, .str "/claim/cut.py" 578] }),
 (307, fo (mt 12 22) "Graph.edge_rows" (.none) (.none) (.none) (.str "networkx.classes.graph" 294) (.ref 306) 0),
 (308, tu [.str "_adj" 580, .str "_node" 581, .str "graph" 582]),
 (309, { cls := .type "dict", data := .dict #[en P "__module__" 375 (.str "networkx.classes.graph" 294), en P "__firstlineno__" 379 (.int 118 378), en P "__init__" 393 (.ref 151), en P "adj" 401 (.ref 159), en P "nodes" 409 (.ref 167), en P "edges" 417 (.ref 175), en P "__iter__" 424 (.ref 182), en P "__contains__" 432 (.ref 189), en P "__len__" 439 (.ref 196), en P "__getitem__" 447 (.ref 203), en P "add_node" 456 (.ref 210), en P "add_nodes_from" 466 (.ref 217), en P "add_edge" 479 (.ref 224), en P "add_edges_from" 493 (.ref 231), en P "add_weighted_edges_from" 504 (.ref 239), en P "remove_edge" 513 (.ref 246), en P "has_node" 521 (.ref 253), en P "has_edge" 530 (.ref 260), en P "neighbors" 538 (.ref 267), en P "number_of_nodes" 545 (.ref 274), en P "number_of_edges" 552 (.ref 281), en P "size" 559 (.ref 288), en P "is_multigraph" 566 (.ref 295), en P "is_directed" 573 (.ref 302), en P "edge_rows" 579 (.ref 307), en P "__static_attributes__" 583 (.ref 308), en P "__dict__" 585 (.ref 311), en P "__weakref__" 587 (.ref 312), en P "__doc__" 588 (.none)] 4 }),
 (310, { cls := .type "type", data := .cls { name := "Graph", bases := [.type "object"], mro := [.ref 310, .type "object"], ns := 309, qualname := "Graph", hasDict := true, slotNames := [], subclasses := [], abstract := false, collection := none, hasDel := false }, slots := #[none, none, some (.str "Graph" 368), some (.str "Graph" 376), some (.builtin "object.__new__"), some (.bool true)] }),
 (311, { cls := .type "getset_descriptor", data := .fields #[.str "__dict__" 584, .ref 310, .builtin "function.__dict__", .builtin "function.__dict__#set"] }),
 (312, { cls := .type "getset_descriptor", data := .fields #[.str "__weakref__" 586, .ref 310, .builtin "ExceptionGroup.__weakref__", .none] }),
 (315, tu []),
 (318, { cls := .type "code", data := .fields #[.str "_law_draw" 593, .str "_law_draw" 594, .str "/claim/cut.py" 595, .int 234 0, .int 1 0, .int 0 0, .int 0 0, .int 3 0, .ref 315, .bool true, .int 181 0, .ref 316, .none, .none, .none, .ref 317, .int 596 0, .int 234 0, .str "/claim/cut.py" 597] }),
 (319, fo (st 14) "_law_draw" (.none) (.none) (.none) (.str "law_bd0021_01" 591) (.ref 318) 0),
 (320, tu []),
 (322, tu [.str "draw" 602, .str "many" 603, .str "found" 604]),
 (323, tu []),
 (325, { cls := .type "code", data := .fields #[.str "_law_take" 599, .str "_law_take" 600, .str "/claim/cut.py" 601, .int 239 0, .int 2 0, .int 0 0, .int 0 0, .int 3 0, .ref 320, .bool true, .int 181 0, .ref 321, .none, .ref 322, .ref 323, .ref 324, .int 605 0, .int 239 0, .str "/claim/cut.py" 606] }),
 (326, fo (st 15) "_law_take" (.none) (.none) (.none) (.str "law_bd0021_01" 591) (.ref 325) 0),
 (327, tu []),
 (329, tu [.str "kind" 611, .str "graph" 612, .str "pairs" 613]),
 (330, tu []),
 (332, { cls := .type "code", data := .fields #[.str "_law_said" 608, .str "_law_said" 609, .str "/claim/cut.py" 610, .int 246 0, .int 3 0, .int 0 0, .int 0 0, .int 3 0, .ref 327, .bool true, .int 181 0, .ref 328, .none, .ref 329, .ref 330, .ref 331, .int 614 0, .int 246 0, .str "/claim/cut.py" 615] }),
 (333, fo (st 16) "_law_said" (.none) (.none) (.none) (.str "law_bd0021_01" 591) (.ref 332) 0),
 (334, tu []),
 (337, { cls := .type "code", data := .fields #[.str "_law_due" 617, .str "_law_due" 618, .str "/claim/cut.py" 619, .int 253 0, .int 4 0, .int 0 0, .int 0 0, .int 3 0, .ref 334, .bool true, .int 181 0, .ref 335, .none, .none, .none, .ref 336, .int 620 0, .int 253 0, .str "/claim/cut.py" 621] }),
 (338, fo (st 17) "_law_due" (.none) (.none) (.none) (.str "law_bd0021_01" 591) (.ref 337) 0),
 (339, tu []),
 (342, { cls := .type "code", data := .fields #[.str "_law_drawn" 623, .str "_law_drawn" 624, .str "/claim/cut.py" 625, .int 262 0, .int 3 0, .int 0 0, .int 0 0, .int 3 0, .ref 339, .bool true, .int 181 0, .ref 340, .none, .none, .none, .ref 341, .int 626 0, .int 262 0, .str "/claim/cut.py" 627] }),
 (343, fo (st 18) "_law_drawn" (.none) (.none) (.none) (.str "law_bd0021_01" 591) (.ref 342) 0),
 (344, tu []),
 (346, tu [.str "table" 632]),
 (347, tu []),
 (349, { cls := .type "code", data := .fields #[.str "_law_set_of" 629, .str "_law_set_of" 630, .str "/claim/cut.py" 631, .int 272 0, .int 1 0, .int 0 0, .int 0 0, .int 3 0, .ref 344, .bool true, .int 181 0, .ref 345, .none, .ref 346, .ref 347, .ref 348, .int 633 0, .int 272 0, .str "/claim/cut.py" 634] }),
 (350, fo (st 19) "_law_set_of" (.none) (.none) (.none) (.str "law_bd0021_01" 591) (.ref 349) 0),
 (351, tu []),
 (354, { cls := .type "code", data := .fields #[.str "_law_fine" 636, .str "_law_fine" 637, .str "/claim/cut.py" 638, .int 277 0, .int 3 0, .int 0 0, .int 0 0, .int 3 0, .ref 351, .bool true, .int 181 0, .ref 352, .none, .none, .none, .ref 353, .int 639 0, .int 277 0, .str "/claim/cut.py" 640] }),
 (355, fo (st 20) "_law_fine" (.none) (.none) (.none) (.str "law_bd0021_01" 591) (.ref 354) 0),
 (356, tu []),
 (358, tu [.str "script" 645, .str "draw" 646, .str "n" 647, .str "edges" 648, .str "u" 649, .str "v" 650, .str "graph" 651]),
 (359, tu []),
 (361, { cls := .type "code", data := .fields #[.str "law" 642, .str "law" 643, .str "/claim/cut.py" 644, .int 310 0, .int 1 0, .int 0 0, .int 0 0, .int 3 0, .ref 356, .bool true, .int 181 0, .ref 357, .none, .ref 358, .ref 359, .ref 360, .int 652 0, .int 310 0, .str "/claim/cut.py" 653] }),
 (362, fo (st 21) "law" (.none) (.none) (.none) (.str "law_bd0021_01" 591) (.ref 361) 0)]
noncomputable def as : List Addr := [2, 3, 15, 17, 18, 20, 21, 22, 29, 30, 31, 32, 35, 42, 43, 44, 47, 49, 50, 52, 53, 54, 56, 57, 59, 60, 61, 63, 64, 66, 67, 68, 70, 71, 73, 74, 75, 77, 78, 80, 81, 89, 91, 92, 94, 95, 96, 98, 99, 101, 102, 103, 105, 106, 108, 109, 110, 112, 113, 115, 116, 117, 119, 120, 122, 123, 124, 125, 128, 129, 130, 131, 132, 133, 134, 144, 145, 147, 148, 150, 151, 152, 154, 155, 157, 158, 159, 160, 162, 163, 165, 166, 167, 168, 170, 171, 173, 174, 175, 176, 178, 179, 181, 182, 183, 185, 186, 188, 189, 190, 192, 193, 195, 196, 197, 199, 200, 202, 203, 204, 206, 207, 209, 210, 211, 213, 214, 216, 217, 218, 220, 221, 223, 224, 225, 227, 228, 230, 231, 232, 233, 235, 236, 238, 239, 240, 242, 243, 245, 246, 247, 249, 250, 252, 253, 254, 256, 257, 259, 260, 261, 263, 264, 266, 267, 268, 270, 271, 273, 274, 275, 277, 278, 280, 281, 282, 284, 285, 287, 288, 289, 291, 292, 294, 295, 296, 298, 299, 301, 302, 303, 306, 307, 308, 309, 310, 311, 312, 315, 318, 319, 320, 322, 323, 325, 326, 327, 329, 330, 332, 333, 334, 337, 338, 339, 342, 343, 344, 346, 347, 349, 350, 351, 354, 355, 356, 358, 359, 361, 362]
noncomputable def view : Program := { prg with main := { prg.main with body := [st 0, st 2, st 3, st 5, st 6, st 7, st 8, st 9, st 11, st 13, st 14, st 15, st 16, st 17, st 18, st 19, st 20, st 21] } }
noncomputable abbrev hook : Hook := kHook K as (fun _ => by kernel_rfl)
noncomputable abbrev loose : List Str := ["Graph"]
noncomputable def fo0 (x : Stmt) (qual : Str) : Obj := match x with
 | .FunctionDef (name := n) (args := ps) (body := bd) (scope := sc) .. => { cls := .none, data := .func { name := n, qualname := qual, params := ps, body := .stmts bd, scope := sc, globals := 0, closure := [], defaults := .none, kwdefaults := .none } }
 | _ => default
noncomputable def cb (n q : Str) (t : Tok) (l a b c d : Int) (r1 r2 r3 r4 r5 : Addr) (e : Int) : Obj := { cls := .type "code", data := .fields #[.str n t, .str q (t + 1), .str "/claim/cut.py" (t + 2), .int l 0, .int a 0, .int b 0, .int c 0, .int d 0, .ref r1, .bool true, .int 181 0, .ref r2, .none, .ref r3, .ref r4, .ref r5, .int e 0, .int l 0, .str "/claim/cut.py" (e.toNat + 1)] }
noncomputable def eo : Obj := { cls := .none, data := .fields #[] }
noncomputable def e0 : Obj := tu []
noncomputable def sts (n : Tok) : List Str → List Value
 | [] => []
 | x :: r => .str x n :: sts (n + 1) r
noncomputable def ts (n : Tok) (l : List Str) : Obj := tu (sts n l)
noncomputable def O (P : Params) : List Obj := [
 e0, eo, ts 190 ["k"], e0, fo0 (st 0) "_wall", cb "_wall" "_wall" 187 1 1 0 0 3 15 16 17 18 19 191, fo (st 0) "_wall" (.none) (.none) (.none) (.str "__main__" 164) (.ref 20) 0, tu [.type "Exception"], { cls := .type "builtin_function_or_method", data := .fields #[.builtin "type.__prepare__", .type "type"] }, { cls := .type "dict", data := .dict #[en P "__module__" 203 (.str "networkx.exception" 194), en P "__qualname__" 205 (.str "NetworkXException" 204), en P "__firstlineno__" 207 (.int 5 206), en P "__static_attributes__" 208 (.ref 29)] 4 }, e0, eo, { cls := .type "code", data := .fields #[.str "NetworkXException" 198, .str "NetworkXException" 199, .str "/claim/cut.py" 200, .int 5 0, .int 0 0, .int 0 0, .int 0 0, .int 0 0, .ref 25, .bool false, .int 181 0, .ref 26, .none, .none, .none, .none, .int 201 0, .int 5 0, .str "/claim/cut.py" 202] }, { cls := .type "frame", slots := #[some (.ref 27), some (.ref 3), some (.ref 24), none, some (.str "networkx.exception" 194), none, some (.ref 0)] }, e0, { cls := .type "dict", data := .dict #[en P "__module__" 203 (.str "networkx.exception" 194), en P "__firstlineno__" 207 (.int 5 206), en P "__static_attributes__" 208 (.ref 29), en P "__weakref__" 210 (.ref 32), en P "__doc__" 211 (.none)] 3 }, { cls := .type "type", data := .cls { name := "NetworkXException", bases := [.type "Exception"], mro := [.ref 31, .type "Exception", .type "BaseException", .type "object"], ns := 30, qualname := "NetworkXException", hasDict := true, slotNames := [], subclasses := [.ref 44], abstract := false, collection := none, hasDel := false }, slots := #[some (.ref 22), none, some (.str "NetworkXException" 196), some (.str "NetworkXException" 204), some (.builtin "Exception.__new__"), some (.bool true)] }, { cls := .type "getset_descriptor", data := .fields #[.str "__weakref__" 209, .ref 31, .builtin "ExceptionGroup.__weakref__", .none] }, { cls := .type "super", data := .fields #[.ref 31, .ref 31, .ref 31] }, { cls := .type "builtin_function_or_method", data := .fields #[.builtin "object.__init_subclass__", .ref 31] }, tu [.ref 31], { cls := .type "builtin_function_or_method", data := .fields #[.builtin "type.__prepare__", .type "type"] }, { cls := .type "dict", data := .dict #[en P "__module__" 223 (.str "networkx.exception" 194), en P "__qualname__" 225 (.str "NetworkXError" 224), en P "__firstlineno__" 227 (.int 7 226), en P "__static_attributes__" 228 (.ref 42)] 4 }, e0, eo, { cls := .type "code", data := .fields #[.str "NetworkXError" 218, .str "NetworkXError" 219, .str "/claim/cut.py" 220, .int 7 0, .int 0 0, .int 0 0, .int 0 0, .int 0 0, .ref 38, .bool false, .int 181 0, .ref 39, .none, .none, .none, .none, .int 221 0, .int 7 0, .str "/claim/cut.py" 222] }, { cls := .type "frame", slots := #[some (.ref 40), some (.ref 3), some (.ref 37), none, some (.str "networkx.exception" 194), none, some (.ref 0)] }, e0, { cls := .type "dict", data := .dict #[en P "__module__" 223 (.str "networkx.exception" 194), en P "__firstlineno__" 227 (.int 7 226), en P "__static_attributes__" 228 (.ref 42), en P "__doc__" 229 (.none)] 2 }, { cls := .type "type", data := .cls { name := "NetworkXError", bases := [.ref 31], mro := [.ref 44, .ref 31, .type "Exception", .type "BaseException", .type "object"], ns := 43, qualname := "NetworkXError", hasDict := true, slotNames := [], subclasses := [], abstract := false, collection := none, hasDel := false }, slots := #[some (.ref 35), none, some (.str "NetworkXError" 216), some (.str "NetworkXError" 224), some (.builtin "Exception.__new__"), some (.bool true)] }, { cls := .type "super", data := .fields #[.ref 44, .ref 44, .ref 44] }, { cls := .type "builtin_function_or_method", data := .fields #[.builtin "object.__init_subclass__", .ref 44] }, e0, eo, ts 237 ["G", "matching", "nodes", "edge", "u", "v"], e0, fo0 (st 5) "maximal_matching", cb "maximal_matching" "maximal_matching" 234 10 1 0 0 3 47 48 49 50 51 243, fo (st 5) "maximal_matching" (.none) (.none) (.none) (.str "networkx.algorithms.matching" 232) (.ref 52) 0, e0, eo, ts 249 ["matching", "edges", "edge", "u", "v"], e0, fo0 (st 6) "matching_dict_to_set", cb "matching_dict_to_set" "matching_dict_to_set" 246 19 1 0 0 3 54 55 56 57 58 254, fo (st 6) "matching_dict_to_set" (.none) (.none) (.none) (.str "networkx.algorithms.matching" 232) (.ref 59) 0, e0, eo, ts 260 ["G", "matching", "nodes", "edge", "u", "v"], e0, fo0 (st 7) "is_matching", cb "is_matching" "is_matching" 257 29 2 0 0 3 61 62 63 64 65 266, fo (st 7) "is_matching" (.none) (.none) (.none) (.str "networkx.algorithms.matching" 232) (.ref 66) 0, e0, eo, ts 272 ["G", "matching", "edges", "nodes", "edge", "u", "v"], e0, fo0 (st 8) "is_maximal_matching", cb "is_maximal_matching" "is_maximal_matching" 269 47 2 0 0 3 68 69 70 71 72 279, fo (st 8) "is_maximal_matching" (.none) (.none) (.none) (.str "networkx.algorithms.matching" 232) (.ref 73) 0, e0, eo, ts 285 ["G", "matching", "nodes", "edge", "u", "v"], e0, fo0 (st 9) "is_perfect_matching", cb "is_perfect_matching" "is_perfect_matching" 282 72 2 0 0 3 75 76 77 78 79 291, fo (st 9) "is_perfect_matching" (.none) (.none) (.none) (.str "networkx.algorithms.matching" 232) (.ref 80) 0, e0, { cls := .type "builtin_function_or_method", data := .fields #[.builtin "type.__prepare__", .type "type"] }, { cls := .type "dict", data := .dict #[en P "__module__" 303 (.str "networkx.classes.graph" 294), en P "__qualname__" 305 (.str "EdgeView" 304), en P "__firstlineno__" 307 (.int 91 306), en P "__init__" 315 (.ref 95), en P "__len__" 322 (.ref 102), en P "__iter__" 332 (.ref 109), en P "__contains__" 342 (.ref 116), en P "__getitem__" 352 (.ref 123), en P "__call__" 358 (.ref 129), en P "__static_attributes__" 360 (.ref 130)] 10 }, e0, { cls := .none, data := .fields #[.int 93 0, .int 4 0, .ref 94, .int 96 0, .int 4 0, .ref 101, .int 99 0, .int 4 0, .ref 108, .int 103 0, .int 4 0, .ref 115, .int 107 0, .int 4 0, .ref 122, .int 111 0, .int 4 0, .ref 128] }, { cls := .type "code", data := .fields #[.str "EdgeView" 298, .str "EdgeView" 299, .str "/claim/cut.py" 300, .int 91 0, .int 0 0, .int 0 0, .int 0 0, .int 0 0, .ref 85, .bool false, .int 181 0, .ref 86, .none, .none, .none, .none, .int 301 0, .int 91 0, .str "/claim/cut.py" 302] }, { cls := .type "frame", slots := #[some (.ref 87), some (.ref 3), some (.ref 84), none, some (.str "networkx.classes.graph" 294), none, some (.ref 0)] }, e0, eo, ts 311 ["self", "G"], e0, fo0 (mt 11 0) "EdgeView.__init__", cb "__init__" "EdgeView.__init__" 308 93 2 0 0 3 89 90 91 92 93 313, fo (mt 11 0) "EdgeView.__init__" (.none) (.none) (.none) (.str "networkx.classes.graph" 294) (.ref 94) 0, e0, eo, ts 319 ["self"], e0, fo0 (mt 11 1) "EdgeView.__len__", cb "__len__" "EdgeView.__len__" 316 96 1 0 0 3 96 97 98 99 100 320, fo (mt 11 1) "EdgeView.__len__" (.none) (.none) (.none) (.str "networkx.classes.graph" 294) (.ref 101) 0, e0, eo, ts 326 ["self", "u", "v", "d"], e0, fo0 (mt 11 2) "EdgeView.__iter__", cb "__iter__" "EdgeView.__iter__" 323 99 1 0 0 35 103 104 105 106 107 330, fo (mt 11 2) "EdgeView.__iter__" (.none) (.none) (.none) (.str "networkx.classes.graph" 294) (.ref 108) 0, e0, eo, ts 336 ["self", "e", "u", "v"], e0, fo0 (mt 11 3) "EdgeView.__contains__", cb "__contains__" "EdgeView.__contains__" 333 103 2 0 0 3 110 111 112 113 114 340, fo (mt 11 3) "EdgeView.__contains__" (.none) (.none) (.none) (.str "networkx.classes.graph" 294) (.ref 115) 0, e0, eo, ts 346 ["self", "e", "u", "v"], e0, fo0 (mt 11 4) "EdgeView.__getitem__", cb "__getitem__" "EdgeView.__getitem__" 343 107 2 0 0 3 117 118 119 120 121 350, fo (mt 11 4) "EdgeView.__getitem__" (.none) (.none) (.none) (.str "networkx.classes.graph" 294) (.ref 122) 0, tu [.none, .bool false, .none], e0, eo, fo0 (mt 11 5) "EdgeView.__call__", { cls := .type "code", data := .fields #[.str "__call__" 353, .str "EdgeView.__call__" 354, .str "/claim/cut.py" 355, .int 111 0, .int 4 0, .int 0 0, .int 0 0, .int 3 0, .ref 125, .bool true, .int 181 0, .ref 126, .none, .none, .none, .ref 127, .int 356 0, .int 111 0, .str "/claim/cut.py" 357] }, fo (mt 11 5) "EdgeView.__call__" (.ref 124) (.none) (.none) (.str "networkx.classes.graph" 294) (.ref 128) 0, ts 359 ["_graph"], { cls := .type "dict", data := .dict #[en P "__module__" 303 (.str "networkx.classes.graph" 294), en P "__firstlineno__" 307 (.int 91 306), en P "__init__" 315 (.ref 95), en P "__len__" 322 (.ref 102), en P "__iter__" 332 (.ref 109), en P "__contains__" 342 (.ref 116), en P "__getitem__" 352 (.ref 123), en P "__call__" 358 (.ref 129), en P "__static_attributes__" 360 (.ref 130), en P "__dict__" 362 (.ref 133), en P "__weakref__" 364 (.ref 134), en P "__doc__" 365 (.none)] 4 }, { cls := .type "type", data := .cls { name := "EdgeView", bases := [.type "object"], mro := [.ref 132, .type "object"], ns := 131, qualname := "EdgeView", hasDict := true, slotNames := [], subclasses := [], abstract := false, collection := none, hasDel := false }, slots := #[none, none, some (.str "EdgeView" 296), some (.str "EdgeView" 304), some (.builtin "object.__new__"), some (.bool true)] }, { cls := .type "getset_descriptor", data := .fields #[.str "__dict__" 361, .ref 132, .builtin "function.__dict__", .builtin "function.__dict__#set"] }, { cls := .type "getset_descriptor", data := .fields #[.str "__weakref__" 363, .ref 132, .builtin "ExceptionGroup.__weakref__", .none] }, { cls := .type "super", data := .fields #[.ref 132, .ref 132, .ref 132] }, { cls := .type "builtin_function_or_method", data := .fields #[.builtin "object.__init_subclass__", .ref 132] }, e0, { cls := .type "builtin_function_or_method", data := .fields #[.builtin "type.__prepare__", .type "type"] }, { cls := .type "dict", data := .dict #[en P "__module__" 375 (.str "networkx.classes.graph" 294), en P "__qualname__" 377 (.str "Graph" 376), en P "__firstlineno__" 379 (.int 118 378), en P "__init__" 393 (.ref 151), en P "adj" 401 (.ref 159), en P "nodes" 409 (.ref 167), en P "edges" 417 (.ref 175), en P "__iter__" 424 (.ref 182), en P "__contains__" 432 (.ref 189), en P "__len__" 439 (.ref 196), en P "__getitem__" 447 (.ref 203), en P "add_node" 456 (.ref 210), en P "add_nodes_from" 466 (.ref 217), en P "add_edge" 479 (.ref 224), en P "add_edges_from" 493 (.ref 231), en P "add_weighted_edges_from" 504 (.ref 239), en P "remove_edge" 513 (.ref 246), en P "has_node" 521 (.ref 253), en P "has_edge" 530 (.ref 260), en P "neighbors" 538 (.ref 267), en P "number_of_nodes" 545 (.ref 274), en P "number_of_edges" 552 (.ref 281), en P "size" 559 (.ref 288), en P "is_multigraph" 566 (.ref 295), en P "is_directed" 573 (.ref 302), en P "edge_rows" 579 (.ref 307), en P "__static_attributes__" 583 (.ref 308)] 27 }, e0, { cls := .none, data := .fields #[.int 120 0, .int 4 0, .ref 150, .int 136 0, .int 4 0, .ref 157, .int 140 0, .int 4 0, .ref 165, .int 144 0, .int 4 0, .ref 173, .int 147 0, .int 4 0, .ref 181, .int 150 0, .int 4 0, .ref 188, .int 153 0, .int 4 0, .ref 195, .int 156 0, .int 4 0, .ref 202, .int 159 0, .int 4 0, .ref 209, .int 167 0, .int 4 0, .ref 216, .int 171 0, .int 4 0, .ref 223, .int 180 0, .int 4 0, .ref 230, .int 193 0, .int 4 0, .ref 238, .int 196 0, .int 4 0, .ref 245, .int 199 0, .int 4 0, .ref 252, .int 202 0, .int 4 0, .ref 259, .int 205 0, .int 4 0, .ref 266, .int 208 0, .int 4 0, .ref 273, .int 211 0, .int 4 0, .ref 280, .int 214 0, .int 4 0, .ref 287, .int 217 0, .int 4 0, .ref 294, .int 220 0, .int 4 0, .ref 301, .int 223 0, .int 4 0, .ref 306] }, { cls := .type "code", data := .fields #[.str "Graph" 370, .str "Graph" 371, .str "/claim/cut.py" 372, .int 118 0, .int 0 0, .int 0 0, .int 0 0, .int 0 0, .ref 140, .bool false, .int 181 0, .ref 141, .none, .none, .none, .none, .int 373 0, .int 118 0, .str "/claim/cut.py" 374] }, { cls := .type "frame", slots := #[some (.ref 142), some (.ref 3), some (.ref 139), none, some (.str "networkx.classes.graph" 294), none, some (.ref 0)] }, tu [.none], e0, eo, ts 383 ["self", "incoming_graph_data", "attr", "n", "d", "u", "nbrs", "v"], e0, fo0 (mt 12 0) "Graph.__init__", cb "__init__" "Graph.__init__" 380 120 2 0 0 11 145 146 147 148 149 391, fo (mt 12 0) "Graph.__init__" (.ref 144) (.none) (.none) (.str "networkx.classes.graph" 294) (.ref 150) 0, e0, eo, ts 397 ["self"], e0, fo0 (mt 12 1) "Graph.adj", cb "adj" "Graph.adj" 394 135 1 0 0 3 152 153 154 155 156 398, fo (mt 12 1) "Graph.adj" (.none) (.none) (.none) (.str "networkx.classes.graph" 294) (.ref 157) 0, { cls := .type "property", data := .fields #[.ref 158, .none, .none, .none, .str "adj" 401, .bool false] }, e0, eo, ts 405 ["self"], e0, fo0 (mt 12 2) "Graph.nodes", cb "nodes" "Graph.nodes" 402 139 1 0 0 3 160 161 162 163 164 406, fo (mt 12 2) "Graph.nodes" (.none) (.none) (.none) (.str "networkx.classes.graph" 294) (.ref 165) 0, { cls := .type "property", data := .fields #[.ref 166, .none, .none, .none, .str "nodes" 409, .bool false] }, e0, eo, ts 413 ["self"], e0, fo0 (mt 12 3) "Graph.edges", cb "edges" "Graph.edges" 410 143 1 0 0 3 168 169 170 171 172 414, fo (mt 12 3) "Graph.edges" (.none) (.none) (.none) (.str "networkx.classes.graph" 294) (.ref 173) 0, { cls := .type "property", data := .fields #[.ref 174, .none, .none, .none, .str "edges" 417, .bool false] }, e0, eo, ts 421 ["self"], e0, fo0 (mt 12 4) "Graph.__iter__", cb "__iter__" "Graph.__iter__" 418 147 1 0 0 3 176 177 178 179 180 422, fo (mt 12 4) "Graph.__iter__" (.none) (.none) (.none) (.str "networkx.classes.graph" 294) (.ref 181) 0, e0, eo, ts 428 ["self", "n"], e0, fo0 (mt 12 5) "Graph.__contains__", cb "__contains__" "Graph.__contains__" 425 150 2 0 0 3 183 184 185 186 187 430, fo (mt 12 5) "Graph.__contains__" (.none) (.none) (.none) (.str "networkx.classes.graph" 294) (.ref 188) 0, e0, eo, ts 436 ["self"], e0, fo0 (mt 12 6) "Graph.__len__", cb "__len__" "Graph.__len__" 433 153 1 0 0 3 190 191 192 193 194 437, fo (mt 12 6) "Graph.__len__" (.none) (.none) (.none) (.str "networkx.classes.graph" 294) (.ref 195) 0, e0, eo, ts 443 ["self", "n"], e0, fo0 (mt 12 7) "Graph.__getitem__", cb "__getitem__" "Graph.__getitem__" 440 156 2 0 0 3 197 198 199 200 201 445, fo (mt 12 7) "Graph.__getitem__" (.none) (.none) (.none) (.str "networkx.classes.graph" 294) (.ref 202) 0, e0, eo, ts 451 ["self", "node_for_adding", "attr"], e0, fo0 (mt 12 8) "Graph.add_node", cb "add_node" "Graph.add_node" 448 159 2 0 0 11 204 205 206 207 208 454, fo (mt 12 8) "Graph.add_node" (.none) (.none) (.none) (.str "networkx.classes.graph" 294) (.ref 209) 0, e0, eo, ts 460 ["self", "nodes_for_adding", "attr", "n"], e0, fo0 (mt 12 9) "Graph.add_nodes_from", cb "add_nodes_from" "Graph.add_nodes_from" 457 167 2 0 0 11 211 212 213 214 215 464, fo (mt 12 9) "Graph.add_nodes_from" (.none) (.none) (.none) (.str "networkx.classes.graph" 294) (.ref 216) 0, e0, eo, ts 470 ["self", "u_of_edge", "v_of_edge", "attr", "u", "v", "datadict"], e0, fo0 (mt 12 10) "Graph.add_edge", cb "add_edge" "Graph.add_edge" 467 171 3 0 0 11 218 219 220 221 222 477, fo (mt 12 10) "Graph.add_edge" (.none) (.none) (.none) (.str "networkx.classes.graph" 294) (.ref 223) 0, e0, eo, ts 483 ["self", "ebunch_to_add", "attr", "e", "ne", "u", "v", "dd"], e0, fo0 (mt 12 11) "Graph.add_edges_from", cb "add_edges_from" "Graph.add_edges_from" 480 180 2 0 0 11 225 226 227 228 229 491, fo (mt 12 11) "Graph.add_edges_from" (.none) (.none) (.none) (.str "networkx.classes.graph" 294) (.ref 230) 0, ts 494 ["weight"], e0, eo, ts 498 ["self", "ebunch_to_add", "weight", "attr"], e0, fo0 (mt 12 12) "Graph.add_weighted_edges_from", cb "add_weighted_edges_from" "Graph.add_weighted_edges_from" 495 193 3 0 0 11 233 234 235 236 237 502, fo (mt 12 12) "Graph.add_weighted_edges_from" (.ref 232) (.none) (.none) (.str "networkx.classes.graph" 294) (.ref 238) 0, e0, eo, ts 508 ["self", "u", "v"], e0, fo0 (mt 12 13) "Graph.remove_edge", cb "remove_edge" "Graph.remove_edge" 505 196 3 0 0 3 240 241 242 243 244 511, fo (mt 12 13) "Graph.remove_edge" (.none) (.none) (.none) (.str "networkx.classes.graph" 294) (.ref 245) 0, e0, eo, ts 517 ["self", "n"], e0, fo0 (mt 12 14) "Graph.has_node", cb "has_node" "Graph.has_node" 514 199 2 0 0 3 247 248 249 250 251 519, fo (mt 12 14) "Graph.has_node" (.none) (.none) (.none) (.str "networkx.classes.graph" 294) (.ref 252) 0, e0, eo, ts 525 ["self", "u", "v"], e0, fo0 (mt 12 15) "Graph.has_edge", cb "has_edge" "Graph.has_edge" 522 202 3 0 0 3 254 255 256 257 258 528, fo (mt 12 15) "Graph.has_edge" (.none) (.none) (.none) (.str "networkx.classes.graph" 294) (.ref 259) 0, e0, eo, ts 534 ["self", "n"], e0, fo0 (mt 12 16) "Graph.neighbors", cb "neighbors" "Graph.neighbors" 531 205 2 0 0 3 261 262 263 264 265 536, fo (mt 12 16) "Graph.neighbors" (.none) (.none) (.none) (.str "networkx.classes.graph" 294) (.ref 266) 0, e0, eo, ts 542 ["self"], e0, fo0 (mt 12 17) "Graph.number_of_nodes", cb "number_of_nodes" "Graph.number_of_nodes" 539 208 1 0 0 3 268 269 270 271 272 543, fo (mt 12 17) "Graph.number_of_nodes" (.none) (.none) (.none) (.str "networkx.classes.graph" 294) (.ref 273) 0, e0, eo, ts 549 ["self"], e0, fo0 (mt 12 18) "Graph.number_of_edges", cb "number_of_edges" "Graph.number_of_edges" 546 211 1 0 0 3 275 276 277 278 279 550, fo (mt 12 18) "Graph.number_of_edges" (.none) (.none) (.none) (.str "networkx.classes.graph" 294) (.ref 280) 0, e0, eo, ts 556 ["self"], e0, fo0 (mt 12 19) "Graph.size", cb "size" "Graph.size" 553 214 1 0 0 3 282 283 284 285 286 557, fo (mt 12 19) "Graph.size" (.none) (.none) (.none) (.str "networkx.classes.graph" 294) (.ref 287) 0, e0, eo, ts 563 ["self"], e0, fo0 (mt 12 20) "Graph.is_multigraph", cb "is_multigraph" "Graph.is_multigraph" 560 217 1 0 0 3 289 290 291 292 293 564, fo (mt 12 20) "Graph.is_multigraph" (.none) (.none) (.none) (.str "networkx.classes.graph" 294) (.ref 294) 0, e0, eo, ts 570 ["self"], e0, fo0 (mt 12 21) "Graph.is_directed", cb "is_directed" "Graph.is_directed" 567 220 1 0 0 3 296 297 298 299 300 571, fo (mt 12 21) "Graph.is_directed" (.none) (.none) (.none) (.str "networkx.classes.graph" 294) (.ref 301) 0, e0, eo, fo0 (mt 12 22) "Graph.edge_rows", { cls := .type "code", data := .fields #[.str "edge_rows" 574, .str "Graph.edge_rows" 575, .str "/claim/cut.py" 576, .int 223 0, .int 2 0, .int 0 0, .int 0 0, .int 3 0, .ref 303, .bool true, .int 181 0, .ref 304, .none, .none, .none, .ref 305, .int 577 0, .int 223 0, .str "/claim/cut.py" 578] }, fo (mt 12 22) "Graph.edge_rows" (.none) (.none) (.none) (.str "networkx.classes.graph" 294) (.ref 306) 0, ts 580 ["_adj", "_node", "graph"], { cls := .type "dict", data := .dict #[en P "__module__" 375 (.str "networkx.classes.graph" 294), en P "__firstlineno__" 379 (.int 118 378), en P "__init__" 393 (.ref 151), en P "adj" 401 (.ref 159), en P "nodes" 409 (.ref 167), en P "edges" 417 (.ref 175), en P "__iter__" 424 (.ref 182), en P "__contains__" 432 (.ref 189), en P "__len__" 439 (.ref 196), en P "__getitem__" 447 (.ref 203), en P "add_node" 456 (.ref 210), en P "add_nodes_from" 466 (.ref 217), en P "add_edge" 479 (.ref 224), en P "add_edges_from" 493 (.ref 231), en P "add_weighted_edges_from" 504 (.ref 239), en P "remove_edge" 513 (.ref 246), en P "has_node" 521 (.ref 253), en P "has_edge" 530 (.ref 260), en P "neighbors" 538 (.ref 267), en P "number_of_nodes" 545 (.ref 274), en P "number_of_edges" 552 (.ref 281), en P "size" 559 (.ref 288), en P "is_multigraph" 566 (.ref 295), en P "is_directed" 573 (.ref 302), en P "edge_rows" 579 (.ref 307), en P "__static_attributes__" 583 (.ref 308), en P "__dict__" 585 (.ref 311), en P "__weakref__" 587 (.ref 312), en P "__doc__" 588 (.none)] 4 }, { cls := .type "type", data := .cls { name := "Graph", bases := [.type "object"], mro := [.ref 310, .type "object"], ns := 309, qualname := "Graph", hasDict := true, slotNames := [], subclasses := [], abstract := false, collection := none, hasDel := false }, slots := #[none, none, some (.str "Graph" 368), some (.str "Graph" 376), some (.builtin "object.__new__"), some (.bool true)] }, { cls := .type "getset_descriptor", data := .fields #[.str "__dict__" 584, .ref 310, .builtin "function.__dict__", .builtin "function.__dict__#set"] }, { cls := .type "getset_descriptor", data := .fields #[.str "__weakref__" 586, .ref 310, .builtin "ExceptionGroup.__weakref__", .none] }, { cls := .type "super", data := .fields #[.ref 310, .ref 310, .ref 310] }, { cls := .type "builtin_function_or_method", data := .fields #[.builtin "object.__init_subclass__", .ref 310] }, e0, eo, fo0 (st 14) "_law_draw", { cls := .type "code", data := .fields #[.str "_law_draw" 593, .str "_law_draw" 594, .str "/claim/cut.py" 595, .int 234 0, .int 1 0, .int 0 0, .int 0 0, .int 3 0, .ref 315, .bool true, .int 181 0, .ref 316, .none, .none, .none, .ref 317, .int 596 0, .int 234 0, .str "/claim/cut.py" 597] }, fo (st 14) "_law_draw" (.none) (.none) (.none) (.str "law_bd0021_01" 591) (.ref 318) 0, e0, eo, ts 602 ["draw", "many", "found"], e0, fo0 (st 15) "_law_take", cb "_law_take" "_law_take" 599 239 2 0 0 3 320 321 322 323 324 605, fo (st 15) "_law_take" (.none) (.none) (.none) (.str "law_bd0021_01" 591) (.ref 325) 0, e0, eo, ts 611 ["kind", "graph", "pairs"], e0, fo0 (st 16) "_law_said", cb "_law_said" "_law_said" 608 246 3 0 0 3 327 328 329 330 331 614, fo (st 16) "_law_said" (.none) (.none) (.none) (.str "law_bd0021_01" 591) (.ref 332) 0, e0, eo, fo0 (st 17) "_law_due", { cls := .type "code", data := .fields #[.str "_law_due" 617, .str "_law_due" 618, .str "/claim/cut.py" 619, .int 253 0, .int 4 0, .int 0 0, .int 0 0, .int 3 0, .ref 334, .bool true, .int 181 0, .ref 335, .none, .none, .none, .ref 336, .int 620 0, .int 253 0, .str "/claim/cut.py" 621] }, fo (st 17) "_law_due" (.none) (.none) (.none) (.str "law_bd0021_01" 591) (.ref 337) 0, e0, eo, fo0 (st 18) "_law_drawn", { cls := .type "code", data := .fields #[.str "_law_drawn" 623, .str "_law_drawn" 624, .str "/claim/cut.py" 625, .int 262 0, .int 3 0, .int 0 0, .int 0 0, .int 3 0, .ref 339, .bool true, .int 181 0, .ref 340, .none, .none, .none, .ref 341, .int 626 0, .int 262 0, .str "/claim/cut.py" 627] }, fo (st 18) "_law_drawn" (.none) (.none) (.none) (.str "law_bd0021_01" 591) (.ref 342) 0, e0, eo, ts 632 ["table"], e0, fo0 (st 19) "_law_set_of", cb "_law_set_of" "_law_set_of" 629 272 1 0 0 3 344 345 346 347 348 633, fo (st 19) "_law_set_of" (.none) (.none) (.none) (.str "law_bd0021_01" 591) (.ref 349) 0, e0, eo, fo0 (st 20) "_law_fine", { cls := .type "code", data := .fields #[.str "_law_fine" 636, .str "_law_fine" 637, .str "/claim/cut.py" 638, .int 277 0, .int 3 0, .int 0 0, .int 0 0, .int 3 0, .ref 351, .bool true, .int 181 0, .ref 352, .none, .none, .none, .ref 353, .int 639 0, .int 277 0, .str "/claim/cut.py" 640] }, fo (st 20) "_law_fine" (.none) (.none) (.none) (.str "law_bd0021_01" 591) (.ref 354) 0, e0, eo, ts 645 ["script", "draw", "n", "edges", "u", "v", "graph"], e0, fo0 (st 21) "law", cb "law" "law" 642 310 1 0 0 3 356 357 358 359 360 652, fo (st 21) "law" (.none) (.none) (.none) (.str "law_bd0021_01" 591) (.ref 361) 0]
noncomputable def E3 (P : Params) : List DictEntry := [en P "__doc__" 166 (.none), en P "__package__" 167 (.none), en P "__loader__" 168 (.builtin "__main__.__loader__#opaque"), en P "__spec__" 169 (.none), en P "__annotations__" 170 (.ref 6), en P "__builtins__" 171 (.ref 4), en P "__file__" 173 (.str "/claim/cut.py" 172), en P "__cached__" 174 (.none), en P "_wall" 193 (.ref 21), en P "NetworkXException" 215 (.ref 31), en P "NetworkXError" 231 (.ref 44), en P "maximal_matching" 245 (.ref 53), en P "matching_dict_to_set" 256 (.ref 60), en P "is_matching" 268 (.ref 67), en P "is_maximal_matching" 281 (.ref 74), en P "is_perfect_matching" 293 (.ref 81), en P "EdgeView" 367 (.ref 132), en P "Graph" 590 (.ref 310), en P "_law_draw" 598 (.ref 319), en P "_law_take" 607 (.ref 326), en P "_law_said" 616 (.ref 333), en P "_law_due" 622 (.ref 338), en P "_law_drawn" 628 (.ref 343), en P "_law_set_of" 635 (.ref 350), en P "_law_fine" 641 (.ref 355), en P "law" 654 (.ref 362)]
noncomputable def F12 : List Value := [.int 1 0, .int 0 0, .ref 20, .int 5 0, .int 0 0, .ref 27, .int 7 0, .int 0 0, .ref 40, .int 10 0, .int 0 0, .ref 52, .int 19 0, .int 0 0, .ref 59, .int 29 0, .int 0 0, .ref 66, .int 47 0, .int 0 0, .ref 73, .int 72 0, .int 0 0, .ref 80, .int 91 0, .int 0 0, .ref 87, .int 118 0, .int 0 0, .ref 142, .int 234 0, .int 0 0, .ref 318, .int 239 0, .int 0 0, .ref 325, .int 246 0, .int 0 0, .ref 332, .int 253 0, .int 0 0, .ref 337, .int 262 0, .int 0 0, .ref 342, .int 272 0, .int 0 0, .ref 349, .int 277 0, .int 0 0, .ref 354, .int 310 0, .int 0 0, .ref 361]
noncomputable def Hp (P : Params) (n : Nat) (nm : Str) (t : Tok) (k e v : Nat) (b : Bool) : Heap := ⟨⟨boot_o_0 P :: boot_o_1 P :: (if b then boot_o_2 P else { cls := .none, data := .dict #[en P "type.__subclasses__.Exception.0" 212 (.int 31 0), en P "type.__subclasses__.Exception.n" 213 (.int 1 0)] 2 }) ::
 { cls := .type "dict", data := .dict ⟨en P "__name__" 165 (.str nm t) :: (E3 P).take k⟩ e } :: boot_o_4 P :: boot_o_5 P :: boot_o_6 P :: boot_o_7 P :: boot_o_8 P :: boot_o_9 P :: boot_o_10 P :: tu [] :: { cls := .none, data := .fields ⟨F12.take v⟩ } ::
 { cls := .type "code", data := .fields #[.str "<module>" 182, .str "<module>" 183, .str "/claim/cut.py" 184, .int 1 0, .int 0 0, .int 0 0, .int 0 0, .int 0 0, .ref 11, .bool false, .int 181 0, .ref 12, .none, .none, .none, .none, .int 185 0, .int 1 0, .str "/claim/cut.py" 186] } :: { cls := .type "frame", slots := #[some (.ref 13), some (.ref 3), some (.ref 3), none, some (.str "__main__" 164), none, some (.ref 0)] } :: (O P).take n⟩, (boot_heap P).life⟩
noncomputable abbrev bE : List Stmt := behindTheImports prg
noncomputable abbrev nv : Env := { scope := prg.main.scope, locals := mainNs, globals := mainNs, cells := [], code := .ref 13, frame := some 14 }
abbrev pz : Pos := ⟨0, 0, 0, 0⟩
noncomputable abbrev cE : Code := .body bE nv
noncomputable abbrev S0 (w : World) (os : OsState) : Shared := ⟨boot_heap w.params, #[], boot_drawn, boot_toks, os⟩
noncomputable abbrev Sa (w : World) (os : OsState) : Shared := ⟨Hp w.params 0 "__main__" 164 8 9 0 true, #[], boot_drawn, 187, os⟩
noncomputable abbrev S1 (w : World) (os : OsState) : Shared := ⟨Hp w.params 122 "networkx.classes.graph" 294 17 18 27 false, #[], boot_drawn, 368, os⟩
noncomputable abbrev S2 (w : World) (os : OsState) : Shared := ⟨Hp w.params 300 "networkx.classes.graph" 294 18 19 30 false, #[], boot_drawn, 591, os⟩
noncomputable abbrev S3 (w : World) (os : OsState) : Shared := ⟨Hp w.params 348 "law_bd0021_01" 591 26 27 54 false, #[], boot_drawn, 655, os⟩
noncomputable abbrev l1 : List Stmt := bE.take 12
noncomputable abbrev l2 : List Stmt := (bE.drop 12).take 1
noncomputable abbrev l3 : List Stmt := (bE.drop 12).drop 1
theorem pre_ (w : World) : (fun os => topGo treeTable prg w 11 (some (.ref 6)) 12 (S0 w os) (topStub prg)) = fun os => some (Sa w os, ⟨denote treeTable cE, cE, pz, [topFrame pz]⟩) := by kernel_rfl
theorem block_ (w : World) : (fun os => segRun treeTable prg w 11 (some (.ref 6)) 1 1 (Sa w os) (blockOf bE nv cE pz [topFrame pz])) = fun os => some (.next, Sa w os, cE, pz) := by kernel_rfl
theorem seg1 (w : World) : (fun os => segRun treeTable prg w 11 (some (.ref 6)) 1 1100 (Sa w os) (piecesOf l1 nv cE pz [topFrame pz])) = fun os => some (.next, S1 w os, cE, ⟨91, 0, 117, 43⟩) := by kernel_rfl
theorem seg2 (w : World) : (fun os => segRun treeTable prg w 11 (some (.ref 6)) 1 1200 (S1 w os) (piecesOf l2 nv cE ⟨91, 0, 117, 43⟩ [topFrame pz])) = fun os => some (.next, S2 w os, cE, ⟨118, 0, 232, 19⟩) := by kernel_rfl
theorem seg3 (w : World) : (fun os => segRun treeTable prg w 11 (some (.ref 6)) 1 300 (S2 w os) (piecesOf l3 nv cE ⟨118, 0, 232, 19⟩ [topFrame pz])) = fun os => some (.next, S3 w os, cE, ⟨310, 0, 325, 138⟩) := by kernel_rfl
theorem fin_ (w : World) : (fun os => topRun treeTable prg w 11 (some (.ref 6)) 2 (S3 w os) ⟨doneF .next, cE, ⟨310, 0, 325, 138⟩, [topFrame pz]⟩) = fun os => some (S3 w os) := by kernel_rfl
theorem cut3 : l1 ++ (l2 ++ (l3 ++ [])) = bE := by rw [List.append_nil, List.take_append_drop, List.take_append_drop]
theorem run_ (w : World) (os : OsState) : topRun treeTable prg w 11 (some (.ref 6)) (12 + (1 + (1100 + (1200 + (300 + 2))))) (S0 w os) (topStub prg) = some (S3 w os) :=
 go_top (congrFun (pre_ w) os) (piece_block (congrFun (block_ w) os) (cut3 ▸ piece_app (congrFun (seg1 w) os) (piece_app (congrFun (seg2 w) os) (piece_app (congrFun (seg3 w) os) (piece_nil (congrFun (fin_ w) os))))))
theorem left : LeftO prg view loose (fun s => xlAt view [] s && recOk (RowW.records (PySem.Challenge.rw_bd0021_01.row.toRowW)) s) (Hook.obs hook) (Hook.val hook) 4872 :=
 LeftO.of_pieces (H₀ := boot_heap) (H₁ := fun P => Hp P 348 "law_bd0021_01" 591 26 27 54 false) (gs₀ := #[]) (gs₁ := #[]) (d₀ := boot_drawn) (d₁ := boot_drawn) (k₀ := boot_toks) (k₁ := 655) (m₀ := 11) (ann := some (.ref 6)) (M := 12 + (1 + (1100 + (1200 + (300 + 2)))))
   (boot_open rfl rfl fun _ => rfl) (fun w => by kernel_rfl) run_ rfl (fun w => by kernel_rfl)
theorem el_xa {G : Prop} {a0 : Sort _} {p1 : a0 → Prop} (h : ∃ b, p1 b) (k : ∀ b, p1 b → G) : G := Exists.elim h fun b g0 => k b g0
theorem el_xxa {G : Prop} {a0 a1 : Sort _} {p2 : a0 → a1 → Prop} (h : ∃ b c, p2 b c) (k : ∀ b c, p2 b c → G) : G := Exists.elim h fun b g0 => Exists.elim g0 fun c g1 => k b c g1
theorem el_xxxa {G : Prop} {a0 a1 a2 : Sort _} {p3 : a0 → a1 → a2 → Prop} (h : ∃ b c d, p3 b c d) (k : ∀ b c d, p3 b c d → G) : G := Exists.elim h fun b g0 => Exists.elim g0 fun c g1 => Exists.elim g1 fun d g2 => k b c d g2
theorem el_xxxxa {G : Prop} {a0 a1 a2 a3 : Sort _} {p4 : a0 → a1 → a2 → a3 → Prop} (h : ∃ b c d e, p4 b c d e) (k : ∀ b c d e, p4 b c d e → G) : G := Exists.elim h fun b g0 => Exists.elim g0 fun c g1 => Exists.elim g1 fun d g2 => Exists.elim g2 fun e g3 => k b c d e g3
theorem el_xxxxxxxa {G : Prop} {a0 a1 a2 a3 a4 a5 a6 : Sort _} {p7 : a0 → a1 → a2 → a3 → a4 → a5 → a6 → Prop} (h : ∃ b c d e f i j, p7 b c d e f i j) (k : ∀ b c d e f i j, p7 b c d e f i j → G) : G := Exists.elim h fun b g0 => Exists.elim g0 fun c g1 => Exists.elim g1 fun d g2 => Exists.elim g2 fun e g3 => Exists.elim g3 fun f g4 => Exists.elim g4 fun i g5 => Exists.elim g5 fun j g6 => k b c d e f i j g6
theorem el_xxxxxxxxxxxa {G : Prop} {a0 a1 a2 a3 a4 a5 a6 a7 a8 a9 a10 : Sort _} {p11 : a0 → a1 → a2 → a3 → a4 → a5 → a6 → a7 → a8 → a9 → a10 → Prop} (h : ∃ b c d e f i j l m n o, p11 b c d e f i j l m n o) (k : ∀ b c d e f i j l m n o, p11 b c d e f i j l m n o → G) : G := Exists.elim h fun b g0 => Exists.elim g0 fun c g1 => Exists.elim g1 fun d g2 => Exists.elim g2 fun e g3 => Exists.elim g3 fun f g4 => Exists.elim g4 fun i g5 => Exists.elim g5 fun j g6 => Exists.elim g6 fun l g7 => Exists.elim g7 fun m g8 => Exists.elim g8 fun n g9 => Exists.elim g9 fun o g10 => k b c d e f i j l m n o g10
theorem el_xxxxxa {G : Prop} {a0 a1 a2 a3 a4 : Sort _} {p : a0 → a1 → a2 → a3 → a4 → Prop} (h : ∃ b c d e f, p b c d e f) (k : ∀ b c d e f, p b c d e f → G) : G := Exists.elim h fun b g0 => Exists.elim g0 fun c g1 => Exists.elim g1 fun d g2 => Exists.elim g2 fun e g3 => Exists.elim g3 fun f g4 => k b c d e f g4
theorem el_xxxxxxa {G : Prop} {a0 a1 a2 a3 a4 a5 : Sort _} {p : a0 → a1 → a2 → a3 → a4 → a5 → Prop} (h : ∃ b c d e f i, p b c d e f i) (k : ∀ b c d e f i, p b c d e f i → G) : G := Exists.elim h fun b g0 => Exists.elim g0 fun c g1 => Exists.elim g1 fun d g2 => Exists.elim g2 fun e g3 => Exists.elim g3 fun f g4 => Exists.elim g4 fun i g5 => k b c d e f i g5
theorem el_xxxxxxxxa {G : Prop} {a0 a1 a2 a3 a4 a5 a6 a7 : Sort _} {p : a0 → a1 → a2 → a3 → a4 → a5 → a6 → a7 → Prop} (h : ∃ b c d e f i j l, p b c d e f i j l) (k : ∀ b c d e f i j l, p b c d e f i j l → G) : G := Exists.elim h fun b g0 => Exists.elim g0 fun c g1 => Exists.elim g1 fun d g2 => Exists.elim g2 fun e g3 => Exists.elim g3 fun f g4 => Exists.elim g4 fun i g5 => Exists.elim g5 fun j g6 => Exists.elim g6 fun l g7 => k b c d e f i j l g7
theorem el_xxxxxxxxxa {G : Prop} {a0 a1 a2 a3 a4 a5 a6 a7 a8 : Sort _} {p : a0 → a1 → a2 → a3 → a4 → a5 → a6 → a7 → a8 → Prop} (h : ∃ b c d e f i j l m, p b c d e f i j l m) (k : ∀ b c d e f i j l m, p b c d e f i j l m → G) : G := Exists.elim h fun b g0 => Exists.elim g0 fun c g1 => Exists.elim g1 fun d g2 => Exists.elim g2 fun e g3 => Exists.elim g3 fun f g4 => Exists.elim g4 fun i g5 => Exists.elim g5 fun j g6 => Exists.elim g6 fun l g7 => Exists.elim g7 fun m g8 => k b c d e f i j l m g8
theorem el_xxxxxxxxxxxxxxxxxa {G : Prop} {a0 a1 a2 a3 a4 a5 a6 a7 a8 a9 a10 a11 a12 a13 a14 a15 a16 : Sort _} {p : a0 → a1 → a2 → a3 → a4 → a5 → a6 → a7 → a8 → a9 → a10 → a11 → a12 → a13 → a14 → a15 → a16 → Prop} (h : ∃ b c d e f i j l m n o q r s t u w, p b c d e f i j l m n o q r s t u w) (k : ∀ b c d e f i j l m n o q r s t u w, p b c d e f i j l m n o q r s t u w → G) : G := Exists.elim h fun b g0 => Exists.elim g0 fun c g1 => Exists.elim g1 fun d g2 => Exists.elim g2 fun e g3 => Exists.elim g3 fun f g4 => Exists.elim g4 fun i g5 => Exists.elim g5 fun j g6 => Exists.elim g6 fun l g7 => Exists.elim g7 fun m g8 => Exists.elim g8 fun n g9 => Exists.elim g9 fun o g10 => Exists.elim g10 fun q g11 => Exists.elim g11 fun r g12 => Exists.elim g12 fun s g13 => Exists.elim g13 fun t g14 => Exists.elim g14 fun u g15 => Exists.elim g15 fun w g16 => k b c d e f i j l m n o q r s t u w g16
theorem el_aa {G p0 p1 : Prop} (h : p0 ∧ p1) (k : p0 → p1 → G) : G := k h.1 h.2
theorem elc_aa {G p0 p1 : Prop} (k : p0 → p1 → G) (h : p0 ∧ p1) : G := el_aa h k
theorem el_aaa {G p0 p1 p2 : Prop} (h : p0 ∧ p1 ∧ p2) (k : p0 → p1 → p2 → G) : G := k h.1 h.2.1 h.2.2
theorem elc_aaa {G p0 p1 p2 : Prop} (k : p0 → p1 → p2 → G) (h : p0 ∧ p1 ∧ p2) : G := el_aaa h k
theorem el_aaaa {G p0 p1 p2 p3 : Prop} (h : p0 ∧ p1 ∧ p2 ∧ p3) (k : p0 → p1 → p2 → p3 → G) : G := k h.1 h.2.1 h.2.2.1 h.2.2.2
theorem el_aaaaa {G p0 p1 p2 p3 p4 : Prop} (h : p0 ∧ p1 ∧ p2 ∧ p3 ∧ p4) (k : p0 → p1 → p2 → p3 → p4 → G) : G := k h.1 h.2.1 h.2.2.1 h.2.2.2.1 h.2.2.2.2
theorem el_aaaaaaa {G p0 p1 p2 p3 p4 p5 p6 : Prop} (h : p0 ∧ p1 ∧ p2 ∧ p3 ∧ p4 ∧ p5 ∧ p6) (k : p0 → p1 → p2 → p3 → p4 → p5 → p6 → G) : G := k h.1 h.2.1 h.2.2.1 h.2.2.2.1 h.2.2.2.2.1 h.2.2.2.2.2.1 h.2.2.2.2.2.2
theorem el_aaaaaaxaaa {G : Prop} {a6 : Sort _} {p0 p1 p2 p3 p4 p5 : Prop} {p7 p8 p9 : a6 → Prop} (h : p0 ∧ p1 ∧ p2 ∧ p3 ∧ p4 ∧ p5 ∧ ∃ j, p7 j ∧ p8 j ∧ p9 j) (k : ∀ j, p0 → p1 → p2 → p3 → p4 → p5 → p7 j → p8 j → p9 j → G) : G := by
 obtain ⟨h0, h1, h2, h3, h4, h5, j, h7, h8, h9⟩ := h
 exact k _ h0 h1 h2 h3 h4 h5 h7 h8 h9
theorem el_aaaxxxxxaaaaa {G : Prop} {a3 a4 a5 a6 a7 : Sort _} {p0 p1 p2 : Prop} {p8 p9 p10 p11 p12 : a3 → a4 → a5 → a6 → a7 → Prop} (h : p0 ∧ p1 ∧ p2 ∧ ∃ e f i j l, p8 e f i j l ∧ p9 e f i j l ∧ p10 e f i j l ∧ p11 e f i j l ∧ p12 e f i j l) (k : ∀ e f i j l, p0 → p1 → p2 → p8 e f i j l → p9 e f i j l → p10 e f i j l → p11 e f i j l → p12 e f i j l → G) : G := by
 obtain ⟨h0, h1, h2, e, f, i, j, l, h8, h9, h10, h11, h12⟩ := h
 exact k _ _ _ _ _ h0 h1 h2 h8 h9 h10 h11 h12
theorem el_aaaxxxxxaaaaaaaaa {G : Prop} {a3 a4 a5 a6 a7 : Sort _} {p0 p1 p2 : Prop} {p8 p9 p10 p11 p12 p13 p14 p15 p16 : a3 → a4 → a5 → a6 → a7 → Prop} (h : p0 ∧ p1 ∧ p2 ∧ ∃ e f i j l, p8 e f i j l ∧ p9 e f i j l ∧ p10 e f i j l ∧ p11 e f i j l ∧ p12 e f i j l ∧ p13 e f i j l ∧ p14 e f i j l ∧ p15 e f i j l ∧ p16 e f i j l) (k : ∀ e f i j l, p0 → p1 → p2 → p8 e f i j l → p9 e f i j l → p10 e f i j l → p11 e f i j l → p12 e f i j l → p13 e f i j l → p14 e f i j l → p15 e f i j l → p16 e f i j l → G) : G := by
 obtain ⟨h0, h1, h2, e, f, i, j, l, h8, h9, h10, h11, h12, h13, h14, h15, h16⟩ := h
 exact k _ _ _ _ _ h0 h1 h2 h8 h9 h10 h11 h12 h13 h14 h15 h16
theorem el_axa {G : Prop} {a1 : Sort _} {p0 : Prop} {p2 : a1 → Prop} (h : p0 ∧ ∃ c, p2 c) (k : ∀ c, p0 → p2 c → G) : G := by
 obtain ⟨h0, c, h2⟩ := h
 exact k _ h0 h2
theorem el_axaa {G : Prop} {a1 : Sort _} {p0 : Prop} {p2 p3 : a1 → Prop} (h : p0 ∧ ∃ c, p2 c ∧ p3 c) (k : ∀ c, p0 → p2 c → p3 c → G) : G := by
 obtain ⟨h0, c, h2, h3⟩ := h
 exact k _ h0 h2 h3
theorem el_axxaaa {G : Prop} {a1 a2 : Sort _} {p0 : Prop} {p3 p4 p5 : a1 → a2 → Prop} (h : p0 ∧ ∃ c d, p3 c d ∧ p4 c d ∧ p5 c d) (k : ∀ c d, p0 → p3 c d → p4 c d → p5 c d → G) : G := by
 obtain ⟨h0, c, d, h3, h4, h5⟩ := h
 exact k _ _ h0 h3 h4 h5
theorem el_axxaaaa {G : Prop} {a1 a2 : Sort _} {p0 : Prop} {p3 p4 p5 p6 : a1 → a2 → Prop} (h : p0 ∧ ∃ c d, p3 c d ∧ p4 c d ∧ p5 c d ∧ p6 c d) (k : ∀ c d, p0 → p3 c d → p4 c d → p5 c d → p6 c d → G) : G := by
 obtain ⟨h0, c, d, h3, h4, h5, h6⟩ := h
 exact k _ _ h0 h3 h4 h5 h6
theorem elc_axxaaaa {G : Prop} {a1 a2 : Sort _} {p0 : Prop} {p3 p4 p5 p6 : a1 → a2 → Prop} (k : ∀ c d, p0 → p3 c d → p4 c d → p5 c d → p6 c d → G) (h : p0 ∧ ∃ c d, p3 c d ∧ p4 c d ∧ p5 c d ∧ p6 c d) : G := el_axxaaaa h k
theorem el_axxxxxxaaaaaa {G : Prop} {a1 a2 a3 a4 a5 a6 : Sort _} {p0 : Prop} {p7 p8 p9 p10 p11 p12 : a1 → a2 → a3 → a4 → a5 → a6 → Prop} (h : p0 ∧ ∃ c d e f i j, p7 c d e f i j ∧ p8 c d e f i j ∧ p9 c d e f i j ∧ p10 c d e f i j ∧ p11 c d e f i j ∧ p12 c d e f i j) (k : ∀ c d e f i j, p0 → p7 c d e f i j → p8 c d e f i j → p9 c d e f i j → p10 c d e f i j → p11 c d e f i j → p12 c d e f i j → G) : G := by
 obtain ⟨h0, c, d, e, f, i, j, h7, h8, h9, h10, h11, h12⟩ := h
 exact k _ _ _ _ _ _ h0 h7 h8 h9 h10 h11 h12
theorem elc_axxxxxxaaaaaa {G : Prop} {a1 a2 a3 a4 a5 a6 : Sort _} {p0 : Prop} {p7 p8 p9 p10 p11 p12 : a1 → a2 → a3 → a4 → a5 → a6 → Prop} (k : ∀ c d e f i j, p0 → p7 c d e f i j → p8 c d e f i j → p9 c d e f i j → p10 c d e f i j → p11 c d e f i j → p12 c d e f i j → G) (h : p0 ∧ ∃ c d e f i j, p7 c d e f i j ∧ p8 c d e f i j ∧ p9 c d e f i j ∧ p10 c d e f i j ∧ p11 c d e f i j ∧ p12 c d e f i j) : G := el_axxxxxxaaaaaa h k
theorem el_axxxxxxxxaaaaaaa {G : Prop} {a1 a2 a3 a4 a5 a6 a7 a8 : Sort _} {p0 : Prop} {p9 p10 p11 p12 p13 p14 p15 : a1 → a2 → a3 → a4 → a5 → a6 → a7 → a8 → Prop} (h : p0 ∧ ∃ c d e f i j l m, p9 c d e f i j l m ∧ p10 c d e f i j l m ∧ p11 c d e f i j l m ∧ p12 c d e f i j l m ∧ p13 c d e f i j l m ∧ p14 c d e f i j l m ∧ p15 c d e f i j l m) (k : ∀ c d e f i j l m, p0 → p9 c d e f i j l m → p10 c d e f i j l m → p11 c d e f i j l m → p12 c d e f i j l m → p13 c d e f i j l m → p14 c d e f i j l m → p15 c d e f i j l m → G) : G := by
 obtain ⟨h0, c, d, e, f, i, j, l, m, h9, h10, h11, h12, h13, h14, h15⟩ := h
 exact k _ _ _ _ _ _ _ _ h0 h9 h10 h11 h12 h13 h14 h15
theorem elc_axxxxxxxxaaaaaaa {G : Prop} {a1 a2 a3 a4 a5 a6 a7 a8 : Sort _} {p0 : Prop} {p9 p10 p11 p12 p13 p14 p15 : a1 → a2 → a3 → a4 → a5 → a6 → a7 → a8 → Prop} (k : ∀ c d e f i j l m, p0 → p9 c d e f i j l m → p10 c d e f i j l m → p11 c d e f i j l m → p12 c d e f i j l m → p13 c d e f i j l m → p14 c d e f i j l m → p15 c d e f i j l m → G) (h : p0 ∧ ∃ c d e f i j l m, p9 c d e f i j l m ∧ p10 c d e f i j l m ∧ p11 c d e f i j l m ∧ p12 c d e f i j l m ∧ p13 c d e f i j l m ∧ p14 c d e f i j l m ∧ p15 c d e f i j l m) : G := el_axxxxxxxxaaaaaaa h k
theorem el_xaa {G : Prop} {a0 : Sort _} {p1 p2 : a0 → Prop} (h : ∃ b, p1 b ∧ p2 b) (k : ∀ b, p1 b → p2 b → G) : G := el_xa h fun b g => k b g.1 g.2
theorem elc_xaa {G : Prop} {a0 : Sort _} {p1 p2 : a0 → Prop} (k : ∀ b, p1 b → p2 b → G) (h : ∃ b, p1 b ∧ p2 b) : G := el_xaa h k
theorem el_xaaa {G : Prop} {a0 : Sort _} {p1 p2 p3 : a0 → Prop} (h : ∃ b, p1 b ∧ p2 b ∧ p3 b) (k : ∀ b, p1 b → p2 b → p3 b → G) : G := el_xa h fun b g => k b g.1 g.2.1 g.2.2
theorem el_xaaaa {G : Prop} {a0 : Sort _} {p1 p2 p3 p4 : a0 → Prop} (h : ∃ b, p1 b ∧ p2 b ∧ p3 b ∧ p4 b) (k : ∀ b, p1 b → p2 b → p3 b → p4 b → G) : G := el_xa h fun b g => k b g.1 g.2.1 g.2.2.1 g.2.2.2
theorem elc_xaaaa {G : Prop} {a0 : Sort _} {p1 p2 p3 p4 : a0 → Prop} (k : ∀ b, p1 b → p2 b → p3 b → p4 b → G) (h : ∃ b, p1 b ∧ p2 b ∧ p3 b ∧ p4 b) : G := el_xaaaa h k
theorem el_xaaaaa {G : Prop} {a0 : Sort _} {p1 p2 p3 p4 p5 : a0 → Prop} (h : ∃ b, p1 b ∧ p2 b ∧ p3 b ∧ p4 b ∧ p5 b) (k : ∀ b, p1 b → p2 b → p3 b → p4 b → p5 b → G) : G := el_xa h fun b g => k b g.1 g.2.1 g.2.2.1 g.2.2.2.1 g.2.2.2.2
theorem el_xaaxa {G : Prop} {a0 a3 : Sort _} {p1 p2 : a0 → Prop} {p4 : a0 → a3 → Prop} (h : ∃ b, p1 b ∧ p2 b ∧ ∃ e, p4 b e) (k : ∀ b e, p1 b → p2 b → p4 b e → G) : G := by
 obtain ⟨b, h1, h2, e, h4⟩ := h
 exact k _ _ h1 h2 h4
theorem el_xxaa {G : Prop} {a0 a1 : Sort _} {p2 p3 : a0 → a1 → Prop} (h : ∃ b c, p2 b c ∧ p3 b c) (k : ∀ b c, p2 b c → p3 b c → G) : G := el_xxa h fun b c g => k b c g.1 g.2
theorem elc_xxaa {G : Prop} {a0 a1 : Sort _} {p2 p3 : a0 → a1 → Prop} (k : ∀ b c, p2 b c → p3 b c → G) (h : ∃ b c, p2 b c ∧ p3 b c) : G := el_xxaa h k
theorem el_xxaaa {G : Prop} {a0 a1 : Sort _} {p2 p3 p4 : a0 → a1 → Prop} (h : ∃ b c, p2 b c ∧ p3 b c ∧ p4 b c) (k : ∀ b c, p2 b c → p3 b c → p4 b c → G) : G := el_xxa h fun b c g => k b c g.1 g.2.1 g.2.2
theorem el_xxaaaa {G : Prop} {a0 a1 : Sort _} {p2 p3 p4 p5 : a0 → a1 → Prop} (h : ∃ b c, p2 b c ∧ p3 b c ∧ p4 b c ∧ p5 b c) (k : ∀ b c, p2 b c → p3 b c → p4 b c → p5 b c → G) : G := el_xxa h fun b c g => k b c g.1 g.2.1 g.2.2.1 g.2.2.2
theorem el_xxaaaaa {G : Prop} {a0 a1 : Sort _} {p2 p3 p4 p5 p6 : a0 → a1 → Prop} (h : ∃ b c, p2 b c ∧ p3 b c ∧ p4 b c ∧ p5 b c ∧ p6 b c) (k : ∀ b c, p2 b c → p3 b c → p4 b c → p5 b c → p6 b c → G) : G := el_xxa h fun b c g => k b c g.1 g.2.1 g.2.2.1 g.2.2.2.1 g.2.2.2.2
theorem el_xxxaa {G : Prop} {a0 a1 a2 : Sort _} {p3 p4 : a0 → a1 → a2 → Prop} (h : ∃ b c d, p3 b c d ∧ p4 b c d) (k : ∀ b c d, p3 b c d → p4 b c d → G) : G := el_xxxa h fun b c d g => k b c d g.1 g.2
theorem el_xxxaaa {G : Prop} {a0 a1 a2 : Sort _} {p3 p4 p5 : a0 → a1 → a2 → Prop} (h : ∃ b c d, p3 b c d ∧ p4 b c d ∧ p5 b c d) (k : ∀ b c d, p3 b c d → p4 b c d → p5 b c d → G) : G := el_xxxa h fun b c d g => k b c d g.1 g.2.1 g.2.2
theorem el_xxxaaaa {G : Prop} {a0 a1 a2 : Sort _} {p3 p4 p5 p6 : a0 → a1 → a2 → Prop} (h : ∃ b c d, p3 b c d ∧ p4 b c d ∧ p5 b c d ∧ p6 b c d) (k : ∀ b c d, p3 b c d → p4 b c d → p5 b c d → p6 b c d → G) : G := el_xxxa h fun b c d g => k b c d g.1 g.2.1 g.2.2.1 g.2.2.2
theorem el_xxxaaaaaa {G : Prop} {a0 a1 a2 : Sort _} {p3 p4 p5 p6 p7 p8 : a0 → a1 → a2 → Prop} (h : ∃ b c d, p3 b c d ∧ p4 b c d ∧ p5 b c d ∧ p6 b c d ∧ p7 b c d ∧ p8 b c d) (k : ∀ b c d, p3 b c d → p4 b c d → p5 b c d → p6 b c d → p7 b c d → p8 b c d → G) : G := el_xxxa h fun b c d g => k b c d g.1 g.2.1 g.2.2.1 g.2.2.2.1 g.2.2.2.2.1 g.2.2.2.2.2
theorem el_xxxaaaaaaa {G : Prop} {a0 a1 a2 : Sort _} {p3 p4 p5 p6 p7 p8 p9 : a0 → a1 → a2 → Prop} (h : ∃ b c d, p3 b c d ∧ p4 b c d ∧ p5 b c d ∧ p6 b c d ∧ p7 b c d ∧ p8 b c d ∧ p9 b c d) (k : ∀ b c d, p3 b c d → p4 b c d → p5 b c d → p6 b c d → p7 b c d → p8 b c d → p9 b c d → G) : G := el_xxxa h fun b c d g => k b c d g.1 g.2.1 g.2.2.1 g.2.2.2.1 g.2.2.2.2.1 g.2.2.2.2.2.1 g.2.2.2.2.2.2
theorem el_xxxar2a {G : Prop} {a0 a1 a2 : Sort _} {e2 : a0 → a1 → a2} {p3 p5 : a0 → a1 → a2 → Prop} (h : ∃ b c d, p3 b c d ∧ (e2 b c) = d ∧ p5 b c d) (k : ∀ b c, p3 b c (e2 b c) → p5 b c (e2 b c) → G) : G := by
 obtain ⟨b, c, d, h3, rfl, h5⟩ := h
 exact k _ _ h3 h5
theorem el_xxxxaa {G : Prop} {a0 a1 a2 a3 : Sort _} {p4 p5 : a0 → a1 → a2 → a3 → Prop} (h : ∃ b c d e, p4 b c d e ∧ p5 b c d e) (k : ∀ b c d e, p4 b c d e → p5 b c d e → G) : G := el_xxxxa h fun b c d e g => k b c d e g.1 g.2
theorem el_xxxxaaa {G : Prop} {a0 a1 a2 a3 : Sort _} {p4 p5 p6 : a0 → a1 → a2 → a3 → Prop} (h : ∃ b c d e, p4 b c d e ∧ p5 b c d e ∧ p6 b c d e) (k : ∀ b c d e, p4 b c d e → p5 b c d e → p6 b c d e → G) : G := el_xxxxa h fun b c d e g => k b c d e g.1 g.2.1 g.2.2
theorem elc_xxxxaaa {G : Prop} {a0 a1 a2 a3 : Sort _} {p4 p5 p6 : a0 → a1 → a2 → a3 → Prop} (k : ∀ b c d e, p4 b c d e → p5 b c d e → p6 b c d e → G) (h : ∃ b c d e, p4 b c d e ∧ p5 b c d e ∧ p6 b c d e) : G := el_xxxxaaa h k
theorem el_xxxxaaaa {G : Prop} {a0 a1 a2 a3 : Sort _} {p4 p5 p6 p7 : a0 → a1 → a2 → a3 → Prop} (h : ∃ b c d e, p4 b c d e ∧ p5 b c d e ∧ p6 b c d e ∧ p7 b c d e) (k : ∀ b c d e, p4 b c d e → p5 b c d e → p6 b c d e → p7 b c d e → G) : G := el_xxxxa h fun b c d e g => k b c d e g.1 g.2.1 g.2.2.1 g.2.2.2
theorem elc_xxxxaaaa {G : Prop} {a0 a1 a2 a3 : Sort _} {p4 p5 p6 p7 : a0 → a1 → a2 → a3 → Prop} (k : ∀ b c d e, p4 b c d e → p5 b c d e → p6 b c d e → p7 b c d e → G) (h : ∃ b c d e, p4 b c d e ∧ p5 b c d e ∧ p6 b c d e ∧ p7 b c d e) : G := el_xxxxaaaa h k
theorem el_xxxxaaaaaaaa {G : Prop} {a0 a1 a2 a3 : Sort _} {p4 p5 p6 p7 p8 p9 p10 p11 : a0 → a1 → a2 → a3 → Prop} (h : ∃ b c d e, p4 b c d e ∧ p5 b c d e ∧ p6 b c d e ∧ p7 b c d e ∧ p8 b c d e ∧ p9 b c d e ∧ p10 b c d e ∧ p11 b c d e) (k : ∀ b c d e, p4 b c d e → p5 b c d e → p6 b c d e → p7 b c d e → p8 b c d e → p9 b c d e → p10 b c d e → p11 b c d e → G) : G := el_xxxxa h fun b c d e g => k b c d e g.1 g.2.1 g.2.2.1 g.2.2.2.1 g.2.2.2.2.1 g.2.2.2.2.2.1 g.2.2.2.2.2.2.1 g.2.2.2.2.2.2.2
theorem elc_xxxxaaaaaaaa {G : Prop} {a0 a1 a2 a3 : Sort _} {p4 p5 p6 p7 p8 p9 p10 p11 : a0 → a1 → a2 → a3 → Prop} (k : ∀ b c d e, p4 b c d e → p5 b c d e → p6 b c d e → p7 b c d e → p8 b c d e → p9 b c d e → p10 b c d e → p11 b c d e → G) (h : ∃ b c d e, p4 b c d e ∧ p5 b c d e ∧ p6 b c d e ∧ p7 b c d e ∧ p8 b c d e ∧ p9 b c d e ∧ p10 b c d e ∧ p11 b c d e) : G := el_xxxxaaaaaaaa h k
theorem el_xxxxxaaa {G : Prop} {a0 a1 a2 a3 a4 : Sort _} {p5 p6 p7 : a0 → a1 → a2 → a3 → a4 → Prop} (h : ∃ b c d e f, p5 b c d e f ∧ p6 b c d e f ∧ p7 b c d e f) (k : ∀ b c d e f, p5 b c d e f → p6 b c d e f → p7 b c d e f → G) : G := el_xxxxxa h fun b c d e f g => k b c d e f g.1 g.2.1 g.2.2
theorem el_xxxxxaaaa {G : Prop} {a0 a1 a2 a3 a4 : Sort _} {p5 p6 p7 p8 : a0 → a1 → a2 → a3 → a4 → Prop} (h : ∃ b c d e f, p5 b c d e f ∧ p6 b c d e f ∧ p7 b c d e f ∧ p8 b c d e f) (k : ∀ b c d e f, p5 b c d e f → p6 b c d e f → p7 b c d e f → p8 b c d e f → G) : G := el_xxxxxa h fun b c d e f g => k b c d e f g.1 g.2.1 g.2.2.1 g.2.2.2
theorem elc_xxxxxaaaa {G : Prop} {a0 a1 a2 a3 a4 : Sort _} {p5 p6 p7 p8 : a0 → a1 → a2 → a3 → a4 → Prop} (k : ∀ b c d e f, p5 b c d e f → p6 b c d e f → p7 b c d e f → p8 b c d e f → G) (h : ∃ b c d e f, p5 b c d e f ∧ p6 b c d e f ∧ p7 b c d e f ∧ p8 b c d e f) : G := el_xxxxxaaaa h k
theorem el_xxxxxaaaaaaa {G : Prop} {a0 a1 a2 a3 a4 : Sort _} {p5 p6 p7 p8 p9 p10 p11 : a0 → a1 → a2 → a3 → a4 → Prop} (h : ∃ b c d e f, p5 b c d e f ∧ p6 b c d e f ∧ p7 b c d e f ∧ p8 b c d e f ∧ p9 b c d e f ∧ p10 b c d e f ∧ p11 b c d e f) (k : ∀ b c d e f, p5 b c d e f → p6 b c d e f → p7 b c d e f → p8 b c d e f → p9 b c d e f → p10 b c d e f → p11 b c d e f → G) : G := el_xxxxxa h fun b c d e f g => k b c d e f g.1 g.2.1 g.2.2.1 g.2.2.2.1 g.2.2.2.2.1 g.2.2.2.2.2.1 g.2.2.2.2.2.2
theorem el_xxxxxaaaaaaaaa {G : Prop} {a0 a1 a2 a3 a4 : Sort _} {p5 p6 p7 p8 p9 p10 p11 p12 p13 : a0 → a1 → a2 → a3 → a4 → Prop} (h : ∃ b c d e f, p5 b c d e f ∧ p6 b c d e f ∧ p7 b c d e f ∧ p8 b c d e f ∧ p9 b c d e f ∧ p10 b c d e f ∧ p11 b c d e f ∧ p12 b c d e f ∧ p13 b c d e f) (k : ∀ b c d e f, p5 b c d e f → p6 b c d e f → p7 b c d e f → p8 b c d e f → p9 b c d e f → p10 b c d e f → p11 b c d e f → p12 b c d e f → p13 b c d e f → G) : G := el_xxxxxa h fun b c d e f g => k b c d e f g.1 g.2.1 g.2.2.1 g.2.2.2.1 g.2.2.2.2.1 g.2.2.2.2.2.1 g.2.2.2.2.2.2.1 g.2.2.2.2.2.2.2.1 g.2.2.2.2.2.2.2.2
theorem elc_xxxxxaaaaaaaaa {G : Prop} {a0 a1 a2 a3 a4 : Sort _} {p5 p6 p7 p8 p9 p10 p11 p12 p13 : a0 → a1 → a2 → a3 → a4 → Prop} (k : ∀ b c d e f, p5 b c d e f → p6 b c d e f → p7 b c d e f → p8 b c d e f → p9 b c d e f → p10 b c d e f → p11 b c d e f → p12 b c d e f → p13 b c d e f → G) (h : ∃ b c d e f, p5 b c d e f ∧ p6 b c d e f ∧ p7 b c d e f ∧ p8 b c d e f ∧ p9 b c d e f ∧ p10 b c d e f ∧ p11 b c d e f ∧ p12 b c d e f ∧ p13 b c d e f) : G := el_xxxxxaaaaaaaaa h k
theorem el_xxxxxxaaa {G : Prop} {a0 a1 a2 a3 a4 a5 : Sort _} {p6 p7 p8 : a0 → a1 → a2 → a3 → a4 → a5 → Prop} (h : ∃ b c d e f i, p6 b c d e f i ∧ p7 b c d e f i ∧ p8 b c d e f i) (k : ∀ b c d e f i, p6 b c d e f i → p7 b c d e f i → p8 b c d e f i → G) : G := el_xxxxxxa h fun b c d e f i g => k b c d e f i g.1 g.2.1 g.2.2
theorem el_xxxxxxaaaaa {G : Prop} {a0 a1 a2 a3 a4 a5 : Sort _} {p6 p7 p8 p9 p10 : a0 → a1 → a2 → a3 → a4 → a5 → Prop} (h : ∃ b c d e f i, p6 b c d e f i ∧ p7 b c d e f i ∧ p8 b c d e f i ∧ p9 b c d e f i ∧ p10 b c d e f i) (k : ∀ b c d e f i, p6 b c d e f i → p7 b c d e f i → p8 b c d e f i → p9 b c d e f i → p10 b c d e f i → G) : G := el_xxxxxxa h fun b c d e f i g => k b c d e f i g.1 g.2.1 g.2.2.1 g.2.2.2.1 g.2.2.2.2
theorem elc_xxxxxxaaaaa {G : Prop} {a0 a1 a2 a3 a4 a5 : Sort _} {p6 p7 p8 p9 p10 : a0 → a1 → a2 → a3 → a4 → a5 → Prop} (k : ∀ b c d e f i, p6 b c d e f i → p7 b c d e f i → p8 b c d e f i → p9 b c d e f i → p10 b c d e f i → G) (h : ∃ b c d e f i, p6 b c d e f i ∧ p7 b c d e f i ∧ p8 b c d e f i ∧ p9 b c d e f i ∧ p10 b c d e f i) : G := el_xxxxxxaaaaa h k
theorem el_xxxxxxaaaaaa {G : Prop} {a0 a1 a2 a3 a4 a5 : Sort _} {p6 p7 p8 p9 p10 p11 : a0 → a1 → a2 → a3 → a4 → a5 → Prop} (h : ∃ b c d e f i, p6 b c d e f i ∧ p7 b c d e f i ∧ p8 b c d e f i ∧ p9 b c d e f i ∧ p10 b c d e f i ∧ p11 b c d e f i) (k : ∀ b c d e f i, p6 b c d e f i → p7 b c d e f i → p8 b c d e f i → p9 b c d e f i → p10 b c d e f i → p11 b c d e f i → G) : G := el_xxxxxxa h fun b c d e f i g => k b c d e f i g.1 g.2.1 g.2.2.1 g.2.2.2.1 g.2.2.2.2.1 g.2.2.2.2.2
theorem el_xxxxxxaaaaaaa {G : Prop} {a0 a1 a2 a3 a4 a5 : Sort _} {p6 p7 p8 p9 p10 p11 p12 : a0 → a1 → a2 → a3 → a4 → a5 → Prop} (h : ∃ b c d e f i, p6 b c d e f i ∧ p7 b c d e f i ∧ p8 b c d e f i ∧ p9 b c d e f i ∧ p10 b c d e f i ∧ p11 b c d e f i ∧ p12 b c d e f i) (k : ∀ b c d e f i, p6 b c d e f i → p7 b c d e f i → p8 b c d e f i → p9 b c d e f i → p10 b c d e f i → p11 b c d e f i → p12 b c d e f i → G) : G := el_xxxxxxa h fun b c d e f i g => k b c d e f i g.1 g.2.1 g.2.2.1 g.2.2.2.1 g.2.2.2.2.1 g.2.2.2.2.2.1 g.2.2.2.2.2.2
theorem el_xxxxxxaaaaaaaa {G : Prop} {a0 a1 a2 a3 a4 a5 : Sort _} {p6 p7 p8 p9 p10 p11 p12 p13 : a0 → a1 → a2 → a3 → a4 → a5 → Prop} (h : ∃ b c d e f i, p6 b c d e f i ∧ p7 b c d e f i ∧ p8 b c d e f i ∧ p9 b c d e f i ∧ p10 b c d e f i ∧ p11 b c d e f i ∧ p12 b c d e f i ∧ p13 b c d e f i) (k : ∀ b c d e f i, p6 b c d e f i → p7 b c d e f i → p8 b c d e f i → p9 b c d e f i → p10 b c d e f i → p11 b c d e f i → p12 b c d e f i → p13 b c d e f i → G) : G := el_xxxxxxa h fun b c d e f i g => k b c d e f i g.1 g.2.1 g.2.2.1 g.2.2.2.1 g.2.2.2.2.1 g.2.2.2.2.2.1 g.2.2.2.2.2.2.1 g.2.2.2.2.2.2.2
theorem el_xxxxxxxaa {G : Prop} {a0 a1 a2 a3 a4 a5 a6 : Sort _} {p7 p8 : a0 → a1 → a2 → a3 → a4 → a5 → a6 → Prop} (h : ∃ b c d e f i j, p7 b c d e f i j ∧ p8 b c d e f i j) (k : ∀ b c d e f i j, p7 b c d e f i j → p8 b c d e f i j → G) : G := el_xxxxxxxa h fun b c d e f i j g => k b c d e f i j g.1 g.2
theorem el_xxxxxxxaaaaa {G : Prop} {a0 a1 a2 a3 a4 a5 a6 : Sort _} {p7 p8 p9 p10 p11 : a0 → a1 → a2 → a3 → a4 → a5 → a6 → Prop} (h : ∃ b c d e f i j, p7 b c d e f i j ∧ p8 b c d e f i j ∧ p9 b c d e f i j ∧ p10 b c d e f i j ∧ p11 b c d e f i j) (k : ∀ b c d e f i j, p7 b c d e f i j → p8 b c d e f i j → p9 b c d e f i j → p10 b c d e f i j → p11 b c d e f i j → G) : G := el_xxxxxxxa h fun b c d e f i j g => k b c d e f i j g.1 g.2.1 g.2.2.1 g.2.2.2.1 g.2.2.2.2
theorem el_xxxxxxxaaaaaa {G : Prop} {a0 a1 a2 a3 a4 a5 a6 : Sort _} {p7 p8 p9 p10 p11 p12 : a0 → a1 → a2 → a3 → a4 → a5 → a6 → Prop} (h : ∃ b c d e f i j, p7 b c d e f i j ∧ p8 b c d e f i j ∧ p9 b c d e f i j ∧ p10 b c d e f i j ∧ p11 b c d e f i j ∧ p12 b c d e f i j) (k : ∀ b c d e f i j, p7 b c d e f i j → p8 b c d e f i j → p9 b c d e f i j → p10 b c d e f i j → p11 b c d e f i j → p12 b c d e f i j → G) : G := el_xxxxxxxa h fun b c d e f i j g => k b c d e f i j g.1 g.2.1 g.2.2.1 g.2.2.2.1 g.2.2.2.2.1 g.2.2.2.2.2
theorem el_xxxxxxxaaaaaaaaaaaaaa {G : Prop} {a0 a1 a2 a3 a4 a5 a6 : Sort _} {p7 p8 p9 p10 p11 p12 p13 p14 p15 p16 p17 p18 p19 p20 : a0 → a1 → a2 → a3 → a4 → a5 → a6 → Prop} (h : ∃ b c d e f i j, p7 b c d e f i j ∧ p8 b c d e f i j ∧ p9 b c d e f i j ∧ p10 b c d e f i j ∧ p11 b c d e f i j ∧ p12 b c d e f i j ∧ p13 b c d e f i j ∧ p14 b c d e f i j ∧ p15 b c d e f i j ∧ p16 b c d e f i j ∧ p17 b c d e f i j ∧ p18 b c d e f i j ∧ p19 b c d e f i j ∧ p20 b c d e f i j) (k : ∀ b c d e f i j, p7 b c d e f i j → p8 b c d e f i j → p9 b c d e f i j → p10 b c d e f i j → p11 b c d e f i j → p12 b c d e f i j → p13 b c d e f i j → p14 b c d e f i j → p15 b c d e f i j → p16 b c d e f i j → p17 b c d e f i j → p18 b c d e f i j → p19 b c d e f i j → p20 b c d e f i j → G) : G := el_xxxxxxxa h fun b c d e f i j g => k b c d e f i j g.1 g.2.1 g.2.2.1 g.2.2.2.1 g.2.2.2.2.1 g.2.2.2.2.2.1 g.2.2.2.2.2.2.1 g.2.2.2.2.2.2.2.1 g.2.2.2.2.2.2.2.2.1 g.2.2.2.2.2.2.2.2.2.1 g.2.2.2.2.2.2.2.2.2.2.1 g.2.2.2.2.2.2.2.2.2.2.2.1 g.2.2.2.2.2.2.2.2.2.2.2.2.1 g.2.2.2.2.2.2.2.2.2.2.2.2.2
theorem elc_xxxxxxxaaaaaaaaaaaaaa {G : Prop} {a0 a1 a2 a3 a4 a5 a6 : Sort _} {p7 p8 p9 p10 p11 p12 p13 p14 p15 p16 p17 p18 p19 p20 : a0 → a1 → a2 → a3 → a4 → a5 → a6 → Prop} (k : ∀ b c d e f i j, p7 b c d e f i j → p8 b c d e f i j → p9 b c d e f i j → p10 b c d e f i j → p11 b c d e f i j → p12 b c d e f i j → p13 b c d e f i j → p14 b c d e f i j → p15 b c d e f i j → p16 b c d e f i j → p17 b c d e f i j → p18 b c d e f i j → p19 b c d e f i j → p20 b c d e f i j → G) (h : ∃ b c d e f i j, p7 b c d e f i j ∧ p8 b c d e f i j ∧ p9 b c d e f i j ∧ p10 b c d e f i j ∧ p11 b c d e f i j ∧ p12 b c d e f i j ∧ p13 b c d e f i j ∧ p14 b c d e f i j ∧ p15 b c d e f i j ∧ p16 b c d e f i j ∧ p17 b c d e f i j ∧ p18 b c d e f i j ∧ p19 b c d e f i j ∧ p20 b c d e f i j) : G := el_xxxxxxxaaaaaaaaaaaaaa h k
theorem el_xxxxxxxxaaaaaa {G : Prop} {a0 a1 a2 a3 a4 a5 a6 a7 : Sort _} {p8 p9 p10 p11 p12 p13 : a0 → a1 → a2 → a3 → a4 → a5 → a6 → a7 → Prop} (h : ∃ b c d e f i j l, p8 b c d e f i j l ∧ p9 b c d e f i j l ∧ p10 b c d e f i j l ∧ p11 b c d e f i j l ∧ p12 b c d e f i j l ∧ p13 b c d e f i j l) (k : ∀ b c d e f i j l, p8 b c d e f i j l → p9 b c d e f i j l → p10 b c d e f i j l → p11 b c d e f i j l → p12 b c d e f i j l → p13 b c d e f i j l → G) : G := el_xxxxxxxxa h fun b c d e f i j l g => k b c d e f i j l g.1 g.2.1 g.2.2.1 g.2.2.2.1 g.2.2.2.2.1 g.2.2.2.2.2
theorem el_xxxxxxxxaaaaaaaa {G : Prop} {a0 a1 a2 a3 a4 a5 a6 a7 : Sort _} {p8 p9 p10 p11 p12 p13 p14 p15 : a0 → a1 → a2 → a3 → a4 → a5 → a6 → a7 → Prop} (h : ∃ b c d e f i j l, p8 b c d e f i j l ∧ p9 b c d e f i j l ∧ p10 b c d e f i j l ∧ p11 b c d e f i j l ∧ p12 b c d e f i j l ∧ p13 b c d e f i j l ∧ p14 b c d e f i j l ∧ p15 b c d e f i j l) (k : ∀ b c d e f i j l, p8 b c d e f i j l → p9 b c d e f i j l → p10 b c d e f i j l → p11 b c d e f i j l → p12 b c d e f i j l → p13 b c d e f i j l → p14 b c d e f i j l → p15 b c d e f i j l → G) : G := el_xxxxxxxxa h fun b c d e f i j l g => k b c d e f i j l g.1 g.2.1 g.2.2.1 g.2.2.2.1 g.2.2.2.2.1 g.2.2.2.2.2.1 g.2.2.2.2.2.2.1 g.2.2.2.2.2.2.2
theorem elc_xxxxxxxxaaaaaaaa {G : Prop} {a0 a1 a2 a3 a4 a5 a6 a7 : Sort _} {p8 p9 p10 p11 p12 p13 p14 p15 : a0 → a1 → a2 → a3 → a4 → a5 → a6 → a7 → Prop} (k : ∀ b c d e f i j l, p8 b c d e f i j l → p9 b c d e f i j l → p10 b c d e f i j l → p11 b c d e f i j l → p12 b c d e f i j l → p13 b c d e f i j l → p14 b c d e f i j l → p15 b c d e f i j l → G) (h : ∃ b c d e f i j l, p8 b c d e f i j l ∧ p9 b c d e f i j l ∧ p10 b c d e f i j l ∧ p11 b c d e f i j l ∧ p12 b c d e f i j l ∧ p13 b c d e f i j l ∧ p14 b c d e f i j l ∧ p15 b c d e f i j l) : G := el_xxxxxxxxaaaaaaaa h k
theorem el_xxxxxxxxaaaaaaaaaaaa {G : Prop} {a0 a1 a2 a3 a4 a5 a6 a7 : Sort _} {p8 p9 p10 p11 p12 p13 p14 p15 p16 p17 p18 p19 : a0 → a1 → a2 → a3 → a4 → a5 → a6 → a7 → Prop} (h : ∃ b c d e f i j l, p8 b c d e f i j l ∧ p9 b c d e f i j l ∧ p10 b c d e f i j l ∧ p11 b c d e f i j l ∧ p12 b c d e f i j l ∧ p13 b c d e f i j l ∧ p14 b c d e f i j l ∧ p15 b c d e f i j l ∧ p16 b c d e f i j l ∧ p17 b c d e f i j l ∧ p18 b c d e f i j l ∧ p19 b c d e f i j l) (k : ∀ b c d e f i j l, p8 b c d e f i j l → p9 b c d e f i j l → p10 b c d e f i j l → p11 b c d e f i j l → p12 b c d e f i j l → p13 b c d e f i j l → p14 b c d e f i j l → p15 b c d e f i j l → p16 b c d e f i j l → p17 b c d e f i j l → p18 b c d e f i j l → p19 b c d e f i j l → G) : G := el_xxxxxxxxa h fun b c d e f i j l g => k b c d e f i j l g.1 g.2.1 g.2.2.1 g.2.2.2.1 g.2.2.2.2.1 g.2.2.2.2.2.1 g.2.2.2.2.2.2.1 g.2.2.2.2.2.2.2.1 g.2.2.2.2.2.2.2.2.1 g.2.2.2.2.2.2.2.2.2.1 g.2.2.2.2.2.2.2.2.2.2.1 g.2.2.2.2.2.2.2.2.2.2.2
theorem el_xxxxxxxxxaa {G : Prop} {a0 a1 a2 a3 a4 a5 a6 a7 a8 : Sort _} {p9 p10 : a0 → a1 → a2 → a3 → a4 → a5 → a6 → a7 → a8 → Prop} (h : ∃ b c d e f i j l m, p9 b c d e f i j l m ∧ p10 b c d e f i j l m) (k : ∀ b c d e f i j l m, p9 b c d e f i j l m → p10 b c d e f i j l m → G) : G := el_xxxxxxxxxa h fun b c d e f i j l m g => k b c d e f i j l m g.1 g.2
theorem el_xxxxxxxxxaaaa {G : Prop} {a0 a1 a2 a3 a4 a5 a6 a7 a8 : Sort _} {p9 p10 p11 p12 : a0 → a1 → a2 → a3 → a4 → a5 → a6 → a7 → a8 → Prop} (h : ∃ b c d e f i j l m, p9 b c d e f i j l m ∧ p10 b c d e f i j l m ∧ p11 b c d e f i j l m ∧ p12 b c d e f i j l m) (k : ∀ b c d e f i j l m, p9 b c d e f i j l m → p10 b c d e f i j l m → p11 b c d e f i j l m → p12 b c d e f i j l m → G) : G := el_xxxxxxxxxa h fun b c d e f i j l m g => k b c d e f i j l m g.1 g.2.1 g.2.2.1 g.2.2.2
theorem el_xxxxxxxxxaaaaaaaa {G : Prop} {a0 a1 a2 a3 a4 a5 a6 a7 a8 : Sort _} {p9 p10 p11 p12 p13 p14 p15 p16 : a0 → a1 → a2 → a3 → a4 → a5 → a6 → a7 → a8 → Prop} (h : ∃ b c d e f i j l m, p9 b c d e f i j l m ∧ p10 b c d e f i j l m ∧ p11 b c d e f i j l m ∧ p12 b c d e f i j l m ∧ p13 b c d e f i j l m ∧ p14 b c d e f i j l m ∧ p15 b c d e f i j l m ∧ p16 b c d e f i j l m) (k : ∀ b c d e f i j l m, p9 b c d e f i j l m → p10 b c d e f i j l m → p11 b c d e f i j l m → p12 b c d e f i j l m → p13 b c d e f i j l m → p14 b c d e f i j l m → p15 b c d e f i j l m → p16 b c d e f i j l m → G) : G := el_xxxxxxxxxa h fun b c d e f i j l m g => k b c d e f i j l m g.1 g.2.1 g.2.2.1 g.2.2.2.1 g.2.2.2.2.1 g.2.2.2.2.2.1 g.2.2.2.2.2.2.1 g.2.2.2.2.2.2.2
theorem el_xxxxxxxxxaaaaaaaaaa {G : Prop} {a0 a1 a2 a3 a4 a5 a6 a7 a8 : Sort _} {p9 p10 p11 p12 p13 p14 p15 p16 p17 p18 : a0 → a1 → a2 → a3 → a4 → a5 → a6 → a7 → a8 → Prop} (h : ∃ b c d e f i j l m, p9 b c d e f i j l m ∧ p10 b c d e f i j l m ∧ p11 b c d e f i j l m ∧ p12 b c d e f i j l m ∧ p13 b c d e f i j l m ∧ p14 b c d e f i j l m ∧ p15 b c d e f i j l m ∧ p16 b c d e f i j l m ∧ p17 b c d e f i j l m ∧ p18 b c d e f i j l m) (k : ∀ b c d e f i j l m, p9 b c d e f i j l m → p10 b c d e f i j l m → p11 b c d e f i j l m → p12 b c d e f i j l m → p13 b c d e f i j l m → p14 b c d e f i j l m → p15 b c d e f i j l m → p16 b c d e f i j l m → p17 b c d e f i j l m → p18 b c d e f i j l m → G) : G := el_xxxxxxxxxa h fun b c d e f i j l m g => k b c d e f i j l m g.1 g.2.1 g.2.2.1 g.2.2.2.1 g.2.2.2.2.1 g.2.2.2.2.2.1 g.2.2.2.2.2.2.1 g.2.2.2.2.2.2.2.1 g.2.2.2.2.2.2.2.2.1 g.2.2.2.2.2.2.2.2.2
theorem el_xxxxxxxxxxxaaa {G : Prop} {a0 a1 a2 a3 a4 a5 a6 a7 a8 a9 a10 : Sort _} {p11 p12 p13 : a0 → a1 → a2 → a3 → a4 → a5 → a6 → a7 → a8 → a9 → a10 → Prop} (h : ∃ b c d e f i j l m n o, p11 b c d e f i j l m n o ∧ p12 b c d e f i j l m n o ∧ p13 b c d e f i j l m n o) (k : ∀ b c d e f i j l m n o, p11 b c d e f i j l m n o → p12 b c d e f i j l m n o → p13 b c d e f i j l m n o → G) : G := el_xxxxxxxxxxxa h fun b c d e f i j l m n o g => k b c d e f i j l m n o g.1 g.2.1 g.2.2
theorem el_xxxxxxxxxxxaaaaaaaaa {G : Prop} {a0 a1 a2 a3 a4 a5 a6 a7 a8 a9 a10 : Sort _} {p11 p12 p13 p14 p15 p16 p17 p18 p19 : a0 → a1 → a2 → a3 → a4 → a5 → a6 → a7 → a8 → a9 → a10 → Prop} (h : ∃ b c d e f i j l m n o, p11 b c d e f i j l m n o ∧ p12 b c d e f i j l m n o ∧ p13 b c d e f i j l m n o ∧ p14 b c d e f i j l m n o ∧ p15 b c d e f i j l m n o ∧ p16 b c d e f i j l m n o ∧ p17 b c d e f i j l m n o ∧ p18 b c d e f i j l m n o ∧ p19 b c d e f i j l m n o) (k : ∀ b c d e f i j l m n o, p11 b c d e f i j l m n o → p12 b c d e f i j l m n o → p13 b c d e f i j l m n o → p14 b c d e f i j l m n o → p15 b c d e f i j l m n o → p16 b c d e f i j l m n o → p17 b c d e f i j l m n o → p18 b c d e f i j l m n o → p19 b c d e f i j l m n o → G) : G := el_xxxxxxxxxxxa h fun b c d e f i j l m n o g => k b c d e f i j l m n o g.1 g.2.1 g.2.2.1 g.2.2.2.1 g.2.2.2.2.1 g.2.2.2.2.2.1 g.2.2.2.2.2.2.1 g.2.2.2.2.2.2.2.1 g.2.2.2.2.2.2.2.2
theorem el_xxxxxxxxxxxxxxxxxaaa {G : Prop} {a0 a1 a2 a3 a4 a5 a6 a7 a8 a9 a10 a11 a12 a13 a14 a15 a16 : Sort _} {p17 p18 p19 : a0 → a1 → a2 → a3 → a4 → a5 → a6 → a7 → a8 → a9 → a10 → a11 → a12 → a13 → a14 → a15 → a16 → Prop} (h : ∃ b c d e f i j l m n o q r s t u w, p17 b c d e f i j l m n o q r s t u w ∧ p18 b c d e f i j l m n o q r s t u w ∧ p19 b c d e f i j l m n o q r s t u w) (k : ∀ b c d e f i j l m n o q r s t u w, p17 b c d e f i j l m n o q r s t u w → p18 b c d e f i j l m n o q r s t u w → p19 b c d e f i j l m n o q r s t u w → G) : G := el_xxxxxxxxxxxxxxxxxa h fun b c d e f i j l m n o q r s t u w g => k b c d e f i j l m n o q r s t u w g.1 g.2.1 g.2.2
theorem el_xxxxxxxxxxxxxxxxxaaaa {G : Prop} {a0 a1 a2 a3 a4 a5 a6 a7 a8 a9 a10 a11 a12 a13 a14 a15 a16 : Sort _} {p17 p18 p19 p20 : a0 → a1 → a2 → a3 → a4 → a5 → a6 → a7 → a8 → a9 → a10 → a11 → a12 → a13 → a14 → a15 → a16 → Prop} (h : ∃ b c d e f i j l m n o q r s t u w, p17 b c d e f i j l m n o q r s t u w ∧ p18 b c d e f i j l m n o q r s t u w ∧ p19 b c d e f i j l m n o q r s t u w ∧ p20 b c d e f i j l m n o q r s t u w) (k : ∀ b c d e f i j l m n o q r s t u w, p17 b c d e f i j l m n o q r s t u w → p18 b c d e f i j l m n o q r s t u w → p19 b c d e f i j l m n o q r s t u w → p20 b c d e f i j l m n o q r s t u w → G) : G := el_xxxxxxxxxxxxxxxxxa h fun b c d e f i j l m n o q r s t u w g => k b c d e f i j l m n o q r s t u w g.1 g.2.1 g.2.2.1 g.2.2.2
noncomputable abbrev KF (w : World) : Frag := K w.params
noncomputable def Ext (S : List Addr) (h h' : Heap) : Prop := ∀ b o, b ∉ S → h.get? b = some o → h'.get? b = some o
theorem Ext.refl (S : List Addr) (h : Heap) : Ext S h h := fun _ _ _ e => e
theorem Ext.trans {S : List Addr} {h h' h'' : Heap} (x : Ext S h h') (y : Ext S h' h'') : Ext S h h'' := fun b o n e => y b o n (x b o n e)
theorem Ext.keep {h h' : Heap} (x : Ext [] h h') : ∀ b o, h.get? b = some o → h'.get? b = some o := fun b o e => x b o (fun m => nomatch m) e
theorem Ext.of_keep {h h' : Heap} (x : ∀ b o, h.get? b = some o → h'.get? b = some o) : Ext [] h h' := fun b o _ e => x b o e
theorem Ext.of_hide {S : List Addr} {h h' : Heap} (x : ∀ b o, (hideAll h S).get? b = some o → h'.get? b = some o) : Ext S h h' := fun b o n e => x b o (hideAll_get _ e n)
structure Bs (w : World) (base : Heap) : Prop where
 kin : (KF w).In base
 top : ∃ mean mg mb, Top view (looseW view [Str.ofString "Graph"]) mean mg mb base
structure Cx (w : World) (A : Around) (outs : List Env) (base h : Heap) (n : Nat) : Prop where
 bs : Bs w base
 below : Below A base outs h
 hand : A.handled = none
 guards : A.guards = some []
 deep : A.depth + 20 * n ≤ 900
 room : A.units + 50 * n + 50 ≤ 2000
theorem Cx.keeps {w A outs base h n h'} (C : Cx w A outs base h n) (k : ∀ b o, h.get? b = some o → h'.get? b = some o) : Cx w A outs base h' n :=
 ⟨C.bs, ⟨C.below.stack, fun b o e => k b o (C.below.stays b o e), C.below.frames.of_keeps fun b o e _ => ⟨o, k b o e, rfl⟩⟩, C.hand, C.guards, C.deep, C.room⟩
theorem Cx.less {w A outs base h n k} (C : Cx w A outs base h n) (hk : k ≤ n) : Cx w A outs base h k := by
 have h1 := C.deep
 have h2 := C.room
 exact ⟨C.bs, C.below, C.hand, C.guards, by lia, by lia⟩
theorem Cx.line {w A outs base h n} (C : Cx w A outs base h n) : A.units + 64 < cLine := by
 have h2 := C.room
 show A.units + 64 < 9900
 lia
abbrev Loc := List (Str × Option Value)
noncomputable def lk (l : Loc) : Str → Option Value := fun y => (l.lookup y).join
noncomputable def locOf (l : List (Str × Value)) : Loc := l.map fun p => (p.1, some p.2)
theorem lk_locOf (l : List (Str × Value)) : lk (locOf l) = fun y => l.lookup y := by
 funext y
 induction l with
 | nil => rfl
 | cons p r ih =>
   show ((((p.1, some p.2) :: locOf r : Loc).lookup y)).join = (p :: r).lookup y
   obtain ⟨a, b⟩ := p
   rw [List.lookup_cons, List.lookup_cons]
   cases h : y == a
   · exact ih
   · rfl
noncomputable def SameOn (l l' : Loc) : List Str → Prop
 | [] => True
 | x :: r => (l.lookup x).join = (l'.lookup x).join ∧ SameOn l l' r
theorem SameOn.at {l l' : Loc} : ∀ {xs : List Str}, SameOn l l' xs → ∀ x ∈ xs, (l.lookup x).join = (l'.lookup x).join
 | _ :: _, h, x, hx => by
   rcases List.mem_cons.mp hx with rfl | hx
   · exact h.1
   · exact SameOn.at h.2 x hx
theorem SameOn.of {l l' : Loc} : ∀ {xs : List Str}, (∀ x ∈ xs, (l.lookup x).join = (l'.lookup x).join) → SameOn l l' xs
 | [], _ => trivial
 | x :: _, h => ⟨h x (.head _), SameOn.of fun y m => h y (.tail _ m)⟩
theorem lookup_off {l : Loc} {x : Str} (h : x ∉ l.map (·.1)) : l.lookup x = none := by
 induction l with
 | nil => rfl
 | cons p r ih =>
   obtain ⟨a, b⟩ := p
   rw [List.map_cons, List.mem_cons] at h
   rw [List.lookup_cons, beq_eq_false_iff_ne.mpr fun e => h (.inl e)]
   exact ih fun m => h (.inr m)
theorem lk_same {l l' : Loc} (h : SameOn l l' (l.map (·.1) ++ l'.map (·.1))) : lk l = lk l' := by
 funext x
 by_cases hx : x ∈ l.map (·.1) ++ l'.map (·.1)
 · exact h.at x hx
 · rw [List.mem_append, not_or] at hx
   show (l.lookup x).join = (l'.lookup x).join
   rw [lookup_off hx.1, lookup_off hx.2]
theorem lk_store (x : Str) (v : Value) (l : Loc) : (fun y => if y = x then some v else lk l y) = lk ((x, some v) :: l) := by
 funext y
 unfold lk
 rw [List.lookup_cons]
 by_cases h : y = x
 · subst h; simp
 · have : (y == x) = false := by simpa using h
   rw [this, if_neg h]
structure St (g : Heap) (L : Addr) (h : Heap) (l : Loc) (N : List (Addr × Obj)) : Prop where
 ns : h.Ns L (lk l)
 keep : ∀ b o, g.get? b = some o → h.get? b = some o
 sep : g.get? L = none
 nw : News g L h N
 nd : (N.map (·.1)).Nodup
inductive UpN (d : Addr) (o o' : Obj) : List (Addr × Obj) → List (Addr × Obj) → Prop
 | head {r} : UpN d o o' ((d, o) :: r) ((d, o') :: r)
 | tail {p r r'} : UpN d o o' r r' → UpN d o o' (p :: r) (p :: r')
theorem UpN.fst {d : Addr} {o o' : Obj} {l l' : List (Addr × Obj)} (x : UpN d o o' l l') : l'.map (·.1) = l.map (·.1) := by
 induction x with
 | head => rfl
 | tail r ih => rw [List.map_cons, List.map_cons, ih]
theorem UpN.mem {d : Addr} {o o' : Obj} : ∀ {l l' : List (Addr × Obj)}, UpN d o o' l l' → (d, o) ∈ l
 | _, _, .head => .head _
 | _, _, .tail r => .tail _ r.mem
theorem UpN.upd {d : Addr} {o o' : Obj} {l l' : List (Addr × Obj)} (x : UpN d o o' l l') : (l.map (·.1)).Nodup → Upd d o o' l l' := by
 induction x with
 | head =>
   intro n
   rw [List.map_cons, List.nodup_cons] at n
   exact .head fun p hp e => n.1 (List.mem_map.mpr ⟨p, hp, e⟩)
 | tail r ih =>
   intro n
   rw [List.map_cons, List.nodup_cons] at n
   exact .tail (fun e => n.1 (List.mem_map.mpr ⟨_, r.mem, e.symm⟩)) (ih n.2)
section
variable {g h h' : Heap} {L : Addr} {l : Loc} {N N' : List (Addr × Obj)}
theorem St.get {a : Addr} {o : Obj} (S : St g L h l N) (hm : (a, o) ∈ N) : h.get? a = some o := S.nw.get hm
theorem St.turn {D : Addr} {o o' : Obj} (S : St g L h l N) (U : UpN D o o' N N') (hs : Heap.SameBut D h h') (ho : h'.get? D = some o') : St g L h' l N' := by
 refine el_xxaaaa (U.upd S.nd).split fun pre post e1 e2 a b => ?_
 have z := S.nw (D, o) U.mem
 refine ⟨S.ns.sameBut hs (Ne.symm z.2.1), fun b o e => (hs.2 b (fun q => by rw [q, z.2.2] at e; cases e)).trans (S.keep b o e), S.sep, ?_, by rw [U.fst]; exact S.nd⟩
 subst e1 e2
 exact news_set S.nw a b hs ho
theorem St.grow (S : St g L h l N) (k : ∀ b o, h.get? b = some o → h'.get? b = some o) : St g L h' l N :=
 ⟨S.ns.keeps k, fun b o e => k b o (S.keep b o e), S.sep, S.nw.grown k, S.nd⟩
theorem St.new {a : Addr} (S : St g L h l N) (hn : h.get? a = none) : a ≠ L ∧ g.get? a = none ∧ a ∉ N.map (·.1) := by
 refine ⟨fun e => ?_, ?_, fun hm => ?_⟩
 · refine el_xxxaa (S.ns) fun oL _ _ hL _ => ?_
   rw [← e, hn] at hL; cases hL
 · cases q : g.get? a with
   | none => rfl
   | some o' => rw [S.keep _ _ q] at hn; cases hn
 · refine el_xaa (List.mem_map.mp hm) fun p hp e => ?_
   have := (S.nw p hp).1
   rw [e, hn] at this; cases this
theorem St.add {a : Addr} {o : Obj} (S : St g L h l N) (k : ∀ b o, h.get? b = some o → h'.get? b = some o) (ha : h'.get? a = some o) (hn : h.get? a = none) : St g L h' l ((a, o) :: N) := by
 have S' := S.grow k
 refine el_aaa (S.new hn) fun n1 n2 n3 => ?_
 refine ⟨S'.ns, S'.keep, S.sep, fun p hp => ?_, ?_⟩
 · rcases List.mem_cons.mp hp with rfl | hp
   · exact ⟨ha, n1, n2⟩
   · exact S'.nw p hp
 · rw [List.map_cons, List.nodup_cons]
   exact ⟨n3, S.nd⟩
theorem St.sub (S : St g L h l N) (hs : N'.Sublist N) : St g L h l N' := ⟨S.ns, S.keep, S.sep, fun p hp => S.nw p (hs.subset hp), (hs.map _).nodup S.nd⟩
theorem St.perm (S : St g L h l N) (hs : N'.Perm N) : St g L h l N' := ⟨S.ns, S.keep, S.sep, fun p hp => S.nw p (hs.subset hp), (hs.map _).nodup_iff.mpr S.nd⟩
theorem St.none {a : Addr} {o : Obj} (S : St g L h l N) (hm : (a, o) ∈ N) : g.get? a = .none := (S.nw _ hm).2.2
theorem St.ground (S : St g L h l N) : St (hideAll h (L :: N.map (·.1))) L h l N ∧ (∀ b o, g.get? b = some o → (hideAll h (L :: N.map (·.1))).get? b = some o) := by
 refine ⟨⟨S.ns, fun b o e => of_hideAll _ e, hideAll_none _ (.head _), fun p hp => ⟨(S.nw p hp).1, (S.nw p hp).2.1, hideAll_none _ (.tail _ (List.mem_map_of_mem hp))⟩, S.nd⟩, fun b o e => hideAll_get _ (S.keep b o e) fun hm => ?_⟩
 rcases List.mem_cons.mp hm with q | hm
 · rw [q, S.sep] at e; cases e
 · refine el_xaa (List.mem_map.mp hm) fun p hp q => ?_
   have := (S.nw p hp).2.2
   rw [q] at this; rw [this] at e; cases e
theorem St.ground_get (S : St g L h l N) {a : Addr} {o : Obj} (ha : h.get? a = some o) (h1 : a ≠ L) (h2 : a ∉ N.map (·.1)) : (hideAll h (L :: N.map (·.1))).get? a = some o :=
 hideAll_get _ ha fun hm => (List.mem_cons.mp hm).elim h1 h2
end
noncomputable def retOf : Flow → Value
 | .ret v => v
 | _ => .none
section
variable {w : World} {A : Around} {outs : List Env} {base : Heap} {n : Nat} {s : Shared}
theorem enter {R : Result → Shared → Prop} {name qual : Str} {params : Arguments} {body : List Stmt} {scope : Scope} {dV kV doc pm cdv ct oc : Value} {an od : Option Addr} {osl : Array (Option Value)} {f : Addr} {args : Args} {binds : List (Str × Value)}
   (N : List (Addr × Obj)) (hN : ∀ p ∈ N, s.heap.get? p.1 = some p.2) (hd : (N.map (·.1)).Nodup) (hS : ∀ a ∈ N.map (·.1), base.get? a = none ∧ ∀ env ∈ outs, env.frame ≠ some a) (C : Cx w A outs base s.heap (n + 1))
   (ho : (KF w).lookup f = some ⟨oc, od, .func (fnOf name qual params body scope dV kV doc pm an cdv ct), osl⟩) (hcd : codeIn (KF w) cdv qual = true)
   (hbind : BindsTo s (fnOf name qual params body scope dV kV doc pm an cdv ct) args binds) (hloc : ∀ y ∈ binds, scope.names.lookup y.1 = some .local)
   (h : ∀ h₁ L tk (Qf : Flow → Shared → Prop) Ef, (∀ fl s', R (.ok (.ret (retOf fl))) s' → Qf fl s') → St (hideAll s.heap (N.map (·.1))) L h₁ (locOf binds.reverse) N → 
     Cx w A outs base (hideAll s.heap (N.map (·.1))) (n + 1) →
     wpAny (model prg w) (A.deeper (envOf qual scope L f cdv)) (execs body (envOf qual scope L f cdv)) Qf Ef { s with heap := h₁, toks := tk })
   (hco : scope.isCoroutine = false := by rfl) (hgen : scope.isGenerator = false := by rfl) (hk : scope.kind = .function := by rfl)
   (hcell : ∀ x ∈ scope.names, x.2 ≠ .cell := by decide) : codeAny (model prg w) A (.call (.ref f) args) R s := by
 have X : (KF w).In s.heap := C.bs.kin.keeps C.below.stays
 refine el_xxxa (C.bs.top) fun mean mg mb T => ?_
 have hd1 := C.deep
 refine codeAny_call_def (fd := fnOf name qual params body scope dV kV doc pm an cdv ct) (body := body) (binds := binds) (by unfold recursionLimit; lia) (X _ _ ho) rfl (T.nolimit.keeps C.below.stays)
   (codeRec_of X hcd) rfl hbind hcell hloc (fun h₁ hns hk₁ => ?_) hco hgen hk
 have hsep : (hideAll s.heap (N.map (·.1))).get? s.heap.objs.size = none := by
   cases q : (hideAll s.heap (N.map (·.1))).get? s.heap.objs.size with
   | none => rfl
   | some o => exact absurd (Heap.lt_size (of_hideAll _ q)) (Nat.lt_irrefl _)
 have B : Below A base outs (hideAll s.heap (N.map (·.1))) := ⟨C.below.stack, fun b o e => hideAll_get _ (C.below.stays b o e) (fun m => by rw [(hS b m).1] at e; cases e),
   funFrames_hideAll C.below.frames fun env he a ha => (hS a ha).2 env he⟩
 exact h h₁ _ _ _ _ (fun fl _ x => by cases fl <;> exact x) ⟨by rw [lk_locOf]; exact hns, fun b o e => hk₁ b o (of_hideAll _ e), hsep, fun p hp => ⟨hk₁ _ _ (hN p hp), Nat.ne_of_lt (Heap.lt_size (hN p hp)), hideAll_none _ (List.mem_map_of_mem hp)⟩, hd⟩ ⟨C.bs, B, C.hand, C.guards, C.deep, C.room⟩
theorem enterC {Q : Value → Shared → Prop} {E : Value → Shared → Prop} {name qual : Str} {params : Arguments} {body : List Stmt} {scope : Scope} {dV kV doc pm cdv ct oc : Value} {an od : Option Addr} {osl : Array (Option Value)} {f : Addr} {args : List Value} {binds : List (Str × Value)}
   (N : List (Addr × Obj)) (hN : ∀ p ∈ N, s.heap.get? p.1 = some p.2) (hd : (N.map (·.1)).Nodup) (hS : ∀ a ∈ N.map (·.1), base.get? a = none ∧ ∀ env ∈ outs, env.frame ≠ some a) (C : Cx w A outs base s.heap (n + 1))
   (ho : (KF w).lookup f = some ⟨oc, od, .func (fnOf name qual params body scope dV kV doc pm an cdv ct), osl⟩) (hcd : codeIn (KF w) cdv qual = true)
   (hbind : BindsTo s (fnOf name qual params body scope dV kV doc pm an cdv ct) ⟨args, []⟩ binds) (hloc : ∀ y ∈ binds, scope.names.lookup y.1 = some .local)
   (h : ∀ h₁ L tk (Qf : Flow → Shared → Prop) Ef, (∀ fl s', Q (retOf fl) s' → Qf fl s') → St (hideAll s.heap (N.map (·.1))) L h₁ (locOf binds.reverse) N → 
     Cx w A outs base (hideAll s.heap (N.map (·.1))) (n + 1) →
     wpAny (model prg w) (A.deeper (envOf qual scope L f cdv)) (execs body (envOf qual scope L f cdv)) Qf Ef { s with heap := h₁, toks := tk })
   (hco : scope.isCoroutine = false := by rfl) (hgen : scope.isGenerator = false := by rfl) (hk : scope.kind = .function := by rfl)
   (hcell : ∀ x ∈ scope.names, x.2 ≠ .cell := by decide) : wpAny (model prg w) A (call (.ref f) args) Q E s :=
 wpAny_call (enter N hN hd hS C ho hcd hbind hloc h hco hgen hk hcell)
theorem Cx.push {n : Nat} {g : Heap} {h : Heap} {L a : Addr} {l : Loc} {N : List (Addr × Obj)} {name : Str} {scope : Scope} {cd : Value} (C : Cx w A outs base g (n + 1)) (S : St g L h l N) (hk : scope.kind = .function := by rfl) :
   Cx w (A.deeper (envOf name scope L a cd)) (envOf name scope L a cd :: outs) base h n := by
 have h1 := C.deep
 have h2 := C.room
 refine ⟨C.bs, ⟨Around.frames_deeper C.below.stack, fun b o e => S.keep b o (C.below.stays b o e), ?_⟩, C.hand, C.guards, ?_, ?_⟩
 · refine .cons (by show scope.kind ≠ .module; rw [hk]; decide) rfl S.ns ?_ (C.below.frames.of_keeps fun b o e _ => ⟨o, S.keep b o e, rfl⟩)
   cases q : base.get? L with
   | none => rfl
   | some o => have := C.below.stays _ _ q; rw [S.sep] at this; cases this
 · show A.depth + 1 + 20 * n ≤ 900; lia
 · show A.units + 3 + 50 * n + 50 ≤ 2000; lia
theorem Cx.apart {n : Nat} {g : Heap} {h : Heap} {L a : Addr} {l : Loc} {N : List (Addr × Obj)} {name : Str} {scope : Scope} {cd : Value} (C : Cx w A outs base g n) (S : St g L h l N) {b : Addr} {o : Obj} (hm : (b, o) ∈ N) :
   base.get? b = none ∧ ∀ env ∈ (envOf name scope L a cd :: outs), env.frame ≠ some b := by
 have hn := S.none hm
 refine ⟨?_, fun env he q => ?_⟩
 · cases e : base.get? b with
   | none => rfl
   | some o' => rw [C.below.stays _ _ e] at hn; cases hn
 · rcases List.mem_cons.mp he with rfl | he
   · exact (S.nw _ hm).2.1 (Option.some.inj q).symm
   · refine el_axaa (C.below.frames.mem (List.mem_filterMap.mpr ⟨env, he, q⟩)) fun o' _ ho' _ => ?_
     rw [ho'] at hn; cases hn
section
variable {M : Model} {g : Heap} {N : List (Addr × Obj)} {l : Loc} {env : Env} {E : Value → Shared → Prop} {x : Str} {v : Value} {pos : Pos} {A' : Around} {L : Addr}
theorem Cx.kinAt {g h : Heap} (C : Cx w A outs base g n) (k : ∀ b o, g.get? b = some o → h.get? b = some o) : (KF w).In h := (C.bs.kin.keeps C.below.stays).keeps k
theorem St.relist {h : Heap} {l' : Loc} (S : St g L h l N) (e : (l.map (·.1) ++ l'.map (·.1)).map (fun x => (l.lookup x).join) = (l.map (·.1) ++ l'.map (·.1)).map (fun x => (l'.lookup x).join)) : St g L h l' N :=
 ⟨by rw [← lk_same (SameOn.of (List.map_inj_left.mp e))]; exact S.ns, S.keep, S.sep, S.nw, S.nd⟩
theorem St.weak {h g' : Heap} (S : St g L h l N) (k : ∀ b o, g'.get? b = some o → g.get? b = some o) : St g' L h l N := by
 have nn : ∀ b, g.get? b = Option.none → g'.get? b = Option.none := fun b e => by
   cases q : g'.get? b with
   | none => rfl
   | some o => rw [k b o q] at e; cases e
 exact ⟨S.ns, fun b o e => S.keep b o (k b o e), nn _ S.sep, fun p hp => ⟨(S.nw p hp).1, (S.nw p hp).2.1, nn _ (S.nw p hp).2.2⟩, S.nd⟩
theorem nmL {Q : Value → Shared → Prop} (S : St g L s.heap l N) (hv : (l.lookup x).join = some v) (h : Q v s) (hL : env.locals = L := by rfl)
   (hk : env.scope.kind = .function := by rfl) (hl : env.kindOf x = some .local := by rfl) (hd : (x == ("__debug__" : Str)) = false := by decide) :
   wpAny M A' (eval (.Name x pos) env) Q E s := wpAny_Name (wpAny_loadName_local hk hl (hL ▸ S.ns) hv h) hd
theorem nmG {Q : Value → Shared → Prop} (S : St g L s.heap l N) (C : Cx w A outs base g n) (e : nsIn (KF w) mainGlobals x = some (some v)) (h : Q v s)
   (hk : env.scope.kind = .function := by rfl) (hx : env.kindOf x = some .globalImplicit := by rfl) (hg : env.globals = mainGlobals := by rfl) (hd : (x == ("__debug__" : Str)) = false := by decide) :
   wpAny M A' (eval (.Name x pos) env) Q E s := by
 refine el_xxxa (C.bs.top) fun mean mg mb T => ?_
 have k : ∀ b o, base.get? b = some o → s.heap.get? b = some o := fun b o e => S.keep b o (C.below.stays b o e)
 exact Calls.Name_function_global hk hx (Calls.loadGlobal_global (env := env) (by rw [hg]; exact T.g.keeps k) (mg_of C.bs.kin T.g e) h) hd
theorem nmB {Q : Value → Shared → Prop} (S : St g L s.heap l N) (C : Cx w A outs base g n) (e : nsIn (KF w) mainGlobals x = some none) (hv : bootBuiltins x = some v) (hn : x ≠ "__name__") (h : Q v s)
   (hk : env.scope.kind = .function := by rfl) (hx : env.kindOf x = some .globalImplicit := by rfl) (hg : env.globals = mainGlobals := by rfl) (hb : env.builtins = builtinsNs := by rfl) (hd : (x == ("__debug__" : Str)) = false := by decide) :
   wpAny M A' (eval (.Name x pos) env) Q E s := by
 refine el_xxxa (C.bs.top) fun mean mg mb T => ?_
 have k : ∀ b o, base.get? b = some o → s.heap.get? b = some o := fun b o e => S.keep b o (C.below.stays b o e)
 exact Calls.Name_function_global hk hx (Calls.loadGlobal_builtin (env := env) (by rw [hg]; exact T.g.keeps k) (mg_none_of C.bs.kin T.g e) (by rw [hb]; exact T.b.keeps k) ((T.builtins x hn).trans hv) h) hd
theorem nmC {Q : Value → Shared → Prop} {c : Addr} {o : Obj} (S : St g L s.heap l N) (hc : env.cells.lookup x = some c) (hm : (c, o) ∈ N) (ho : o.data = .cell (some v)) (h : Q v s)
   (hk : env.scope.kind = .function := by rfl) (hl : env.kindOf x = some .cell := by rfl) (hd : (x == ("__debug__" : Str)) = false := by decide) :
   wpAny M A' (eval (.Name x pos) env) Q E s := wpAny_Name (wpAny_loadName_cell hk hl hc ⟨o, S.get hm, ho⟩ h) hd
theorem stL {Q : Unit → Shared → Prop} (S : St g L s.heap l N)
   (h : ∀ h', St g L h' ((x, some v) :: l) N → Q () { s with heap := h', toks := s.toks + 1 }) (hL : env.locals = L := by rfl)
   (hk : env.scope.kind = .function := by rfl) (hl : env.kindOf x = some .local := by rfl) :
   wpAny M A' (storeName env x v) Q E s := by
 subst hL
 exact wpAny_storeName_local hl S.ns (fun h' hn hs => h h' ⟨by rw [← lk_store]; exact hn, fun b o e => (hs.2 b (fun q => by rw [show b = env.locals from q, S.sep] at e; cases e)).trans (S.keep b o e), S.sep, S.nw.set hs, S.nd⟩)
   (by rw [hk]; rfl)
variable {cn : Str} {cs : Scope} {a : Addr} {cd : Value}
theorem cwF {f : Value} {first : List Value} {env : Env} {e : Expr} {rest : List Expr} {Q : Value → Shared → Prop} (C : Cx w A outs base g n) (hk : keepIn (KF w) f = true)
   (h : wpAny M A' (spliced (backTo pos (starEach (e :: rest) env))) (fun vs s₁ => (∃ L l N, St g L s₁.heap l N) ∧ wpAny M A' (call f (first ++ vs)) Q E s₁) E s)
   (he : starEach (e :: rest) env = (false, eval e env) :: starEach rest env := by rfl) (hplain : (backTo pos (starEach rest env)).any (·.1) = false := by rfl) :
   wpAny M A' (callWith pos f first (backTo pos (starEach (e :: rest) env)) []) Q E s :=
 callWith_K (C.bs.kin.keeps C.below.stays) hk (wpAny_mono h (fun vs s₁ hs => ⟨by
   obtain ⟨⟨L, m, N, S⟩, _⟩ := hs
   exact C.kinAt S.keep, hs.2⟩) fun _ _ x => x) he hplain
theorem cwF0 {f : Value} {first : List Value} {env : Env} {Q : Value → Shared → Prop} (S : St g L s.heap l N) (C : Cx w A outs base g n) (hk : keepIn (KF w) f = true)
   (h : wpAny M A' (call f (first ++ [])) Q E s) : wpAny M A' (callWith pos f first (backTo pos (starEach [] env)) []) Q E s :=
 callWith_K0 (C.kinAt S.keep) hk h
end
end
section
variable {prog : Program} {w : World} {A : Around} {E : Value → Shared → Prop} {s : Shared} {g : Heap} {L : Addr} {N N' : List (Addr × Obj)}
theorem get_size (h : Heap) : h.get? h.objs.size = none := by
 cases e : h.get? h.objs.size with
 | none => rfl
 | some o => exact absurd (Heap.lt_size e) (Nat.lt_irrefl _)
section
variable {M : Model}
theorem newL {vs : List Value} {l : Loc} {Q : Value → Shared → Prop} (S : St g L s.heap l N)
   (h : ∀ a h', St g L h' l ((a, W.listOf vs.toArray 0) :: N) → s.heap.get? a = none → h'.get? a = some (W.listOf vs.toArray 0) → (∀ b o, s.heap.get? b = some o → h'.get? b = some o) → Q (.ref a) { s with heap := h' }) (hsz : vs.length ≤ sizeLine := by size_fits) : wpAny M A (newList vs) Q E s :=
 wpAny_newObj_type (h _ _ (S.add (a := s.heap.objs.size) (o := W.listOf vs.toArray 0) (fun b o e => Heap.get?_push_of_some _ e) (Heap.get?_push_size _ rfl) (get_size _)) (get_size _) (Heap.get?_push_size _ rfl) (fun b o e => Heap.get?_push_of_some _ e)) (by show vs.toArray.size ≤ sizeLine; rw [List.size_toArray]; exact hsz)
noncomputable abbrev tupOf (vs : List Value) : Obj := { cls := .type "tuple", data := .seq vs.toArray }
theorem newT {vs : List Value} {l : Loc} {Q : Value → Shared → Prop} (S : St g L s.heap l N)
   (h : ∀ a h', St g L h' l ((a, tupOf vs) :: N) → s.heap.get? a = none → h'.get? a = some (tupOf vs) → (∀ b o, s.heap.get? b = some o → h'.get? b = some o) → Q (.ref a) { s with heap := h' }) (hsz : vs.length ≤ sizeLine := by size_fits) : wpAny M A (newTuple vs) Q E s :=
 wpAny_newObj_type (h _ _ (S.add (a := s.heap.objs.size) (o := tupOf vs) (fun b o e => Heap.get?_push_of_some _ e) (Heap.get?_push_size _ rfl) (get_size _)) (get_size _) (Heap.get?_push_size _ rfl) (fun b o e => Heap.get?_push_of_some _ e)) (by show vs.toArray.size ≤ sizeLine; rw [List.size_toArray]; exact hsz)
end
theorem sub_const {c : Const} {k p} {o i : Value} : subscripted (.Constant c k p) false o i = operate [o, i] (getItem o i) := rfl
theorem sub_name {x p} {o i : Value} : subscripted (.Name x p) false o i = operate [o, i] (getItem o i) := rfl
theorem sp_cons {env : Env} {e : Expr} {rest : List Expr} {pos : Pos} {M : Model} {Q : List Value → Shared → Prop}
   (h : wpAny M A (eval e env) (fun v s₁ => wpAny M A (spliced (backTo pos (starEach rest env))) (fun vs s₂ => Q (v :: vs) s₂) E s₁) E s)
   (he : starEach (e :: rest) env = (false, eval e env) :: starEach rest env := by rfl) : wpAny M A (spliced (backTo pos (starEach (e :: rest) env))) Q E s := by
 rw [he]
 exact Calls.spliced_cons h
theorem sp_nil {env : Env} {pos : Pos} {M : Model} {Q : List Value → Shared → Prop} (h : Q [] s) : wpAny M A (spliced (backTo pos (starEach [] env))) Q E s := Calls.spliced_nil h
theorem subL {value slice : Expr} {l : Addr} {xs : Array Value} {k : Int} {u : Tok} {v : Value} {Q : Value → Shared → Prop} (hl : s.heap.IsList l xs) (h0 : 0 ≤ k) (hhi : k < 2 ^ 63) (hx : xs[k.toNat]? = some v) (h : Q v s)
   (hs : subscripted slice false (.ref l) (.int k u) = operate [.ref l, .int k u] (getItem (.ref l) (.int k u)) := by first | exact sub_const | exact sub_name | rfl) :
   wpAny (model prog w) A (subscriptTail value slice (.ref l) (.int k u)) Q E s :=
 tail_any hl.typeIs slot_list_getitem.lookup (wpAny_getItem_list hl h0 hhi hx h) hs
theorem setItem_at {l : Addr} {items : Array Value} {n : Nat} {k : Int} {t : Tok} {v : Value} {Q : Unit → Shared → Prop} (ho : s.heap.get? l = some (W.listOf items n)) (h0 : 0 ≤ k) (hn : k < items.size) (hfit : k < 2 ^ 63)
   (hQ : ∀ h', Heap.SameBut l s.heap h' → h'.get? l = some (W.listOf (items.setIfInBounds k.toNat v) n) → Q () { s with heap := h' }) :
   wpAny (model prog w) A (setItem (.ref l) (.int k t) v) Q E s := by
 have hl : s.heap.IsList l items := ⟨_, ho, rfl, n, rfl⟩
 unfold setItem
 try with_reducible refine wpAny_holding ?_
 first | refine wpAny_bind (wpAny_pure ?_) | skip
 refine wpAny_bind (wpAny_sequenceKey hl.typeIs (by decide) ?_)
 refine wpAny_bind (wpAny_callSpecial?_slot (name := Str.ofString "__setitem__") hl.typeIs slot_list_setitem
   (wpAny_call_entry slot_list_setitem hl.typeIs entry_list_setitem ?_ (args_list_setitem _ _ _)))
 show wpAny _ _ (Builtin.List.listSubscript? (.int k t) >>= _) _ _ s
 refine wpAny_bind (wpAny_listSubscript_int (fitsIndex_of h0 hfit) ?_)
 clear hfit
 refine el_xa (Int.eq_ofNat_of_zero_le h0) fun j hsb1 => ?_
 subst hsb1
 have hj : j < items.size := by lia
 have hx' : items[j]? = some items[j] := Array.getElem?_eq_getElem hj
 show wpAny _ _ ((seqItemAt l j >>= fun r => pure (r.map (j, ·))) >>= _) _ _ s
 refine wpAny_bind (wpAny_bind (wpAny_seqItemAt ho rfl (wpAny_pure ?_)))
 rw [hx']
 show wpAny _ _ (setSeqItemAt l j v >>= _) _ _ s
 have e : Obj.mapSeq (·.setIfInBounds j v) (W.listOf items n) = W.listOf (items.setIfInBounds j v) n := by
   simp [Obj.mapSeq]
 have hfin : (s.heap.update l (Obj.mapSeq (·.setIfInBounds j v))).get? l = some (W.listOf (items.setIfInBounds j v) n) := by
   rw [← e]; exact Heap.get?_update_self _ ho (by rw [e]; rfl)
 refine wpAny_bind (wpAny_setSeqItemAt ho rfl ?_)
 first
   | exact wpAny_bind (wpAny_pure (wpAny_pure ⟨.none, rfl, wpAny_pure (hQ _ (Heap.SameBut.update ..) hfin)⟩))
   | exact wpAny_pure ⟨.none, rfl, wpAny_pure (hQ _ (Heap.SameBut.update ..) hfin)⟩
theorem pop0_at {l : Addr} {v : Value} {vs : List Value} {n : Nat} {u : Tok} {Q : Value → Shared → Prop} (ho : s.heap.get? l = some (W.listOf (v :: vs).toArray n)) 
   (hQ : ∀ h', Heap.SameBut l s.heap h' → h'.get? l = some (W.listOf vs.toArray (n + 1)) → Q v { s with heap := h' }) (hsz : (v :: vs).length ≤ sizeLine) :
   wpAny (model prog w) A (call (.builtin "list.pop") [.ref l, .int 0 u]) Q E s := by
 have e : Obj.mapSeq (fun xs => xs.eraseIdxIfInBounds 0) (W.listOf (v :: vs).toArray n) = W.listOf vs.toArray (n + 1) := by
   have h1 : (v :: vs).toArray.eraseIdxIfInBounds 0 = vs.toArray := by simp [Array.eraseIdxIfInBounds]
   simp only [Obj.mapSeq, h1]
   simp
 refine call_meets PySem.F.slot_list_pop ⟨_, ho, rfl⟩ PySem.F.entry_list_pop (PySem.F.args_list_pop_2 _ _) (PySem.MeetsSeq.list_pop_at l _ n 0 u 0 v (by decide) (by simp [seqIndex?]) (by simp) (by simpa using hsz)) ⟨ho, hQ _ (Heap.SameBut.update ..) ?_⟩
 rw [← e]; exact Heap.get?_update_self _ ho (by rw [e]; rfl)
end
section
variable {M : Model} {A : Around} {s : Shared} {env : Env} {E : Value → Shared → Prop} {pos : Pos}
noncomputable abbrev SeqQ (M : Model) (A : Around) (rest : List Stmt) (env : Env) (E : Value → Shared → Prop) (Q : Flow → Shared → Prop) : Flow → Shared → Prop := fun f s' => match f with | .next => wpAny M A (execs rest env) Q E s' | f => Q f s'
theorem seqI {st : Stmt} {rest : List Stmt} {Q : Flow → Shared → Prop} (h : wpAny M A (exec st env) (SeqQ M A rest env E Q) E s) : wpAny M A (execs (st :: rest) env) Q E s := wpAny_execs_cons h
theorem seqN {rest : List Stmt} {Q : Flow → Shared → Prop} (h : wpAny M A (execs rest env) Q E s) : SeqQ M A rest env E Q .next s := h
theorem seqR {rest : List Stmt} {Q : Flow → Shared → Prop} {v : Value} (h : Q (.ret v) s) : SeqQ M A rest env E Q (.ret v) s := h
theorem seqC {rest : List Stmt} {Q : Flow → Shared → Prop} (h : Q .cont s) : SeqQ M A rest env E Q .cont s := h
abbrev NextQ (Q : Flow → Shared → Prop) : Unit → Shared → Prop := fun _ => Q .next
abbrev NextV (Q : Flow → Shared → Prop) : Value → Shared → Prop := fun _ => Q .next
abbrev RetQ (Q : Flow → Shared → Prop) : Value → Shared → Prop := fun v => Q (.ret v)
noncomputable abbrev AsgQ (M : Model) (A : Around) (env : Env) (x : Str) (E : Value → Shared → Prop) (Q : Flow → Shared → Prop) : Value → Shared → Prop := fun v s₁ => wpAny M A (storeName env x v) (NextQ Q) E s₁
theorem asgI {x : Str} {pos' : Pos} {value : PySem.Expr} {Q : Flow → Shared → Prop} (h : wpAny M A (eval value env) (AsgQ M A env x E Q) E s)
   (hs : swapsWith value (some (.Name x pos')) pos.line env = pure false := by rfl) : wpAny M A (exec (.Assign [.Name x pos'] value pos) env) Q E s := wpAny_Assign_Name h hs
noncomputable abbrev IfQ (M : Model) (A : Around) (body orelse : List Stmt) (env : Env) (E : Value → Shared → Prop) (Q : Flow → Shared → Prop) : Bool → Shared → Prop := fun b s₂ => if b then wpAny M A (execs body env) Q E s₂ else wpAny M A (execs orelse env) Q E s₂
theorem ifI {test : PySem.Expr} {body orelse : List Stmt} {Q : Flow → Shared → Prop} (h : wpAny M A (isTrue test env (eval test env)) (IfQ M A body orelse env E Q) E s) : wpAny M A (exec (.If test body orelse pos) env) Q E s := wpAny_If h
theorem retI {e : PySem.Expr} {Q : Flow → Shared → Prop} (h : wpAny M A (eval e env) (RetQ Q) E s) : wpAny M A (exec (.Return (some e) pos) env) Q E s := wpAny_Return_some h
noncomputable abbrev BinQ2 (M : Model) (A : Around) (op : Operator) (a : Value) (E : Value → Shared → Prop) (Q : Value → Shared → Prop) : Value → Shared → Prop := fun b s₂ => wpAny M A (binaryOp op a b) Q E s₂
noncomputable abbrev BinQ (M : Model) (A : Around) (op : Operator) (r : PySem.Expr) (env : Env) (E : Value → Shared → Prop) (Q : Value → Shared → Prop) : Value → Shared → Prop := fun a s₁ => wpAny M A (eval r env) (BinQ2 M A op a E Q) E s₁
theorem binI {l r : PySem.Expr} {op : Operator} {Q : Value → Shared → Prop} (h : wpAny M A (eval l env) (BinQ M A op r env E Q) E s) : wpAny M A (eval (.BinOp l op r pos) env) Q E s := wpAny_BinOp h
noncomputable abbrev CmpQ2 (M : Model) (A : Around) (op : CmpOp) (a : Value) (E : Value → Shared → Prop) (Q : Value → Shared → Prop) : Value → Shared → Prop := fun b s₂ => wpAny M A (compareOp op a b) Q E s₂
noncomputable abbrev CmpQ (M : Model) (A : Around) (op : CmpOp) (r : PySem.Expr) (env : Env) (E : Value → Shared → Prop) (Q : Value → Shared → Prop) : Value → Shared → Prop := fun a s₁ => wpAny M A (eval r env) (CmpQ2 M A op a E Q) E s₁
noncomputable abbrev TruQ (M : Model) (A : Around) (E : Value → Shared → Prop) (Q : Bool → Shared → Prop) : Value → Shared → Prop := fun c s₃ => wpAny M A (truthy c) Q E s₃
theorem cmpI {l r : PySem.Expr} {op : CmpOp} {Q : Value → Shared → Prop} (h : wpAny M A (eval l env) (CmpQ M A op r env E Q) E s) (hm : behindInMarks op r = false := by with_unfolding_all rfl) : wpAny M A (eval (.Compare l [op] [r] pos) env) Q E s := wpAny_Compare1 h hm
theorem cmpT {l r : PySem.Expr} {op : CmpOp} {whole : Sem Value} {Q : Bool → Shared → Prop} (h : wpAny M A (eval l env) (CmpQ M A op r env E (TruQ M A E Q)) E s) (hm : behindInMarks op r = false := by with_unfolding_all rfl) : wpAny M A (isTrue (.Compare l [op] [r] pos) env whole) Q E s := wpAny_isTrue_Compare1 h hm
noncomputable abbrev SubQ2 (M : Model) (A : Around) (value slice : PySem.Expr) (o : Value) (E : Value → Shared → Prop) (Q : Value → Shared → Prop) : Value → Shared → Prop := fun i s₂ => wpAny M A (subscriptTail value slice o i) Q E s₂
noncomputable abbrev SubQ (M : Model) (A : Around) (value slice : PySem.Expr) (env : Env) (E : Value → Shared → Prop) (Q : Value → Shared → Prop) : Value → Shared → Prop := fun o s₁ => wpAny M A (eval slice env) (SubQ2 M A value slice o E Q) E s₁
theorem subI {value slice : PySem.Expr} {Q : Value → Shared → Prop} (h : wpAny M A (eval value env) (SubQ M A value slice env E Q) E s) : wpAny M A (eval (.Subscript value slice pos) env) Q E s := Subscript_ h
noncomputable abbrev CalQ (M : Model) (A : Around) (pos : Pos) (args : List PySem.Expr) (env : Env) (E : Value → Shared → Prop) (Q : Value → Shared → Prop) : Value → Shared → Prop := fun f s₁ => wpAny M A (callWith pos f [] (backTo pos (starEach args env)) []) Q E s₁
theorem calI {func : PySem.Expr} {args : List PySem.Expr} {Q : Value → Shared → Prop} (h : wpAny M A (eval func env) (CalQ M A pos args env E Q) E s)
   (he : eval (.Call func args [] pos) env = (do callWith pos (← eval func env) [] (backTo pos (starEach args env)) (backToKw pos (keywordEach [] env))) := by rfl) : wpAny M A (eval (.Call func args [] pos) env) Q E s := Call_ h he
noncomputable abbrev MetQ2 (M : Model) (A : Around) (pos : Pos) (args : List PySem.Expr) (env : Env) (E : Value → Shared → Prop) (Q : Value → Shared → Prop) : Value × List Value → Shared → Prop := fun fx s₂ => wpAny M A (callWith pos fx.1 fx.2 (backTo pos (starEach args env)) []) Q E s₂
noncomputable abbrev MetQ (M : Model) (A : Around) (pos : Pos) (name : Str) (pl : Sem Bool) (args : List PySem.Expr) (env : Env) (E : Value → Shared → Prop) (Q : Value → Shared → Prop) : Value → Shared → Prop := fun ov s₁ => wpAny M A (getMethod ov name pl) (MetQ2 M A pos args env E Q) E s₁
theorem metI {o : PySem.Expr} {name : Str} {apos : Pos} {args : List PySem.Expr} {pl : Sem Bool} {Q : Value → Shared → Prop} (h : wpAny M A (eval o env) (MetQ M A pos name pl args env E Q) E s)
   (he : eval (.Call (.Attribute o name apos) args [] pos) env = (do
     let ov ← eval o env
     standAt apos.atName
     let (f, first) ← holding [ov] (getMethod ov name pl)
     callWith pos f first (backTo pos (starEach args env)) []) := by rfl) : wpAny M A (eval (.Call (.Attribute o name apos) args [] pos) env) Q E s := MethodCall_ h he
noncomputable abbrev TupQ (M : Model) (A : Around) (E : Value → Shared → Prop) (Q : Value → Shared → Prop) : List Value → Shared → Prop := fun vs s₁ => wpAny M A (newTuple vs) Q E s₁
noncomputable abbrev LisQ (M : Model) (A : Around) (E : Value → Shared → Prop) (Q : Value → Shared → Prop) : List Value → Shared → Prop := fun vs s₁ => wpAny M A (newList vs) Q E s₁
theorem tupI {elts : List PySem.Expr} {k : Nat} {Q : Value → Shared → Prop} (h : wpAny M A (spliced (backTo pos (starEach elts env))) (TupQ M A E Q) E s) : wpAny M A (eval (.Tuple elts k pos) env) Q E s := Tuple_ h
theorem lisI {elts : List PySem.Expr} {Q : Value → Shared → Prop} (h : wpAny M A (spliced (backTo pos (starEach elts env))) (LisQ M A E Q) E s) : wpAny M A (eval (.List elts pos) env) Q E s := List_ h
abbrev ConQ (v : Value) (Q : List Value → Shared → Prop) : List Value → Shared → Prop := fun vs s₂ => Q (v :: vs) s₂
noncomputable abbrev SpcQ (M : Model) (A : Around) (pos : Pos) (rest : List PySem.Expr) (env : Env) (E : Value → Shared → Prop) (Q : List Value → Shared → Prop) : Value → Shared → Prop := fun v s₁ => wpAny M A (spliced (backTo pos (starEach rest env))) (ConQ v Q) E s₁
theorem spcI {e : PySem.Expr} {rest : List PySem.Expr} {Q : List Value → Shared → Prop} (h : wpAny M A (eval e env) (SpcQ M A pos rest env E Q) E s)
   (he : starEach (e :: rest) env = (false, eval e env) :: starEach rest env := by rfl) : wpAny M A (spliced (backTo pos (starEach (e :: rest) env))) Q E s := sp_cons h he
noncomputable abbrev BltQ (M : Model) (A : Around) (id : String) (E : Value → Shared → Prop) (Q : Value → Shared → Prop) : List Value → Shared → Prop := fun vs s₁ => wpAny M A (call (.builtin id) vs) Q E s₁
theorem bltI {id : String} {e : PySem.Expr} {rest : List PySem.Expr} {Q : Value → Shared → Prop} (h : wpAny M A (spliced (backTo pos (starEach (e :: rest) env))) (BltQ M A id E Q) E s)
   (he : starEach (e :: rest) env = (false, eval e env) :: starEach rest env := by rfl) (hplain : (backTo pos (starEach rest env)).any (·.1) = false := by rfl) : wpAny M A (callWith pos (.builtin id) [] (backTo pos (starEach (e :: rest) env)) []) Q E s := PyProof.Rows.callWith_builtin1 h he hplain
end
theorem ite_nt {a b : Prop} (h : a) : ite ((!false) = true) a b := h
theorem ite_nf {a b : Prop} (h : b) : ite ((!true) = true) a b := h
/-! ## the table of a set -/
abbrev Rising (l : List Nat) : Prop := l.Pairwise (· < ·)
theorem below_go (xs : Array Nat) (hs : Rising xs.toList) (j : Nat) : ∀ (f lo hi : Nat), lo ≤ hi → hi ≤ xs.size → hi - lo ≤ f →
   (∀ i x, i < lo → xs[i]? = some x → x < j) → (∀ i x, hi ≤ i → xs[i]? = some x → j ≤ x) →
   let p := SetTable.below.go xs j f lo hi
   p ≤ xs.size ∧ (∀ i x, i < p → xs[i]? = some x → x < j) ∧ (∀ i x, p ≤ i → xs[i]? = some x → j ≤ x) := by
 have mono : ∀ {a b : Nat} {x y : Nat}, a < b → xs[a]? = some x → xs[b]? = some y → x < y := by
   intro a b x y hab ha hb
   rw [← Array.getElem?_toList] at ha hb
   refine el_xa (List.getElem?_eq_some_iff.mp ha) fun ha1 hsb1 => ?_
   subst hsb1
   refine el_xa (List.getElem?_eq_some_iff.mp hb) fun hb1 hsb1 => ?_
   subst hsb1
   exact List.pairwise_iff_getElem.mp hs a b ha1 hb1 hab
 intro f
 induction f with
 | zero =>
   intro lo hi h1 h2 h3 ha hb
   have : lo = hi := by lia
   subst this
   exact ⟨h2, ha, hb⟩
 | succ f ih =>
   intro lo hi h1 h2 h3 ha hb
   unfold SetTable.below.go
   by_cases hlt : lo < hi
   · rw [if_pos hlt]
     dsimp only
     have hm : (lo + hi) / 2 < xs.size := by lia
     have hget : xs.getD ((lo + hi) / 2) j = xs[(lo + hi) / 2] := by simp [Array.getD, hm]
     have hsome : xs[(lo + hi) / 2]? = some xs[(lo + hi) / 2] := Array.getElem?_eq_getElem hm
     rw [hget]
     by_cases hc : xs[(lo + hi) / 2] < j
     · rw [if_pos hc]
       refine ih _ _ (by lia) h2 (by lia) (fun i x hi' hx => ?_) hb
       by_cases e : i = (lo + hi) / 2
       · subst e; rw [hsome] at hx; cases hx; exact hc
       · exact Nat.lt_trans (mono (by lia) hx hsome) hc
     · rw [if_neg hc]
       refine ih _ _ (by lia) (by lia) (by lia) ha (fun i x hi' hx => ?_)
       by_cases e : i = (lo + hi) / 2
       · subst e; rw [hsome] at hx; cases hx; lia
       · have := mono (by lia : (lo + hi) / 2 < i) hsome hx; lia
   · rw [if_neg hlt]
     have : lo = hi := by lia
     subst this
     exact ⟨h2, ha, hb⟩
theorem below_spec {xs : Array Nat} (hs : Rising xs.toList) (j : Nat) :
   SetTable.below xs j ≤ xs.size ∧ (∀ i x, i < SetTable.below xs j → xs[i]? = some x → x < j) ∧ (∀ i x, SetTable.below xs j ≤ i → xs[i]? = some x → j ≤ x) :=
 below_go xs hs j xs.size 0 xs.size (Nat.zero_le _) (Nat.le_refl _) (by lia) (fun _ _ h => absurd h (Nat.not_lt_zero _)) (fun i x h hx => by
   have := Array.getElem?_eq_none_iff.mpr h; rw [this] at hx; cases hx)
theorem has_nil (j : Nat) : SetTable.has #[] j = false := by
 unfold SetTable.has; simp
section
variable {t : SetTable}
theorem slot_live (hs : Rising t.place.toList) {i j : Nat} (hi : t.place[i]? = some j) : t.slot j = .live i := by
 refine el_aaa (below_spec hs j) fun _ h1 h2 => ?_
 have e : SetTable.below t.place j = i := by
   rcases Nat.lt_trichotomy (SetTable.below t.place j) i with h | h | h
   · have hsz : SetTable.below t.place j < t.place.size := by
       have := (Array.getElem?_eq_some_iff.mp hi).1; lia
     have hq := h2 _ _ (Nat.le_refl _) (Array.getElem?_eq_getElem hsz)
     rw [← Array.getElem?_toList] at hi
     refine el_xa (List.getElem?_eq_some_iff.mp hi) fun hi1 e1 => ?_
     have := List.pairwise_iff_getElem.mp hs _ _ (by simpa using hsz) hi1 h
     simp only [Array.getElem_toList] at this e1
     lia
   · exact h
   · have := h1 i j h hi; lia
 unfold SetTable.slot
 dsimp only
 rw [e, hi]
 simp
theorem slot_free (hd : t.dummies = #[]) {j : Nat} (hj : j ∉ t.place) : t.slot j = .empty := by
 unfold SetTable.slot
 dsimp only
 have : (t.place[SetTable.below t.place j]? == some j) = false := by
   cases e : t.place[SetTable.below t.place j]? with
   | none => rfl
   | some x =>
     have hx : x ≠ j := by
       rintro rfl
       refine el_xa (Array.getElem?_eq_some_iff.mp e) fun hh e' => ?_
       exact hj (e' ▸ Array.getElem_mem hh)
     simpa using hx
 rw [this, hd, has_nil]
 rfl
end
noncomputable def nextP (mask : Nat) (p : SetTable.Probe) : SetTable.Probe :=
 if p.more > 0 then { p with j := p.j + 1, more := p.more - 1 } else
 let (i, perturb) := SetTable.leap mask p.i p.perturb
 { p with j := i, more := SetTable.runEnd mask i - i, i, perturb }
theorem advance_eq (t : SetTable) (p : SetTable.Probe) : t.advance p = nextP t.mask p := rfl
noncomputable def visits (mask : Nat) : Nat → SetTable.Probe → List Nat
 | 0, _ => []
 | f + 1, p => p.j :: visits mask f (nextP mask p)
noncomputable def startP (mask : Nat) (h : Int) : SetTable.Probe :=
 let i := SetTable.bits h % (mask + 1)
 { j := i, more := SetTable.runEnd mask i - i, i, perturb := SetTable.bits h, dummy := none }
theorem start_eq (t : SetTable) (h : Int) : t.probeStart h = startP t.mask h := rfl
theorem runEnd_le {mask i : Nat} (h : i ≤ mask) : i ≤ SetTable.runEnd mask i ∧ SetTable.runEnd mask i ≤ mask := by
 unfold SetTable.runEnd; split <;> lia
theorem nextP_le {mask : Nat} {p : SetTable.Probe} (h : p.j + p.more ≤ mask) : (nextP mask p).j + (nextP mask p).more ≤ mask ∧ (nextP mask p).dummy = p.dummy := by
 unfold nextP
 split
 · refine ⟨?_, rfl⟩; dsimp only; lia
 · refine ⟨?_, rfl⟩
   dsimp only [SetTable.leap]
   have h1 : (p.i * 5 + 1 + p.perturb / 32) % (mask + 1) ≤ mask := Nat.le_of_lt_succ (Nat.mod_lt _ (Nat.succ_pos _))
   have := runEnd_le h1
   lia
theorem startP_le (mask : Nat) (h : Int) : (startP mask h).j + (startP mask h).more ≤ mask ∧ (startP mask h).dummy = none := by
 refine ⟨?_, rfl⟩
 dsimp only [startP]
 have h1 : SetTable.bits h % (mask + 1) ≤ mask := Nat.le_of_lt_succ (Nat.mod_lt _ (Nat.succ_pos _))
 have := runEnd_le h1
 lia
theorem go_cases (t : SetTable) (hs : Rising t.place.toList) (hd : t.dummies = #[]) (hashAt : Nat → Int) (h : Int) : ∀ (f : Nat) (p : SetTable.Probe), p.j + p.more ≤ t.mask → p.dummy = none →
   (∃ j i nxt, SetTable.probe.go t hashAt h f p = some (.candidate j i nxt) ∧ t.place[i]? = some j ∧ hashAt i = h) ∨
   (∃ j, SetTable.probe.go t hashAt h f p = some (.empty j none) ∧ j ∉ t.place ∧ j ≤ t.mask) ∨
   (∀ j ∈ visits t.mask f p, j ∈ t.place) := by
 intro f
 induction f with
 | zero => intro p _ _; exact .inr (.inr fun j hj => nomatch hj)
 | succ f ih =>
   intro p hp hdm
   unfold SetTable.probe.go
   by_cases hm : p.j ∈ t.place
   · obtain ⟨i, hi, e⟩ := Array.mem_iff_getElem.mp hm
     have hi' : t.place[i]? = some p.j := by rw [Array.getElem?_eq_getElem hi, e]
     rw [slot_live hs hi']
     dsimp only
     by_cases hh : hashAt i = h
     · refine .inl ⟨p.j, i, t.advance p, ?_, hi', hh⟩
       rw [if_pos (by simpa using hh)]
     · rw [if_neg (by simpa using hh), advance_eq]
       rcases ih (nextP t.mask p) (nextP_le hp).1 ((nextP_le hp).2.trans hdm) with h1 | h1 | h1
       · exact .inl h1
       · exact .inr (.inl h1)
       · refine .inr (.inr fun j hj => ?_)
         rcases List.mem_cons.mp hj with rfl | hj
         · exact hm
         · exact h1 j hj
   · rw [slot_free hd hm]
     exact .inr (.inl ⟨p.j, by rw [hdm], hm, by lia⟩)
noncomputable def Cov (mask : Nat) (h : Int) : Prop := ∀ j ≤ mask, j ∈ visits mask (10 * SetTable.turns mask) (startP mask h)
theorem pigeon {l : List Nat} {m : Nat} (hl : l.length ≤ m) : ∃ j ≤ m, j ∉ l := by
 apply Classical.byContradiction
 intro hn
 have hall : ∀ j, j ≤ m → j ∈ l := fun j hj => Classical.byContradiction fun h => hn ⟨j, hj, h⟩
 have hsub : (List.range (m + 1)) ⊆ l := fun j hj => hall j (by have := List.mem_range.mp hj; lia)
 have := (List.nodup_range (n := m + 1)).length_le_of_subset hsub
 simp at this
 lia
structure TabOk (t : SetTable) (n : Nat) : Prop where
 rising : Rising t.place.toList
 size : t.place.size = n
 inMask : ∀ j ∈ t.place, j ≤ t.mask
 nodummy : t.dummies = #[]
 plain : t.plain = true
 room : (t.mask = 7 ∧ n * 5 < 21) ∨ (t.mask = 31 ∧ n * 5 < 93)
theorem TabOk.fits {t : SetTable} {n : Nat} (T : TabOk t n) : t.fits n = true := by
 simp only [SetTable.fits, SetTable.fill, T.size, T.nodummy, Bool.and_eq_true, beq_iff_eq, decide_eq_true_eq, true_and]
 have := T.room
 simp
 lia
theorem probe_cases {t : SetTable} {n : Nat} (T : TabOk t n) (hashAt : Nat → Int) {h : Int} (hc : Cov t.mask h) :
   (∃ j i nxt, t.probe hashAt h (t.probeStart h) = some (.candidate j i nxt) ∧ t.place[i]? = some j ∧ hashAt i = h) ∨
   (∃ j, t.probe hashAt h (t.probeStart h) = some (.empty j none) ∧ j ∉ t.place ∧ j ≤ t.mask) := by
 rw [start_eq]
 rcases go_cases t T.rising T.nodummy hashAt h (10 * SetTable.turns t.mask) (startP t.mask h) (startP_le _ _).1 rfl with h1 | h1 | h1
 · exact .inl h1
 · exact .inr h1
 · exfalso
   refine el_xaa (pigeon (l := t.place.toList) (m := t.mask) (by rw [Array.length_toList, T.size]; have := T.room; lia)) fun j hj hn => ?_
   exact hn (by simpa using h1 j (hc j hj))
theorem put_ok {t : SetTable} {n j : Nat} (T : TabOk t n) (hj : j ∉ t.place) (hm : j ≤ t.mask) (hr : (t.mask = 7 ∧ (n + 1) * 5 < 21) ∨ (t.mask = 31 ∧ (n + 1) * 5 < 93)) : TabOk (t.put j).1 (n + 1) := by
 refine el_aaa (below_spec T.rising j) fun hp h1 h2 => ?_
 have ed : (t.put j).1.dummies = #[] := by
   show (if SetTable.has t.dummies j then _ else t.dummies) = #[]
   rw [T.nodummy, has_nil]; rfl
 have el : (t.put j).1.place.toList = t.place.toList.take (SetTable.below t.place j) ++ j :: t.place.toList.drop (SetTable.below t.place j) := SetTable.toList_insertAt _ _ _
 refine ⟨?_, ?_, ?_, ed, T.plain, hr⟩
 · rw [el]
   rw [Rising, List.pairwise_append]
   refine ⟨T.rising.sublist (List.take_sublist _ _), ?_, ?_⟩
   · rw [List.pairwise_cons]
     refine ⟨fun x hx => ?_, T.rising.sublist (List.drop_sublist _ _)⟩
     obtain ⟨i, hi, rfl⟩ := List.mem_iff_getElem.mp hx
     rw [List.getElem_drop]
     have hi2 : SetTable.below t.place j + i < t.place.size := by
       rw [List.length_drop, Array.length_toList] at hi; lia
     have hge := h2 (SetTable.below t.place j + i) _ (by lia) (Array.getElem?_eq_getElem hi2)
     have hne : t.place[SetTable.below t.place j + i] ≠ j := fun e => hj (e ▸ Array.getElem_mem hi2)
     simp only [Array.getElem_toList]
     lia
   · intro a ha b hb
     obtain ⟨i, hi, rfl⟩ := List.mem_iff_getElem.mp ha
     rw [List.getElem_take]
     have hi2 : i < SetTable.below t.place j ∧ i < t.place.size := by
       rw [List.length_take, Array.length_toList] at hi; lia
     have hlt := h1 i _ hi2.1 (Array.getElem?_eq_getElem hi2.2)
     rcases List.mem_cons.mp hb with rfl | hb
     · simpa using hlt
     · obtain ⟨k, hk, rfl⟩ := List.mem_iff_getElem.mp hb
       rw [List.getElem_drop]
       have hk2 : SetTable.below t.place j + k < t.place.size := by
         rw [List.length_drop, Array.length_toList] at hk; lia
       have hge := h2 (SetTable.below t.place j + k) _ (by lia) (Array.getElem?_eq_getElem hk2)
       simp only [Array.getElem_toList]
       lia
 · rw [← Array.length_toList, el, List.length_append, List.length_cons, List.length_take, List.length_drop, Array.length_toList, T.size]
   rw [T.size] at hp
   lia
 · intro x hx
   have hx' : x ∈ (t.put j).1.place.toList := by simpa using hx
   rw [el] at hx'
   rcases List.mem_append.mp hx' with h | h
   · exact T.inMask x (by simpa using List.mem_of_mem_take h)
   · rcases List.mem_cons.mp h with rfl | h
     · exact hm
     · exact T.inMask x (by simpa using List.mem_of_mem_drop h)
theorem put_p {t : SetTable} (j : Nat) : (t.put j).2 = SetTable.below t.place j := rfl
theorem put_mask {t : SetTable} (j : Nat) : (t.put j).1.mask = t.mask := rfl
noncomputable def runsL (mask : Nat) : Nat → Nat → Nat → List Nat
 | 0, _, _ => []
 | f + 1, i, p => (List.range (SetTable.runEnd mask i + 1 - i)).map (i + ·) ++ runsL mask f (SetTable.leap mask i p).1 (SetTable.leap mask i p).2
noncomputable def CovL (mask : Nat) (h : Int) : Prop := ∀ j ≤ mask, j ∈ runsL mask (SetTable.turns mask) (SetTable.bits h % (mask + 1)) (SetTable.bits h)
theorem free_some (mask : Nat) (owner : Array (Option Nat)) : ∀ (f i p : Nat), i ≤ mask → (∃ j ∈ runsL mask f i p, (owner.getD j (some 0)).isNone = true) →
   ∃ j, SetTable.layClean.free mask owner f i p = some j ∧ (owner.getD j (some 0)).isNone = true ∧ j ≤ mask := by
 intro f
 induction f with
 | zero => intro i p _ ⟨j, hj, _⟩; exact nomatch hj
 | succ f ih =>
   intro i p hi hex
   unfold SetTable.layClean.free
   have hr := runEnd_le hi
   cases hfd : (List.range (SetTable.runEnd mask i + 1 - i)).find? fun k => (owner.getD (i + k) (some 0)).isNone with
   | some k =>
     have h1 := List.find?_some hfd
     have h2 := List.mem_of_find?_eq_some hfd
     exact ⟨i + k, rfl, h1, by have := List.mem_range.mp h2; lia⟩
   | none =>
     dsimp only
     refine ih _ _ ?_ ?_
     · show (i * 5 + 1 + p / 32) % (mask + 1) ≤ mask
       exact Nat.le_of_lt_succ (Nat.mod_lt _ (Nat.succ_pos _))
     · refine el_xaa hex fun j hj hn => ?_
       try clear hex
       rcases List.mem_append.mp hj with h | h
       · exfalso
         refine el_xaa (List.mem_map.mp h) fun k hk hsb2 => ?_
         subst hsb2
         have := List.find?_eq_none.mp hfd k hk
         exact this hn
       · exact ⟨j, h, hn⟩
theorem fm_some (x : Nat) (r : List (Option Nat)) : (some x :: r).filterMap id = x :: r.filterMap id := rfl
theorem fm_none (r : List (Option Nat)) : (none :: r).filterMap id = r.filterMap id := rfl
theorem filterMap_id_len : ∀ (l : List (Option Nat)), (∀ x ∈ l, x.isSome = true) → (l.filterMap id).length = l.length
 | [], _ => rfl
 | none :: r, h => by have := h none (.head _); cases this
 | some x :: r, h => by
   rw [fm_some, List.length_cons, List.length_cons, filterMap_id_len r fun y hy => h y (.tail _ hy)]
theorem lay_fold (mask : Nat) : ∀ (hs : List Int) (owner : Array (Option Nat)) (m : Nat), owner.size = mask + 1 → (owner.toList.filterMap id).Perm (List.range m) → m + hs.length ≤ mask →
   (∀ h ∈ hs, CovL mask h) →
   ∃ owner', hs.foldl (fun acc h => do
     let (owner, k) ← acc
     let j ← SetTable.layClean.free mask owner (SetTable.turns mask) (SetTable.bits h % (mask + 1)) (SetTable.bits h)
     pure (owner.setIfInBounds j (some k), k + 1)) (some (owner, m)) = some (owner', m + hs.length) ∧ owner'.size = mask + 1 ∧ (owner'.toList.filterMap id).Perm (List.range (m + hs.length)) := by
 intro hs
 induction hs with
 | nil => intro owner m h1 h2 _ _; exact ⟨owner, rfl, h1, h2⟩
 | cons h r ih =>
   intro owner m h1 h2 h3 h4
   have hfree : ∃ j, j ≤ mask ∧ (owner.getD j (some 0)).isNone = true := by
     apply Classical.byContradiction
     intro hn
     have hall : ∀ x ∈ owner.toList, x.isSome = true := fun x hx => by
       obtain ⟨i, hi, rfl⟩ := List.mem_iff_getElem.mp hx
       rw [Array.length_toList] at hi
       cases e : (owner.toList[i]).isSome with
       | true => rfl
       | false =>
         exfalso
         refine hn ⟨i, by lia, ?_⟩
         rw [Array.getElem_toList] at e
         simp only [Array.getD, hi, dif_pos]
         simpa using e
     have hl := filterMap_id_len _ hall
     rw [h2.length_eq, List.length_range, Array.length_toList, h1] at hl
     simp only [List.length_cons] at h3
     lia
   refine el_xaa hfree fun j₀ hj₀ hn₀ => ?_
   try clear hfree
   refine el_xaaa (free_some mask owner (SetTable.turns mask) (SetTable.bits h % (mask + 1)) (SetTable.bits h) (Nat.le_of_lt_succ (Nat.mod_lt _ (Nat.succ_pos _))) ⟨j₀, h4 h (.head _) j₀ hj₀, hn₀⟩) fun j hj hn hjm => ?_
   rw [List.foldl_cons]
   have e1 : (do
     let (owner, k) ← some (owner, m)
     let j ← SetTable.layClean.free mask owner (SetTable.turns mask) (SetTable.bits h % (mask + 1)) (SetTable.bits h)
     pure (owner.setIfInBounds j (some k), k + 1)) = some (owner.setIfInBounds j (some m), m + 1) := by
     show (SetTable.layClean.free mask owner (SetTable.turns mask) (SetTable.bits h % (mask + 1)) (SetTable.bits h)).bind _ = _
     rw [hj]; rfl
   rw [e1]
   have hjs : j < owner.size := by lia
   have ho : owner[j] = none := by
     simp only [Array.getD, hjs, dif_pos] at hn
     simpa using hn
   have hsplit : owner.toList = owner.toList.take j ++ none :: owner.toList.drop (j + 1) := by
     have hjl : j < owner.toList.length := by simpa using hjs
     have := (List.take_append_drop j owner.toList).symm
     rw [List.drop_eq_getElem_cons hjl] at this
     rw [Array.getElem_toList, ho] at this
     exact this
   have hset : (owner.setIfInBounds j (some m)).toList = owner.toList.take j ++ some m :: owner.toList.drop (j + 1) := by
     rw [Array.toList_setIfInBounds, List.set_eq_take_append_cons_drop, if_pos (by simpa using hjs)]
   have hp : ((owner.setIfInBounds j (some m)).toList.filterMap id).Perm (List.range (m + 1)) := by
     rw [hset, List.filterMap_append, fm_some]
     rw [hsplit, List.filterMap_append, fm_none] at h2
     rw [List.range_succ]
     exact List.perm_middle.trans ((List.Perm.cons m h2).trans (List.perm_append_singleton m _).symm)
   refine el_xaaa (ih (owner.setIfInBounds j (some m)) (m + 1) (by rw [Array.size_setIfInBounds]; exact h1) hp (by simp only [List.length_cons] at h3; lia) fun x hx => h4 x (.tail _ hx)) fun o' q1 q2 q3 => ?_
   refine ⟨o', ?_, q2, ?_⟩
   · rw [q1, List.length_cons]; congr 2; lia
   · rw [List.length_cons, show m + (r.length + 1) = m + 1 + r.length by lia]; exact q3
theorem layClean_some {mask : Nat} {hs : Array Int} (hl : hs.size ≤ mask) (hc : ∀ h ∈ hs, CovL mask h) :
   ∃ owner, SetTable.layClean mask hs = some owner ∧ owner.size = mask + 1 ∧ (owner.toList.filterMap id).Perm (List.range hs.size) := by
 have h0 : ((Array.replicate (mask + 1) (none : Option Nat)).toList.filterMap id).Perm (List.range 0) := by
   have : (Array.replicate (mask + 1) (none : Option Nat)).toList.filterMap id = [] := by
     rw [List.filterMap_eq_nil_iff]
     intro x hx
     have := (Array.mem_toList_iff.mp hx)
     rw [Array.mem_replicate] at this
     rw [this.2]; rfl
   rw [this]; exact .nil
 refine el_xaaa (lay_fold mask hs.toList (Array.replicate (mask + 1) none) 0 (by simp) h0 (by simpa using hl) fun h hh => hc h (by simpa using hh)) fun o q1 q2 q3 => ?_
 refine ⟨o, ?_, q2, ?_⟩
 · unfold SetTable.layClean
   rw [← Array.foldl_toList]
   rw [q1]; rfl
 · rw [Nat.zero_add, Array.length_toList] at q3; exact q3
theorem rising_live (owner : Array (Option Nat)) : ∀ (l : List Nat), Rising l → Rising ((l.filterMap fun j => (owner.getD j none).map fun k => (j, k)).map (·.1)) := by
 intro l hl
 have : ((l.filterMap fun j => (owner.getD j none).map fun k => (j, k)).map (·.1)) = l.filterMap fun j => (owner.getD j none).map fun _ => j := by
   rw [List.map_filterMap]
   congr 1; funext j
   cases owner.getD j none <;> rfl
 rw [this]
 have sub : (l.filterMap fun j => (owner.getD j none).map fun _ => j).Sublist l := by
   clear hl this
   induction l with
   | nil => exact .slnil
   | cons a r ih =>
     cases e : owner.getD a none with
     | none => rw [List.filterMap_cons_none (by rw [e]; rfl)]; exact ih.cons _
     | some k => rw [List.filterMap_cons_some (b := a) (by rw [e]; rfl)]; exact ih.cons_cons _
 exact hl.sublist sub
theorem snd_live (owner : Array (Option Nat)) : ((List.range owner.size).filterMap fun j => (owner.getD j none).map fun k => (j, k)).map (·.2) = owner.toList.filterMap id := by
 rw [List.map_filterMap]
 have e : (fun j => Option.map (fun x : Nat × Nat => x.2) ((owner.getD j none).map fun k => (j, k))) = fun j => owner.getD j none := by
   funext j; cases owner.getD j none <;> rfl
 rw [e]
 have h2 : owner.toList = (List.range owner.size).map fun j => owner.getD j none := by
   apply List.ext_getElem
   · simp
   · intro i h1 h2
     simp at h1
     simp [Array.getD, h1]
 conv => rhs; rw [h2, List.filterMap_map]
 rfl
theorem laid_ok {mask finger moves : Nat} {led : Bool} {hs : Array Int} (hl : hs.size ≤ mask) (hc : ∀ h ∈ hs, CovL mask h) (hr : (mask = 7 ∧ hs.size * 5 < 21) ∨ (mask = 31 ∧ hs.size * 5 < 93)) :
   ∃ t order, SetTable.laid mask finger moves led true hs = some (t, order) ∧ TabOk t hs.size ∧ (t.mask = mask ∧ t.led = led) ∧ order.toList.Perm (List.range hs.size) := by
 refine el_xaaa (layClean_some hl hc) fun o q1 q2 q3 => ?_
 have es : ((List.range (mask + 1)).filterMap fun j => (o.getD j none).map fun k => (j, k)).map (·.2) = o.toList.filterMap id := by rw [← q2]; exact snd_live o
 refine ⟨{ mask, place := (((List.range (mask + 1)).filterMap fun j => (o.getD j none).map fun k => (j, k)).map (·.1)).toArray, dummies := #[], finger, led, moves, plain := true },
   (((List.range (mask + 1)).filterMap fun j => (o.getD j none).map fun k => (j, k)).map (·.2)).toArray, ?_, ⟨?_, ?_, ?_, rfl, rfl, hr⟩, ⟨rfl, rfl⟩, ?_⟩
 · unfold SetTable.laid
   rw [q1]; rfl
 · exact rising_live o _ List.pairwise_lt_range
 · rw [List.size_toArray, List.length_map, ← List.length_map (f := (·.2)), es, q3.length_eq, List.length_range]
 · intro j hj
   rw [List.mem_toArray] at hj
   refine el_xaa (List.mem_map.mp hj) fun x hx hsb2 => ?_
   subst hsb2
   refine el_xaa (List.mem_filterMap.mp hx) fun k hk e => ?_
   cases e2 : o.getD k none with
   | none => rw [e2] at e; cases e
   | some y => rw [e2] at e; cases e; have := List.mem_range.mp hk; show k ≤ mask; lia
 · rw [es]; exact q3
/-! ## sets of tuples of small ints -/
noncomputable def hk (ks : List Int) : Int := reduceHash (Builtin.Tuple.tupleHashOf (ks.map hashInt))
noncomputable def dom : List (List Int) := [0] :: [0, 1, 0] :: [0, 6] :: [6, 0] :: [7, 0] :: [8, 0] :: [9, 0] :: (List.range 36).map fun k => [((k / 6 : Nat) : Int), ((k % 6 : Nat) : Int)]
noncomputable def bitsOf (l : List Nat) : Nat := l.foldl (fun a j => a ||| 2 ^ j) 0
theorem bitsOf_mem (l : List Nat) (j : Nat) (h : (bitsOf l).testBit j = true) : j ∈ l := by
 have key : ∀ (l : List Nat) (a : Nat), (l.foldl (fun a j => a ||| 2 ^ j) a).testBit j = true → a.testBit j = true ∨ j ∈ l := by
   intro l
   induction l with
   | nil => intro a h; exact .inl h
   | cons x r ih =>
     intro a h
     rw [List.foldl_cons] at h
     rcases ih _ h with h | h
     · rw [Nat.testBit_or, Bool.or_eq_true] at h
       rcases h with h | h
       · exact .inl h
       · rw [Nat.testBit_two_pow] at h
         have : x = j := by simpa using h
         exact .inr (by rw [this]; exact .head _)
     · exact .inr (.tail _ h)
 rcases key l 0 h with h | h
 · simp at h
 · exact h
theorem visits_mono (mask : Nat) : ∀ (f f' : Nat) (p : SetTable.Probe), f ≤ f' → ∀ j ∈ visits mask f p, j ∈ visits mask f' p
 | 0, _, _, _, _, hj => nomatch hj
 | _ + 1, 0, _, h, _, _ => absurd h (Nat.not_succ_le_zero _)
 | f + 1, f' + 1, p, h, j, hj => by
   rcases List.mem_cons.mp hj with rfl | hj
   · exact .head _
   · exact .tail _ (visits_mono mask f f' _ (Nat.le_of_succ_le_succ h) j hj)
noncomputable def covB (h : Int) : Bool := bitsOf (visits 7 24 (startP 7 h)) == 2 ^ 8 - 1 && bitsOf (visits 31 340 (startP 31 h)) == 2 ^ 32 - 1 &&
 bitsOf (runsL 31 (SetTable.turns 31) (SetTable.bits h % 32) (SetTable.bits h)) == 2 ^ 32 - 1
theorem dom_cov0 : dom.all (fun ks => covB (hk ks)) = true := by decide +kernel
theorem dom_inj0 : (dom.map hk).Nodup := by decide +kernel
theorem dom_inj {a b : List Int} (ha : a ∈ dom) (hb : b ∈ dom) (h : hk a = hk b) : a = b := by
 obtain ⟨i, hi, rfl⟩ := List.mem_iff_getElem.mp ha
 obtain ⟨j, hj, rfl⟩ := List.mem_iff_getElem.mp hb
 have hp := List.pairwise_iff_getElem.mp dom_inj0
 rcases Nat.lt_trichotomy i j with q | q | q
 · exact absurd (by rw [List.getElem_map, List.getElem_map]; exact h) (hp i j (by simpa using hi) (by simpa using hj) q)
 · subst q; rfl
 · exact absurd (by rw [List.getElem_map, List.getElem_map]; exact h.symm) (hp j i (by simpa using hj) (by simpa using hi) q)
theorem test_all {m j : Nat} (h : j < m) : (2 ^ m - 1).testBit j = true := by
 rw [Nat.testBit_two_pow_sub_one]; simpa using h
theorem dom_cov {ks : List Int} (h : ks ∈ dom) : Cov 7 (hk ks) ∧ Cov 31 (hk ks) ∧ CovL 31 (hk ks) := by
 have := List.all_eq_true.mp dom_cov0 ks h
 unfold covB at this
 simp only [Bool.and_eq_true, beq_iff_eq] at this
 obtain ⟨⟨h1, h2⟩, h3⟩ := this
 refine ⟨fun j hj => visits_mono 7 24 _ _ (by decide) j (bitsOf_mem _ _ ?_), fun j hj => visits_mono 31 340 _ _ (by decide) j (bitsOf_mem _ _ ?_), fun j hj => bitsOf_mem _ _ ?_⟩
 · rw [h1]; exact test_all (by lia)
 · rw [h2]; exact test_all (by lia)
 · show (bitsOf (runsL 31 (SetTable.turns 31) (SetTable.bits (hk ks) % 32) (SetTable.bits (hk ks)))).testBit j = true
   rw [h3]; exact test_all (by lia)
theorem mem_dom {u v : Int} (hu : 0 ≤ u ∧ u < 6) (hv : 0 ≤ v ∧ v < 6) : [u, v] ∈ dom := by
 have : [u, v] ∈ (List.range 36).map fun k => [((k / 6 : Nat) : Int), ((k % 6 : Nat) : Int)] := by
   refine List.mem_map.mpr ⟨u.toNat * 6 + v.toNat, List.mem_range.mpr (by lia), ?_⟩
   have e1 : (u.toNat * 6 + v.toNat) / 6 = u.toNat := by lia
   have e2 : (u.toNat * 6 + v.toNat) % 6 = v.toNat := by lia
   rw [e1, e2, Int.toNat_of_nonneg hu.1, Int.toNat_of_nonneg hv.1]
 unfold dom
 exact .tail _ (.tail _ (.tail _ (.tail _ (.tail _ (.tail _ (.tail _ this))))))
theorem in_x2 {a0 a1 : Sort _} {p : a0 → a1 → Prop} (b : a0) (c : a1) (h : p b c) : ∃ b c, p b c := ⟨b, c, h⟩
theorem in_x3 {a0 a1 a2 : Sort _} {p : a0 → a1 → a2 → Prop} (b : a0) (c : a1) (d : a2) (h : p b c d) : ∃ b c d, p b c d := ⟨b, c, d, h⟩
theorem in_x4 {a0 a1 a2 a3 : Sort _} {p : a0 → a1 → a2 → a3 → Prop} (b : a0) (c : a1) (d : a2) (e : a3) (h : p b c d e) : ∃ b c d e, p b c d e := ⟨b, c, d, e, h⟩
theorem in_x5 {a0 a1 a2 a3 a4 : Sort _} {p : a0 → a1 → a2 → a3 → a4 → Prop} (b : a0) (c : a1) (d : a2) (e : a3) (f : a4) (h : p b c d e f) : ∃ b c d e f, p b c d e f := ⟨b, c, d, e, f, h⟩
theorem in_x6 {a0 a1 a2 a3 a4 a5 : Sort _} {p : a0 → a1 → a2 → a3 → a4 → a5 → Prop} (b : a0) (c : a1) (d : a2) (e : a3) (f : a4) (i : a5) (h : p b c d e f i) : ∃ b c d e f i, p b c d e f i := ⟨b, c, d, e, f, i, h⟩
theorem in_x7 {a0 a1 a2 a3 a4 a5 a6 : Sort _} {p : a0 → a1 → a2 → a3 → a4 → a5 → a6 → Prop} (b : a0) (c : a1) (d : a2) (e : a3) (f : a4) (i : a5) (j : a6) (h : p b c d e f i j) : ∃ b c d e f i j, p b c d e f i j := ⟨b, c, d, e, f, i, j, h⟩
theorem in_x8 {a0 a1 a2 a3 a4 a5 a6 a7 : Sort _} {p : a0 → a1 → a2 → a3 → a4 → a5 → a6 → a7 → Prop} (b : a0) (c : a1) (d : a2) (e : a3) (f : a4) (i : a5) (j : a6) (l : a7) (h : p b c d e f i j l) : ∃ b c d e f i j l, p b c d e f i j l := ⟨b, c, d, e, f, i, j, l, h⟩
theorem in_x9 {a0 a1 a2 a3 a4 a5 a6 a7 a8 : Sort _} {p : a0 → a1 → a2 → a3 → a4 → a5 → a6 → a7 → a8 → Prop} (b : a0) (c : a1) (d : a2) (e : a3) (f : a4) (i : a5) (j : a6) (l : a7) (m : a8) (h : p b c d e f i j l m) : ∃ b c d e f i j l m, p b c d e f i j l m := ⟨b, c, d, e, f, i, j, l, m, h⟩
theorem in_x11 {a0 a1 a2 a3 a4 a5 a6 a7 a8 a9 a10 : Sort _} {p : a0 → a1 → a2 → a3 → a4 → a5 → a6 → a7 → a8 → a9 → a10 → Prop} (b : a0) (c : a1) (d : a2) (e : a3) (f : a4) (i : a5) (j : a6) (l : a7) (m : a8) (n : a9) (o : a10) (h : p b c d e f i j l m n o) : ∃ b c d e f i j l m n o, p b c d e f i j l m n o := ⟨b, c, d, e, f, i, j, l, m, n, o, h⟩
abbrev IsK (w : World) (h : Heap) (ks : List Int) (a : Addr) : Prop := IsTupleKey (intKind prg w) h ks a
theorem IsK.keeps {w : World} {h h' : Heap} {ks : List Int} {a : Addr} (x : IsK w h ks a) (k : ∀ b o, h.get? b = some o → h'.get? b = some o) : IsK w h' ks a :=
 by obtain ⟨o, items, n, ho, r⟩ := x; exact ⟨o, items, n, k _ _ ho, r⟩
theorem IsK.ext {w : World} {h h' : Heap} {ks : List Int} {a d : Addr} {od : Obj} (x : IsK w h ks a) (hd : h.get? d = some od) (hc : od.cls ≠ .type "tuple") (hs : Heap.SameBut d h h') : IsK w h' ks a := by
 refine el_xxxaaa x fun o items n ho hcl r => ?_
 try clear x
 have hne : a ≠ d := by
   rintro rfl
   rw [hd] at ho; cases ho
   exact hc hcl
 exact in_x3 o items n ⟨(hs.2 a hne).trans ho, hcl, r⟩ -- in16
noncomputable abbrev entsOf (C : List (List Int × Addr)) : Array (Int × Value) := (C.map fun c => (hk c.1, Value.ref c.2)).toArray
noncomputable abbrev hashAtOf (es : Array (Int × Value)) (i : Nat) : Int := (es[i]?.map (·.1)).getD 0
abbrev setObj (es : Array (Int × Value)) (ep : Nat) (t : SetTable) : Obj := { cls := .type "set", dict := none, data := .set es ep t }
theorem go_keep {t t' : SetTable} (hm : t'.mask = t.mask) (hs : Rising t.place.toList) (hd : t.dummies = #[]) (hs' : Rising t'.place.toList) {A A' : Nat → Int}
   (k : ∀ i j, t.place[i]? = some j → ∃ i', t'.place[i']? = some j ∧ A' i' = A i) (h : Int) : ∀ (f : Nat) (p : SetTable.Probe) (j i : Nat) (nxt : SetTable.Probe),
   SetTable.probe.go t A h f p = some (.candidate j i nxt) → ∃ i', SetTable.probe.go t' A' h f p = some (.candidate j i' nxt) := by
 intro f
 induction f with
 | zero => intro p j i nxt h; cases h
 | succ f ih =>
   intro p j i nxt hg
   unfold SetTable.probe.go at hg ⊢
   by_cases hmm : p.j ∈ t.place
   · obtain ⟨i₀, hi, e⟩ := Array.mem_iff_getElem.mp hmm
     have hi' : t.place[i₀]? = some p.j := by rw [Array.getElem?_eq_getElem hi, e]
     refine el_xaa (k _ _ hi') fun i₁ hi₁ ha => ?_
     rw [slot_live hs hi'] at hg
     rw [slot_live hs' hi₁]
     dsimp only at hg ⊢
     rw [ha]
     by_cases hh : A i₀ = h
     · rw [if_pos (by simpa using hh)] at hg ⊢
       cases hg
       exact ⟨i₁, by rw [advance_eq, advance_eq, hm]⟩
     · rw [if_neg (by simpa using hh)] at hg ⊢
       rw [advance_eq] at hg ⊢
       rw [hm]
       exact ih _ _ _ _ hg
   · rw [slot_free hd hmm] at hg
     cases hg
theorem go_new {t t' : SetTable} (hm : t'.mask = t.mask) (hs : Rising t.place.toList) (hd : t.dummies = #[]) (hs' : Rising t'.place.toList) {A A' : Nat → Int}
   (k : ∀ i j, t.place[i]? = some j → ∃ i', t'.place[i']? = some j ∧ A' i' = A i) (h : Int) {j i' : Nat} (hj : t'.place[i']? = some j) (ha : A' i' = h) : ∀ (f : Nat) (p : SetTable.Probe) (dm : Option Nat),
   SetTable.probe.go t A h f p = some (.empty j dm) → ∃ nxt, SetTable.probe.go t' A' h f p = some (.candidate j i' nxt) := by
 intro f
 induction f with
 | zero => intro p dm h; cases h
 | succ f ih =>
   intro p dm hg
   unfold SetTable.probe.go at hg ⊢
   by_cases hmm : p.j ∈ t.place
   · obtain ⟨i₀, hi, e⟩ := Array.mem_iff_getElem.mp hmm
     have hi' : t.place[i₀]? = some p.j := by rw [Array.getElem?_eq_getElem hi, e]
     refine el_xaa (k _ _ hi') fun i₁ hi₁ ha' => ?_
     rw [slot_live hs hi'] at hg
     rw [slot_live hs' hi₁]
     dsimp only at hg ⊢
     rw [ha']
     by_cases hh : A i₀ = h
     · rw [if_pos (by simpa using hh)] at hg
       cases hg
     · rw [if_neg (by simpa using hh)] at hg ⊢
       rw [advance_eq] at hg ⊢
       rw [hm]
       exact ih _ _ hg
   · rw [slot_free hd hmm] at hg
     cases hg
     rw [slot_live hs' hj]
     dsimp only
     rw [if_pos (by simpa using ha)]
     exact ⟨_, rfl⟩
noncomputable def Reach (t : SetTable) (es : Array (Int × Value)) : Prop := ∀ (i : Nat) (e : Int × Value), es[i]? = some e → ∃ j i' nxt, t.probe (hashAtOf es) e.1 (t.probeStart e.1) = some (.candidate j i' nxt)
abbrev ledOf (w : World) : Bool := !(w.params.followText "set-order")
structure PS (w : World) (h : Heap) (o : Obj) (C : List (List Int × Addr)) : Prop where
 is : ∃ ep t, o = setObj (entsOf C) ep t ∧ TabOk t C.length ∧ (t.mask = 7 → Reach t (entsOf C)) ∧ (C.length ≤ 4 → t.mask = 7) ∧ t.led = ledOf w
 keys : ∀ c ∈ C, IsK w h c.1 c.2
 dm : ∀ c ∈ C, c.1 ∈ dom
 nd : (C.map (·.1)).Nodup
theorem PS.grow {w : World} {h h' : Heap} {o : Obj} {C : List (List Int × Addr)} (P : PS w h o C) (k : ∀ b o, h.get? b = some o → h'.get? b = some o) : PS w h' o C :=
 ⟨P.is, fun c hc => (P.keys c hc).keeps k, P.dm, P.nd⟩
theorem covMask {C : List (List Int × Addr)} {t : SetTable} {ks : List Int} (T : TabOk t C.length) (hd : ks ∈ dom) : Cov t.mask (hk ks) := by
 refine el_aaa (dom_cov hd) fun h1 h2 _ => ?_
 rcases T.room with h | h
 · rw [h.1]; exact h1
 · rw [h.1]; exact h2
section
variable {w : World} {A : Around} {E : Value → Shared → Prop} {s : Shared}
theorem setState_ps {a : Addr} {es : Array (Int × Value)} {ep : Nat} {t : SetTable} {Q : (Array (Int × Value) × Nat × SetTable) → Shared → Prop}
   (ho : s.heap.get? a = some (setObj es ep t)) (hf : t.fits es.size = true) (h : Q (es, ep, t) s) : wpAny (model prg w) A (setState a) Q E s :=
 wpAny_setState_of ho rfl hf h
theorem ofAClass_tuple {ks : List Int} {a : Addr} {Q : Bool → Shared → Prop} (hx : IsK w s.heap ks a) (h : Q false s) : wpAny (model prg w) A (ofAClassStatement 8 (.ref a)) Q E s := by
 have hT := hx.typeIs
 refine el_xxxaaaa hx fun o items n ho _ hd hi => ?_
 try clear hx
 unfold ofAClassStatement
 refine wpAny_bind (wpAny_typeOf hT ?_)
 dsimp only
 have e : ("tuple" == "tuple") = true := by decide
 simp only [e, if_true]
 refine wpAny_bind (wpAny_pure ?_)
 simp only [Bool.not_true, Bool.false_eq_true, if_false]
 refine wpAny_bind (wpAny_seqItems ho hd ?_)
 dsimp only
 refine wpAny_bind ?_
 rw [← Array.forIn_toList]
 refine wpAny_forIn_list _ (fun rest r s' => r.1 = none ∧ s' = s ∧ ∀ v ∈ rest, carriedByValue v = true) _ ?_ ?_ _ _ ⟨rfl, rfl, hi.byValue⟩
 · intro v rest r s'
   refine elc_aaa fun hr hsb1 hall => ?_
   subst hsb1
   have hv := hall v List.mem_cons_self
   have : ofAClassStatement 7 v = pure false := by
     cases v <;> first | (simp [carriedByValue] at hv; done) | rfl | simp [ofAClassStatement]
   rw [this]
   refine wpAny_bind (wpAny_pure ?_)
   simp only [Bool.false_eq_true, if_false]
   exact wpAny_pure ⟨rfl, rfl, fun u hu' => hall u (List.mem_cons_of_mem _ hu')⟩
 · rintro ⟨r1, r2⟩ s' ⟨hr, rfl, _⟩
   simp only at hr
   subst hr
   exact wpAny_pure h
theorem hashByValue_tuple {ks : List Int} {a : Addr} {Q : Bool → Shared → Prop} (hx : IsK w s.heap ks a) (h : Q true s) : wpAny (model prg w) A (hashByValue 8 (.ref a)) Q E s := by
 have hT := hx.typeIs
 refine el_xxxaaaa hx fun o items n ho _ hd hi => ?_
 try clear hx
 unfold hashByValue
 refine wpAny_bind (wpAny_specialOf hT PySem.F.slot_tuple_hash.lookup ?_)
 dsimp only
 refine wpAny_bind (wpAny_seqItems ho hd ?_)
 refine wpAny_bind ?_
 show wpAny _ _ (forIn items _ _) _ _ s
 rw [← Array.forIn_toList]
 have hall0 : ∀ v ∈ items.toList, ∃ i t, v = Value.int i t := by
   intro v hv
   have key : ∀ {ks : List Int} {vs : List Value}, ItemsAre (intKind prg w) ks vs → ∀ v ∈ vs, ∃ i t, v = Value.int i t := by
     intro ks vs hh
     induction hh with
     | nil => intro v hv; exact nomatch hv
     | cons h1 _ ih =>
       intro v hv
       rcases List.mem_cons.mp hv with rfl | hv
       · obtain ⟨t, rfl⟩ := Value.isInt_shape h1; exact ⟨_, t, rfl⟩
       · exact ih v hv
   exact key hi v hv
 refine wpAny_forIn_list _ (fun rest r s' => r.1 = none ∧ s' = s ∧ ∀ v ∈ rest, ∃ i t, v = Value.int i t) _ ?_ ?_ _ _ ⟨rfl, rfl, hall0⟩
 · intro v rest r s'
   refine elc_aaa fun hr hsb1 hall => ?_
   subst hsb1
   refine el_xxa (hall v List.mem_cons_self) fun i t hsb2 => ?_
   subst hsb2
   refine wpAny_bind (m := hashByValue 7 (.int i t)) (wpAny_pure ?_)
   simp only [Bool.not_true, Bool.false_eq_true, if_false]
   exact wpAny_pure ⟨rfl, rfl, fun u hu' => hall u (List.mem_cons_of_mem _ hu')⟩
 · rintro ⟨r1, r2⟩ s' ⟨hr, rfl, _⟩
   simp only at hr
   subst hr
   exact wpAny_pure h
theorem couldBeSeen_no {ks : List Int} {a : Addr} {stored : List Value} {Q : Bool → Shared → Prop} (hx : IsK w s.heap ks a) (hst : ∀ v ∈ stored, ∃ ks' b, v = .ref b ∧ IsK w s.heap ks' b) (h : Q false s) :
   wpAny (model prg w) A (searchCouldBeSeen (.ref a) stored) Q E s := by
 unfold searchCouldBeSeen
 refine wpAny_bind ?_
 refine wpAny_forIn_list _ (fun rest r s' => r.1 = none ∧ s' = s ∧ ∀ v ∈ rest, ∃ ks' b, v = .ref b ∧ IsK w s.heap ks' b) _ ?_ ?_ _ _ ⟨rfl, rfl, hst⟩
 · intro v rest r s'
   refine elc_aaa fun hr hsb1 hall => ?_
   subst hsb1
   refine el_xxaa (hall v List.mem_cons_self) fun ks' b hsb2 hb => ?_
   subst hsb2
   have hrest : ∀ u ∈ rest, ∃ ks' b, u = Value.ref b ∧ IsK w s'.heap ks' b := fun u hu' => hall u (List.mem_cons_of_mem _ hu')
   dsimp only
   split
   · exact wpAny_pure ⟨rfl, rfl, hrest⟩
   · refine wpAny_bind (wpAny_eqIsQuiet_tuple hx ?_)
     simp only [Bool.not_true, Bool.false_eq_true, if_false]
     refine wpAny_bind (wpAny_eqIsQuiet_tuple hb ?_)
     simp only [Bool.not_true, Bool.false_eq_true, if_false]
     refine wpAny_bind (ofAClass_tuple hx ?_)
     simp only [Bool.false_eq_true, if_false]
     refine wpAny_bind (ofAClass_tuple hb ?_)
     simp only [Bool.false_eq_true, if_false]
     exact wpAny_pure ⟨rfl, rfl, hrest⟩
 · rintro ⟨r1, r2⟩ s' ⟨hr, rfl, _⟩
   simp only at hr
   subst hr
   exact wpAny_pure h
end
section
variable {w : World} {A : Around} {E : Value → Shared → Prop} {s : Shared}
theorem ents_get {C : List (List Int × Addr)} {i : Nat} {e : Int × Value} (h : (entsOf C)[i]? = some e) : ∃ c, C[i]? = some c ∧ c ∈ C ∧ e = (hk c.1, .ref c.2) := by
 rw [List.getElem?_toArray, List.getElem?_map] at h
 cases q : C[i]? with
 | none => rw [q] at h; cases h
 | some c => rw [q] at h; cases h; exact ⟨c, rfl, List.mem_of_getElem? q, rfl⟩
theorem ents_size (C : List (List Int × Addr)) : (entsOf C).size = C.length := by simp
theorem gaveWay_no {t : SetTable} {n : Nat} (T : TabOk t n) : t.gaveWay = false := by
 unfold SetTable.gaveWay
 rcases T.room with h | h <;> rw [h.1] <;> rfl
theorem search {a ax : Addr} {o : Obj} {C : List (List Int × Addr)} {ks : List Int} {adding : Bool} {ep : Nat} {t : SetTable} {Q : SetFound → Shared → Prop}
   (P : PS w s.heap o C) (ho : s.heap.get? a = some o) (e : o = setObj (entsOf C) ep t) (T : TabOk t C.length) (hu : A.units < cLine)
   (hx : IsK w s.heap ks ax) (hd : ks ∈ dom)
   (h1 : ∀ j, j ∉ t.place → j ≤ t.mask → (t.mask = 7 → ks ∉ C.map (·.1)) → t.probe (hashAtOf (entsOf C)) (hk ks) (t.probeStart (hk ks)) = some (.empty j none) → Q (.free j false) s)
   (h2 : ∀ r, ks ∈ C.map (·.1) → (if adding = true then r = none else r.isSome = true) → Q (.there r) s) :
   wpAny (model prg w) A (setSearch a (.ref ax) (hk ks) adding) Q E s := by
 subst e
 have hf : t.fits (entsOf C).size = true := by rw [ents_size]; exact T.fits
 unfold setSearch setSearchFrom
 refine wpAny_bind (setState_ps ho hf ?_)
 dsimp only
 rw [gaveWay_no T]
 simp only [Bool.false_eq_true, if_false, Option.getD_none]
 have hreach : t.mask = 7 → ks ∈ C.map (·.1) → ∃ j i' nxt, t.probe (hashAtOf (entsOf C)) (hk ks) (t.probeStart (hk ks)) = some (.candidate j i' nxt) := fun hm hmem => by
   refine el_xxaaaa (P.is) fun ep' t' e' _ hr _ => ?_
   cases e'
   refine el_xaa (List.mem_map.mp hmem) fun c hc hsb2 => ?_
   subst hsb2
   obtain ⟨i, hi, rfl⟩ := List.mem_iff_getElem.mp hc
   exact hr hm i (hk C[i].1, .ref C[i].2) (by rw [List.getElem?_toArray, List.getElem?_map, List.getElem?_eq_getElem hi]; rfl)
 rcases probe_cases T (hashAtOf (entsOf C)) (covMask T hd) with ⟨j, i, nxt, hp, hpl, hh⟩ | ⟨j, hp, hj, hjm⟩
 · have hp' : t.probe (hashAtOf (entsOf C)) (hk ks) (t.probeStart (hk ks)) = some (.candidate j i nxt) := hp
   have hin : i < C.length := by
     have := (Array.getElem?_eq_some_iff.mp hpl).1
     rw [T.size] at this; exact this
   have hes : (entsOf C)[i]? = some (hk C[i].1, .ref C[i].2) := by rw [List.getElem?_toArray, List.getElem?_map, List.getElem?_eq_getElem hin]; rfl
   have hcm : C[i] ∈ C := List.getElem_mem hin
   have hke : C[i].1 = ks := by
     have : hk C[i].1 = hk ks := by rw [← hh, hashAtOf, hes]; rfl
     exact dom_inj (P.dm _ hcm) hd this
   have hmem : ks ∈ C.map (·.1) := List.mem_map.mpr ⟨_, hcm, hke⟩
   have hy : IsK w s.heap ks C[i].2 := hke ▸ P.keys _ hcm
   have tail : wpAny (model prg w) A (do
       let some (_, y) := (entsOf C)[i]? | unsupported "internal:set-entry"
       let equal ← holding [y] (eqBool y (.ref ax))
       let (es', _, t') ← setState a
       if (adding && equal) = true then return .there none
       let some same := t'.sameMemory t.moves t.mask | unsupported "set.changed-during-lookup:is-the-new-block-at-the-old-address"
       let still ← match (if same then t'.slot j else .empty) with
         | .live i' => match es'[i']? with
           | some (_, y') => do pure (if ← isSame y' y then some i' else none)
           | none => pure none
         | _ => pure none
       match still with
       | none => rule "set.search.anew"; setSearchFrom a (.ref ax) (hk ks) adding 99999 none
       | some i' => if equal then return .there (some i') else setSearchFrom a (.ref ax) (hk ks) adding 99999 (some nxt)) Q E s := by
     rw [hes]
     dsimp only
     refine wpAny_bind (wpAny_holding (wpAny_eqBool_tuple hu hy hx ?_))
     refine wpAny_bind (setState_ps ho hf ?_)
     dsimp only
     rw [decide_eq_true rfl]
     cases adding with
     | true =>
       simp only [Bool.and_self, if_true]
       exact wpAny_pure (h2 none hmem (by simp))
     | false =>
       simp only [Bool.false_and, Bool.false_eq_true, if_false]
       have hsm : t.sameMemory t.moves t.mask = some true := by unfold SetTable.sameMemory; simp
       rw [hsm]
       dsimp only
       simp only [if_true]
       rw [slot_live T.rising hpl]
       dsimp only
       rw [hes]
       dsimp only
       have his : isSame (.ref C[i].2) (.ref C[i].2) = pure true := by unfold isSame; simp
       rw [his]
       refine wpAny_bind (wpAny_bind (wpAny_pure ?_))
       try simp only [if_true]
       refine wpAny_pure ?_
       exact wpAny_pure (h2 (some i) hmem (by simp))
   have goal_eq : ∀ (m : Option SetTable.Met), m = some (.candidate j i nxt) → wpAny (model prg w) A (do
       let some met := m | unsupported "internal:set-table-without-an-empty-slot"
       match met with
       | .empty j dummy =>
         match dummy with
         | none => return .free j false
         | some d =>
           if adding && t.slot d != .dummy then rule "set.search.the-dummy-was-taken"; return ← setSearchFrom a (.ref ax) (hk ks) adding 99999 none
           return .free d true
       | .candidate j i next =>
         if !t.led then
           if ← searchCouldBeSeen (.ref ax) (((entsOf C).filter (·.1 == hk ks)).toList.map (·.2)) then unsupported "set:the-search-would-show-the-table"
         let some (_, y) := (entsOf C)[i]? | unsupported "internal:set-entry"
         let equal ← holding [y] (eqBool y (.ref ax))
         let (es', _, t') ← setState a
         if (adding && equal) = true then return .there none
         let some same := t'.sameMemory t.moves t.mask | unsupported "set.changed-during-lookup:is-the-new-block-at-the-old-address"
         let still ← match (if same then t'.slot j else .empty) with
           | .live i' => match es'[i']? with
             | some (_, y') => do pure (if ← isSame y' y then some i' else none)
             | none => pure none
           | _ => pure none
         match still with
         | none => rule "set.search.anew"; setSearchFrom a (.ref ax) (hk ks) adding 99999 none
         | some i' => if equal then return .there (some i') else setSearchFrom a (.ref ax) (hk ks) adding 99999 (some next)) Q E s := by
     intro m hm
     subst hm
     dsimp only
     cases t.led with
     | true =>
       simp only [Bool.not_true, Bool.false_eq_true, if_false]
       exact tail
     | false =>
       simp only [Bool.not_false, if_true]
       refine wpAny_bind (couldBeSeen_no hx (fun v hv => ?_) ?_)
       · refine el_xaa (List.mem_map.mp hv) fun p hp1 hsb2 => ?_
         subst hsb2
         rw [Array.mem_toList_iff, Array.mem_filter] at hp1
         refine el_xaa (List.mem_map.mp (List.mem_toArray.mp hp1.1)) fun c hc e => ?_
         subst e
         exact in_x2 c.1 c.2 ⟨rfl, P.keys c hc⟩ -- in17
       · simp only [Bool.false_eq_true, if_false]
         exact tail
   exact goal_eq _ hp'
 · have hno : t.mask = 7 → ks ∉ C.map (·.1) := fun hm hmem => by
     refine el_xxxa (hreach hm hmem) fun j' i' nxt q => ?_
     rw [hp] at q; cases q
   have goal_eq : ∀ (m : Option SetTable.Met) (f : SetTable.Met → Sem SetFound), m = some (.empty j none) → (wpAny (model prg w) A (f (.empty j none)) Q E s) → wpAny (model prg w) A (do
       let some met := m | unsupported "internal:set-table-without-an-empty-slot"
       f met) Q E s := by
     intro m f hm hq
     subst hm
     exact hq
   exact goal_eq _ _ hp (wpAny_pure (h1 j hj hjm hno hp))
theorem byScan_ref {ax : Addr} {es : Array (Int × Value)} : byScan (.ref ax) es = false := rfl
theorem storeSet_at {a : Addr} {es es' : Array (Int × Value)} {ep : Nat} {t t' : SetTable} {Q : Unit → Shared → Prop} (ho : s.heap.get? a = some (setObj es ep t))
   (h : ∀ h', Heap.SameBut a s.heap h' → h'.get? a = some (setObj es' (ep + 1) t') → Q () { s with heap := h' }) (hz : es'.size ≤ sizeLine) : wpAny (model prg w) A (storeSet a es' t') Q E s :=
 wpAny_storeSet_of ho rfl (h _ (Heap.SameBut.update ..) (by
   have := Heap.get?_update_self (Obj.putSet es' t') ho (by rw [putSet_of es' t' rfl]; rfl)
   rw [putSet_of es' t' rfl] at this; exact this)) hz
noncomputable def putC (C : List (List Int × Addr)) (p : Nat) (c : List Int × Addr) : List (List Int × Addr) := C.take p ++ c :: C.drop p
theorem putC_perm (C : List (List Int × Addr)) (p : Nat) (c : List Int × Addr) : (putC C p c).Perm (c :: C) := by
 unfold putC
 exact List.perm_middle.trans (by rw [List.take_append_drop])
theorem putC_ents (C : List (List Int × Addr)) (p : Nat) (c : List Int × Addr) : SetTable.insertAt (entsOf C) p (hk c.1, .ref c.2) = entsOf (putC C p c) := by
 apply Array.ext'
 rw [SetTable.toList_insertAt]
 simp [putC, List.map_take, List.map_drop]
theorem sizeLine_ge : 100 ≤ sizeLine := by rw [sizeLine_eq]; lia
theorem ins_get {α : Type} (l : List α) (p : Nat) (hp : p ≤ l.length) (x : α) (i : Nat) : (l.take p ++ x :: l.drop p)[if i < p then i else i + 1]? = l[i]? := by
 have hl : (l.take p).length = p := by rw [List.length_take]; lia
 by_cases h : i < p
 · rw [if_pos h, List.getElem?_append_left (by lia), List.getElem?_take, if_pos h]
 · rw [if_neg h, List.getElem?_append_right (by lia), hl]
   have : i + 1 - p = (i - p) + 1 := by lia
   rw [this, List.getElem?_cons_succ, List.getElem?_drop]
   congr 1; lia
theorem ins_at {α : Type} (l : List α) (p : Nat) (hp : p ≤ l.length) (x : α) : (l.take p ++ x :: l.drop p)[p]? = some x := by
 have hl : (l.take p).length = p := by rw [List.length_take]; lia
 rw [List.getElem?_append_right (by lia), hl, Nat.sub_self, List.getElem?_cons_zero]
theorem reach_put {t : SetTable} {C : List (List Int × Addr)} {j : Nat} {c : List Int × Addr} (T : TabOk t C.length) (T' : TabOk (t.put j).1 (C.length + 1)) (hr : Reach t (entsOf C))
   (hpr : t.probe (hashAtOf (entsOf C)) (hk c.1) (t.probeStart (hk c.1)) = some (.empty j none)) : Reach (t.put j).1 (entsOf (putC C (SetTable.below t.place j) c)) := by
 have hb := below_spec T.rising j
 have hp : SetTable.below t.place j ≤ C.length := by rw [← T.size]; exact hb.1
 have epl : (t.put j).1.place.toList = t.place.toList.take (SetTable.below t.place j) ++ j :: t.place.toList.drop (SetTable.below t.place j) := SetTable.toList_insertAt _ _ _
 have hpl : SetTable.below t.place j ≤ t.place.toList.length := by rw [Array.length_toList]; exact hb.1
 have hA : ∀ i, hashAtOf (entsOf (putC C (SetTable.below t.place j) c)) (if i < SetTable.below t.place j then i else i + 1) = hashAtOf (entsOf C) i := fun i => by
   unfold hashAtOf
   rw [List.getElem?_toArray, List.getElem?_map, List.getElem?_toArray, List.getElem?_map]
   unfold putC
   rw [ins_get C _ hp c i]
 have hk' : ∀ i j', t.place[i]? = some j' → ∃ i', (t.put j).1.place[i']? = some j' ∧ hashAtOf (entsOf (putC C (SetTable.below t.place j) c)) i' = hashAtOf (entsOf C) i := fun i j' h => by
   refine ⟨if i < SetTable.below t.place j then i else i + 1, ?_, hA i⟩
   rw [← Array.getElem?_toList, epl, ins_get _ _ hpl, Array.getElem?_toList]; exact h
 intro i e he
 refine el_xaaa (ents_get he) fun c' hc' hm hsb3 => ?_
 subst hsb3
 dsimp only
 rcases List.mem_cons.mp ((putC_perm C _ c).subset hm) with rfl | hm
 · obtain ⟨nxt, q⟩ := go_new (t := t) (t' := (t.put j).1) (put_mask j) T.rising T.nodummy T'.rising hk' (hk c'.1) (j := j) (i' := SetTable.below t.place j) (by rw [← Array.getElem?_toList, epl, ins_at _ _ hpl])
     (by unfold hashAtOf; rw [List.getElem?_toArray, List.getElem?_map]; unfold putC; rw [ins_at C _ hp c']; rfl) _ _ _ hpr
   exact in_x3 j _ nxt q -- in19
 · obtain ⟨i₀, hi₀, rfl⟩ := List.mem_iff_getElem.mp hm
   refine el_xxxa (hr i₀ (hk C[i₀].1, .ref C[i₀].2) (by rw [List.getElem?_toArray, List.getElem?_map, List.getElem?_eq_getElem hi₀]; rfl)) fun j1 i1 nxt q => ?_
   refine el_xa (go_keep (t := t) (t' := (t.put j).1) (put_mask j) T.rising T.nodummy T'.rising hk' (hk C[i₀].1) _ _ _ _ _ q) fun i2 q2 => ?_
   exact in_x3 j1 i2 nxt q2 -- in20
theorem order_perm {α : Type} {C : List α} {order : Array Nat} (h : order.toList.Perm (List.range C.length)) : (order.toList.filterMap fun i => C[i]?).Perm C :=
 (h.filterMap _).trans (by rw [List.filterMap_getElem?_range_length])
theorem setAddHashed_new {a ax : Addr} {o : Obj} {C : List (List Int × Addr)} {ks : List Int} {Q : Bool → Shared → Prop}
   (P : PS w s.heap o C) (ho : s.heap.get? a = some o) (hu : A.units < cLine) (hx : IsK w s.heap ks ax) (hd : ks ∈ dom) (hn : ks ∉ C.map (·.1)) (hl : C.length ≤ 16)
   (h : ∀ h' o' C', Heap.SameBut a s.heap h' → h'.get? a = some o' → PS w h' o' C' → C'.Perm ((ks, ax) :: C) → Q true { s with heap := h' }) :
   wpAny (model prg w) A (setAddHashed a (.ref ax) (hk ks)) Q E s := by
 refine el_xxaaaaa (P.is) fun ep t hsb2 T hr hsm hled => ?_
 subst hsb2
 have hf : t.fits (entsOf C).size = true := by rw [ents_size]; exact T.fits
 unfold setAddHashed setAddHashedIn
 refine wpAny_holding (wpAny_bind (setState_ps ho hf ?_))
 dsimp only
 rw [byScan_ref]
 simp only [Bool.false_eq_true, if_false]
 refine wpAny_bind (search P ho rfl T hu hx hd (fun j hj hjm hno hpr => ?_) (fun r hm _ => absurd hm hn))
 dsimp only
 refine wpAny_bind (setState_ps ho hf ?_)
 dsimp only
 have T0 := T
 have hb := below_spec T.rising j
 have hp : SetTable.below t.place j ≤ C.length := by rw [← T.size]; exact hb.1
 have hplain : (t.put j).1.plain = true := T.plain
 rw [hplain]
 simp only [if_true]
 refine wpAny_bind (hashByValue_tuple hx ?_)
 simp only [if_true]
 rw [put_p, show SetTable.insertAt (entsOf C) (SetTable.below t.place j) (hk ks, Value.ref ax) = entsOf (putC C (SetTable.below t.place j) (ks, ax)) from putC_ents C _ (ks, ax)]
 have hperm := putC_perm C (SetTable.below t.place j) (ks, ax)
 have hlen : (putC C (SetTable.below t.place j) (ks, ax)).length = C.length + 1 := by rw [hperm.length_eq, List.length_cons]
 refine wpAny_bind (storeSet_at ho (fun h1 hs1 ho1 => ?_) (by rw [ents_size, hlen]; have := sizeLine_ge; lia))
 have keys' : ∀ {h' : Heap}, Heap.SameBut a s.heap h' → ∀ (C' : List (List Int × Addr)), C'.Perm ((ks, ax) :: C) → (∀ c ∈ C', IsK w h' c.1 c.2) ∧ (∀ c ∈ C', c.1 ∈ dom) ∧ (C'.map (·.1)).Nodup := by
   intro h' hs C' hp'
   refine ⟨fun c hc => ?_, fun c hc => ?_, ?_⟩
   · rcases List.mem_cons.mp (hp'.subset hc) with rfl | hc
     · exact hx.ext ho (by show (Value.type "set") ≠ Value.type "tuple"; decide) hs
     · exact (P.keys c hc).ext ho (by show (Value.type "set") ≠ Value.type "tuple"; decide) hs
   · rcases List.mem_cons.mp (hp'.subset hc) with rfl | hc
     · exact hd
     · exact P.dm c hc
   · rw [(hp'.map _).nodup_iff, List.map_cons, List.nodup_cons]
     exact ⟨hn, P.nd⟩
 have hfill : ((t.put j).1.fill = C.length + 1) := by
   have ed : (t.put j).1.dummies = #[] := by
     show (if SetTable.has t.dummies j then _ else t.dummies) = #[]
     rw [T.nodummy, has_nil]; rfl
   have el : (t.put j).1.place.size = C.length + 1 := by
     rw [← Array.length_toList]
     show (SetTable.insertAt t.place (SetTable.below t.place j) j).toList.length = _
     rw [SetTable.toList_insertAt, List.length_append, List.length_cons, List.length_take, List.length_drop, Array.length_toList, T.size]
     lia
   unfold SetTable.fill
   rw [ed, el]; rfl
 by_cases hfull : (t.put j).1.tooFull = true
 · simp only [Bool.not_false, hfull, Bool.and_self, if_true]
   -- the table is laid anew
   have hm7 : t.mask = 7 ∧ C.length = 4 := by
     unfold SetTable.tooFull at hfull
     rw [hfill, put_mask] at hfull
     have := of_decide_eq_true hfull
     rcases T.room with q | q
     · rw [q.1] at this; exact ⟨q.1, by lia⟩
     · rw [q.1] at this; lia
   unfold setRelay
   have hpT : (t.put j).1.place.size = C.length + 1 := by
     have := hfill
     unfold SetTable.fill at this
     have ed : (t.put j).1.dummies = #[] := by
       show (if SetTable.has t.dummies j then _ else t.dummies) = #[]
       rw [T.nodummy, has_nil]; rfl
     rw [ed] at this; simpa using this
   have hfits1 : (t.put j).1.fits (entsOf (putC C (SetTable.below t.place j) (ks, ax))).size = true := by
     simp only [SetTable.fits, hfill, hpT, ents_size, hlen, put_mask, hm7.1, hm7.2]; decide
   refine wpAny_bind (wpAny_bind (setState_ps (s := { s with heap := h1 }) ho1 hfits1 ?_))
   dsimp only
   have hw : SetTable.sizeAbove (SetTable.grown ((entsOf C).size + 1)) = 32 := by rw [ents_size, hm7.2]; decide
   rw [hw]
   rw [if_neg (by rw [sizeLine_eq]; lia)]
   have hrel : ∃ t2 order, (t.put j).1.relaid ((entsOf (putC C (SetTable.below t.place j) (ks, ax))).map (·.1)) (SetTable.grown ((entsOf C).size + 1)) = some (t2, order) ∧ TabOk t2 (C.length + 1) ∧ (t2.mask = 31 ∧ t2.led = (t.put j).1.led) ∧ order.toList.Perm (List.range (C.length + 1)) := by
     have hsz : ((entsOf (putC C (SetTable.below t.place j) (ks, ax))).map (·.1)).size = C.length + 1 := by rw [Array.size_map, ents_size, hlen]
     obtain ⟨t2, order, q1, q2, q3, q4⟩ := laid_ok (mask := 31) (finger := (t.put j).1.finger) (moves := (t.put j).1.movedTo 31) (led := (t.put j).1.led) (hs := (entsOf (putC C (SetTable.below t.place j) (ks, ax))).map (·.1)) (by rw [hsz, hm7.2]; decide)
       (fun x hx' => by
         refine el_xaa (Array.mem_map.mp hx') fun e he hsb2 => ?_
         subst hsb2
         refine el_xaa (List.mem_map.mp (List.mem_toArray.mp he)) fun c hc hsb2 => ?_
         subst hsb2
         exact (dom_cov ((keys' hs1 _ hperm).2.1 c hc)).2.2) (by rw [hsz, hm7.2]; decide)
     rw [hsz] at q2 q4
     refine in_x2 t2 order ⟨?_, q2, q3, q4⟩ -- in22
     unfold SetTable.relaid
     rw [hw, hplain]
     exact q1
   refine el_xxaaaa hrel fun t2 order q1 q2 q3 q4 => ?_
   try clear hrel
   rw [q1]
   have hes : order.filterMap (fun i => (entsOf (putC C (SetTable.below t.place j) (ks, ax)))[i]?) = entsOf (order.toList.filterMap fun i => (putC C (SetTable.below t.place j) (ks, ax))[i]?) := by
     apply Array.ext'
     rw [Array.toList_filterMap]
     show _ = List.map _ (List.filterMap _ _)
     rw [List.map_filterMap]
     congr 1; funext i
     rw [List.getElem?_toArray, List.getElem?_map]
   have hp2 := order_perm (C := putC C (SetTable.below t.place j) (ks, ax)) (order := order) (by rw [hlen]; exact q4)
   have hl2 := hp2.length_eq
   rw [hlen] at hl2
   refine wpAny_bind ?_
   show wpAny _ _ (if ((order.filterMap (fun i => (entsOf (putC C (SetTable.below t.place j) (ks, ax)))[i]?)).size != (entsOf (putC C (SetTable.below t.place j) (ks, ax))).size) = true then _ else _) _ _ _
   rw [hes, if_neg (by rw [ents_size, ents_size, hl2, hlen]; simp)]
   refine wpAny_pure ?_
   refine storeSet_at (s := { s with heap := h1 }) ho1 (fun h2 hs2 ho2 => ?_) (by rw [ents_size, hl2]; have := sizeLine_ge; lia)
   have hs12 := hs1.trans hs2
   have hp3 := hp2.trans hperm
   refine wpAny_pure (h h2 _ _ hs12 ho2 ⟨⟨_, _, rfl, ?_, ?_, ?_, q3.2.trans hled⟩, (keys' hs12 _ hp3).1, (keys' hs12 _ hp3).2.1, (keys' hs12 _ hp3).2.2⟩ hp3)
   · rw [hl2]; exact q2
   · intro q; rw [q3.1] at q; exact absurd q (by decide)
   · intro q; rw [hl2, hm7.2] at q; exact absurd q (by decide)
 · have hff : (t.put j).1.tooFull = false := by simpa using hfull
   simp only [Bool.not_false, hff, Bool.and_false, Bool.false_eq_true, if_false]
   have T' : TabOk (t.put j).1 (C.length + 1) := put_ok T hj hjm (by
     unfold SetTable.tooFull at hff
     rw [hfill, put_mask] at hff
     have := of_decide_eq_false hff
     rcases T.room with q | q
     · rw [q.1] at this; exact .inl ⟨q.1, by lia⟩
     · rw [q.1] at this; exact .inr ⟨q.1, by lia⟩)
   refine wpAny_pure (h h1 _ _ hs1 ho1 ⟨⟨ep + 1, _, rfl, ?_, ?_, ?_, hled⟩, (keys' hs1 _ hperm).1, (keys' hs1 _ hperm).2.1, (keys' hs1 _ hperm).2.2⟩ hperm)
   · rw [hlen]; exact T'
   · intro q; exact reach_put (c := (ks, ax)) T T' (hr q) hpr
   · intro q; rw [hlen] at q; exact hsm (by lia)
end
section
variable {w : World} {A : Around} {E : Value → Shared → Prop} {s : Shared} {R : Result → Shared → Prop}
theorem upd_loop {I : Addr} {fp wr : List Addr} {n : Nat} {P : Nat → Value → Prop} {Sti : Nat → Heap → Prop} (W : Walks prg w A.in1 I fp wr n P Sti) (Sa : Addr) (hSf : Sa ∉ fp) (Inv : Nat → Heap → Prop)
   (hInv : ∀ i h h', Inv i h → (∀ b o, b ∉ wr → h.get? b = some o → h'.get? b = some o) → Inv i h')
   (step : ∀ i v (s : Shared) (Q : Bool → Shared → Prop) (E : Value → Shared → Prop), i < n → P i v → Inv i s.heap → (∀ b h' tk, Heap.SameBut Sa s.heap h' → Inv (i + 1) h' → Q b { s with heap := h', toks := tk }) → wpAny (model prg w) A.in1 (setAdd Sa v) Q E s) :
   ∀ (k i : Nat) (s : Shared), n - i = k → i ≤ n → Sti i s.heap → Inv i s.heap →
     (∀ h' tk, (∀ b o, b ≠ Sa → b ∉ wr → s.heap.get? b = some o → h'.get? b = some o) → Inv n h' → R (.ok (.ret .none)) { s with heap := h', toks := tk }) →
     codeAny (model prg w) A (.builtin "set.update.loop" ⟨[.ref Sa, .ref I], []⟩) R s := by
 intro k
 induction k with
 | zero =>
   intro i s hk hi hst hS hR
   have hin : i = n := by lia
   subst hin
   refine codeAny_builtin PyProof.Rows.F.entry_set_update_loop ?_
   rw [Around.under_plainId PyProof.Rows.F.plain_set_update_loop _]
   show wpAny _ A.in1 (pyNext (.ref I) >>= _) _ _ s
   refine wpAny_bind (W.done s _ _ hst fun h' tk hm => ?_)
   show wpAny _ A.in1 (ret Value.none) _ _ _
   exact wpAny_pure (hR h' tk (fun b o _ hb e => hm b o hb e) (hInv _ _ _ hS hm))
 | succ k ih =>
   intro i s hk hi hst hS hR
   have hlt : i < n := by lia
   refine codeAny_builtin PyProof.Rows.F.entry_set_update_loop ?_
   rw [Around.under_plainId PyProof.Rows.F.plain_set_update_loop _]
   show wpAny _ A.in1 (pyNext (.ref I) >>= _) _ _ s
   refine wpAny_bind (W.item i s _ _ hlt hst fun v h1 tk1 hP hst' hm => ?_)
   show wpAny _ A.in1 (holding [v] (setAdd Sa v) >>= _) _ _ _
   refine wpAny_bind (wpAny_holding ?_)
   refine step i v _ _ _ hlt hP (hInv _ _ _ hS hm) fun b h2 tk2 hs2 hI2 => ?_
   refine wpAny_pure ⟨plainId_quiet PyProof.Rows.F.plain_set_update_loop _, ih (i + 1) _ (by lia) hlt (W.frame _ _ _ hst' fun b hb o e => ?_) hI2 fun h3 tk3 hk3 hI3 => ?_⟩
   · exact (hs2.2 b (fun h : b = Sa => hSf (by rw [← h]; exact hb))).trans e
   · refine hR h3 tk3 (fun b o h1' h2' e => hk3 b o h1' h2' ((hs2.2 b h1').trans (hm b o h2' e))) hI3
theorem isAnySet_no {v : Value} {T : String} {Q : Bool → Shared → Prop} (hT : s.TypeIs v T) (h1 : isSubtype (.type T) (.type "set") = pure false) (h2 : isSubtype (.type T) (.type "frozenset") = pure false) (h : Q false s) :
   wpAny (model prg w) A (Builtin.Frozenset.isAnySet v) Q E s := by
 unfold Builtin.Frozenset.isAnySet
 show wpAny _ _ (isInstance v (.type "set") >>= _) _ _ _
 refine wpAny_bind (wpAny_isInstance hT h1 ?_)
 exact wpAny_isInstance hT h2 h
theorem sub_tuple_set : isSubtype (.type "tuple") (.type "set") = pure false := by rw [isSubtype_type]; kernel_rfl
theorem sub_tuple_frozenset : isSubtype (.type "tuple") (.type "frozenset") = pure false := by rw [isSubtype_type]; kernel_rfl
theorem call_update_pair {a t : Addr} {S : Int → Bool} {n : Nat} {u v : Int} {k1 k2 : Tok} {Q : Value → Shared → Prop} (hh : A.handled = none)
   (hS : s.heap.SetOf (intKind prg w) a S n) (ht : s.heap.IsTuple t #[.int u k1, .int v k2]) (hn : n + 3 < scanBound)
   (h : ∀ h' tk n', Ext [a] s.heap h' → h'.SetOf (intKind prg w) a (fun k => (S k || decide (k = u)) || decide (k = v)) n' → n' = (if (S v || decide (v = u)) then (if S u then n else n + 1) else (if S u then n else n + 1) + 1) → Q .none { s with heap := h', toks := tk }) :
   wpAny (model prg w) A (call (.builtin "set.update") [.ref a, .ref t]) Q E s := by
 refine wpAny_call_entry PySem.F.slot_set_update hS.typeIs PySem.F.entry_set_update ?_ (PySem.F.args_set_update_2 _ _)
 have hT : s.TypeIs (.ref t) "tuple" := let ⟨o, ho, hc, _⟩ := ht; ⟨o, ho, hc⟩
 unfold Builtin.«set.update» Builtin.Frozenset.manyOthers Builtin.Frozenset.addrOf
 simp only [List.isEmpty_nil, Bool.not_true, Bool.false_eq_true, if_false]
 refine wpAny_bind (wpAny_pure ?_)
 dsimp only
 refine wpAny_bind ?_
 simp only [List.forIn_cons, List.forIn_nil]
 refine wpAny_bind ?_
 refine wpAny_bind ?_
 unfold Builtin.Frozenset.updateFrom
 refine wpAny_bind (isAnySet_no hT sub_tuple_set sub_tuple_frozenset ?_)
 simp only [Bool.false_eq_true, if_false]
 refine wpAny_bind (wpAny_typeOf hT ?_)
 have hne : (Value.type "tuple" == Value.type "dict") = false := by decide
 rw [hne]
 simp only [Bool.false_eq_true, if_false]
 refine wpAny_bind (wpAny_pyIter_tuple ht ?_)
 refine wpAny_bind (wpAny_runValue ?_)
 have hta : t ≠ s.heap.objs.size := by
   refine el_xaa ht fun o ho _ => ?_
   try clear ht
   exact Nat.ne_of_lt (Heap.lt_size ho)
 have haa : a ≠ s.heap.objs.size := by
   refine el_xxxxaa hS fun o _ _ _ ho _ => ?_
   try clear hS
   exact Nat.ne_of_lt (Heap.lt_size ho)
 have hat : a ≠ t := by
   rintro rfl
   refine el_xxxxaaa hS fun o _ _ _ ho hex _ => ?_
   try clear hS
   refine el_xaaa ht fun o' ho' hc _ => ?_
   try clear ht
   rw [ho] at ho'; cases ho'
   have := hex.1.symm.trans hc
   exact absurd this (by decide)
 have hS0 : (s.heap.push { cls := .type "tuple_iterator", data := .fields #[.ref t, .int 0 0] }).SetOf (intKind prg w) a S n := by
   refine el_xxxxaa hS fun o es ep tb ho r => ?_
   try clear hS
   exact in_x4 o es ep tb ⟨Heap.get?_push_of_some _ ho, r⟩ -- in23
 refine upd_loop (Walks.tuple (A := A.in1.in1) hh s.heap.objs.size t hta #[.int u k1, .int v k2]) a (by simp [haa, hat])
   (fun i h' => h'.SetOf (intKind prg w) a (if i = 0 then S else if i = 1 then (fun k => S k || decide (k = u)) else fun k => (S k || decide (k = u)) || decide (k = v))
     (if i = 0 then n else if i = 1 then (if S u then n else n + 1) else (if (S v || decide (v = u)) then (if S u then n else n + 1) else (if S u then n else n + 1) + 1)))
   (fun i h1 h2 hI hk => ?_) (fun i x s1 Q1 E1 hi hP hI hQ => ?_) 2 0 _ rfl (by lia) ⟨⟨_, Heap.get?_push_size _ rfl, rfl, rfl⟩, ?_⟩ hS0 (fun h' tk hk hI => ?_)
 · refine el_xxxxaa hI fun o es ep tb ho r => ?_
   try clear hI
   exact in_x4 o es ep tb ⟨hk _ _ (by simp [haa]) ho, r⟩ -- in24
 · have hb : (if S u then n else n + 1) ≤ n + 1 := by split <;> lia
   unfold setAdd
   refine wpAny_holding ?_
   have hi2 : i = 0 ∨ i = 1 := by simp at hi; lia
   rcases hi2 with rfl | rfl
   · have : x = .int u k1 := by simpa using hP.symm
     subst this
     refine wpAny_bind ((intKind prg w).pyHash (k := u) (intKind_is _ _ _ _) ?_)
     exact wpAny_setAddHashed_of (knd := intKind prg w) (s := { s1 with toks := s1.toks + 1 }) (intKind_is _ _ _ _) rfl hI (by simp only [if_true]; lia) fun h' hsb hS2 => hQ _ h' _ hsb hS2
   · have : x = .int v k2 := by simpa using hP.symm
     subst this
     refine wpAny_bind ((intKind prg w).pyHash (k := v) (intKind_is _ _ _ _) ?_)
     exact wpAny_setAddHashed_of (knd := intKind prg w) (s := { s1 with toks := s1.toks + 1 }) (intKind_is _ _ _ _) rfl hI (by simp only [Nat.one_ne_zero, if_false, if_true]; lia) fun h' hsb hS2 => hQ _ h' _ hsb hS2
 · refine el_xaa ht fun o ho r => ?_
   try clear ht
   exact ⟨o, Heap.get?_push_of_some _ ho, r⟩
 · refine wpAny_pure ?_
   refine wpAny_pure ?_
   refine wpAny_pure ?_
   refine wpAny_pure ⟨_, rfl, h h' tk _ (fun b o hb e => ?_) hI rfl⟩
   have hbI : b ∉ [s.heap.objs.size] := fun hm => by
     rw [List.mem_singleton] at hm
     exact absurd (Heap.lt_size e) (by rw [hm]; exact Nat.lt_irrefl _)
   exact hk b o (by simpa using hb) hbI (Heap.get?_push_of_some _ e)
end
set_option hygiene false
local macro_rules | `(tactic| walk_at "m") => `(tactic| first
 | ((with_reducible show wpAny _ _ (eval _ _) _ _ _); first
     | ((with_reducible show wpAny _ _ (eval (Expr.Name _ _) _) _ _ _); first
         | refine nmL (by assumption) (by rfl) ?_
         | refine nmG (by assumption) (by assumption) (by rfl) ?_
         | refine nmB (by assumption) (by assumption) (by rfl) (by boot_fast) (by decide) ?_
         | refine nmC (by assumption) (by rfl) (by k_mem) (by first | assumption | rfl) ?_)
     | with_reducible refine wpAny_Constant_int ?_
     | with_reducible refine Constant_bool ?_
     | with_reducible refine Constant_none ?_
     | with_reducible refine Calls.Constant_str ?_
     | with_reducible refine binI ?_
     | with_reducible refine cmpI ?_
     | with_reducible refine BoolOp_one ?_
     | with_reducible refine BoolOp_and ?_
     | with_reducible refine BoolOp_or ?_
     | with_reducible refine UnaryOp_ ?_
     | with_reducible refine IfExp_ ?_
     | with_reducible refine subI ?_
     | with_reducible refine tupI ?_
     | ((with_reducible show wpAny _ _ (eval (Expr.ListComp _ _ _ _) _) _ _ _); refine lcomp ?_)
     | with_reducible refine PyProof.Rows.Attribute_any_ ?_
     | with_reducible refine sliceUp ?_
     | with_reducible refine lisI ?_
     | ((with_reducible show wpAny _ _ (eval (Expr.Call (Expr.Attribute _ _ _) _ [] _) _) _ _ _); refine metI ?_)
     | ((with_reducible show wpAny _ _ (eval (Expr.Call _ _ [] _) _) _ _ _); refine calI ?_))
 | ((with_reducible show wpAny _ _ (execs _ _) _ _ _); first
     | with_reducible refine wpAny_execs_nil ?_
     | with_reducible refine seqI ?_)
 | with_reducible refine seqN ?_
 | with_reducible refine seqR ?_
 | with_reducible refine seqC ?_
 | ((with_reducible show wpAny _ _ (exec _ _) _ _ _); first
     | with_reducible refine ifI ?_
     | with_reducible refine retI ?_
     | ((with_reducible show wpAny _ _ (exec (Stmt.Assign [Expr.Name _ _] _ _) _) _ _ _); refine asgI ?_)
     | ((with_reducible show wpAny _ _ (exec (Stmt.Assign [Expr.Tuple _ _ _] _ _) _) _ _ _); refine Assign_Tuple ?_)
     | ((with_reducible show wpAny _ _ (exec (Stmt.Assign [Expr.Subscript _ _ _] _ _) _) _ _ _); refine wpAny_Assign_Subscript ?_)
     | ((with_reducible show wpAny _ _ (exec (Stmt.Assign [Expr.Attribute _ _ _] _ _) _) _ _ _); refine plainObj_wpAny_Assign_Attribute ?_)
     | ((with_reducible show wpAny _ _ (exec (Stmt.Expr _ _) _) _ _ _); refine wpAny_Expr_any ?_)
     | ((with_reducible show wpAny _ _ (exec (Stmt.For _ _ _ [] _) _) _ _ _); refine wpAny_For ?_)
     | with_reducible refine wpAny_Continue ?_)
 | ((with_reducible show wpAny _ _ (isTrue _ _ _) _ _ _); first
     | with_reducible refine cmpT ?_
     | with_reducible refine isTrue_not ?_
     | with_reducible refine isTrue_and_nil ?_
     | with_reducible refine isTrue_and ?_
     | with_reducible refine isTrue_or_nil ?_
     | with_reducible refine isTrue_or ?_
     | ((with_reducible show wpAny _ _ (isTrue _ _ _) _ _ _); refine isTrue_plain ?_))
 | ((with_reducible show wpAny _ _ (spliced _) _ _ _); first
     | with_reducible refine sp_nil ?_
     | ((with_reducible show wpAny _ _ (spliced (backTo _ (starEach (_ :: _) _))) _ _ _); refine spcI ?_))
 | ((with_reducible show wpAny _ _ (callWith _ _ _ _ _) _ _ _); first
     | ((with_reducible show wpAny _ _ (callWith _ (Value.builtin _) [] (backTo _ (starEach (_ :: _) _)) []) _ _ _); refine bltI ?_)
     | ((with_reducible show wpAny _ _ (callWith _ (Value.builtin _) _ (backTo _ (starEach (_ :: _) _)) []) _ _ _); refine callWith_method1 ?_)
     | with_reducible refine callWith_method0 ?_
     | ((with_reducible show wpAny _ _ (callWith _ (Value.type _) [] (backTo _ (starEach (_ :: _) _)) []) _ _ _); refine Pv.callWith_type1 ?_)
     | with_reducible refine callWith_type0 ?_
     | ((with_reducible show wpAny _ _ (callWith _ (Value.ref _) _ (backTo _ (starEach (_ :: _) _)) []) _ _ _); refine cwF (by assumption) (by rfl) ?_)
     | ((with_reducible show wpAny _ _ (callWith _ (Value.ref _) _ (backTo _ (starEach [] _)) []) _ _ _); refine cwF0 (by assumption) (by assumption) (by rfl) ?_))
 | with_reducible refine wpAny_truthy_bool ?_
 | with_reducible refine not_of ?_
 | ((with_reducible show wpAny _ _ (storeName _ _ _) _ _ _); refine stL (by assumption) ?_; intro h1 S)
 | ((with_reducible show wpAny _ _ (assign (Expr.Name _ _) _ _) _ _ _); refine asg1 (by assumption) ?_; intro h1 S)
 | with_reducible refine wpAny_tests_nil ?_
 | with_reducible refine wpAny_tests_one ?_
 | ((with_reducible show (∃ L l N, St _ L _ l N) ∧ _); refine ⟨⟨_, _, _, by assumption⟩, ?_⟩)
 | with_reducible refine ite_tt ?_
 | with_reducible refine ite_ff ?_
 | with_reducible refine ite_nt ?_
 | with_reducible refine ite_nf ?_
 | (dsimp only))
local macro_rules | `(tactic| walk_at "mm") => `(tactic| repeat walk_at "m")
set_option hygiene true
section
variable {w : World} {A : Around} {outs : List Env} {base : Heap} {n : Nat} {s : Shared} {E : Value → Shared → Prop}
structure Draw (P : Addr) (oD oP : Obj) : Prop where
 is : ∃ sd tk e1 vs ns e2, oD = W.listOf #[.ref P, .int sd tk] e1 ∧ oP = W.listOf (List.toArray vs) e2 ∧ IntsAre vs ns ∧ 0 ≤ sd ∧ sd < 2147483647 ∧ ns.length ≤ 24
theorem take_spec {D P : Addr} {oD oP : Obj} {tk2 : Tok} {many : Int} {Q : Value → Shared → Prop}
   (C : Cx w A outs base s.heap (n + 1)) (hS : ∀ a ∈ [D, P], base.get? a = none ∧ ∀ env ∈ outs, env.frame ≠ some a)
   (hD : s.heap.get? D = some oD) (hP : s.heap.get? P = some oP) (hDP : D ≠ P) (dr : Draw P oD oP) (hm : 0 < many)
   (h : ∀ h' tk' oD' oP' r u, Ext [D, P] s.heap h' → h'.get? D = some oD' → h'.get? P = some oP' → Draw P oD' oP' → 0 ≤ r → r < many → Q (.int r u) { s with heap := h', toks := tk' }) :
   wpAny (model prg w) A (call (.ref 326) [.ref D, .int many tk2]) Q E s := by
 refine el_xxxxxxaaaaaa (dr.is) fun sd tk1 e1 vs ns e2 hsb6 hsb7 hi hs0 hs1 hlen => ?_
 subst hsb6
 subst hsb7
 refine enterC (binds := [(Str.ofString "draw", .ref D), (Str.ofString "many", .int many tk2)]) [(D, W.listOf #[.ref P, .int sd tk1] e1), (P, W.listOf vs.toArray e2)] (by simp [hD, hP]) (by simp [hDP]) hS C rfl rfl (BindsTo.of_eq rfl) (locs rfl) (fun h₁ L tk Qf Ef hQ S CG => ?_)
 dsimp only [locOf, List.reverse, List.reverseAux, List.map] at S CG
 walk_at "mm"
 refine subL (v := .ref P) (News.isList S.nw (by k_mem)) (by decide) (by decide) rfl ?_
 walk_at "mm"
 refine newL S fun l2 h₂ S _ _ _ => ?_
 refine ne_intsK (News.isList S.nw (by k_mem)) hi (News.isList S.nw (by k_mem)) IntsAre.nil (CG.push S).line ?_
 walk_at "mm"
 cases hi with
 | nil => 
   walk_at "mm"
   first | refine ite_tt ?_ | refine ite_ff ?_
   walk_at "mm"
   refine subL (v := .int sd tk1) (News.isList S.nw (by k_mem)) (by decide) (by decide) rfl ?_
   walk_at "mm"
   with_reducible refine mul_int ?_ (IntMulOk.of_right (b := 48271) (intBits_le_64 (by decide) (by decide)))
   walk_at "mm"
   with_reducible refine mod_int' (by decide) ?_
   walk_at "mm"
   refine setItem_at (S.get (by k_mem)) (by decide) (by simp) (by decide) fun h3 hs3 ho3 => ?_
   replace S := S.turn (.tail .head) hs3 ho3
   walk_at "mm"
   refine subL (v := .int ((sd * 48271).fmod 2147483647) _) (News.isList S.nw (by k_mem)) (by decide) (by decide) rfl ?_
   walk_at "mm"
   with_reducible refine floordiv_int (by decide) ?_ (Or.inl (PyProof.noPylong_of_log2 (by decide +kernel)))
   walk_at "mm"
   with_reducible refine mod_int' (by lia) ?_
   refine hQ _ _ ?_
   refine h _ _ _ _ _ _ (Ext.of_hide S.keep) (S.get (by k_mem)) (S.get (by k_mem)) ⟨_, _, _, _, _, _, rfl, rfl, .nil, fmod_lo _ (by decide), fmod_hi _ (by decide), by simp⟩ (fmod_lo _ hm) (fmod_hi _ hm)
 | @cons i t vs' ns' hi => 
   walk_at "mm"
   first | refine ite_tt ?_ | refine ite_ff ?_
   walk_at "mm"
   refine subL (v := .ref P) (News.isList S.nw (by k_mem)) (by decide) (by decide) rfl ?_
   walk_at "mm"
   refine getMethod_list_of PySem.F.slot_list_pop PySem.F.type_list_pop (News.isList S.nw (by k_mem)) ⟨_, S.get (by k_mem), rfl⟩ ?_
   walk_at "mm"
   have hle := hi.length
   simp only [List.length_cons] at hlen
   refine pop0_at (v := .int i t) (vs := vs') (n := e2) ?_ (fun h3 hs3 ho3 => ?_) ?_
   case refine_1 => exact S.get (by k_mem)
   case refine_3 => simp only [List.length_cons, sizeLine_eq]; lia
   replace S := S.turn (.tail (.tail .head)) hs3 ho3
   walk_at "mm"
   with_reducible refine mod_int' (by lia) ?_
   refine hQ _ _ ?_
   refine h _ _ _ _ _ _ (Ext.of_hide S.keep) (S.get (by k_mem)) (S.get (by k_mem)) ⟨_, _, _, _, _, _, rfl, rfl, hi, hs0, hs1, by simp at hlen; lia⟩ (fmod_lo _ hm) (fmod_hi _ hm)
end
section
variable {w : World} {A : Around} {E : Value → Shared → Prop} {s : Shared} {g : Heap} {N N' : List (Addr × Obj)} {l : Loc} {env : Env} {v : Value} {L : Addr}
theorem asg1 {M : Model} {x : Str} {px : Pos} {Q : Unit → Shared → Prop} (S : St g L s.heap l N) (h : ∀ h', St g L h' ((x, some v) :: l) N → Q () { s with heap := h', toks := s.toks + 1 }) (hL : env.locals = L := by rfl)
   (hk : env.scope.kind = .function := by rfl) (hl : env.kindOf x = some .local := by rfl) : wpAny M A (assign (.Name x px) env v) Q E s := wpAny_assign_Name (stL S h hL hk hl)
theorem isTup_of {h : Heap} {T : Addr} {vs : Array Value} (ht : h.IsTuple T vs) : IsTup h T vs := by
 refine el_xaaxa ht fun o n ho hc hd => ?_
 try clear ht
 exact ⟨o, ho, hc, _, hd⟩
theorem asg2 {a b : Str} {pa pb tp : Pos} {kk : Nat} {T : Addr} {x y : Value} {Q : Unit → Shared → Prop} (hh : A.handled = none) (S : St g L s.heap l N) (ht : s.heap.IsTuple T #[x, y])
   (h : ∀ h' tk, St g L h' ((b, some y) :: (a, some x) :: l) N → Q () { s with heap := h', toks := tk })
   (hL : env.locals = L := by rfl) (hk : env.scope.kind = .function := by rfl) (ha : env.kindOf a = some .local := by rfl) (hb : env.kindOf b = some .local := by rfl) :
   wpAny (model prg w) A (assign (.Tuple [.Name a pa, .Name b pb] kk tp) env (.ref T)) Q E s := by
 refine PyProof.Rows.assign_Tuple_tuple hh (isTup_of ht) rfl rfl fun h₁ he₁ => ?_
 have S1 := S.grow (h' := h₁) fun b o e => he₁ b o (Nat.ne_of_lt (Heap.lt_size e)) e
 refine assignInOrder_cons (asg1 S1 (fun h₂ S2 => ?_) hL hk ha)
 refine assignInOrder_cons (asg1 S2 (fun h₃ S3 => ?_) hL hk hb)
 exact assignInOrder_nil (h _ _ S3)
theorem asg3 {a b c : Str} {pa pb pc tp : Pos} {kk : Nat} {T : Addr} {x y z : Value} {Q : Unit → Shared → Prop} (hh : A.handled = none) (S : St g L s.heap l N) (ht : s.heap.IsTuple T #[x, y, z])
   (h : ∀ h' tk, St g L h' ((c, some z) :: (b, some y) :: (a, some x) :: l) N → Q () { s with heap := h', toks := tk })
   (hL : env.locals = L := by rfl) (hk : env.scope.kind = .function := by rfl) (ha : env.kindOf a = some .local := by rfl) (hb : env.kindOf b = some .local := by rfl) (hc : env.kindOf c = some .local := by rfl) :
   wpAny (model prg w) A (assign (.Tuple [.Name a pa, .Name b pb, .Name c pc] kk tp) env (.ref T)) Q E s := by
 refine PyProof.Rows.assign_Tuple_tuple hh (isTup_of ht) rfl rfl fun h₁ he₁ => ?_
 have S1 := S.grow (h' := h₁) fun b o e => he₁ b o (Nat.ne_of_lt (Heap.lt_size e)) e
 refine assignInOrder_cons (asg1 S1 (fun h₂ S2 => ?_) hL hk ha)
 refine assignInOrder_cons (asg1 S2 (fun h₃ S3 => ?_) hL hk hb)
 refine assignInOrder_cons (asg1 S3 (fun h₃ S4 => ?_) hL hk hc)
 exact assignInOrder_nil (h _ _ S4)
abbrev Gens := Array GenState
noncomputable def TurnedG (Gr : Gens → Gens → Prop) (s₁ : Shared) (Gb G : Heap) (L : Addr) (J' : Loc → List (Addr × Obj) → Heap → Prop) (s' : Shared) : Prop :=
 ∃ h tk gs l' N', s' = { s₁ with heap := h, toks := tk, gens := gs } ∧ Gr s₁.gens gs ∧ St Gb L h l' N' ∧ ∀ G2 : Heap, (∀ b o, G.get? b = some o → G2.get? b = some o) → (∀ b o, h.get? b = some o → Gb.get? b = none → b ≠ L → b ∉ N'.map (·.1) → G2.get? b = some o) → J' l' N' G2
noncomputable def BodyEndG (Gr : Gens → Gens → Prop) (s₁ : Shared) (Gb G : Heap) (L : Addr) (J' : Loc → List (Addr × Obj) → Heap → Prop) (Q : Flow → Shared → Prop) : Flow → Shared → Prop
 | .next, s' => TurnedG Gr s₁ Gb G L J' s'
 | .cont, s' => TurnedG Gr s₁ Gb G L J' s'
 | .brk, s' => Q .next s'
 | .ret v, s' => Q (.ret v) s'
abbrev Turned := TurnedG Eq
abbrev BodyEnd := BodyEndG Eq
theorem hide_sub {h g : Heap} {S : List Addr} (k : ∀ b o, g.get? b = some o → h.get? b = some o) (n : ∀ b ∈ S, g.get? b = none) : ∀ b o, g.get? b = some o → (hideAll h S).get? b = some o := fun b o e => hideAll_get _ (k b o e) fun m => by
 rw [n b m] at e; cases e
theorem none_sub {h g : Heap} (k : ∀ b o, g.get? b = some o → h.get? b = some o) {b : Addr} (e : h.get? b = none) : g.get? b = none := by
 cases q : g.get? b with
 | none => rfl
 | some o => rw [k b o q] at e; cases e
theorem Turned.of {s₁ : Shared} {Gb G h : Heap} {L : Addr} {J' : Loc → List (Addr × Obj) → Heap → Prop} {l' : Loc} {N' : List (Addr × Obj)} {tk : Nat} (K : List (Addr × Obj)) (S : St Gb L h l' (K ++ N'))
   (hJ : ∀ G2 : Heap, (∀ b o, G.get? b = some o → G2.get? b = some o) → (∀ p ∈ K, G2.get? p.1 = some p.2) → J' l' N' G2) : Turned s₁ Gb G L J' { s₁ with heap := h, toks := tk } :=
 ⟨h, tk, s₁.gens, l', N', rfl, rfl, S.sub (List.sublist_append_right K N'), fun G2 k1 k2 => hJ G2 k1 fun p hp => k2 _ _ (S.get (List.mem_append_left _ hp)) (S.nw p (List.mem_append_left _ hp)).2.2 (S.nw p (List.mem_append_left _ hp)).2.1 fun m => by
   have nd := S.nd
   rw [List.map_append, List.nodup_append] at nd
   exact nd.2.2 _ (List.mem_map_of_mem hp) _ m rfl⟩
theorem BodyEnd.nx {s₁ : Shared} {Gb G h : Heap} {L : Addr} {J' : Loc → List (Addr × Obj) → Heap → Prop} {Q : Flow → Shared → Prop} {l' : Loc} {N' : List (Addr × Obj)} {tk : Nat} (K : List (Addr × Obj)) (S : St Gb L h l' (K ++ N'))
   (hJ : ∀ G2 : Heap, (∀ b o, G.get? b = some o → G2.get? b = some o) → (∀ p ∈ K, G2.get? p.1 = some p.2) → J' l' N' G2) : BodyEnd s₁ Gb G L J' Q .next { s₁ with heap := h, toks := tk } := Turned.of K S hJ
theorem BodyEnd.nw {s₁ : Shared} {Gb G h : Heap} {L : Addr} {J' : Loc → List (Addr × Obj) → Heap → Prop} {Q : Flow → Shared → Prop} {l' : Loc} {N' : List (Addr × Obj)} {tk : Nat} (S : St Gb L h l' N')
   (hJ : ∀ G2 : Heap, (∀ b o, G.get? b = some o → G2.get? b = some o) → (∀ b o, h.get? b = some o → Gb.get? b = none → b ≠ L → b ∉ N'.map (·.1) → G2.get? b = some o) → J' l' N' G2) : BodyEnd s₁ Gb G L J' Q .next { s₁ with heap := h, toks := tk } := ⟨h, tk, s₁.gens, l', N', rfl, rfl, S, hJ⟩
theorem BodyEndG.nw {Gr : Gens → Gens → Prop} {s₁ : Shared} {Gb G h : Heap} {L : Addr} {J' : Loc → List (Addr × Obj) → Heap → Prop} {Q : Flow → Shared → Prop} {l' : Loc} {N' : List (Addr × Obj)} {tk : Nat} {gs : Gens} (S : St Gb L h l' N') (hg : Gr s₁.gens gs)
   (hJ : ∀ G2 : Heap, (∀ b o, G.get? b = some o → G2.get? b = some o) → (∀ b o, h.get? b = some o → Gb.get? b = none → b ≠ L → b ∉ N'.map (·.1) → G2.get? b = some o) → J' l' N' G2) : BodyEndG Gr s₁ Gb G L J' Q .next { s₁ with heap := h, toks := tk, gens := gs } := ⟨h, tk, gs, l', N', rfl, hg, S, hJ⟩
theorem BodyEndG.rt {Gr : Gens → Gens → Prop} {s₁ s' : Shared} {Gb G : Heap} {L : Addr} {J' : Loc → List (Addr × Obj) → Heap → Prop} {Q : Flow → Shared → Prop} {v : Value} (h : Q (.ret v) s') : BodyEndG Gr s₁ Gb G L J' Q (.ret v) s' := h
theorem BodyEnd.rt {s₁ s' : Shared} {Gb G : Heap} {L : Addr} {J' : Loc → List (Addr × Obj) → Heap → Prop} {Q : Flow → Shared → Prop} {v : Value} (h : Q (.ret v) s') : BodyEnd s₁ Gb G L J' Q (.ret v) s' := h
structure Itr (w : World) (A : Around) (target : Expr) (g : Heap) (I : Addr) (n : Nat) (P : Nat → Value → Heap → Prop) (GP : Gens → Prop) (Gr : Gens → Gens → Prop) (Md : Nat → Value → Heap → Gens → List Addr → List Addr → Prop) (Stw : Nat → Heap → Gens → List Addr → List Addr → Prop) : Prop where
 frame : ∀ i h h' gs gs' X X' W, Stw i h gs X W → (∀ b o, b ∉ X → h.get? b = some o → h'.get? b = some o) → (∀ b ∈ X', b ∈ X ∨ h.get? b = none) → Gr gs gs' → Stw i h' gs' X' W
 item : ∀ i (s : Shared) X W (Q : Option Value → Shared → Prop) (E : Value → Shared → Prop), i < n → Stw i s.heap s.gens X W → (∀ b ∈ X, ∃ o, s.heap.get? b = some o) →
   (∀ v h' tk gs W', Md i v h' gs X W' → (∀ b o, b ∉ W → s.heap.get? b = some o → h'.get? b = some o) → (∀ b ∈ W', b ∈ W ∨ s.heap.get? b = none) → (∀ b ∈ W, b ∈ W') → Q (some v) { s with heap := h', toks := tk, gens := gs }) → wpAny (model prg w) A (pyNext (.ref I)) Q E s
 go : ∀ i v (s : Shared) X W (Q : Unit → Shared → Prop) (E : Value → Shared → Prop), Md i v s.heap s.gens X W →
   (∀ h', P i v h' → Stw (i + 1) h' s.gens X W → (∀ b o, b ∉ W → s.heap.get? b = some o → h'.get? b = some o) → Q () { s with heap := h' }) → wpAny (model prg w) A (letOwnedTupleGo target (.ref I) v) Q E s
 done : ∀ (s : Shared) X W (Q : Option Value → Shared → Prop) (E : Value → Shared → Prop), Stw n s.heap s.gens X W → (∀ b ∈ X, ∃ o, s.heap.get? b = some o) →
   (∀ h' tk gs, GP gs → (∀ b o, b ∉ W → s.heap.get? b = some o → h'.get? b = some o) → Q none { s with heap := h', toks := tk, gens := gs }) → wpAny (model prg w) A (pyNext (.ref I)) Q E s
 wrX : ∀ i h gs X W, Stw i h gs X W → ∀ b ∈ W, b ∉ X
 gp : ∀ i h gs X W, Stw i h gs X W → GP gs
structure ItrF (w : World) (A : Around) (target : Expr) (g : Heap) (I : Addr) (F : Heap → Prop) (n : Nat) (P : Nat → Value → Heap → Prop) (GP : Gens → Prop) (Gr : Gens → Gens → Prop) (Md : Nat → Value → Heap → Gens → List Addr → List Addr → Prop) (Stw : Nat → Heap → Gens → List Addr → List Addr → Prop) : Prop where
 frame : ∀ i h h' gs gs' X X' W, Stw i h gs X W → (∀ b o, b ∉ X → h.get? b = some o → h'.get? b = some o) → (∀ b ∈ X', b ∈ X ∨ h.get? b = none) → Gr gs gs' → Stw i h' gs' X' W
 item : ∀ i (s : Shared) X W (Q : Option Value → Shared → Prop) (E : Value → Shared → Prop), i < n → Stw i s.heap s.gens X W → (∀ b ∈ X, ∃ o, s.heap.get? b = some o) → F s.heap →
   (∀ v h' tk gs W', Md i v h' gs X W' → (∀ b o, b ∉ W → s.heap.get? b = some o → h'.get? b = some o) → (∀ b ∈ W', b ∈ W ∨ s.heap.get? b = none) → (∀ b ∈ W, b ∈ W') → Q (some v) { s with heap := h', toks := tk, gens := gs }) → wpAny (model prg w) A (pyNext (.ref I)) Q E s
 go : ∀ i v (s : Shared) X W (Q : Unit → Shared → Prop) (E : Value → Shared → Prop), Md i v s.heap s.gens X W →
   (∀ h', P i v h' → Stw (i + 1) h' s.gens X W → (∀ b o, b ∉ W → s.heap.get? b = some o → h'.get? b = some o) → Q () { s with heap := h' }) → wpAny (model prg w) A (letOwnedTupleGo target (.ref I) v) Q E s
 done : ∀ (s : Shared) X W (Q : Option Value → Shared → Prop) (E : Value → Shared → Prop), Stw n s.heap s.gens X W → (∀ b ∈ X, ∃ o, s.heap.get? b = some o) → F s.heap →
   (∀ h' tk gs, GP gs → (∀ b o, b ∉ W → s.heap.get? b = some o → h'.get? b = some o) → Q none { s with heap := h', toks := tk, gens := gs }) → wpAny (model prg w) A (pyNext (.ref I)) Q E s
 wrX : ∀ i h gs X W, Stw i h gs X W → ∀ b ∈ W, b ∉ X
 gp : ∀ i h gs X W, Stw i h gs X W → GP gs
theorem Itr.of {w : World} {A : Around} {target : Expr} {g : Heap} {I : Addr} {fp wr : List Addr} {n : Nat} {P Md : Nat → Value → Heap → Prop} {Stk : Nat → Heap → Prop} {gs0 : Gens} (V : KTurns prg w A target I fp wr n P Md Stk)
   (GP : Gens → Prop) (Gr : Gens → Gens → Prop) (hGP : ∀ a b, GP a → Gr a b → GP b) (ex : ∀ i h, Stk i h → ∀ b ∈ fp, ∃ o, h.get? b = some o) :
   Itr w A target g I n P GP Gr (fun i v h gs X W => Md i v h ∧ (∀ b ∈ fp, b ∉ X) ∧ GP gs ∧ W = wr) (fun i h gs X W => Stk i h ∧ (∀ b ∈ fp, b ∉ X) ∧ GP gs ∧ W = wr) where
 frame := fun i h h' gs gs' X X' W st k k' r => ⟨V.frame i h h' st.1 fun b hb o e => k b o (st.2.1 b hb) e, fun b hb m => (k' b m).elim (st.2.1 b hb) (fun e => by
   refine el_xa (ex _ _ st.1 b hb) fun o q => ?_
   rw [e] at q
   exact nomatch q), hGP _ _ st.2.2.1 r, st.2.2.2⟩
 item := fun i s X W Q E hi st _ hQ => V.item i s Q E hi st.1 fun v h' tk md k => hQ v h' tk s.gens wr ⟨md, st.2.1, st.2.2.1, rfl⟩ (by rw [st.2.2.2]; exact k) (fun b hb => .inl (by rw [st.2.2.2]; exact hb)) fun b hb => by rw [← st.2.2.2]; exact hb
 go := fun i v s X W Q E md hQ => V.go i v s Q E md.1 fun h' p st k => hQ h' p ⟨st, md.2⟩ (by rw [md.2.2.2]; exact k)
 done := fun s X W Q E st _ hQ => V.done s Q E st.1 fun h' tk k => hQ h' tk s.gens st.2.2.1 (by rw [st.2.2.2]; exact k)
 wrX := fun _ _ _ _ _ st b hb => st.2.1 b (V.sub b (by rw [← st.2.2.2]; exact hb))
 gp := fun _ _ _ _ _ st => st.2.2.1
noncomputable def SrcG (w : World) (A : Around) (target : Expr) (xv : Value) (g : Heap) (n : Nat) (P : Nat → Value → Heap → Prop) (GP : Shared → Gens → Prop) (Gr : Gens → Gens → Prop) : Prop :=
 ∀ (s : Shared) (Q : Value → Shared → Prop) (E : Value → Shared → Prop), (∀ b o, g.get? b = some o → s.heap.get? b = some o) →
   (∀ I W Md Stw h' tk gs, Itr w A target g I n P (GP s) Gr Md Stw → (∀ b ∈ W, g.get? b = none) → (∀ X, (∀ b ∈ X, g.get? b = none ∧ ∃ o, s.heap.get? b = some o) → Stw 0 h' gs X W) → (∀ b o, s.heap.get? b = some o → h'.get? b = some o) →
     (∀ (s₁ : Shared) (Q : Value → Shared → Prop) (E : Value → Shared → Prop) X, Stw 0 s₁.heap s₁.gens X W → Q (.ref I) s₁ → wpAny (model prg w) A (pyIter (.ref I)) Q E s₁) →
     Q (.ref I) { s with heap := h', toks := tk, gens := gs }) → wpAny (model prg w) A (pyIter xv) Q E s
abbrev Src (w : World) (A : Around) (target : Expr) (xv : Value) (g : Heap) (n : Nat) (P : Nat → Value → Heap → Prop) (GP : Shared → Gens → Prop) : Prop := SrcG w A target xv g n P GP Eq
abbrev Plain (s : Shared) (gs : Gens) : Prop := gs = s.gens
theorem Itr.toF {w : World} {A : Around} {target : Expr} {g : Heap} {I : Addr} {n : Nat} {P : Nat → Value → Heap → Prop} {GP : Gens → Prop} {Gr : Gens → Gens → Prop} {Md : Nat → Value → Heap → Gens → List Addr → List Addr → Prop} {Stw : Nat → Heap → Gens → List Addr → List Addr → Prop} (X : Itr w A target g I n P GP Gr Md Stw) : ItrF w A target g I (fun _ => True) n P GP Gr Md Stw :=
 ⟨X.frame, fun i s X₁ W Q E a b c _ => X.item i s X₁ W Q E a b c, X.go, fun s X₁ W Q E a b _ => X.done s X₁ W Q E a b, X.wrX, X.gp⟩
theorem for_loopF {target : Expr} {body : List Stmt} {Q : Flow → Shared → Prop} {E' : Value → Shared → Prop} {I : Addr} {W₀ : List Addr} {n : Nat} {P : Nat → Value → Heap → Prop} {GP : Gens → Prop} {Gr : Gens → Gens → Prop} {Md : Nat → Value → Heap → Gens → List Addr → List Addr → Prop} {Stw : Nat → Heap → Gens → List Addr → List Addr → Prop}
   (J : Nat → Loc → List (Addr × Obj) → Heap → Prop) {F : Heap → Prop} (X : ItrF w A target g I F n P GP Gr Md Stw) (hF : ∀ h m, h.Ns env.locals m → F h) (hW₀ : ∀ b ∈ W₀, g.get? b = none) (hst : Stw 0 s.heap s.gens (env.locals :: N.map (·.1)) W₀) (S : St g env.locals s.heap l N) (h0 : J 0 l N g)
   (turn : ∀ i v l N G h₁ tk gs, i < n → P i v h₁ → GP gs → J i l N G → (∀ b o, g.get? b = some o → G.get? b = some o) → (∀ b o, G.get? b = some o → (hideAll h₁ (env.locals :: N.map (·.1))).get? b = some o) → St (hideAll h₁ (env.locals :: N.map (·.1))) env.locals h₁ l N →
     wpAny (model prg w) A (assign target env v) (fun _ s₂ => wpAny (model prg w) A (execs body env) (BodyEndG Gr { s with heap := h₁, toks := tk, gens := gs } (hideAll h₁ (env.locals :: N.map (·.1))) G env.locals (J (i + 1)) Q) E' s₂) E' { s with heap := h₁, toks := tk, gens := gs })
   (done : ∀ l N G h tk gs, GP gs → J n l N G → (∀ b o, g.get? b = some o → G.get? b = some o) → St G env.locals h l N → Q .next { s with heap := h, toks := tk, gens := gs })
   (hE : ∀ e s', E' e s' → notedBy (model prg w) A env (cameBackBy (model prg w) A env E) e s') :
   codeAny (model prg w) A (.forLoop target (.ref I) body [] env) (fun r s' => match r with | .ok f => Q f s' | .error e => cameBackBy (model prg w) A env E e s') s := by
 refine codeAny_forLoop_any
   (fun k s' => ∃ h tk gs l N i G W, s' = { s with heap := h, toks := tk, gens := gs } ∧ Stw i h gs (env.locals :: N.map (·.1)) W ∧ (∀ b o, g.get? b = some o → G.get? b = some o) ∧ (∀ b ∈ W, G.get? b = none) ∧ St G env.locals h l N ∧ J i l N G ∧ i ≤ n ∧ k = n + 1 - i) ?_ (n + 1)
   ⟨s.heap, s.toks, s.gens, l, N, 0, g, W₀, rfl, hst, fun _ _ e => e, hW₀, S, h0, Nat.zero_le _, rfl⟩
 intro k s'
 refine elc_xxxxxxxxaaaaaaaa fun h tk gs l N i G W hsb8 hst hgG hGw S hJ hi hsb15 => ?_
 subst hsb8
 subst hsb15
 have hwN := X.wrX _ _ _ _ _ hst
 have next : ∀ h₁ : Heap, (∀ b o, b ∉ W → h.get? b = some o → h₁.get? b = some o) → St G env.locals h₁ l N := fun h₁ hk₁ =>
   ⟨S.ns.at' fun o e => hk₁ _ o (fun m => hwN _ m (.head _)) e, fun b o e => hk₁ b o (fun m => by rw [hGw b m] at e; cases e) (S.keep b o e), S.sep, fun p hp => ⟨hk₁ _ _ (fun m => hwN _ m (.tail _ (List.mem_map_of_mem hp))) (S.nw p hp).1, (S.nw p hp).2⟩, S.nd⟩
 have hX : ∀ b ∈ env.locals :: N.map (·.1), ∃ o, h.get? b = some o := fun b hb => by
   rcases List.mem_cons.mp hb with rfl | hb
   · refine el_xxxaa (S.ns) fun o _ _ e _ => ?_
     exact ⟨o, e⟩
   · refine el_xaa (List.mem_map.mp hb) fun p hp hsb2 => ?_
     subst hsb2
     exact ⟨_, (S.nw p hp).1⟩
 by_cases hlt : i < n
 · refine X.item i _ _ _ _ _ hlt hst hX (hF _ _ S.ns) fun v h₁ tk₁ gs₁ W₁ hMd hk₁ hWn hWW => ?_
   refine X.go i v _ _ _ _ _ hMd fun h₂ hP hst₂ hk₂ => ?_
   have hGw₁ : ∀ b ∈ W₁, G.get? b = none := fun b hb => (hWn b hb).elim (hGw b) fun e => none_sub S.keep e
   have S2 := next h₂ fun b o hb x => hk₂ b o (fun m => (hWn b m).elim hb fun e => by rw [e] at x; cases x) (hk₁ b o hb x)
   refine el_aa (S2.ground) fun S3 k3 => ?_
   have hfin : ∀ s₃, TurnedG Gr { s with heap := h₂, toks := tk₁, gens := gs₁ } (hideAll h₂ (env.locals :: N.map (·.1))) G env.locals (J (i + 1)) s₃ →
       ∃ m, m < n + 1 - i ∧ ∃ h tk gs l N i G W, s₃ = { s with heap := h, toks := tk, gens := gs } ∧ Stw i h gs (env.locals :: N.map (·.1)) W ∧ (∀ b o, g.get? b = some o → G.get? b = some o) ∧ (∀ b ∈ W, G.get? b = none) ∧ St G env.locals h l N ∧ J i l N G ∧ i ≤ n ∧ m = n + 1 - i := by
     intro s₃
     refine elc_xxxxxaaaa fun h' tk' gs' l' N' hsb5 hgr S' hJ' => ?_
     subst hsb5
     have newX : ∀ b ∈ env.locals :: N'.map (·.1), b ∈ env.locals :: N.map (·.1) ∨ h₂.get? b = none := fun b hb => by
       rcases List.mem_cons.mp hb with rfl | hb
       · exact .inl (.head _)
       · by_cases q : b ∈ env.locals :: N.map (·.1)
         · exact .inl q
         · refine el_xaa (List.mem_map.mp hb) fun p hp hsb2 => ?_
           subst hsb2
           refine .inr ?_
           cases e : h₂.get? p.1 with
           | none => rfl
           | some o => have := hideAll_get _ e q; rw [(S'.nw p hp).2.2] at this; cases this
     have hst₃ : Stw (i + 1) h' gs' (env.locals :: N'.map (·.1)) W₁ := X.frame _ _ _ _ _ _ _ _ hst₂ (fun b o hb e => S'.keep b o (hideAll_get _ e hb)) newX hgr
     have hw2 : ∀ b ∈ W₁, ∃ o, (hideAll h₂ (env.locals :: N.map (·.1))).get? b = some o := fun b hb => by
       cases e : h₂.get? b with
       | none =>
         have := X.wrX _ _ _ _ _ (X.frame _ _ _ _ _ _ [b] _ hst₂ (fun b o _ e => e) (fun b' hb' => by rw [List.mem_singleton.mp hb']; exact .inr e) hgr) b hb (.head _)
         exact this.elim
       | some o => exact ⟨o, hideAll_get _ e (X.wrX _ _ _ _ _ hst₂ b hb)⟩
     have hG2 : ∀ b o, G.get? b = some o → (hideAll h' (W₁ ++ env.locals :: N'.map (·.1))).get? b = some o := fun b o e => by
       have e2 := k3 b o e
       refine hideAll_get _ (S'.keep b o e2) fun m => ?_
       rcases List.mem_append.mp m with m | m
       · rw [hGw₁ b m] at e; cases e
       · rcases List.mem_cons.mp m with q | m
         · rw [q, S'.sep] at e2; cases e2
         · refine el_xaa (List.mem_map.mp m) fun p hp q => ?_
           rw [← q, (S'.nw p hp).2.2] at e2; cases e2
     refine ⟨n + 1 - (i + 1), by lia, h', tk', gs', l', N', i + 1, hideAll h' (W₁ ++ env.locals :: N'.map (·.1)), W₁, rfl, hst₃, fun b o e => hG2 b o (hgG b o e), fun b hb => hideAll_none _ (List.mem_append_left _ hb), ?_, ?_, hlt, rfl⟩
     · exact ⟨S'.ns, fun b o e => of_hideAll _ e, hideAll_none _ (List.mem_append_right _ (.head _)), fun p hp => ⟨(S'.nw p hp).1, (S'.nw p hp).2.1, hideAll_none _ (List.mem_append_right _ (.tail _ (List.mem_map_of_mem hp)))⟩, S'.nd⟩
     · refine hJ' _ hG2 fun b o e e1 e2 e3 => hideAll_get _ e fun m => ?_
       rcases List.mem_append.mp m with m | m
       · refine el_xa (hw2 b m) fun o' e' => ?_
         rw [e1] at e'; cases e'
       · exact (List.mem_cons.mp m).elim e2 e3
   refine wpAny_mono (wpAny_mono (turn i v l N G h₂ tk₁ gs₁ hlt hP (X.gp _ _ _ _ _ hst₂) hJ hgG k3 S3) (fun _ s₂ h₂' => wpAny_mono h₂' (fun f s₃ h₃ => ?_) hE) hE) (fun _ _ x => x) fun _ _ x => x
   cases f with
   | ret v => exact h₃
   | brk => exact h₃
   | cont => exact hfin _ h₃
   | next => exact hfin _ h₃
 · obtain rfl : i = n := by lia
   refine X.done _ _ _ _ _ hst hX (hF _ _ S.ns) fun h₁ tk₁ gs₁ hgp hk₁ => wpAny_execs_nil ?_
   exact done l N G h₁ tk₁ gs₁ hgp hJ hgG (next h₁ hk₁)
theorem for_loop {target : Expr} {body : List Stmt} {Q : Flow → Shared → Prop} {E' : Value → Shared → Prop} {I : Addr} {W₀ : List Addr} {n : Nat} {P : Nat → Value → Heap → Prop} {GP : Gens → Prop} {Gr : Gens → Gens → Prop} {Md : Nat → Value → Heap → Gens → List Addr → List Addr → Prop} {Stw : Nat → Heap → Gens → List Addr → List Addr → Prop}
   (J : Nat → Loc → List (Addr × Obj) → Heap → Prop) (X : Itr w A target g I n P GP Gr Md Stw) (hW₀ : ∀ b ∈ W₀, g.get? b = none) (hst : Stw 0 s.heap s.gens (env.locals :: N.map (·.1)) W₀) (S : St g env.locals s.heap l N) (h0 : J 0 l N g)
   (turn : ∀ i v l N G h₁ tk gs, i < n → P i v h₁ → GP gs → J i l N G → (∀ b o, g.get? b = some o → G.get? b = some o) → (∀ b o, G.get? b = some o → (hideAll h₁ (env.locals :: N.map (·.1))).get? b = some o) → St (hideAll h₁ (env.locals :: N.map (·.1))) env.locals h₁ l N →
     wpAny (model prg w) A (assign target env v) (fun _ s₂ => wpAny (model prg w) A (execs body env) (BodyEndG Gr { s with heap := h₁, toks := tk, gens := gs } (hideAll h₁ (env.locals :: N.map (·.1))) G env.locals (J (i + 1)) Q) E' s₂) E' { s with heap := h₁, toks := tk, gens := gs })
   (done : ∀ l N G h tk gs, GP gs → J n l N G → (∀ b o, g.get? b = some o → G.get? b = some o) → St G env.locals h l N → Q .next { s with heap := h, toks := tk, gens := gs })
   (hE : ∀ e s', E' e s' → notedBy (model prg w) A env (cameBackBy (model prg w) A env E) e s') :
   codeAny (model prg w) A (.forLoop target (.ref I) body [] env) (fun r s' => match r with | .ok f => Q f s' | .error e => cameBackBy (model prg w) A env E e s') s :=
 for_loopF J X.toF (fun _ _ _ => trivial) hW₀ hst S h0 turn done hE
theorem for_srcG0 {target : Expr} {body : List Stmt} {Q : Flow → Shared → Prop} {E' : Value → Shared → Prop} {xv : Value} {n : Nat} {P : Nat → Value → Heap → Prop} {GP : Shared → Gens → Prop} {Gr : Gens → Gens → Prop}
   (J : Nat → Loc → List (Addr × Obj) → Heap → Prop) (X : SrcG w A target xv g n P GP Gr) (S : St g L s.heap l N) (h0 : J 0 l N g)
   (turn : ∀ i v l N G h₁ tk gs, i < n → P i v h₁ → GP s gs → J i l N G → (∀ b o, g.get? b = some o → G.get? b = some o) → (∀ b o, G.get? b = some o → (hideAll h₁ (L :: N.map (·.1))).get? b = some o) → St (hideAll h₁ (L :: N.map (·.1))) L h₁ l N →
     wpAny (model prg w) A (assign target env v) (fun _ s₂ => wpAny (model prg w) A (execs body env) (BodyEndG Gr { s with heap := h₁, toks := tk, gens := gs } (hideAll h₁ (L :: N.map (·.1))) G L (J (i + 1)) Q) E' s₂) E' { s with heap := h₁, toks := tk, gens := gs })
   (done : ∀ l N G h tk gs, GP s gs → J n l N G → (∀ b o, g.get? b = some o → G.get? b = some o) → St G L h l N → Q .next { s with heap := h, toks := tk, gens := gs })
   (hE : ∀ e s', E' e s' → notedBy (model prg w) A env (cameBackBy (model prg w) A env E) e s') (hL : env.locals = L := by rfl) :
   wpAny (model prg w) A (pyIter xv) (fun it s₂ => codeAny (model prg w) A (.forLoop target it body [] env) (fun r s' => match r with | .ok f => Q f s' | .error e => cameBackBy (model prg w) A env E e s') s₂) E s := by
 subst hL
 refine X s _ _ S.keep fun I W Md Stw h' tk gs X hW hst hk _ => ?_
 refine for_loop (s := { s with heap := h', toks := tk, gens := gs }) J X hW (hst _ fun b hb => ?_) (S.grow hk) h0 turn done hE
 rcases List.mem_cons.mp hb with rfl | hb
 · refine el_xxxaa (S.ns) fun o _ _ e _ => ?_
   exact ⟨S.sep, o, e⟩
 · refine el_xaa (List.mem_map.mp hb) fun p hp hsb2 => ?_
   subst hsb2
   exact ⟨(S.nw p hp).2.2, _, (S.nw p hp).1⟩
theorem St.at2 {g h : Heap} {L : Addr} {l l2 : Loc} {N N2 : List (Addr × Obj)} (a : l = l2) (b : N = N2) (S : St g L h l N) : St g L h l2 N2 := by cases a; cases b; exact S
theorem for_srcG {target : Expr} {body : List Stmt} {Q : Flow → Shared → Prop} {E' : Value → Shared → Prop} {xv : Value} {n : Nat} {P : Nat → Value → Heap → Prop} {GP : Shared → Gens → Prop} {Gr : Gens → Gens → Prop}
   (J : Nat → Loc → List (Addr × Obj) → Heap → Prop) (X : SrcG w A target xv g n P GP Gr) (S : St g L s.heap l N) (h0 : J 0 l N g)
   (turn : ∀ Jq : Nat → Loc → List (Addr × Obj) → Heap → Prop, (∀ a b c d, J a b c d → Jq a b c d) → ∀ i v l N G h₁ tk gs gb (B : Flow → Shared → Prop), i < n → P i v h₁ → GP s gs → J i l N G → (∀ b o, g.get? b = some o → G.get? b = some o) → (∀ b o, G.get? b = some o → gb.get? b = some o) → St gb L h₁ l N → (∀ f s', BodyEndG Gr { s with heap := h₁, toks := tk, gens := gs } gb G L (Jq (i + 1)) Q f s' → B f s') →
     wpAny (model prg w) A (assign target env v) (fun _ s₂ => wpAny (model prg w) A (execs body env) B E' s₂) E' { s with heap := h₁, toks := tk, gens := gs })
   (done : ∀ l N G h tk gs, GP s gs → J n l N G → (∀ b o, g.get? b = some o → G.get? b = some o) → St G L h l N → Q .next { s with heap := h, toks := tk, gens := gs })
   (hE : ∀ e s', E' e s' → notedBy (model prg w) A env (cameBackBy (model prg w) A env E) e s') (hL : env.locals = L := by rfl) :
   wpAny (model prg w) A (pyIter xv) (fun it s₂ => codeAny (model prg w) A (.forLoop target it body [] env) (fun r s' => match r with | .ok f => Q f s' | .error e => cameBackBy (model prg w) A env E e s') s₂) E s :=
 for_srcG0 J X S h0 (fun i v l N G h₁ tk gs a b c d e f S => turn J (fun _ _ _ _ h => h) i v l N G h₁ tk gs _ _ a b c d e f S fun _ _ h => h) done hE hL
theorem for_src {target : Expr} {body : List Stmt} {Q : Flow → Shared → Prop} {E' : Value → Shared → Prop} {xv : Value} {n : Nat} {P : Nat → Value → Heap → Prop}
   (J : Nat → Loc → List (Addr × Obj) → Heap → Prop) (X : Src w A target xv g n P Plain) (S : St g L s.heap l N) (h0 : J 0 l N g)
   (turn : ∀ Jq : Nat → Loc → List (Addr × Obj) → Heap → Prop, (∀ a b c d, J a b c d → Jq a b c d) → ∀ i v l N G h₁ tk gb (B : Flow → Shared → Prop), i < n → P i v h₁ → J i l N G → (∀ b o, g.get? b = some o → G.get? b = some o) → (∀ b o, G.get? b = some o → gb.get? b = some o) → St gb L h₁ l N → (∀ f s', BodyEnd { s with heap := h₁, toks := tk } gb G L (Jq (i + 1)) Q f s' → B f s') →
     wpAny (model prg w) A (assign target env v) (fun _ s₂ => wpAny (model prg w) A (execs body env) B E' s₂) E' { s with heap := h₁, toks := tk })
   (done : ∀ l N G h tk, J n l N G → (∀ b o, g.get? b = some o → G.get? b = some o) → St G L h l N → Q .next { s with heap := h, toks := tk })
   (hE : ∀ e s', E' e s' → notedBy (model prg w) A env (cameBackBy (model prg w) A env E) e s') (hL : env.locals = L := by rfl) :
   wpAny (model prg w) A (pyIter xv) (fun it s₂ => codeAny (model prg w) A (.forLoop target it body [] env) (fun r s' => match r with | .ok f => Q f s' | .error e => cameBackBy (model prg w) A env E e s') s₂) E s :=
 for_srcG J X S h0 (fun Jq Ji i v l N G h₁ tk gs gb B a b c d e f S k => by cases c; exact turn Jq Ji i v l N G h₁ tk gb B a b d e f S k) (fun l N G h tk gs c d e S => by cases c; exact done l N G h tk d e S) hE hL
theorem SrcG.of {target : Expr} {xv : Value} {n : Nat} {P : Nat → Value → Heap → Prop} (GP : Shared → Gens → Prop) (Gr : Gens → Gens → Prop) (hGP : ∀ s a b, GP s a → Gr a b → GP s b) (h0 : ∀ s, GP s s.gens)
   (X : ∀ (s : Shared) (Q : Value → Shared → Prop) (E : Value → Shared → Prop), (∀ b o, g.get? b = some o → s.heap.get? b = some o) →
     (∀ I fp wr Md Stk o, I = s.heap.objs.size → KTurns prg w A target I fp wr n P Md Stk → Stk 0 (s.heap.push o) → (∀ b ∈ wr, b = I) → (∀ b ∈ fp, b = I ∨ ∃ o, g.get? b = some o) → (∀ i h, Stk i h → ∀ b ∈ fp, ∃ o, h.get? b = some o) →
       (∀ (s₁ : Shared) (Q : Value → Shared → Prop) (E : Value → Shared → Prop), Stk 0 s₁.heap → Q (.ref I) s₁ → wpAny (model prg w) A (pyIter (.ref I)) Q E s₁) → Q (.ref I) { s with heap := s.heap.push o }) → wpAny (model prg w) A (pyIter xv) Q E s) :
   SrcG w A target xv g n P GP Gr := fun s Q E hk h => X s Q E hk fun I fp wr Md Stk o hI V st0 hwr hfp ex self => by
 subst hI
 refine h _ wr _ _ (s.heap.push o) s.toks s.gens (Itr.of (gs0 := s.gens) V (GP s) Gr (hGP s) ex) (fun b hb => by rw [hwr b hb]; exact none_sub hk (get_size _)) (fun X hX => ⟨st0, fun b hb m => ?_, h0 s, rfl⟩) (fun b o' e => Heap.get?_push_of_some _ e) (fun s₁ Q E X st hq => self s₁ Q E st.1 hq)
 refine el_axa (hX b m) fun o' h1 h2 => ?_
 rcases hfp b hb with rfl | ⟨o, e⟩
 · rw [get_size] at h2; cases h2
 · rw [h1] at e; cases e
theorem plain_ok : ∀ (s : Shared) (a b : Gens), Plain s a → a = b → Plain s b := fun _ _ _ h e => e ▸ h
abbrev BareTo (a b : Gens) : Prop := AllBare a → AllBare b
abbrev Bare (s : Shared) (gs : Gens) : Prop := BareTo s.gens gs
theorem bare_ok : ∀ (s : Shared) (a b : Gens), Bare s a → BareTo a b → Bare s b := fun _ _ _ h e x => e (h x)
theorem SrcG.list {target : Expr} {ax : Addr} {items : Array Value} (GP : Shared → Gens → Prop) (Gr : Gens → Gens → Prop) (hGP : ∀ s a b, GP s a → Gr a b → GP s b) (h0 : ∀ s, GP s s.gens) (hh : A.handled = none) (hl : g.IsList ax items) : SrcG w A target (.ref ax) g items.size (fun i v _ => items[i]? = some v) GP Gr :=
 SrcG.of GP Gr hGP h0 fun s Q E hk h => by
   have hl' : s.heap.IsList ax items := hl.at fun o e => hk _ o e
   have hlt : ax < s.heap.objs.size := by obtain ⟨_, e, _⟩ := hl'; exact Heap.lt_size e
   refine wpAny_pyIter_list hl' (h _ _ _ _ _ _ rfl (KTurns.ofWalks (Walks.list hh s.heap.objs.size ax (Nat.ne_of_lt hlt) items) fun i v s Q E st q => letGo_listiter st.1 q) ⟨⟨_, Heap.get?_push_size _ rfl, rfl, rfl⟩, hl'.at fun o e => Heap.get?_push_of_some _ e⟩ (fun b hb => by simpa using hb) (fun b hb => ?_) (fun i h st b hb => ?_) fun s₁ Q E st q => wpAny_pyIter_listiter st.1 q)
   · rcases List.mem_cons.mp hb with e | hb
     · exact .inl e
     · rw [List.mem_singleton.mp hb]; obtain ⟨o, e, _⟩ := hl; exact .inr ⟨o, e⟩
   · rcases List.mem_cons.mp hb with rfl | hb
     · obtain ⟨⟨o, e, _⟩, _⟩ := st; exact ⟨o, e⟩
     · rw [List.mem_singleton.mp hb]; obtain ⟨_, ⟨o, e, _⟩⟩ := st; exact ⟨o, e⟩
theorem Src.list {target : Expr} {ax : Addr} {items : Array Value} (hh : A.handled = none) (hl : g.IsList ax items) : Src w A target (.ref ax) g items.size (fun i v _ => items[i]? = some v) Plain := SrcG.list Plain Eq plain_ok (fun _ => rfl) hh hl
theorem SrcG.range {target : Expr} {r : Addr} {n : Nat} {t u v : Tok} (GP : Shared → Gens → Prop) (Gr : Gens → Gens → Prop) (hGP : ∀ s a b, GP s a → Gr a b → GP s b) (h0 : ∀ s, GP s s.gens) (hh : A.handled = none) (hn : n < 2 ^ 31) (hr : IsRange g r 0 n 1 t u v) (ht : ∀ (v : Value) (M : Model) (Q : Unit → Shared → Prop) (E : Value → Shared → Prop) (s : Shared) I, Q () s → wpAny M A (letOwnedTupleGo target (.ref I) v) Q E s) :
   SrcG w A target (.ref r) g n (fun i v _ => ∃ t, v = .int i t) GP Gr :=
 SrcG.of GP Gr hGP h0 fun s Q E hk h => by
   have hr' : IsRange s.heap r 0 n 1 t u v := hk _ _ hr
   have hsm : Builtin.Range.small 0 n 1 = true := small_one (by decide) (by decide) (by lia) (by lia)
   have hsz : Builtin.Range.rangeSize 0 n 1 = (n : Int) := by rw [rangeSize_nat]; lia
   refine wpAny_pyIter_range hr' hsm (h _ [s.heap.objs.size] [s.heap.objs.size] _ (fun i h => IsRangeIter h s.heap.objs.size (0 + (i : Nat) * 1) ((n : Int) - (i : Nat)) 1) _ rfl (KTurns.ofWalks (P := fun i v => ∃ t, v = .int i t) ?_ fun i v s Q E st q => ht v _ Q E s _ q) ?_ (fun b hb => by simpa using hb) (fun b hb => .inl (by simpa using hb)) (fun i h st b hb => ?_) fun s₁ Q E st q => wpAny_pyIter_rangeiter st q)
   case refine_1 =>
     have W := Walks.range (prog := prg) (w := w) (A := A) hh s.heap.objs.size 0 1 n
     have e : (fun (i : Nat) (v : Value) => ∃ t, v = .int (0 + (i : Int) * 1) t) = fun (i : Nat) (v : Value) => ∃ t, v = .int (i : Int) t := by
       funext i v; simp
     rw [e] at W
     exact W
   · show IsRangeIter _ _ _ _ _
     rw [hsz]; simpa using Heap.get?_push_size _ rfl
   · rw [List.mem_singleton.mp hb]; exact ⟨_, st⟩
theorem Src.range {target : Expr} {r : Addr} {n : Nat} {t u v : Tok} (hh : A.handled = none) (hn : n < 2 ^ 31) (hr : IsRange g r 0 n 1 t u v) (ht : ∀ (v : Value) (M : Model) (Q : Unit → Shared → Prop) (E : Value → Shared → Prop) (s : Shared) I, Q () s → wpAny M A (letOwnedTupleGo target (.ref I) v) Q E s) :
   Src w A target (.ref r) g n (fun i v _ => ∃ t, v = .int i t) Plain := SrcG.range Plain Eq plain_ok (fun _ => rfl) hh hn hr ht
end
section
variable {w : World} {A : Around} {E : Value → Shared → Prop} {s : Shared} {g : Heap} {N N' : List (Addr × Obj)} {l : Loc} {env : Env} {v : Value} {L : Addr}
theorem comp_go {elt target iter : PySem.Expr} {ifs : List PySem.Expr} {scope : Scope} {pos : Pos} {it acc : Value} {env : Env} {R : Result → Shared → Prop} (I : Nat → Shared → Prop)
   (turn : ∀ n s, I n s → wpAny (model prg w) A (pyNext it) (fun r s₁ => match r with
     | none => R (.ok .next) s₁
     | some v => wpAny (model prg w) A (letOwnedTupleGo target it v) (fun _ s₀ => wpAny (model prg w) A (assign target env v) (fun _ s₂ =>
         wpAny (model prg w) A (forIn ifs true fun c r => if r = true then do let ok ← isTrue c env (eval c env); pure (ForInStep.yield ok) else pure (ForInStep.yield r)) (fun ok s₃ =>
           if ok = true then wpAny (model prg w) A (eval elt env) (fun x s₄ =>
             wpAny (model prg w) A (call (.builtin "list.append") [acc, x]) (fun _ s₅ => ∃ m, m < n ∧ I m s₅) (notedBy (model prg w) A env fun e s' => R (.error e) s') s₄) (notedBy (model prg w) A env fun e s' => R (.error e) s') s₃
           else ∃ m, m < n ∧ I m s₃) (notedBy (model prg w) A env fun e s' => R (.error e) s') s₂)
         (notedBy (model prg w) A env fun e s' => R (.error e) s') s₀) (notedBy (model prg w) A env fun e s' => R (.error e) s') s₁) (notedBy (model prg w) A env fun e s' => R (.error e) s') s)
   (n : Nat) (h : I n s) : codeAny (model prg w) A (.compLoop (.ListComp elt [⟨target, iter, ifs, 0⟩] scope pos) 0 it acc env) R s := by
 refine codeAny_loop rfl I (fun n s hI => ?_) n h
 show wpAny _ A ((compTurn (.ListComp elt [⟨target, iter, ifs, 0⟩] scope pos) 0 it acc env).onRaise (fun x => do noteFrame x env; theTreesLotGoes x)) _ _ s
 refine wpAny_noted ?_
 rw [compTurn_list]
 refine wpAny_bind (wpAny_standAt (wpAny_bind (wpAny_mono (turn n s hI) (fun r s₁ h₁ => ?_) fun _ _ h' => h')))
 cases r with
 | none => exact wpAny_pure h₁
 | some v =>
   refine wpAny_bind (wpAny_mono h₁ (fun _ s₀ h₀' => ?_) fun _ _ h' => h')
   refine wpAny_bind (wpAny_mono h₀' (fun _ s₂ h₂ => wpAny_bind (wpAny_mono h₂ (fun ok s₃ h₃ => ?_) fun _ _ h' => h')) fun _ _ h' => h')
   cases ok with
   | false => exact wpAny_pure ⟨rfl, h₃⟩
   | true =>
     exact wpAny_bind (wpAny_bind (wpAny_mono h₃ (fun x s₄ h₄ => wpAny_bind (wpAny_mono h₄ (fun _ s₅ h₅ => wpAny_pure (wpAny_pure ⟨rfl, h₅⟩)) fun _ _ h' => h')) fun _ _ h' => h'))
noncomputable def CEnd (s₁ : Shared) (C : Addr) (Gb G : Heap) (J' : Heap → Prop) (s' : Shared) : Prop :=
 ∃ h tk l' K, s' = { s₁ with heap := h, toks := tk } ∧ St Gb C h l' K ∧ ∀ G2 : Heap, (∀ b o, G.get? b = some o → G2.get? b = some o) → (∀ p ∈ K, G2.get? p.1 = some p.2) → J' G2
theorem CEnd.mk {s₁ : Shared} {C : Addr} {Gb G h : Heap} {J' : Heap → Prop} {tk : Nat} {l' : Loc} (K : List (Addr × Obj)) (S : St Gb C h l' K) (hJ : ∀ G2 : Heap, (∀ b o, G.get? b = some o → G2.get? b = some o) → (∀ p ∈ K, G2.get? p.1 = some p.2) → J' G2) :
   CEnd s₁ C Gb G J' { s₁ with heap := h, toks := tk } := ⟨h, tk, l', K, rfl, S, hJ⟩
theorem lo_snoc (ys : List Value) (y : Value) : ({ cls := .type "list", data := .seq (ys.toArray.push y) (ys.length + 1) } : Obj) = W.listOf (ys ++ [y]).toArray (ys ++ [y]).length := by
 rw [List.length_append, List.length_singleton, List.push_toArray]
theorem comp_src {elt target iter : PySem.Expr} {ifs : List PySem.Expr} {scope : Scope} {pos : Pos} {cl : List (Str × Addr)} {xv : Value} {n : Nat} {P : Nat → Value → Heap → Prop} {Q : Value → Shared → Prop}
   (J : Nat → List Value → Heap → Prop) (X : Src w A target xv g n P Plain) (S : St g L s.heap l N) (h0 : J 0 [] g) (hsz : n ≤ sizeLine)
   (turn : ∀ i v acc G C h₁ l₁ tk F, i < n → acc.length ≤ i → P i v h₁ → J i acc G → (∀ b o, g.get? b = some o → G.get? b = some o) → (∀ b o, G.get? b = some o → (hideAll h₁ [C]).get? b = some o) → St (hideAll h₁ [C]) C h₁ l₁ [] →
     wpAny (model prg w) A (assign target (compEnvC scope cl C env) v) (fun _ s₂ => wpAny (model prg w) A (forIn ifs true fun c r => if r = true then do let ok ← isTrue c (compEnvC scope cl C env) (eval c (compEnvC scope cl C env)); pure (ForInStep.yield ok) else pure (ForInStep.yield r)) (fun ok s₃ =>
       if ok = true then wpAny (model prg w) A (eval elt (compEnvC scope cl C env)) (fun y s₄ => CEnd { s with heap := h₁, toks := tk } C (hideAll h₁ [C]) G (J (i + 1) (acc ++ [y])) s₄) F s₃
       else CEnd { s with heap := h₁, toks := tk } C (hideAll h₁ [C]) G (J (i + 1) acc) s₃) F s₂) F { s with heap := h₁, toks := tk })
   (done : ∀ D acc G h tk, acc.length ≤ n → J n acc G → (∀ b o, g.get? b = some o → G.get? b = some o) → St G L h l ((D, W.listOf acc.toArray acc.length) :: N) → Q (.ref D) { s with heap := h, toks := tk })
   (hcell : ∀ y ∈ scope.names, y.2 ≠ .cell := by decide) (hkind : scope.kind = .function := by rfl) (hL : env.locals = L := by rfl) :
   wpAny (model prg w) A (pyIter xv) (fun it s₂ => wpAny (model prg w) A (newList []) (fun acc s₃ => wpAny (model prg w) A (newFunctionEnv scope env.globals cl [] env.qual none .none (some env)) (fun cenv s₄ =>
     codeAny (model prg w) A (.compStart (.ListComp elt [⟨target, iter, ifs, 0⟩] scope pos) 0 it acc { cenv with scope := relabel scope env }) (compPost (model prg w) A E none Q acc cenv.locals) s₄) E s₃) E s₂) E s := by
 subst hL
 refine X s _ _ S.keep fun I W₀ Md Stw hh tk0 gs0 X hW₀ hst0 hk0 self => ?_
 refine wpAny_newObj_type (wpAny_newFunctionEnv hcell (by intro y hy; simp at hy) (fun h₁ hns₁ hsb₁ => ?_) hkind)
 dsimp only at hns₁ hsb₁ ⊢
 generalize hH2 : hh.push { cls := .type "list", dict := none, data := .seq ([] : List Value).toArray } = H2 at hns₁ hsb₁ ⊢
 have hC : H2.objs.size = hh.objs.size + 1 := by rw [← hH2, Heap.size_push]
 have hDC : hh.objs.size ≠ H2.objs.size := by rw [hC]; exact Nat.ne_of_lt (Nat.lt_succ_self _)
 generalize hD' : hh.objs.size = D at *
 generalize hC' : H2.objs.size = C at *
 have nD : hh.get? D = none := by rw [← hD']; exact get_size _
 have nC : hh.get? C = none := by
   cases e : hh.get? C with
   | none => rfl
   | some o =>
     have q : C < D := hD' ▸ Heap.lt_size e
     rw [hC] at q
     exact absurd q (Nat.not_lt.mpr (Nat.le_succ _))
 have old : ∀ b o, hh.get? b = some o → h₁.get? b = some o := fun b o e => hsb₁.extBut b o (fun q => by rw [q, nC] at e; cases e) (Heap.get?_push_of_some _ (hH2 ▸ Heap.get?_push_of_some _ e))
 have hacc : h₁.get? D = some (W.listOf ([] : List Value).toArray ([] : List Value).length) := hsb₁.extBut _ _ hDC (Heap.get?_push_of_some _ (by rw [← hH2, ← hD']; exact Heap.get?_push_size _ rfl))
 have up : ∀ b o, s.heap.get? b = some o → hh.get? b = some o := hk0
 have noneS : ∀ b, hh.get? b = none → s.heap.get? b = none := fun b e => none_sub hk0 e
 have hgs : gs0 = s.gens := X.gp _ _ _ _ _ (hst0 [] fun _ m => nomatch m)
 subst hgs
 have st1 : Stw 0 h₁ s.gens [C, D] W₀ := X.frame _ _ _ _ _ _ _ _ (hst0 [] fun _ m => nomatch m) (fun b o _ e => old b o e) (fun b hb => .inr (by
   rcases List.mem_cons.mp hb with rfl | hb
   · exact nC
   · rw [List.mem_singleton.mp hb]; exact nD)) rfl
 have gn : ∀ b, hh.get? b = none → g.get? b = none := fun b e => none_sub S.keep (noneS b e)
 have loop : ∀ tk, codeAny (model prg w) A (.compLoop (.ListComp elt [⟨target, iter, ifs, 0⟩] scope pos) 0 (.ref I) (.ref D) (compEnvC scope cl C env))
       (compPost (model prg w) A E none Q (.ref D) C) { s with heap := h₁, toks := tk } := by
   intro tk1
   refine comp_go
     (fun k s' => ∃ h tk l₁ acc i G V, s' = { s with heap := h, toks := tk } ∧ Stw i h s.gens [C, D] V ∧ (∀ b ∈ V, b ∈ W₀ ∨ s.heap.get? b = none) ∧ (∀ b ∈ W₀, b ∈ V) ∧ (∀ b o, g.get? b = some o → G.get? b = some o) ∧ (∀ b, (b ∈ V ∨ b = C ∨ b = D ∨ b = env.locals ∨ b ∈ N.map (·.1)) → G.get? b = none) ∧ (∀ b o, G.get? b = some o → h.get? b = some o) ∧
       h.Ns C (lk l₁) ∧ h.get? D = some (W.listOf acc.toArray acc.length) ∧ (∀ b o, s.heap.get? b = some o → b ∉ W₀ → h.get? b = some o) ∧ J i acc G ∧ acc.length ≤ i ∧ i ≤ n ∧ k = n + 1 - i) ?_ (n + 1)
     ⟨h₁, tk1, [], [], 0, g, W₀, rfl, st1, fun _ m => .inl m, fun _ m => m, fun _ _ e => e, fun b hb => ?_, fun b o e => old b o (up b o (S.keep b o e)), hns₁, hacc, fun b o e _ => old b o (up b o e), h0, Nat.le_refl _, Nat.zero_le _, rfl⟩
   case refine_2 =>
     rcases hb with m | rfl | rfl | rfl | m
     · exact hW₀ b m
     · exact gn _ nC
     · exact gn _ nD
     · exact S.sep
     · refine el_xaa (List.mem_map.mp m) fun p hp hsb2 => ?_
       subst hsb2
       exact (S.nw p hp).2.2
   intro k s'
   refine elc_xxxxxxxaaaaaaaaaaaaaa fun h tk l₁ acc i G V hsb7 hst hWs hWi hgG hGn hGh hns hD hS hJ hal hi hsb20 => ?_
   subst hsb7
   subst hsb20
   have hwX := X.wrX _ _ _ _ _ hst
   have hsW : ∀ b o, s.heap.get? b = some o → b ∉ W₀ → b ∉ V := fun b o e n m => (hWs b m).elim n fun e' => by rw [e] at e'; cases e'
   have hCw : C ∉ V := fun m => hwX _ m (.head _)
   have hDw : D ∉ V := fun m => hwX _ m (.tail _ (.head _))
   have hX : ∀ b ∈ [C, D], ∃ o, h.get? b = some o := fun b hb => by
     rcases List.mem_cons.mp hb with rfl | hb
     · refine el_xxxaa hns fun o _ _ e _ => ?_
       try clear hns
       exact ⟨o, e⟩
     · rw [List.mem_singleton.mp hb]; exact ⟨_, hD⟩
   by_cases hlt : i < n
   · refine X.item i _ _ _ _ _ hlt hst hX fun v h₂ tk₂ gs₂ W₁ hMd hk₂ hWn hWW => ?_
     refine X.go i v _ _ _ _ _ hMd fun h₃ hP hst₃ hk₃ => ?_
     obtain rfl : gs₂ = s.gens := X.gp _ _ _ _ _ hst₃
     have up₃ : ∀ b o, b ∉ V → h.get? b = some o → h₃.get? b = some o := fun b o hb e => hk₃ b o (fun m => (hWn b m).elim hb fun e' => by rw [e] at e'; cases e') (hk₂ b o hb e)
     have hWs₁ : ∀ b ∈ W₁, b ∈ W₀ ∨ s.heap.get? b = none := fun b m => (hWn b m).elim (hWs b) fun e => by
       cases q : s.heap.get? b with
       | none => exact .inr rfl
       | some o => exact .inl (Classical.byContradiction fun n => by rw [hS b o q n] at e; cases e)
     have hGW₁ : ∀ b ∈ W₁, G.get? b = none := fun b m => (hWn b m).elim (fun m => hGn b (.inl m)) fun e => none_sub hGh e
     have ns₃ : h₃.Ns C (lk l₁) := hns.at' fun o e => up₃ _ o hCw e
     have D₃ : h₃.get? D = some (W.listOf acc.toArray acc.length) := up₃ _ _ hDw hD
     have G₃ : ∀ b o, G.get? b = some o → h₃.get? b = some o := fun b o e => up₃ b o (fun m => by rw [hGn b (.inl m)] at e; cases e) (hGh b o e)
     have G₃' : ∀ b o, G.get? b = some o → (hideAll h₃ [C]).get? b = some o := hide_sub G₃ fun b hb => hGn b (.inr (.inl (List.mem_singleton.mp hb)))
     have S₃ : St (hideAll h₃ [C]) C h₃ l₁ [] := ⟨ns₃, fun b o e => of_hideAll _ e, hideAll_none _ (.head _), (fun p hp => nomatch hp), List.nodup_nil⟩
     have D₃' : (hideAll h₃ [C]).get? D = some (W.listOf acc.toArray acc.length) := hideAll_get _ D₃ fun m => hDC (List.mem_singleton.mp m)
     -- what an end of a turn gives
     have fin : ∀ (acc' : List Value) (h₅ h₆ : Heap) tk₅ l₅ K, acc'.length ≤ i + 1 → St (hideAll h₃ [C]) C h₅ l₅ K → (∀ G2 : Heap, (∀ b o, G.get? b = some o → G2.get? b = some o) → (∀ p ∈ K, G2.get? p.1 = some p.2) → J (i + 1) acc' G2) → Heap.SameBut D h₅ h₆ → h₆.get? D = some (W.listOf acc'.toArray acc'.length) →
         ∃ m, m < n + 1 - i ∧ ∃ h tk l₁ acc i G V, ({ s with heap := h₆, toks := tk₅ } : Shared) = { s with heap := h, toks := tk } ∧ Stw i h s.gens [C, D] V ∧ (∀ b ∈ V, b ∈ W₀ ∨ s.heap.get? b = none) ∧ (∀ b ∈ W₀, b ∈ V) ∧ (∀ b o, g.get? b = some o → G.get? b = some o) ∧ (∀ b, (b ∈ V ∨ b = C ∨ b = D ∨ b = env.locals ∨ b ∈ N.map (·.1)) → G.get? b = none) ∧ (∀ b o, G.get? b = some o → h.get? b = some o) ∧
           h.Ns C (lk l₁) ∧ h.get? D = some (W.listOf acc.toArray acc.length) ∧ (∀ b o, s.heap.get? b = some o → b ∉ W₀ → h.get? b = some o) ∧ J i acc G ∧ acc.length ≤ i ∧ i ≤ n ∧ m = n + 1 - i := by
       intro acc' h₅ h₆ tk₅ l₅ K hal S₅ hJ₅ hs₆ hD₆
       have k5 : ∀ b o, b ≠ C → h₃.get? b = some o → h₅.get? b = some o := fun b o hb e => S₅.keep b o (hideAll_get _ e fun m => hb (List.mem_singleton.mp m))
       have k6 : ∀ b o, b ≠ C → b ≠ D → h₃.get? b = some o → h₆.get? b = some o := fun b o hb hb' e => hs₆.extBut b o hb' (k5 b o hb e)
       have KD : ∀ p ∈ K, p.1 ≠ D := fun p hp q => by have := (S₅.nw p hp).2.2; rw [q, D₃'] at this; cases this
       have KC : ∀ p ∈ K, p.1 ≠ C := fun p hp => (S₅.nw p hp).2.1
       have K3 : ∀ p ∈ K, h₃.get? p.1 = none := fun p hp => by
         cases e : h₃.get? p.1 with
         | none => rfl
         | some o => have := hideAll_get [C] e fun m => KC p hp (List.mem_singleton.mp m); rw [(S₅.nw p hp).2.2] at this; cases this
       have st5 : Stw (i + 1) h₆ s.gens [C, D] W₁ := X.frame _ _ _ _ _ _ _ _ hst₃ (fun b o hb e => k6 b o (fun q => hb (by simp [q])) (fun q => hb (by simp [q])) e) (fun b hb => .inl hb) rfl
       have hw5 : ∀ b ∈ W₁, h₃.get? b = none → False := fun b hb e => by
         have := X.wrX _ _ _ _ _ (X.frame _ _ _ _ _ _ [b] _ hst₃ (fun b o _ e => e) (fun b' hb' => by rw [List.mem_singleton.mp hb']; exact .inr e) rfl) b hb (.head _)
         exact this
       refine ⟨n + 1 - (i + 1), by lia, h₆, tk₅, l₅, acc', i + 1, hideAll h₆ (W₁ ++ C :: D :: env.locals :: N.map (·.1)), W₁, rfl, st5, hWs₁, fun b m => hWW b (hWi b m), fun b o e => ?_, fun b hb => hideAll_none _ ?_, fun b o e => of_hideAll _ e, S₅.ns.sameBut hs₆ (Ne.symm hDC), hD₆, fun b o e hb => ?_, ?_, hal, hlt, rfl⟩
       · have e2 := hgG b o e
         refine hideAll_get _ (k6 b o (fun q => ?_) (fun q => ?_) (G₃ b o e2)) fun m => ?_
         · rw [q, hGn _ (.inr (.inl rfl))] at e2; cases e2
         · rw [q, hGn _ (.inr (.inr (.inl rfl)))] at e2; cases e2
         · have : G.get? b = none := (List.mem_append.mp m).elim (hGW₁ b) fun m => hGn b (.inr (by simpa [or_assoc] using m))
           rw [this] at e2; cases e2
       · simpa [or_assoc] using hb
       · have e3 := hS b o e hb
         refine k6 b o (fun q => ?_) (fun q => ?_) (up₃ b o (hsW b o e hb) e3)
         · rw [q, noneS _ nC] at e; cases e
         · rw [q, noneS _ nD] at e; cases e
       · refine hJ₅ _ (fun b o e2 => ?_) fun p hp => hideAll_get _ (hs₆.extBut _ _ (KD p hp) (S₅.get hp)) fun m => ?_
         · refine hideAll_get _ (k6 b o (fun q => ?_) (fun q => ?_) (G₃ b o e2)) fun m => ?_
           · rw [q, hGn _ (.inr (.inl rfl))] at e2; cases e2
           · rw [q, hGn _ (.inr (.inr (.inl rfl)))] at e2; cases e2
           · have : G.get? b = none := (List.mem_append.mp m).elim (hGW₁ b) fun m => hGn b (.inr (by simpa [or_assoc] using m))
             rw [this] at e2; cases e2
         · rcases List.mem_append.mp m with m | m
           · exact hw5 _ m (K3 p hp)
           · rcases List.mem_cons.mp m with q | m
             · exact KC p hp q
             · rcases List.mem_cons.mp m with q | m
               · exact KD p hp q
               · have : ∃ o, s.heap.get? p.1 = some o := by
                   rcases List.mem_cons.mp m with q | m
                   · refine el_xxxaa (S.ns) fun o _ _ e _ => ?_
                     exact ⟨o, by rw [q]; exact e⟩
                   · refine el_xaa (List.mem_map.mp m) fun p' hp' q => ?_
                     exact ⟨_, by rw [← q]; exact (S.nw p' hp').1⟩
                 refine el_xa this fun o e => ?_
                 try clear this
                 by_cases hw : p.1 ∈ W₀
                 · exact hw5 _ (hWW _ (hWi _ hw)) (K3 p hp)
                 · have e3 := up₃ _ _ (hsW _ _ e hw) (hS _ _ e hw)
                   rw [K3 p hp] at e3; cases e3
     refine wpAny_mono (turn i v acc G C h₃ l₁ tk₂ _ hlt hal hP hJ hgG G₃' S₃) (fun _ s₄ h₄ => wpAny_mono h₄ (fun ok s₅ h₅ => ?_) fun _ _ x => x) fun _ _ x => x
     cases ok with
     | false =>
       rw [if_neg Bool.false_ne_true] at h₅ ⊢
       obtain ⟨h₅, tk₅, l₅, K, rfl, S₅, hJ₅⟩ := h₅
       exact fin acc h₅ h₅ tk₅ l₅ K (Nat.le_succ_of_le hal) S₅ hJ₅ (Heap.SameBut.refl _ _) (S₅.keep _ _ D₃')
     | true =>
       rw [if_pos rfl] at h₅ ⊢
       refine wpAny_mono h₅ (fun y s₆ h₆ => ?_) fun _ _ x => x
       refine el_xxxxaaa h₆ fun h₅ tk₅ l₅ K hsb4 S₅ hJ₅ => ?_
       try clear h₆
       subst hsb4
       refine append_at (hsz := by show acc.toArray.size ≤ sizeLine; rw [List.size_toArray]; lia) (S₅.keep _ _ D₃') fun h₆ hs₆ hD₆ => ?_
       refine fin (acc ++ [y]) h₅ h₆ tk₅ l₅ K (by rw [List.length_append, List.length_singleton]; lia) S₅ hJ₅ hs₆ (hD₆.trans (congrArg some (lo_snoc acc y)))
   · obtain rfl : i = n := by lia
     refine X.done _ _ _ _ _ hst hX fun h₂ tk₂ gs₂ hgp hk₂ => ?_
     obtain rfl : gs₂ = s.gens := hgp
     refine ⟨_, hns.at' fun o e => hk₂ _ o hCw e, fun h₃ hs₃ => ?_⟩
     have hSk : ∀ b o, s.heap.get? b = some o → h₃.get? b = some o := fun b o e => by
       have hb : b ∉ W₀ := fun m => ?_
       · exact hs₃.extBut b o (fun q => by rw [q, noneS _ nC] at e; cases e) (hk₂ b o (hsW b o e hb) (hS b o e hb))
       · exact X.wrX _ _ _ _ _ (hst0 [b] fun b' hb' => by
           rw [List.mem_singleton.mp hb']; exact ⟨hW₀ b m, o, e⟩) b m (.head _)
     have S3 := S.grow hSk
     refine done D acc G h₃ tk₂ hal hJ hgG ⟨S3.ns, fun b o e => ?_, hGn _ (.inr (.inr (.inr (.inl rfl)))), fun p hp => ?_, ?_⟩
     · refine hs₃.extBut b o (fun q => ?_) (hk₂ b o (fun m => ?_) (hGh b o e))
       · rw [q, hGn _ (.inr (.inl rfl))] at e; cases e
       · rw [hGn _ (.inl m)] at e; cases e
     · rcases List.mem_cons.mp hp with rfl | hp
       · refine ⟨hs₃.extBut _ _ hDC (hk₂ _ _ hDw hD), fun q => ?_, hGn _ (.inr (.inr (.inl rfl)))⟩
         refine el_xxxaa (S.ns) fun o _ _ e _ => ?_
         rw [← q, noneS _ nD] at e; cases e
       · exact ⟨(S3.nw p hp).1, (S3.nw p hp).2.1, hGn _ (.inr (.inr (.inr (.inr (List.mem_map_of_mem hp)))))⟩
     · rw [List.map_cons, List.nodup_cons]
       refine ⟨fun m => ?_, S.nd⟩
       refine el_xaa (List.mem_map.mp m) fun p hp q => ?_
       have := (S.nw p hp).1
       rw [q, noneS _ nD] at this; cases this
 refine codeAny_compStart_list (loop _) (self _ _ _ [C, D] st1 (loop _))
theorem lcomp {elt target iter : PySem.Expr} {ifs : List PySem.Expr} {rest : List Comprehension} {scope : Scope} {pos : Pos} {cl : List (Str × Addr)} {Q : Value → Shared → Prop}
   (h : wpAny (model prg w) A (eval iter env) (fun xv s₁ => wpAny (model prg w) A (pyIter xv) (fun it s₂ => wpAny (model prg w) A (newList []) (fun acc s₃ => wpAny (model prg w) A (newFunctionEnv scope env.globals cl [] env.qual none .none (some env)) (fun cenv s₄ =>
     codeAny (model prg w) A (.compStart (.ListComp elt (⟨target, iter, ifs, 0⟩ :: rest) scope pos) 0 it acc { cenv with scope := relabel scope env }) (compPost (model prg w) A E none Q acc cenv.locals) s₄) E s₃) E s₂) E s₁) E s)
   (hclos : closureFor scope env = pure cl := by rfl) (hs : ∀ x, foldedSetIterable iter env x = pure x := by intro _; rfl)
   (hkind : scope.kind = .function := by rfl) (hnames : ∀ x ∈ scope.names, x.2 = .local → scope.names.lookup x.1 = some .local := by decide) :
   wpAny (model prg w) A (eval (.ListComp elt (⟨target, iter, ifs, 0⟩ :: rest) scope pos) env) Q E s := by
 rw [eval_ListComp]
 exact wpAny_comprehension_free (use := none) rfl hs hclos hkind hnames h
end
section
variable {w : World} {A : Around} {E : Value → Shared → Prop} {s : Shared} {g : Heap} {N N' : List (Addr × Obj)} {l : Loc} {env : Env} {v : Value} {L : Addr}
theorem part_none {M : Model} {Q : Value → Shared → Prop} (h : Q .none s) : wpAny M A (evalPart none env) Q E s := wpAny_pure h
theorem part_some {M : Model} {e : PySem.Expr} {Q : Value → Shared → Prop} (h : wpAny M A (eval e env) Q E s) : wpAny M A (evalPart (some e) env) Q E s := h
theorem sliceUp {M : Model} {e : PySem.Expr} {p : Pos} {Q : Value → Shared → Prop}
   (h : wpAny M A (eval e env) (fun u s₁ => Q (.ref s₁.heap.objs.size) { s₁ with heap := s₁.heap.push { cls := .type "slice", data := .fields #[.none, u, .none] } }) E s) : wpAny M A (eval (.Slice none (some e) none p) env) Q E s :=
 wpAny_Slice (part_none (part_some (wpAny_mono h (fun _ _ x => part_none x) fun _ _ x => x)))
theorem slice_up {value slice : PySem.Expr} {a : Addr} {items : List Value} {k : Int} {t : Tok} {h : Heap} {Q : Value → Shared → Prop} (S : St g L h l N) (e : s.heap = h.push { cls := .type "slice", data := .fields #[.none, .int k t, .none] }) (hl : h.IsList a items.toArray) (hk : 0 ≤ k)
   (hQ : ∀ a' h', St g L h' l ((a', W.listOf (items.take k.toNat).toArray 0) :: N) → Q (.ref a') { s with heap := h' })
   (hs : subscripted slice false (.ref a) (.ref h.objs.size) = operate [.ref h.objs.size, .ref a] (getItem (.ref a) (.ref h.objs.size)) := by with_unfolding_all rfl)
   (hsz : items.length ≤ sizeLine := by size_fits) :
   wpAny (model prg w) A (subscriptTail value slice (.ref a) (.ref h.objs.size)) Q E s := by
 have S1 := S.add (a := h.objs.size) (fun b o e => Heap.get?_push_of_some _ e) (Heap.get?_push_size h (o := { cls := .type "slice", data := .fields #[.none, .int k t, .none] }) rfl) (get_size _)
 rw [← e] at S1
 have hl' : s.heap.IsList a items.toArray := by rw [e]; exact hl.push _
 have hsl : s.heap.IsSliceOf h.objs.size .none (.int k t) .none := by rw [e]; exact Heap.IsSliceOf.new ..
 refine tail_any hl'.typeIs list_getitem_lookup
   (wpAny_getItem_list_slice hl' hsl .none (.int k t) .none (by simp) ?_ (by rw [List.size_toArray]; exact hsz)) hs
 have e : slicePick items.toArray none (some k) none = (items.take k.toNat).toArray := by
   have := slicePick_upto' items.toArray k.toNat
   rw [show ((k.toNat : Nat) : Int) = k by lia] at this
   simpa using this
 rw [e]
 have S2 := S1.add (a := s.heap.objs.size) (fun b o e => Heap.get?_push_of_some _ e) (Heap.get?_push_size _ (o := W.listOf (items.take k.toNat).toArray 0) rfl) (get_size _)
 exact hQ _ _ (S2.sub (by simp))
theorem ints_at {vs : List Value} {ns : List Int} (hi : IntsAre vs ns) : ∀ {i : Nat} {v : Value}, vs.toArray[i]? = some v → ∃ k t, v = .int k t ∧ ns[i]? = some k := by
 induction hi with
 | nil => intro i v h; simp at h
 | cons k t hr ih =>
   intro i v h
   cases i with
   | zero => simp at h; exact ⟨k, t, h.symm, rfl⟩
   | succ j => exact ih (by simpa using h)
theorem ints_snoc {vs : List Value} {ns : List Int} (hi : IntsAre vs ns) (k : Int) (t : Tok) : IntsAre (vs ++ [.int k t]) (ns ++ [k]) := by
 induction hi with
 | nil => exact .cons _ _ .nil
 | cons k' t' hr ih => exact .cons _ _ ih
end
section
variable {w : World} {A A' : Around} {outs : List Env} {base : Heap} {n : Nat} {E : Value → Shared → Prop} {s : Shared} {g : Heap} {N N' : List (Addr × Obj)} {l : Loc} {env : Env} {v : Value} {L : Addr}
theorem notMods (S : St g L s.heap l N) (C : Cx w A' outs base g n) : (s.heap.objs.size == sysModules) = false := by
 refine el_xxxa (C.bs.top) fun mean mg mb T => ?_
 have h1 := (T.g.keeps fun b o e => S.keep b o (C.below.stays b o e)).lt
 have e1 : mainGlobals = 3 := rfl
 have e2 : sysModules = 1 := rfl
 rw [e1] at h1
 rw [e2]
 exact beq_eq_false_iff_ne.mpr fun e => by rw [e] at h1; exact absurd h1 (by decide)
theorem newDi {pos : Pos} {Q : Value → Shared → Prop} (S : St g L s.heap l N) (C : Cx w A' outs base g n)
   (h : ∀ a h', St g L h' l ((a, emptyDict) :: N) → s.heap.get? a = none → h'.get? a = some emptyDict → (a == sysModules) = false → Q (.ref a) { s with heap := h' }) : wpAny (model prg w) A (eval (.Dict [] [] pos) env) Q E s :=
 wpAny_Dict_empty (h _ _ (S.add (a := s.heap.objs.size) (o := emptyDict) (fun b o e => Heap.get?_push_of_some _ e) (Heap.get?_push_size _ rfl) (get_size _)) (get_size _) (Heap.get?_push_size _ rfl) (notMods S C))
theorem emptyIs : emptyDict.IsDictOf (intKind prg w) [] := by
 refine el_xaa (Heap.dictOf_iff.mp (Heap.DictOf.new (knd := intKind prg w) ({} : Heap))) fun o ho hd => ?_
 rw [Heap.get?_push_size _ rfl] at ho
 cases Option.some.inj ho
 exact hd
variable {x C' : Addr} {ox : Obj} {es : List DictEntry} {k : Nat} {name : Str}
theorem getA {expr : Bool} {Q : Value → Shared → Prop} (S : St g L s.heap l N) (C : Cx w A' outs base g n) (I : W.InstAt s.heap x ox C' (some (dictOf es k))) (hl : getL name es = some (some v)) (hv : handedIn v = true) (h : Q v { s with toks := s.toks + 1 })
   (hg : plainGet (KF w) C' name = true := by rfl) (hh : hasDictIn (KF w) C' = true := by rfl) (ha : findIn (KF w) (.ref C') name = some none := by rfl) :
   wpAny (model prg w) A (getAttr (.ref x) name expr) Q E s :=
 get_value (C.kinAt S.keep) I (plainGet_of hg).1 (findObj_own hh ha rfl hl) hv h
theorem methA {pl : Sem Bool} {Q : Value × List Value → Shared → Prop} {f : Addr} (S : St g L s.heap l N) (C : Cx w A' outs base g n) (I : W.InstAt s.heap x ox C' (some (dictOf es k))) (hl : getL name es = some none) (h : Q (.ref f, [.ref x]) s)
   (hg : plainGet (KF w) C' name = true := by rfl) (hf : findIn (KF w) (.ref C') name = some (some (.ref f)) := by rfl) (ht : isFn (KF w) (.ref f) = true := by rfl) :
   wpAny (model prg w) A (getMethod (.ref x) name pl) Q E s :=
 method_fn (C.kinAt S.keep) I (plainGet_of hg).1 (plainGet_of hg).2 hf (beq_iff_eq.mp ht) (by show (lookIn name (dictOf es k)).map _ = _; rw [lookIn_dict, hl]; rfl) h
theorem setA {Q : Unit → Shared → Prop} {dx : Addr} {es' : List DictEntry} {k' : Nat} (S : St g L s.heap l N) (C : Cx w A' outs base g n) (I : W.InstAt s.heap x ox C' (some (dictOf es k))) (hd : ox.dict = some dx)
   (hl : (getL name es).isSome = true) (e : (putL name (PyData.keyHash w.params name) (.str name (s.toks + 1)) v es, putN name es k) = (es', k')) (U : UpN dx (dictOf es k) (dictOf es' k') N N') (hz : es'.length ≤ 1000)
   (h : ∀ h', St g L h' l N' → Q () { s with heap := h', toks := s.toks + 2 })
   (hs : findIn (KF w) (.ref C') "__setattr__" = some (some (.builtin "object.__setattr__")) := by rfl) (hp : plainOver (KF w) C' = true := by rfl) (ht : takerIn (KF w) C' name = some none := by rfl) (hh : hasDictIn (KF w) C' = true := by rfl) :
   wpAny (model prg w) A (setAttr (.ref x) name v) Q E s := by
 have X := C.kinAt S.keep
 refine set_plain X I hs ?_
 have X' : (KF w).In ({ s with toks := s.toks + 1 } : Shared).heap := X
 refine osa_open (s := { s with toks := s.toks + 1 }) X' I hp ht fun b => ?_
 refine el_xaa (any_some hh) fun cd hc hd' => ?_
 have D := S.get U.mem
 refine el_aa (Prod.mk.inj e) fun e1 e2 => ?_
 have pn : Obj.putName name (PyData.keyHash w.params name) (.str name (s.toks + 1)) v (dictOf es k) = dictOf es' k' := by rw [putName_dict, e1, e2]
 have D' : (s.heap.update dx (Obj.putName name (PyData.keyHash w.params name) (.str name (s.toks + 1)) v)).get? dx = some (dictOf es' k') := by
   rw [← pn]; exact Heap.get?_update_self _ D (by rw [pn]; rfl)
 have S' := S.turn U (Heap.SameBut.update ..) D'
 obtain ⟨hx, hcl, hn, -⟩ := I
 obtain ⟨oc, odi, oda, osl⟩ := ox
 dsimp only at hcl hd
 subst hcl hd
 refine wpAny_bind (wpAny_pure (wpAny_bind (wpAny_bind (wpAny_loadPart hx (wpAny_bind ((looks_clsIn X' hc).here ?_))))))
 rw [hd']
 refine wpAny_pure (a := some dx) (wpAny_bind (wpAny_pure (wpAny_bind ?_)))
 unfold nsSet
 refine wpAny_bind (wpAny_bind (wpAny_askSetting (wpAny_pure (wpAny_bind (wpAny_mkText (wpAny_bind (wpAny_loadPart D ?_)))))))
 have hl' : (lookIn name (dictOf es k)).isSome = true := by rw [lookIn_dict]; exact hl
 unfold lookIn at hl'
 dsimp only at hl' ⊢
 have c : (!es.toArray.any (·.key.isStr name) && es.toArray.any (·.refKey)) = false := by
   rw [← Array.any_toList, ← Array.any_toList]
   split at hl'
   · rename_i en he
     rw [List.any_eq_true.mpr ⟨en, List.mem_of_find?_eq_some he, List.find?_some he⟩]; rfl
   · split at hl'
     · cases hl'
     · rename_i z; rw [Bool.not_eq_true] at z; rw [z, Bool.and_false]
 rw [aRefKeyMayBeTheName_at, c]
 refine wpAny_updatePart D ?_
 refine wpAny_bind (wpAny_lookBehind D' (pastItsLine_dict (by rw [List.size_toArray, sizeLine_eq]; lia)) ?_)
 exact wpAny_pure (h _ S')
theorem mkI {fI : Addr} {R : Result → Shared → Prop} {rest : List Value} {kw : List (Str × Value)} (S : St g L s.heap l N) (C : Cx w A' outs base g n)
   (h : ∀ x dx h', St g L h' l ((x, instObj C' dx) :: (dx, emptyDict) :: N) → s.heap.get? x = none → s.heap.get? dx = none →
     codeAny (model prg w) (A.under (.builtin "type.__call__" ⟨.ref C' :: rest, kw⟩)) (.call (.ref fI) ⟨.ref x :: rest, kw⟩) (InitBack x R) { s with heap := h' })
   (hm : makesIn (KF w) C' = true := by rfl) (hi : findIn (KF w) (.ref C') "__init__" = some (some (.ref fI)) := by rfl) (hf : isFn (KF w) (.ref fI) = true := by rfl) :
   codeAny (model prg w) A (.call (.ref C') ⟨rest, kw⟩) R s := by
 have X := C.kinAt S.keep
 have S1 := S.add (a := s.heap.objs.size) (o := emptyDict) (fun b o e => Heap.get?_push_of_some _ e) (Heap.get?_push_size _ rfl) (get_size _)
 have S2 := S1.add (a := (s.heap.push emptyDict).objs.size) (o := instObj C' s.heap.objs.size) (fun b o e => Heap.get?_push_of_some _ e) (Heap.get?_push_size _ rfl) (get_size _)
 rw [Heap.size_push] at S2
 have nx : s.heap.get? (s.heap.objs.size + 1) = none := by
   cases e : s.heap.get? (s.heap.objs.size + 1) with
   | none => rfl
   | some o => exact absurd (Heap.lt_size e) (Nat.not_lt.mpr (Nat.le_succ _))
 have h' := h _ _ _ S2 nx (get_size _)
 clear h
 obtain ⟨hh, gg, d, t, os⟩ := s
 exact make_core (makes_of X hm) (looks_findIn X hi) (fun self => bind_fn X self (beq_iff_eq.mp hf)) (.inl rfl) h'
end
section
variable {w : World} {A A' : Around} {outs : List Env} {base : Heap} {n : Nat} {E : Value → Shared → Prop} {s : Shared} {g : Heap} {N N' : List (Addr × Obj)} {l : Loc} {env : Env} {v : Value} {L : Addr}
theorem merge_empty {d o : Addr} {nm : String} {Q : Unit → Shared → Prop} (hdo : d ≠ o) (hoS : (o == sysModules) = false) (hd : s.heap.DictOf (intKind prg w) d []) (ho : s.heap.DictOf (intKind prg w) o []) (hQ : Q () s) :
   wpAny (model prg w) A (Builtin.Dict.mergeDict nm d o) Q E s := by
 refine el_xxxaaaaaa (id hd) fun od esd epd hod hcd hdd hkd hpd hnd => ?_
 refine el_xxxaaaaaa (id ho) fun oo eso epo hoo hco hdo' hko hpo hno => ?_
 unfold Builtin.Dict.mergeDict
 rw [if_neg (by simpa using hdo)]
 unfold Builtin.Dict.showsAll
 rw [if_neg (by rw [hoS]; exact Bool.false_ne_true)]
 refine wpAny_bind (wpAny_pure ?_)
 refine wpAny_bind (wpAny_dictEntries hoo hdo' ?_)
 have hlen : eso.size = 0 := by have := hpo.length; simpa using this
 have h0 : eso = #[] := Array.eq_empty_of_size_eq_zero hlen
 subst h0
 have loop : wpAny (model prg w) A (do
     let epoch ← dictEpoch o
     let l ← dictEntries o
     forIn [:l.size] PUnit.unit fun i (_ : PUnit) => (do
         let l' ← dictEntries o
         match l'[i]? with
           | some e => do
             holding [e.key, e.val] (dictSetHashed d e.key e.hash e.val)
             let ep' ← dictEpoch o
             if (ep' != epoch) = true then do
                 (unsupported (toString nm ++ toString ":source-changed-during-callback") : Sem PUnit)
                 pure (ForInStep.yield PUnit.unit)
               else pure (ForInStep.yield PUnit.unit)
           | _ => do
             (unsupported "internal:dict-merge" : Sem PUnit)
             pure (ForInStep.yield PUnit.unit) : Sem (ForInStep PUnit))
     pure ()) Q E s := by
   refine wpAny_bind (wpAny_dictEpoch hoo hdo' ?_)
   refine wpAny_bind (wpAny_dictEntries hoo hdo' ?_)
   refine wpAny_bind ?_
   rw [Std.Legacy.Range.forIn_eq_forIn_range']
   simp only [Std.Legacy.Range.size, Nat.sub_zero, Nat.add_sub_cancel, Nat.div_one]
   exact wpAny_pure (wpAny_pure hQ)
 dsimp only
 split
 · refine wpAny_bind (wpAny_dictEntries hod hdd ?_)
   split
   · refine wpAny_bind (wpAny_entriesForEmpty (knd := intKind prg w) hoo hdo' hko ?_)
     exact wpAny_pure hQ
   · exact loop
 · exact loop
theorem meets_upd0 (d o : Addr) (hdo : d ≠ o) (hoS : (o == sysModules) = false) :
   MeetsIn prg w (Builtin.«dict.update» ⟨[.ref d, .ref o], []⟩) (fun _ R s => s.heap.DictOf (intKind prg w) d [] ∧ s.heap.DictOf (intKind prg w) o [] ∧ R (.ok (.ret .none)) s) :=
 .of_wp fun A R s ⟨hd, ho, h⟩ => by
   unfold Builtin.«dict.update»
   refine wpAny_bind ?_
   unfold Builtin.Dict.selfAndRest
   refine wpAny_bind (wpAny_notOrdered_dict hd.typeIs ?_)
   show wpAny _ _ (pure (d, [Value.ref o])) _ _ s
   refine wpAny_pure ?_
   show wpAny _ _ (Builtin.Dict.updateFrom "dict.update" d (.ref o) [] .none) _ _ s
   unfold Builtin.Dict.updateFrom
   refine wpAny_bind (wpAny_typeOf ho.typeIs ?_)
   rw [if_neg (by decide)]
   refine wpAny_bind ?_
   unfold Builtin.Dict.merge
   refine wpAny_bind ?_
   · unfold Builtin.Dict.readDirectly
     refine wpAny_bind (wpAny_isInstance ho.typeIs isSubtype_dict_dict ?_)
     simp only [Bool.not_true, Bool.false_eq_true, if_false]
     refine wpAny_bind (wpAny_specialOf ho.typeIs PySem.F.slot_dict_iter.lookup (wpAny_pure ?_))
     simp only [beq_self_eq_true, if_true]
     refine wpAny_bind (wpAny_pure ?_)
     refine merge_empty hdo hoS hd ho ?_
     show wpAny _ _ (Builtin.Dict.addKeywords d [] >>= _) _ _ _
     exact wpAny_bind (wpAny_pure (wpAny_pure ⟨.none, rfl, h⟩))
theorem call_upd0 {d o : Addr} {Q : Value → Shared → Prop} (hdo : d ≠ o) (hoS : (o == sysModules) = false) (hd : s.heap.DictOf (intKind prg w) d []) (ho : s.heap.DictOf (intKind prg w) o []) (hQ : Q .none s) :
   wpAny (model prg w) A (call (.builtin "dict.update") [.ref d, .ref o]) Q E s :=
 call_meetsIn PySem.F.slot_dict_update hd.typeIs PySem.F.entry_dict_update (PySem.F.args_dict_update_2 _ _) (meets_upd0 d o hdo hoS) ⟨hd, ho, hQ⟩
end
theorem wp_peekA {α : Type} {K : Frag} {M : Model} {A : Around} {E : Value → Shared → Prop} {Q : α → Shared → Prop} {s : Shared} {o : Obj} (X : K.In s.heap) :
   ∀ (t : Sem α) (g : Addr → Sem α), peekA K ⟨M.prog, M.w.params⟩ t = some (o, g) → wpAny M A (g s.heap.objs.size) Q E { s with heap := s.heap.push o } → wpAny M A t Q E s := by
 intro t
 induction t with
 | rule _ k ih => intro g e q Γ p hΓ; exact ih () g e q Γ p hΓ
 | point _ k ih => intro g e q Γ p hΓ; exact ih () g e q Γ p hΓ
 | ask k ih => intro g e q Γ p hΓ; exact ih _ g e q Γ p hΓ
 | load a _ k ih =>
   intro g e q Γ p hΓ
   simp only [peekA] at e
   split at e
   · rename_i ob ho; exact ⟨ob, X _ _ ho, ih ob g e q Γ p hΓ⟩
   · cases e
 | alloc ob k _ =>
   intro g e q
   have e : some (ob, k) = some (o, g) := e
   refine el_aa (Prod.mk.inj (Option.some.inj e)) fun e1 e2 => ?_
   subst e1
   subst e2
   show wpAny M A (alloc ob >>= k) Q E s
   exact wpAny_bind (wpAny_alloc q)
 | _ => intro g e; cases e
theorem cellsAre_addrs {cm : Str → Option Value} {cs : List (Str × Addr)} {cells : List (Addr × Obj)} (x : CellsAre cm cs cells) : cells.map (·.1) = cs.map (·.2) := by
 induction x with
 | nil => rfl
 | cons _ r ih => rw [List.map_cons, List.map_cons, ih]
section
variable {w : World} {A : Around} {outs : List Env} {base : Heap} {n : Nat} {s : Shared}
theorem size_ok (C : Cx w A outs base s.heap n) : (s.heap.objs.size == sysModules) = false := by
 refine el_xxxa (C.bs.top) fun mean mg mb T => ?_
 have h1 := (T.g.keeps C.below.stays).lt
 have e1 : mainGlobals = 3 := rfl
 have e2 : sysModules = 1 := rfl
 rw [e1] at h1
 rw [e2]
 exact beq_eq_false_iff_ne.mpr fun e => by rw [e] at h1; exact absurd h1 (by decide)
theorem hide_none_size (h : Heap) (S : List Addr) (a : Addr) (ha : h.get? a = none) : (hideAll h S).get? a = none := none_sub (fun b o e => of_hideAll _ e) ha
theorem Cx.hidden {S : List Addr} (C : Cx w A outs base s.heap n) (hS : ∀ a ∈ S, base.get? a = none ∧ ∀ env ∈ outs, env.frame ≠ some a) : Cx w A outs base (hideAll s.heap S) n :=
 ⟨C.bs, ⟨C.below.stack, fun b o e => hideAll_get _ (C.below.stays b o e) (fun m => by rw [(hS b m).1] at e; cases e), funFrames_hideAll C.below.frames fun env he a ha => (hS a ha).2 env he⟩, C.hand, C.guards, C.deep, C.room⟩
theorem enterKw {R : Result → Shared → Prop} {name qual : Str} {params : Arguments} {body : List Stmt} {scope : Scope} {dV kV doc pm cdv ct oc : Value} {an od : Option Addr} {osl : Array (Option Value)} {f : Addr} {args : List Value} {binds : Addr → List (Str × Value)} {g₁ : Addr → Sem (List (Str × Value))}
   (N : List (Addr × Obj)) (hN : ∀ p ∈ N, s.heap.get? p.1 = some p.2) (hd : (N.map (·.1)).Nodup) (hS : ∀ a ∈ N.map (·.1), base.get? a = none ∧ ∀ env ∈ outs, env.frame ≠ some a) (C : Cx w A outs base s.heap (n + 1))
   (ho : (KF w).lookup f = some ⟨oc, od, .func (fnOf name qual params body scope dV kV doc pm an cdv ct), osl⟩) (hcd : codeIn (KF w) cdv qual = true)
   (hp : peekA (KF w) ⟨prg, w.params⟩ (bindArgs (fnOf name qual params body scope dV kV doc pm an cdv ct) ⟨args, []⟩) = some (emptyDict, g₁)) (hg : ∀ D, g₁ D = pure (binds D))
   (hloc : ∀ D, ∀ y ∈ binds D, scope.names.lookup y.1 = some .local)
   (h : ∀ D h₁ L tk (Qf : Flow → Shared → Prop) Ef, (∀ fl s', R (.ok (.ret (retOf fl))) s' → Qf fl s') → s.heap.get? D = none → (D == sysModules) = false → St (hideAll s.heap (N.map (·.1))) L h₁ (locOf (binds D).reverse) ((D, emptyDict) :: N) →
     Cx w A outs base (hideAll s.heap (N.map (·.1))) (n + 1) →
     wpAny (model prg w) (A.deeper (envOf qual scope L f cdv)) (execs body (envOf qual scope L f cdv)) Qf Ef { s with heap := h₁, toks := tk })
   (hco : scope.isCoroutine = false := by rfl) (hgen : scope.isGenerator = false := by rfl) (hk : scope.kind = .function := by rfl)
   (hcell : ∀ x ∈ scope.names, x.2 ≠ .cell := by decide) : codeAny (model prg w) A (.call (.ref f) ⟨args, []⟩) R s := by
 have X : (KF w).In s.heap := C.bs.kin.keeps C.below.stays
 refine el_xxxa (C.bs.top) fun mean mg mb T => ?_
 have hd1 := C.deep
 refine codeAny_call_function (fd := fnOf name qual params body scope dV kV doc pm an cdv ct) (body := body) (by unfold recursionLimit; lia) (X _ _ ho) rfl hco hgen rfl (codeRec_of X hcd) ?_
 refine wp_peekA X _ g₁ hp ?_
 rw [hg]
 refine wpAny_pure ?_
 have D0 := get_size s.heap
 generalize hD : s.heap.objs.size = D at D0
 have k1 : ∀ b o, s.heap.get? b = some o → (s.heap.push emptyDict).get? b = some o := fun b o e => Heap.get?_push_of_some _ e
 have e1 : (s.heap.push emptyDict).get? D = some emptyDict := by rw [← hD]; exact Heap.get?_push_size _ rfl
 refine wpAny_newFunctionEnv hcell (hloc D) (fun h₁ hns hsb => ⟨(T.nolimit.keeps C.below.stays |>.keeps k1).fresh _ hsb, codeAny_func ?_⟩) hk
 have k2 : ∀ b o, (s.heap.push emptyDict).get? b = some o → h₁.get? b = some o := fun b o e => hsb.extBut b o (Nat.ne_of_lt (Heap.lt_size e)) (Heap.get?_push_of_some _ e)
 have D2 : s.heap.get? (s.heap.push emptyDict).objs.size = none := none_sub k1 (get_size _)
 have st : St (hideAll s.heap (N.map (·.1))) (s.heap.push emptyDict).objs.size h₁ (locOf (binds D).reverse) ((D, emptyDict) :: N) := by
   refine ⟨by rw [lk_locOf]; exact hns, fun b o e => k2 b o (k1 b o (of_hideAll _ e)), hide_none_size _ _ _ D2, fun p hp => ?_, ?_⟩
   · rcases List.mem_cons.mp hp with rfl | hp
     · exact ⟨k2 _ _ e1, Nat.ne_of_lt (Heap.lt_size e1), hide_none_size _ _ _ D0⟩
     · exact ⟨k2 _ _ (k1 _ _ (hN p hp)), Nat.ne_of_lt (Heap.lt_size (k1 _ _ (hN p hp))), hideAll_none _ (List.mem_map_of_mem hp)⟩
   · rw [List.map_cons, List.nodup_cons]
     refine ⟨fun m => ?_, hd⟩
     refine el_xaa (List.mem_map.mp m) fun p hp q => ?_
     have := hN p hp
     rw [q, D0] at this; cases this
 exact wpAny_mono (h D h₁ _ _ (fun fl s' => R (.ok (.ret (retOf fl))) s') (fun _ _ => False) (fun _ _ x => x) D0 (by rw [← hD]; exact size_ok C) st (C.hidden hS)) (fun fl s' x => by cases fl <;> exact x) (fun _ _ x => x.elim)
theorem enterX {R : Result → Shared → Prop} {name qual : Str} {params : Arguments} {body : List Stmt} {scope : Scope} {dV kV doc pm cdv ct oc : Value} {an od : Option Addr} {osl : Array (Option Value)} {f : Addr} {args : List Value} {binds : List (Str × Value)}
   (N : List (Addr × Obj)) (hN : ∀ p ∈ N, s.heap.get? p.1 = some p.2) (hd : (N.map (·.1)).Nodup) (hS : ∀ a ∈ N.map (·.1), base.get? a = none ∧ ∀ env ∈ outs, env.frame ≠ some a) (C : Cx w A outs base s.heap (n + 1))
   (ho : (KF w).lookup f = some ⟨oc, od, .func (fnOf name qual params body scope dV kV doc pm an cdv ct), osl⟩) (hcd : codeIn (KF w) cdv qual = true)
   (hbind : BindsTo s (fnOf name qual params body scope dV kV doc pm an cdv ct) ⟨args, []⟩ binds)
   (hkind : (binds.all fun y => scope.names.lookup y.1 == some .local || scope.names.lookup y.1 == some .cell) = true) (hnd : ((cellsFrom 0 scope.names []).map (·.1)).Nodup)
   (ll : Loc) (hll : ∀ L, (bindL (envOfC qual scope L f cdv).kindOf binds fun _ => none) = lk ll)
   (h : ∀ h₁ L tk cells (Qf : Flow → Shared → Prop) Ef, (∀ fl s', R (.ok (.ret (retOf fl))) s' → Qf fl s') → CellsAre (bindC (envOfC qual scope L f cdv).kindOf binds fun _ => none) (cellsFrom (L + 1) scope.names []) cells →
     St (hideAll s.heap (N.map (·.1))) L h₁ ll (cells ++ N) → Cx w A outs base (hideAll s.heap (N.map (·.1))) (n + 1) →
     wpAny (model prg w) (A.deeper (envOfC qual scope L f cdv)) (execs body (envOfC qual scope L f cdv)) Qf Ef { s with heap := h₁, toks := tk })
   (hco : scope.isCoroutine = false := by rfl) (hgen : scope.isGenerator = false := by rfl) (hk : scope.kind = .function := by rfl) : codeAny (model prg w) A (.call (.ref f) ⟨args, []⟩) R s := by
 have X : (KF w).In s.heap := C.bs.kin.keeps C.below.stays
 refine el_xxxa (C.bs.top) fun mean mg mb T => ?_
 have hd1 := C.deep
 refine codeAny_call_function (fd := fnOf name qual params body scope dV kV doc pm an cdv ct) (body := body) (by unfold recursionLimit; lia) (X _ _ ho) rfl hco hgen rfl (codeRec_of X hcd) (hbind _ _ _ _ ?_)
 refine wpAny_newFunctionEnv_cells hk (kindsX hkind _) (fun env henv s' Y => ?_)
 subst henv
 refine el_xxaa (Y.done) fun h₁ tk hsb2 hkp => ?_
 subst hsb2
 refine ⟨(T.nolimit.keeps C.below.stays).keeps hkp, codeAny_func ?_⟩
 have Y' : InCallC s s.heap.objs.size (bindL (envOfC qual scope s.heap.objs.size f cdv).kindOf binds fun _ => none) (cellsFrom (s.heap.objs.size + 1) scope.names []) (bindC (envOfC qual scope s.heap.objs.size f cdv).kindOf binds fun _ => none) { s with heap := h₁, toks := tk } := Y
 refine el_xaa (Cl.news (h₀ := s.heap) (cs := cellsFrom (s.heap.objs.size + 1) scope.names []) (Nat.le_refl _) fun n c hm => ⟨Y'.cell n c (lookup_of_mem_nodup (cellsFrom_names scope.names 0 (s.heap.objs.size + 1) [] [] rfl ▸ hnd) hm), Y'.above n c hm⟩) fun cells Nc Xc => ?_
 have ap : (cells.map (·.1)).Nodup := by
   have e : cells.map (·.1) = (cellsFrom (s.heap.objs.size + 1) scope.names []).map (·.2) := by
     exact cellsAre_addrs Xc
   rw [e]
   have := Y'.apart
   rw [List.Nodup, List.pairwise_map]
   exact this
 have st : St (hideAll s.heap (N.map (·.1))) s.heap.objs.size h₁ ll (cells ++ N) := by
   refine ⟨by rw [← hll s.heap.objs.size]; exact Y'.toInCall.ns, fun b o e => hkp b o (of_hideAll _ e), hide_none_size _ _ _ (get_size _), fun p hp => ?_, ?_⟩
   · rcases List.mem_append.mp hp with hp | hp
     · exact ⟨(Nc p hp).1, (Nc p hp).2.1, hide_none_size _ _ _ (Nc p hp).2.2⟩
     · exact ⟨hkp _ _ (hN p hp), Nat.ne_of_lt (Heap.lt_size (hN p hp)), hideAll_none _ (List.mem_map_of_mem hp)⟩
   · rw [List.map_append, List.nodup_append]
     refine ⟨ap, hd, fun a ha b hb e => ?_⟩
     subst e
     refine el_xaa (List.mem_map.mp ha) fun p hp q => ?_
     refine el_xaa (List.mem_map.mp hb) fun p' hp' q' => ?_
     have h1 := (Nc p hp).2.2
     have h2 := hN p' hp'
     rw [q', ← q, h1] at h2; cases h2
 exact wpAny_mono (h h₁ _ tk cells (fun fl s' => R (.ok (.ret (retOf fl))) s') (fun _ _ => False) (fun _ _ x => x) Xc st (C.hidden hS)) (fun fl s' x => by cases fl <;> exact x) (fun _ _ x => x.elim)
end
noncomputable abbrev ik (w : World) : KeyKind prg w Int := intKind prg w
structure NB where
 k : Int
 a : Addr
 kvs : List (Int × Value)
 o : Obj
noncomputable def grL (x dx gd nd ad : Addr) (od ond oad : Obj) (nv : List (Int × Addr)) (nb : List NB) : List (Addr × Obj) :=
 (x, instObj 310 dx) :: (dx, od) :: (gd, emptyDict) :: (nd, ond) :: (ad, oad) :: (nv.map (fun p => (p.2, emptyDict)) ++ nb.map (fun b => (b.a, b.o)))
noncomputable abbrev grD (h1 : Int) (t1 : Tok) (h2 : Int) (t2 : Tok) (h3 : Int) (t3 : Tok) (gd nd ad : Addr) (m : Nat) : Obj := dictOf [⟨h1, .str (Str.ofString "graph") t1, .ref gd⟩, ⟨h2, .str (Str.ofString "_node") t2, .ref nd⟩, ⟨h3, .str (Str.ofString "_adj") t3, .ref ad⟩] m
noncomputable def GrDict (gd nd ad : Addr) (od : Obj) : Prop := ∃ h1 t1 h2 t2 h3 t3 m, od = grD h1 t1 h2 t2 h3 t3 gd nd ad m
theorem gr_perm {α : Type} (a b : α) (P X Y : List α) : (P ++ ((X ++ [a]) ++ (Y ++ [b]))).Perm (a :: b :: (P ++ (X ++ Y))) := by
 have h1 : P ++ ((X ++ [a]) ++ (Y ++ [b])) = (P ++ X) ++ a :: (Y ++ [b]) := by simp
 rw [h1]
 refine List.perm_middle.trans (List.Perm.cons _ ?_)
 have h2 : (P ++ X) ++ (Y ++ [b]) = (P ++ X ++ Y) ++ b :: [] := by simp
 rw [h2]
 refine List.perm_middle.trans (List.Perm.cons _ ?_)
 simp
structure GrIs (w : World) (dx gd nd ad : Addr) (od ond oad : Obj) (nv : List (Int × Addr)) (nb : List NB) : Prop where
 od : GrDict gd nd ad od
 ond : ond.IsDictOf (ik w) (nv.map fun p => (p.1, .ref p.2))
 oad : oad.IsDictOf (ik w) (nb.map fun b => (b.k, .ref b.a))
 ob : ∀ b ∈ nb, b.o.IsDictOf (ik w) b.kvs
 keys : nb.map (·.k) = nv.map (·.1)
 sm : (gd == sysModules) = false ∧ (nd == sysModules) = false ∧ (ad == sysModules) = false ∧ (∀ p ∈ nv, (p.2 == sysModules) = false) ∧ ∀ b ∈ nb, (b.a == sysModules) = false
 len : nv.length ≤ 10 ∧ ∀ b ∈ nb, b.kvs.length ≤ 10
noncomputable def Graph (w : World) (x : Addr) (N : List (Addr × Obj)) (ns : List Int) (adj : List (Int × List Int)) : Prop :=
 ∃ dx gd nd ad od ond oad nv nb, N = grL x dx gd nd ad od ond oad nv nb ∧ GrIs w dx gd nd ad od ond oad nv nb ∧ ns = nv.map (·.1) ∧ adj = nb.map fun b => (b.k, b.kvs.map (·.1))
structure Turns (N N' : List (Addr × Obj)) (h h' : Heap) : Prop where
 ext : Ext (N.map (·.1)) h h'
 new : ∀ p ∈ N', h'.get? p.1 = some p.2
 old : ∀ p ∈ N', p.1 ∈ N.map (·.1) ∨ h.get? p.1 = none
 nd : (N'.map (·.1)).Nodup
theorem callSt {g h h' : Heap} {L : Addr} {l : Loc} {N N' R : List (Addr × Obj)} (S : St g L h l (N ++ R)) (T : Turns N N' h h') : St g L h' l (N' ++ R) := by
 have hL : ∃ o, h.get? L = some o := by obtain ⟨o, _, _, e, _⟩ := S.ns; exact ⟨o, e⟩
 have nN : ∀ a ∈ N.map (·.1), a ≠ L ∧ g.get? a = none ∧ a ∉ R.map (·.1) := fun a ha => by
   refine el_xaa (List.mem_map.mp ha) fun p hp hsb2 => ?_
   subst hsb2
   have z := S.nw p (List.mem_append_left _ hp)
   refine ⟨z.2.1, z.2.2, fun m => ?_⟩
   have nd := S.nd
   rw [List.map_append, List.nodup_append] at nd
   exact nd.2.2 _ (List.mem_map_of_mem hp) _ m rfl
 have nN' : ∀ p ∈ N', p.1 ≠ L ∧ g.get? p.1 = none ∧ p.1 ∉ R.map (·.1) := fun p hp => by
   rcases T.old p hp with m | e
   · exact nN _ m
   · refine ⟨fun q => ?_, none_sub S.keep e, fun m => ?_⟩
     · obtain ⟨o, e'⟩ := hL; rw [q] at e; rw [e] at e'; cases e'
     · refine el_xaa (List.mem_map.mp m) fun p' hp' q => ?_
       have := (S.nw p' (List.mem_append_right _ hp')).1
       rw [q, e] at this; cases this
 refine ⟨S.ns.at' fun o e => T.ext _ _ (fun m => (nN _ m).1 rfl) e, fun b o e => T.ext b o (fun m => by rw [(nN b m).2.1] at e; cases e) (S.keep b o e), S.sep, fun p hp => ?_, ?_⟩
 · rcases List.mem_append.mp hp with hp | hp
   · exact ⟨T.new p hp, (nN' p hp).1, (nN' p hp).2.1⟩
   · have z := S.nw p (List.mem_append_right _ hp)
     exact ⟨T.ext _ _ (fun m => (nN _ m).2.2 (List.mem_map_of_mem hp)) z.1, z.2⟩
 · rw [List.map_append, List.nodup_append]
   have nd := S.nd
   rw [List.map_append, List.nodup_append] at nd
   refine ⟨T.nd, nd.2.1, fun a ha b hb e => ?_⟩
   refine el_xaa (List.mem_map.mp ha) fun p hp hsb2 => ?_
   subst hsb2
   exact (nN' p hp).2.2 (e ▸ hb)
theorem Turns.of {h h' : Heap} {L : Addr} {l : Loc} {N N' R : List (Addr × Obj)} (S : St (hideAll h (N.map (·.1))) L h' l (R ++ N')) (hN : ∀ p ∈ N', p.1 ∈ N.map (·.1) ∨ h.get? p.1 = none) : Turns N N' h h' :=
 ⟨Ext.of_hide S.keep, fun p hp => S.get (List.mem_append_right _ hp), hN, (S.sub (List.sublist_append_right R N')).nd⟩
theorem freshSt {h0 h : Heap} {L b : Addr} {l : Loc} {As : List Addr} {N2 : List (Addr × Obj)} (S : St (hideAll h0 As) L h l N2) (hA : ∀ a ∈ As, a ∈ N2.map (·.1)) (e : h.get? b = none) : h0.get? b = none := by
 cases q : h0.get? b with
 | none => rfl
 | some o =>
   by_cases m : b ∈ As
   · refine el_xaa (List.mem_map.mp (hA b m)) fun p hp r => ?_
     have := S.get hp
     rw [r, e] at this; cases this
   · have := S.keep b o (hideAll_get _ q m)
     rw [e] at this; cases this
theorem grL_addrs (x dx gd nd ad : Addr) (od ond oad : Obj) (nv : List (Int × Addr)) (nb : List NB) : (grL x dx gd nd ad od ond oad nv nb).map (·.1) = x :: dx :: gd :: nd :: ad :: (nv.map (·.2) ++ nb.map (·.a)) := by
 simp [grL, List.map_append, List.map_map, Function.comp_def]
theorem valueAt_off {kvs : List (Int × Value)} {k : Int} (h : k ∉ kvs.map (·.1)) : valueAt kvs k = none := by
 unfold valueAt
 rw [Option.map_eq_none_iff, List.find?_eq_none]
 intro p hp e
 exact h (List.mem_map.mpr ⟨p, hp, of_decide_eq_true e⟩)
theorem valueAt_in {kvs : List (Int × Value)} {k : Int} (h : k ∈ kvs.map (·.1)) : ∃ v, valueAt kvs k = some v ∧ (k, v) ∈ kvs := by
 unfold valueAt
 cases e : kvs.find? fun kv => decide (kv.1 = k) with
 | none =>
   refine el_xaa (List.mem_map.mp h) fun p hp q => ?_
   exact absurd (decide_eq_true q) (List.find?_eq_none.mp e p hp)
 | some p =>
   have h1 := List.find?_some e
   have h2 := List.mem_of_find?_eq_some e
   have h3 : p.1 = k := by simpa using h1
   exact ⟨p.2, rfl, h3 ▸ h2⟩
theorem stored_off {kvs : List (Int × Value)} {k : Int} {v : Value} (h : k ∉ kvs.map (·.1)) : stored kvs k v = kvs ++ [(k, v)] := by
 unfold stored
 rw [if_neg]
 intro e
 refine el_xaa (List.any_eq_true.mp e) fun p hp q => ?_
 exact h (List.mem_map.mpr ⟨p, hp, by simpa using q⟩)
theorem valueAt_app {kvs : List (Int × Value)} {k : Int} {v : Value} (h : k ∉ kvs.map (·.1)) : valueAt (kvs ++ [(k, v)]) k = some v := by
 have h1 := valueAt_off h
 unfold valueAt at h1 ⊢
 rw [Option.map_eq_none_iff] at h1
 rw [List.find?_append, h1]
 simp
theorem mapfst {α : Type} (l : List (Int × α)) (f : α → Value) : (l.map fun p => (p.1, f p.2)).map (·.1) = l.map (·.1) := by rw [List.map_map]; rfl
noncomputable def addK (l : List Int) (k : Int) : List Int := if k ∈ l then l else l ++ [k]
noncomputable def addN (adj : List (Int × List Int)) (k : Int) : List (Int × List Int) := if k ∈ adj.map (·.1) then adj else adj ++ [(k, [])]
section
variable {w : World} {A A' : Around} {outs : List Env} {base : Heap} {n : Nat} {E : Value → Shared → Prop} {s : Shared} {g : Heap} {N N' : List (Addr × Obj)} {l : Loc} {env : Env} {v : Value} {L d : Addr} {o : Obj} {kvs : List (Int × Value)} {k : Int} {t : Tok}
theorem dOf {h : Heap} (S : St g L h l N) (hm : (d, o) ∈ N) (hd : o.IsDictOf (ik w) kvs) : h.DictOf (ik w) d kvs := Heap.dictOf_iff.mpr ⟨o, S.get hm, hd⟩
theorem iki (k : Int) (t : Tok) : (ik w).is k (.int k t) = true := by simp [ik, intKind, Value.isInt]
theorem dNotIn {Q : Value → Shared → Prop} (hd : s.heap.DictOf (ik w) d kvs) (hs : (d == sysModules) = false) (h : Q (.bool (!(valueAt kvs k).isSome)) { s with toks := s.toks + 1 }) : wpAny (model prg w) A (compareOp .NotIn (.int k t) (.ref d)) Q E s :=
 wpAny_notIn_of (knd := ik w) (iki k t) hs hd.mapOf h
theorem dIn {Q : Value → Shared → Prop} (hd : s.heap.DictOf (ik w) d kvs) (hs : (d == sysModules) = false) (h : Q (.bool (valueAt kvs k).isSome) { s with toks := s.toks + 1 }) : wpAny (model prg w) A (compareOp .In (.int k t) (.ref d)) Q E s :=
 wpAny_in_of (knd := ik w) (iki k t) hs hd.mapOf h
theorem dSub {value slice : PySem.Expr} {Q : Value → Shared → Prop} (hd : s.heap.DictOf (ik w) d kvs) (hv : valueAt kvs k = some v) (h : Q v { s with toks := s.toks + 1 })
   (hs : subscripted slice false (.ref d) (.int k t) = operate [.ref d, .int k t] (getItem (.ref d) (.int k t)) := by first | exact sub_const | exact sub_name | rfl) : wpAny (model prg w) A (subscriptTail value slice (.ref d) (.int k t)) Q E s :=
 tail_any hd.typeIs slot_dict_getitem.lookup (wpAny_getItem_of (knd := ik w) (iki k t) hd.mapOf hv h) hs
theorem dSet {f : Obj → List (Addr × Obj)} {Q : Unit → Shared → Prop} (S : St g L s.heap l N) (U : ∀ o', UpN d o o' N (f o')) (hd : o.IsDictOf (ik w) kvs) (hz : kvs.length ≤ 100) 
   (h : ∀ h' o', o'.IsDictOf (ik w) (stored kvs k v) → St g L h' l (f o') → Q () { s with heap := h', toks := s.toks + 1 }) : wpAny (model prg w) A (setItem (.ref d) (.int k t) v) Q E s := by
 refine wpAny_setItem_pairs (knd := ik w) (iki k t) (dOf S (U o).mem hd) (fun h' hd' hs => ?_) (by rw [sizeLine_eq]; lia)
 refine el_xaa (Heap.dictOf_iff.mp hd') fun o' ho' hd' => ?_
 exact h h' o' hd' (S.turn (U o') hs ho')
theorem UpN.app {d : Addr} {o o' : Obj} {r r' : List (Addr × Obj)} (U : UpN d o o' r r') : ∀ pre : List (Addr × Obj), UpN d o o' (pre ++ r) (pre ++ r')
 | [] => U
 | _ :: pre => .tail (UpN.app U pre)
theorem dMeth {name : Str} {id : String} {pl : Sem Bool} {Q : Value × List Value → Shared → Prop} (slot : Slot "dict" name id) (hty : typeOf (.builtin id) = pure (.type "method_descriptor")) (hd : s.heap.DictOf (ik w) d kvs) (h : Q (.builtin id, [.ref d]) s) :
   wpAny (model prg w) A (getMethod (.ref d) name pl) Q E s := getMethod_builtin hd.typeIs PySem.F.plainAttrs_dict slot hty hd.mapOf.noDict h
end
section
variable {w : World} {A : Around} {outs : List Env} {base : Heap} {n : Nat} {s : Shared} {E : Value → Shared → Prop}
theorem add_node_code {x : Addr} {N : List (Addr × Obj)} {ns : List Int} {adj : List (Int × List Int)} {k : Int} {t : Tok} {R : Result → Shared → Prop}
   (C : Cx w A outs base s.heap (n + 1)) (hS : ∀ a ∈ N.map (·.1), base.get? a = none ∧ ∀ env ∈ outs, env.frame ≠ some a) (hN : ∀ p ∈ N, s.heap.get? p.1 = some p.2) (hnd : (N.map (·.1)).Nodup) (G : Graph w x N ns adj) (hlen : ns.length < 10)
   (h : ∀ h' tk' N', Turns N N' s.heap h' → (∀ a ∈ N.map (·.1), a ∈ N'.map (·.1)) → Graph w x N' (addK ns k) (addN adj k) → R (.ok (.ret .none)) { s with heap := h', toks := tk' }) :
   codeAny (model prg w) A (.call (.ref 210) ⟨[.ref x, .int k t], []⟩) R s := by
 refine enterKw (binds := fun D => [(Str.ofString "self", .ref x), (Str.ofString "node_for_adding", .int k t), (Str.ofString "attr", .ref D)]) N hN hnd hS C rfl rfl rfl (fun _ => rfl) (fun _ => locs rfl) (fun D h₁ L tk Qf Ef hQ D0 hDs S CG => ?_)
 dsimp only [locOf, List.reverse, List.reverseAux, List.map] at S
 refine el_xa (⟨_, rfl⟩ : ∃ g, g = hideAll s.heap (N.map (·.1))) fun g hg => ?_
 rw [← hg] at S CG
 refine el_xxxxxxxxxaaaa G fun dx gd nd ad od ond oad nv nb hsb9 H hsb11 hsb12 => ?_
 try clear G
 subst hsb9
 subst hsb11
 subst hsb12
 refine el_xxxxxxxa (H.od) fun hh1 t1 hh2 t2 hh3 t3 m hsb7 => ?_
 subst hsb7
 refine el_aaaaa (H.sm) fun sm1 sm2 sm3 sm4 sm5 => ?_
 unfold grL at S
 walk_at "mm"
 refine getA S CG (InstAt.of_news S.nw (by k_mem) (by k_mem)) rfl rfl ?_
 walk_at "mm"
 refine dNotIn (dOf S (by k_mem) H.ond) sm2 ?_
 by_cases hk : k ∈ nv.map (·.1)
 · refine el_xaa (valueAt_in (kvs := nv.map fun p => (p.1, Value.ref p.2)) (k := k) (by rw [mapfst nv Value.ref]; exact hk)) fun v hv hm => ?_
   rw [hv]
   walk_at "mm"
   first | refine ite_tt ?_ | refine ite_ff ?_
   walk_at "mm"
   refine getA S CG (InstAt.of_news S.nw (by k_mem) (by k_mem)) rfl rfl ?_
   walk_at "mm"
   refine dSub (dOf S (by k_mem) H.ond) hv ?_
   refine el_xaa (List.mem_map.mp hm) fun p hp q => ?_
   refine el_aa (Prod.mk.inj q) fun q1 q2 => ?_
   subst q2
   have hpm : (p.2, emptyDict) ∈ nv.map (fun p => (p.2, emptyDict)) ++ nb.map (fun b => (b.a, b.o)) := List.mem_append_left _ (List.mem_map.mpr ⟨p, hp, rfl⟩)
   have hpd := dOf (w := w) S (.tail _ (.tail _ (.tail _ (.tail _ (.tail _ (.tail _ hpm)))))) emptyIs
   walk_at "mm"
   refine dMeth PySem.F.slot_dict_update PySem.F.type_dict_update hpd ?_
   walk_at "mm"
   have hne : p.2 ≠ D := fun e => by
     have := hN (p.2, emptyDict) (.tail _ (.tail _ (.tail _ (.tail _ (.tail _ hpm)))))
     rw [show (p.2, emptyDict).1 = D from e, D0] at this; cases this
   refine call_upd0 hne hDs hpd (dOf (w := w) S (by k_mem) emptyIs) ?_
   walk_at "mm"
   refine hQ _ _ ?_
   have T : Turns (grL x dx gd nd ad _ ond oad nv nb) (grL x dx gd nd ad _ ond oad nv nb) s.heap h₁ := Turns.of (R := [_]) (by rw [hg] at S; exact S) (fun p hp => .inl (List.mem_map_of_mem hp))
   refine h _ _ _ T (fun _ m => m) ?_
   have hk' : k ∈ (nb.map fun b => (b.k, b.kvs.map (·.1))).map (·.1) := by rw [List.map_map]; show k ∈ nb.map (·.k); rw [H.keys]; exact hk
   unfold addK addN
   rw [if_pos hk, if_pos hk']
   exact in_x9 dx gd nd ad _ ond oad nv nb ⟨rfl, H, rfl, rfl⟩ -- in50
 · rw [valueAt_off (by rw [mapfst nv Value.ref]; exact hk)]
   walk_at "mm"
   first | refine ite_tt ?_ | refine ite_ff ?_
   walk_at "mm"
   refine is_int_none ?_
   walk_at "mm"
   have S0 := S
   refine newDi S CG fun nk h2 S nk0 _ nks => ?_
   have nkF : s.heap.get? nk = none := by
     rw [hg] at S0
     refine freshSt S0 (fun a ha => ?_) nk0
     rw [grL_addrs] at ha
     simp [List.map_map, Function.comp_def] at ha ⊢
     first | exact ha | exact .inr ha | exact .inr (.inr ha)
   walk_at "mm"
   refine getA S CG (InstAt.of_news S.nw (by k_mem) (by k_mem)) rfl rfl ?_
   walk_at "mm"
   refine dSet S (fun o' => .tail (.tail (.tail (.tail (.tail (.tail .head)))))) H.oad (by simp at hlen ⊢; have := congrArg List.length H.keys; simp at this; lia) fun h3 oad' Had S => ?_
   walk_at "mm"
   have S0 := S
   refine newDi S CG fun vk h4 S vk0 _ vks => ?_
   have vkF : s.heap.get? vk = none := by
     rw [hg] at S0
     refine freshSt S0 (fun a ha => ?_) vk0
     rw [grL_addrs] at ha
     simp [List.map_map, Function.comp_def] at ha ⊢
     first | exact ha | exact .inr ha | exact .inr (.inr ha)
   walk_at "mm"
   refine getA S CG (InstAt.of_news S.nw (by k_mem) (by k_mem)) rfl rfl ?_
   walk_at "mm"
   refine dSet S (fun o' => .tail (.tail (.tail (.tail (.tail (.tail .head)))))) H.ond (by simp at hlen ⊢; lia) fun h5 ond' Hnd S => ?_
   rw [stored_off (by rw [mapfst nv Value.ref]; exact hk)] at Hnd
   rw [stored_off (by rw [List.map_map]; show k ∉ nb.map (·.k); rw [H.keys]; exact hk)] at Had
   walk_at "mm"
   refine getA S CG (InstAt.of_news S.nw (by k_mem) (by k_mem)) rfl rfl ?_
   walk_at "mm"
   refine dSub (v := .ref vk) (dOf S (by k_mem) Hnd) ?_ ?_
   case refine_1 => exact valueAt_app (by rw [mapfst nv Value.ref]; exact hk)
   walk_at "mm"
   refine dMeth PySem.F.slot_dict_update PySem.F.type_dict_update (dOf S (by k_mem) emptyIs) ?_
   walk_at "mm"
   refine call_upd0 (fun e => ?_) hDs (dOf (w := w) S (by k_mem) emptyIs) (dOf (w := w) S (by k_mem) emptyIs) ?_
   · have := S.nd
     rw [e] at this
     simp at this
   walk_at "mm"
   refine hQ _ _ ?_
   have S' : St g L h5 _ ([(D, emptyDict)] ++ grL x dx gd nd ad (grD hh1 t1 hh2 t2 hh3 t3 gd nd ad m) ond' oad' (nv ++ [(k, vk)]) (nb ++ [⟨k, nk, [], emptyDict⟩])) := S.perm (by
     unfold grL
     rw [List.map_append, List.map_append]
     exact gr_perm (vk, emptyDict) (nk, emptyDict) [(D, emptyDict), (x, instObj 310 dx), (dx, grD hh1 t1 hh2 t2 hh3 t3 gd nd ad m), (gd, emptyDict), (nd, ond'), (ad, oad')] _ _)
   refine h _ _ _ (Turns.of (R := [(D, emptyDict)]) (by rw [hg] at S'; exact S') fun p hp => ?_) (fun a ha => ?_) ?_
   · have hp' := List.mem_map_of_mem (f := (·.1)) hp
     rw [grL_addrs] at hp' ⊢
     simp only [List.map_append, List.map_cons, List.map_nil, List.mem_cons, List.mem_append, List.not_mem_nil, or_false] at hp' ⊢
     rcases hp' with e | e | e | e | e | (e | e) | (e | e)
     all_goals first | (rw [e]; exact .inr vkF) | (rw [e]; exact .inr nkF) | simp [e]
   · rw [grL_addrs] at ha ⊢
     simp only [List.map_append, List.map_cons, List.map_nil, List.mem_cons, List.mem_append, List.not_mem_nil, or_false] at ha ⊢
     rcases ha with e | e | e | e | e | e | e <;> simp [e]
   have hk' : k ∉ (nb.map fun b => (b.k, b.kvs.map (·.1))).map (·.1) := by rw [List.map_map]; show k ∉ nb.map (·.k); rw [H.keys]; exact hk
   unfold addK addN
   rw [if_neg hk, if_neg hk']
   refine in_x9 dx gd nd ad _ ond' oad' (nv ++ [(k, vk)]) (nb ++ [⟨k, nk, [], emptyDict⟩]) ⟨rfl, ⟨⟨_, _, _, _, _, _, _, rfl⟩, by rw [List.map_append]; exact Hnd, by rw [List.map_append]; exact Had, fun b hb => ?_, ?_, ⟨sm1, sm2, sm3, fun p hp => ?_, fun b hb => ?_⟩, ?_, fun b hb => ?_⟩, by simp, by simp⟩ -- in51
   · rcases List.mem_append.mp hb with hb | hb
     · exact H.ob b hb
     · rw [List.mem_singleton.mp hb]; exact emptyIs
   · rw [List.map_append, List.map_append, H.keys]; rfl
   · rcases List.mem_append.mp hp with hp | hp
     · exact sm4 p hp
     · rw [List.mem_singleton.mp hp]; exact vks
   · rcases List.mem_append.mp hb with hb | hb
     · exact sm5 b hb
     · rw [List.mem_singleton.mp hb]; exact nks
   · simp at hlen ⊢; lia
   · rcases List.mem_append.mp hb with hb | hb
     · exact H.len.2 b hb
     · rw [List.mem_singleton.mp hb]; exact Nat.zero_le _
end
section
variable {w : World} {A A' : Around} {outs : List Env} {base : Heap} {n : Nat} {E : Value → Shared → Prop} {s : Shared} {g : Heap} {N N' : List (Addr × Obj)} {l : Loc} {env : Env} {v : Value} {L d : Addr} {o : Obj} {kvs : List (Int × Value)} {k : Int} {t : Tok}
theorem tupIs {h : Heap} {a : Addr} {vs : List Value} (S : St g L h l N) (hm : (a, tupOf vs) ∈ N) : h.IsTuple a vs.toArray := ⟨_, S.get hm, rfl, _, rfl⟩
theorem swap2 {n1 n2 : Str} {T : Addr} {x y : Value} {Q : Unit → Shared → Prop} (hh : A.handled = none) (S : St g L s.heap l N) (ht : s.heap.IsTuple T #[x, y])
   (h : ∀ h' tk, St g L h' ((n1, some x) :: (n2, some y) :: l) N → Q () { s with heap := h', toks := tk })
   (hL : env.locals = L := by rfl) (hk : env.scope.kind = .function := by rfl) (ha : env.kindOf n1 = some .local := by rfl) (hb : env.kindOf n2 = some .local := by rfl) :
   wpAny (model prg w) A (unpackItems (.ref T) [n1, n2].length none) (fun items s₂ => wpAny (model prg w) A (assignInOrder ([n1, n2].reverse.map fun n => bindName env n) items.reverse) Q E s₂) E s := by
 have key : wpAny (model prg w) A (unpackItems (.ref T) (#[x, y] : Array Value).size none) (fun items s₂ => wpAny (model prg w) A (assignInOrder ([n1, n2].reverse.map fun n => bindName env n) items.reverse) Q E s₂) E s := by
   refine unpackItems_tuple (items := #[x, y]) hh (isTup_of ht) fun h₁ he₁ => ?_
   have S1 := S.grow (h' := h₁) fun b o e => he₁ b o (Nat.ne_of_lt (Heap.lt_size e)) e
   show wpAny (model prg w) A (assignInOrder [fun v => bindName env n2 v, fun v => bindName env n1 v] [y, x]) Q E _
   refine assignInOrder_cons (bindName_ (stL S1 (fun h₂ S2 => ?_) hL hk hb))
   refine assignInOrder_cons (bindName_ (stL S2 (fun h₃ S3 => ?_) hL hk ha))
   exact assignInOrder_nil (h _ _ S3)
 exact key
theorem Graph.inst {x : Addr} {ns : List Int} {adj : List (Int × List Int)} {h : Heap} (G : Graph w x N ns adj) (hN : ∀ p ∈ N, h.get? p.1 = some p.2) : ∃ dx h1 t1 h2 t2 h3 t3 gd nd ad m, W.InstAt h x (instObj 310 dx) 310 (some (grD h1 t1 h2 t2 h3 t3 gd nd ad m)) := by
 refine el_xxxxxxxxxaaaa G fun dx gd nd ad od ond oad nv nb hsb9 H hsb11 hsb12 => ?_
 try clear G
 subst hsb9
 subst hsb11
 subst hsb12
 refine el_xxxxxxxa (H.od) fun hh1 t1 hh2 t2 hh3 t3 m hsb7 => ?_
 subst hsb7
 exact in_x11 dx hh1 t1 hh2 t2 hh3 t3 gd nd ad m ⟨hN (x, _) (.head _), rfl, rfl, hN (dx, _) (.tail _ (.head _))⟩ -- in52
theorem dGetD {dv : Value} {Q : Value → Shared → Prop} (hd : s.heap.DictOf (ik w) d kvs) (hs : (d == sysModules) = false) (h : Q ((valueAt kvs k).getD dv) { s with toks := s.toks + 1 }) : wpAny (model prg w) A (call (.builtin "dict.get") [.ref d, .int k t, dv]) Q E s :=
 call_meetsIn PySem.F.slot_dict_get hd.typeIs PySem.F.entry_dict_get (PySem.F.args_dict_get_3 _ _ _) (meets_dict_get_default (ik w) d (iki k t) hs dv) ⟨_, hd.mapOf, h⟩
theorem Cx.apartN {g : Heap} {h : Heap} {R : List (Addr × Obj)} {name : Str} {scope : Scope} {a : Addr} {cd : Value} (C : Cx w A outs base g n) (S : St g L h l (N ++ R)) : ∀ b ∈ N.map (·.1), base.get? b = none ∧ ∀ env ∈ (envOf name scope L a cd :: outs), env.frame ≠ some b := fun b hb => by
 refine el_xaa (List.mem_map.mp hb) fun p hp hsb2 => ?_
 subst hsb2
 exact C.apart S (o := p.2) (List.mem_append_left _ hp)
theorem mem_split {b : NB} {nb : List NB} (h : b ∈ nb) : ∃ pre post, nb = pre ++ b :: post := List.append_of_mem h
end
theorem oldStep {h0 h h' : Heap} {L : Addr} {l : Loc} {N0 N N' R : List (Addr × Obj)} (S : St (hideAll h0 (N0.map (·.1))) L h l (N ++ R)) (sub : ∀ a ∈ N0.map (·.1), a ∈ N.map (·.1)) (old : ∀ p ∈ N, p.1 ∈ N0.map (·.1) ∨ h0.get? p.1 = none)
   (T : Turns N N' h h') : ∀ p ∈ N', p.1 ∈ N0.map (·.1) ∨ h0.get? p.1 = none := fun p hp => by
 rcases T.old p hp with m | e
 · refine el_xaa (List.mem_map.mp m) fun p' hp' q => ?_
   rw [← q]; exact old p' hp'
 · exact .inr (freshSt S (fun a ha => by rw [List.map_append]; exact List.mem_append_left _ (sub a ha)) e)
theorem addN_deg {adj : List (Int × List Int)} {k : Int} {P : List Int → Prop} (h : ∀ p ∈ adj, P p.2) (h0 : P []) : ∀ p ∈ addN adj k, P p.2 := by
 intro p hp
 unfold addN at hp
 split at hp
 · exact h p hp
 · rcases List.mem_append.mp hp with m | m
   · exact h p m
   · rw [List.mem_singleton.mp m]; exact h0
theorem mem_addK {l : List Int} {k x : Int} : x ∈ addK l k ↔ x ∈ l ∨ x = k := by
 unfold addK
 split
 · rename_i h
   exact ⟨.inl, fun e => e.elim id fun e => e ▸ h⟩
 · simp
noncomputable def putE (adj : List (Int × List Int)) (u v : Int) : List (Int × List Int) := adj.map fun p => if p.1 = u then (p.1, addK p.2 v) else p
noncomputable def adjOf (adj : List (Int × List Int)) (u : Int) : List Int := (adj.lookup u).getD []
theorem stored_keys (kvs : List (Int × Value)) (k : Int) (v : Value) : (stored kvs k v).map (·.1) = addK (kvs.map (·.1)) k := by
 unfold stored addK
 by_cases h : k ∈ kvs.map (·.1)
 · rw [if_pos h, if_pos]
   · rw [List.map_map]
     apply List.map_congr_left
     intro p _
     show (if p.1 = k then (p.1, v) else p).1 = p.1
     split <;> rfl
   · refine el_xaa (List.mem_map.mp h) fun p hp q => ?_
     exact List.any_eq_true.mpr ⟨p, hp, by simpa using q⟩
 · rw [if_neg h, if_neg]
   · rw [List.map_append]; rfl
   · intro e
     refine el_xaa (List.any_eq_true.mp e) fun p hp q => ?_
     exact h (List.mem_map.mpr ⟨p, hp, by simpa using q⟩)
theorem addK_len (l : List Int) (k : Int) : (addK l k).length ≤ l.length + 1 := by
 unfold addK; split
 · lia
 · simp
theorem putE_off {l : List (Int × List Int)} {u v : Int} (h : u ∉ l.map (·.1)) : putE l u v = l := by
 unfold putE
 conv => rhs; rw [← List.map_id l]
 apply List.map_congr_left
 intro p hp
 rw [if_neg fun e => h (List.mem_map.mpr ⟨p, hp, e⟩)]; rfl
theorem putE_deg {l : List (Int × List Int)} {u v : Int} {m : Nat} (h : ∀ p ∈ l, p.2.length < m) : ∀ p ∈ putE l u v, p.2.length < m + 1 := by
 intro p hp
 refine el_xaa (List.mem_map.mp hp) fun q hq hsb2 => ?_
 subst hsb2
 have := h q hq
 have := addK_len q.2 v
 by_cases e : q.1 = u
 · rw [if_pos e]; show (addK q.2 v).length < m + 1; lia
 · rw [if_neg e]; lia
theorem lookup_mem {adj : List (Int × List Int)} {u : Int} {l : List Int} (hn : (adj.map (·.1)).Nodup) (h : (u, l) ∈ adj) : adj.lookup u = some l := by
 induction adj with
 | nil => cases h
 | cons p r ih =>
   obtain ⟨a, b⟩ := p
   rw [List.map_cons, List.nodup_cons] at hn
   rw [List.lookup_cons]
   rcases List.mem_cons.mp h with e | h
   · cases e; simp
   · have hne : u ≠ a := fun e => hn.1 (by rw [← e]; exact List.mem_map_of_mem (f := (·.1)) h)
     rw [beq_eq_false_iff_ne.mpr hne]
     exact ih hn.2 h
theorem lookup_off' {adj : List (Int × List Int)} {u : Int} (h : u ∉ adj.map (·.1)) : adj.lookup u = none := by
 induction adj with
 | nil => rfl
 | cons p r ih =>
   obtain ⟨a, b⟩ := p
   rw [List.map_cons, List.mem_cons, not_or] at h
   rw [List.lookup_cons, beq_eq_false_iff_ne.mpr h.1]
   exact ih h.2
theorem lookup_app {adj : List (Int × List Int)} {u k : Int} : (adj ++ [(k, [])]).lookup u = (adj.lookup u).or (if u = k then some [] else none) := by
 induction adj with
 | nil =>
   rw [List.nil_append, List.lookup_cons]
   by_cases h : u = k
   · subst h; simp
   · rw [beq_eq_false_iff_ne.mpr h, if_neg h]; rfl
 | cons p r ih =>
   obtain ⟨a, b⟩ := p
   rw [List.cons_append, List.lookup_cons, List.lookup_cons]
   cases u == a
   · exact ih
   · rfl
theorem adjOf_addN (adj : List (Int × List Int)) (k u : Int) : adjOf (addN adj k) u = adjOf adj u := by
 unfold addN adjOf
 split
 · rfl
 · rename_i h
   rw [lookup_app]
   by_cases e : u = k
   · subst e; rw [lookup_off' h]; simp
   · rw [if_neg e]; simp
section
variable {w : World} {A A' : Around} {E : Value → Shared → Prop} {s : Shared} {g : Heap} {l : Loc} {L : Addr}
structure GrAt (w : World) (h : Heap) (x dx gd nd ad : Addr) (od : Obj) (nv : List (Int × Addr)) (nb : List NB) : Prop where
 inst : W.InstAt h x (instObj 310 dx) 310 (some od)
 gd : h.get? gd = some emptyDict
 nd : h.DictOf (ik w) nd (nv.map fun p => (p.1, .ref p.2))
 ad : h.DictOf (ik w) ad (nb.map fun b => (b.k, .ref b.a))
 nb : ∀ b ∈ nb, h.DictOf (ik w) b.a b.kvs
theorem grParts (P : List (Addr × Obj)) {x dx gd nd ad : Addr} {od ond oad : Obj} {nv : List (Int × Addr)} {nb : List NB} {R : List (Addr × Obj)} {h : Heap}
   (S : St g L h l (P ++ (grL x dx gd nd ad od ond oad nv nb ++ R))) (H : GrIs w dx gd nd ad od ond oad nv nb) : GrAt w h x dx gd nd ad od nv nb := by
 have get : ∀ p ∈ grL x dx gd nd ad od ond oad nv nb, h.get? p.1 = some p.2 := fun p hp => S.get (List.mem_append_right _ (List.mem_append_left _ hp))
 refine ⟨⟨get (x, _) (.head _), rfl, rfl, get (dx, _) (.tail _ (.head _))⟩, get (gd, _) (.tail _ (.tail _ (.head _))), Heap.dictOf_iff.mpr ⟨_, get (nd, _) (.tail _ (.tail _ (.tail _ (.head _)))), H.ond⟩,
   Heap.dictOf_iff.mpr ⟨_, get (ad, _) (.tail _ (.tail _ (.tail _ (.tail _ (.head _))))), H.oad⟩, fun b hb => Heap.dictOf_iff.mpr ⟨_, get (b.a, b.o) (.tail _ (.tail _ (.tail _ (.tail _ (.tail _ (List.mem_append_right _ (List.mem_map.mpr ⟨b, hb, rfl⟩))))))), H.ob b hb⟩⟩
theorem nb_at {nb : List NB} {u : Int} (hu : u ∈ nb.map (·.k)) : ∃ b ∈ nb, b.k = u ∧ valueAt (nb.map fun b => (b.k, Value.ref b.a)) u = some (.ref b.a) := by
 refine el_xaa (valueAt_in (kvs := nb.map fun b => (b.k, Value.ref b.a)) (k := u) (by rw [List.map_map]; exact hu)) fun v hv hm => ?_
 refine el_xaa (List.mem_map.mp hm) fun b hb q => ?_
 refine el_aa (Prod.mk.inj q) fun q1 hsb1 => ?_
 subst hsb1
 exact ⟨b, hb, q1, hv⟩
theorem setNb {x dx gd nd ad : Addr} {od ond oad : Obj} {nv : List (Int × Addr)} {nb : List NB} {b : NB} {P R : List (Addr × Obj)} {v : Int} {t : Tok} {val : Value} {Q : Unit → Shared → Prop}
   (S : St g L s.heap l (P ++ (grL x dx gd nd ad od ond oad nv nb ++ R))) (H : GrIs w dx gd nd ad od ond oad nv nb) (hb : b ∈ nb) (hz : b.kvs.length < 10)
   (h : ∀ h' nb', St g L h' l (P ++ (grL x dx gd nd ad od ond oad nv nb' ++ R)) → GrIs w dx gd nd ad od ond oad nv nb' → nb'.map (·.a) = nb.map (·.a) → nb'.map (·.k) = nb.map (·.k) → nb'.map (fun b => (b.k, b.kvs.map (·.1))) = putE (nb.map fun b => (b.k, b.kvs.map (·.1))) b.k v → 
     nb'.map (fun b => (b.k, b.a)) = nb.map (fun b => (b.k, b.a)) → Q () { s with heap := h', toks := s.toks + 1 }) : wpAny (model prg w) A (setItem (.ref b.a) (.int v t) val) Q E s := by
 refine el_xxa (mem_split hb) fun pre post hsb2 => ?_
 subst hsb2
 have hnk : ((pre ++ b :: post).map (·.k)).Nodup := by
   refine el_xxaaaaa (H.oad) fun _ _ _ _ _ _ nd => ?_
   simpa [List.map_map, Function.comp_def] using nd
 have e : ∀ b' : NB, P ++ (grL x dx gd nd ad od ond oad nv (pre ++ b' :: post) ++ R) = (P ++ ((x, instObj 310 dx) :: (dx, od) :: (gd, emptyDict) :: (nd, ond) :: (ad, oad) :: (nv.map (fun p => (p.2, emptyDict)) ++ pre.map (fun b => (b.a, b.o))))) ++ (b'.a, b'.o) :: (post.map (fun b => (b.a, b.o)) ++ R) := fun b' => by
   simp [grL]
 rw [e] at S
 refine el_xa (⟨_, rfl⟩ : ∃ P', P' = (P ++ ((x, instObj 310 dx) :: (dx, od) :: (gd, emptyDict) :: (nd, ond) :: (ad, oad) :: (nv.map (fun p => (p.2, emptyDict)) ++ pre.map (fun b => (b.a, b.o)))))) fun P' hP' => ?_
 refine el_xa (⟨_, rfl⟩ : ∃ R', R' = (post.map (fun b => (b.a, b.o)) ++ R)) fun R' hR' => ?_
 rw [← hP', ← hR'] at S e
 refine dSet (f := fun o' => P' ++ (b.a, o') :: R') S (fun o' => UpN.app .head P') (H.ob b hb) (by lia) fun h' o' ho' S' => ?_
 have e' := e ⟨b.k, b.a, stored b.kvs v val, o'⟩
 refine h h' (pre ++ ⟨b.k, b.a, stored b.kvs v val, o'⟩ :: post) (by rw [e']; exact S') ⟨H.od, H.ond, by simpa using H.oad, fun b' hb' => ?_, by simpa using H.keys, ⟨H.sm.1, H.sm.2.1, H.sm.2.2.1, H.sm.2.2.2.1, fun b' hb' => ?_⟩, H.len.1, fun b' hb' => ?_⟩ (by simp) (by simp) ?_ (by simp)
 · rcases List.mem_append.mp hb' with m | m
   · exact H.ob b' (List.mem_append_left _ m)
   · rcases List.mem_cons.mp m with rfl | m
     · exact ho'
     · exact H.ob b' (List.mem_append_right _ (.tail _ m))
 · rcases List.mem_append.mp hb' with m | m
   · exact H.sm.2.2.2.2 b' (List.mem_append_left _ m)
   · rcases List.mem_cons.mp m with rfl | m
     · exact H.sm.2.2.2.2 b hb
     · exact H.sm.2.2.2.2 b' (List.mem_append_right _ (.tail _ m))
 · rcases List.mem_append.mp hb' with m | m
   · exact H.len.2 b' (List.mem_append_left _ m)
   · rcases List.mem_cons.mp m with rfl | m
     · have := stored_length_le b.kvs v val
       show (stored b.kvs v val).length ≤ 10
       lia
     · exact H.len.2 b' (List.mem_append_right _ (.tail _ m))
 · rw [List.map_append, List.map_cons, List.map_append, List.map_cons, List.nodup_append, List.nodup_cons] at *
   have h1 : b.k ∉ (pre.map fun b => (b.k, b.kvs.map (·.1))).map (·.1) := by
     rw [List.map_map]; intro m
     exact hnk.2.2 _ m _ (.head _) rfl
   have h2 : b.k ∉ (post.map fun b => (b.k, b.kvs.map (·.1))).map (·.1) := by
     rw [List.map_map]; exact hnk.2.1.1
   have h3 : putE (pre.map (fun b => (b.k, b.kvs.map (·.1))) ++ (b.k, b.kvs.map (·.1)) :: post.map (fun b => (b.k, b.kvs.map (·.1)))) b.k v = putE (pre.map (fun b => (b.k, b.kvs.map (·.1)))) b.k v ++ (b.k, addK (b.kvs.map (·.1)) v) :: putE (post.map (fun b => (b.k, b.kvs.map (·.1)))) b.k v := by
     simp [putE]
   rw [h3, putE_off h1, putE_off h2, stored_keys]
end
section
variable {w : World} {A : Around} {outs : List Env} {base : Heap} {n : Nat} {s : Shared} {E : Value → Shared → Prop}
theorem add_edge_code {x : Addr} {N : List (Addr × Obj)} {ns : List Int} {adj : List (Int × List Int)} {u v : Int} {tu tv : Tok} {R : Result → Shared → Prop}
   (C : Cx w A outs base s.heap (n + 2)) (hS : ∀ a ∈ N.map (·.1), base.get? a = none ∧ ∀ env ∈ outs, env.frame ≠ some a) (hN : ∀ p ∈ N, s.heap.get? p.1 = some p.2) (hnd : (N.map (·.1)).Nodup) (G : Graph w x N ns adj) (hlen : ns.length < 9)
   (hnew : v ∉ adjOf adj u) (hdeg : ∀ p ∈ adj, p.2.length < 9)
   (h : ∀ h' tk' N', Turns N N' s.heap h' → (∀ a ∈ N.map (·.1), a ∈ N'.map (·.1)) → Graph w x N' (addK (addK ns u) v) (putE (putE (addN (addN adj u) v) u v) v u) → R (.ok (.ret .none)) { s with heap := h', toks := tk' }) :
   codeAny (model prg w) A (.call (.ref 224) ⟨[.ref x, .int u tu, .int v tv], []⟩) R s := by
 refine enterKw (binds := fun D => [(Str.ofString "self", .ref x), (Str.ofString "u_of_edge", .int u tu), (Str.ofString "v_of_edge", .int v tv), (Str.ofString "attr", .ref D)]) N hN hnd hS C rfl rfl rfl (fun _ => rfl) (fun _ => locs rfl) (fun D h₁ L tk Qf Ef hQ D0 hDs S CG => ?_)
 dsimp only [locOf, List.reverse, List.reverseAux, List.map] at S
 refine el_xa (⟨_, rfl⟩ : ∃ g, g = hideAll s.heap (N.map (·.1))) fun g hg => ?_
 rw [← hg] at S CG
 walk_at "mm"
 refine Assign_Tuple_swapped ?_
 walk_at "mm"
 refine newT S fun T h2 S _ _ _ => ?_
 refine swap2 CG.hand S (tupIs S (by k_mem)) fun h3 tk3 S => ?_
 replace S := S.sub (List.sublist_cons_self _ _)
 replace S := S.perm (List.perm_append_comm (l₁ := N) (l₂ := [(D, emptyDict)]))
 walk_at "mm"
 refine el_xxxxxxxxxxxa (G.inst fun p hp => S.get (List.mem_append_left _ hp)) fun dx hh1 t1 hh2 t2 hh3 t3 gd nd ad m I => ?_
 refine methA S CG I rfl ?_
 walk_at "mm"
 refine wpAny_call (add_node_code (CG.push S) (CG.apartN S) (fun p hp => S.get (List.mem_append_left _ hp)) hnd G (by lia) fun h4 tk4 N2 T2 sub2 G2 => ?_)
 have old2 := oldStep (N0 := N) (by rw [hg] at S; exact S) (fun _ m => m) (fun p hp => .inl (List.mem_map_of_mem hp)) T2
 replace S := callSt S T2
 walk_at "mm"
 refine el_xxxxxxxxxxxa (G2.inst fun p hp => S.get (List.mem_append_left _ hp)) fun dx hh1 t1 hh2 t2 hh3 t3 gd nd ad m I => ?_
 refine methA S CG I rfl ?_
 walk_at "mm"
 have len2 := addK_len ns u
 refine wpAny_call (add_node_code (CG.push S) (CG.apartN S) (fun p hp => S.get (List.mem_append_left _ hp)) T2.nd G2 (by show (addK ns u).length < 10; lia) fun h5 tk5 N3 T3 sub3 G3 => ?_)
 have old3 := oldStep (N0 := N) (by rw [hg] at S; exact S) sub2 old2 T3
 replace S := callSt S T3
 have hks : adjOf (addN (addN adj u) v) u = adjOf adj u := by rw [adjOf_addN, adjOf_addN]
 have hd3 : ∀ p ∈ addN (addN adj u) v, p.2.length < 9 := addN_deg (P := fun l => l.length < 9) (addN_deg (P := fun l => l.length < 9) hdeg (by decide)) (by decide)
 refine el_xxxxxxxxxaaaa G3 fun dx gd nd ad od ond oad nv nb hsb9 H hns hadj => ?_
 try clear G3
 subst hsb9
 refine el_xxxxxxxa (H.od) fun hh1 t1 hh2 t2 hh3 t3 m hod => ?_
 subst hod
 refine el_aaaaa (H.sm) fun sm1 sm2 sm3 sm4 sm5 => ?_
 have hu : u ∈ nb.map (·.k) := by rw [H.keys, ← hns]; exact mem_addK.mpr (.inl (mem_addK.mpr (.inr rfl)))
 have hv : v ∈ nb.map (·.k) := by rw [H.keys, ← hns]; exact mem_addK.mpr (.inr rfl)
 refine el_xaaa (nb_at hu) fun b hb hbk hbv => ?_
 have hnk : ((nb.map fun b => (b.k, b.kvs.map (·.1))).map (·.1)).Nodup := by
   refine el_xxaaaaa (H.oad) fun _ _ _ _ _ _ nd => ?_
   simpa [List.map_map, Function.comp_def] using nd
 have hbl : adjOf (nb.map fun b => (b.k, b.kvs.map (·.1))) u = b.kvs.map (·.1) := by
   unfold adjOf
   rw [lookup_mem hnk (List.mem_map.mpr ⟨b, hb, by rw [← hbk]⟩)]; rfl
 walk_at "mm"
 have GA := grParts [] S H
 refine getA S CG GA.inst rfl rfl ?_
 walk_at "mm"
 refine dSub GA.ad hbv ?_
 walk_at "mm"
 refine dMeth PySem.F.slot_dict_get PySem.F.type_dict_get (GA.nb b hb) ?_
 walk_at "mm"
 refine newDi S CG fun dd h6 S dd0 _ dds => ?_
 walk_at "mm"
 have GA := grParts [_] S H
 refine dGetD (GA.nb b hb) (sm5 b hb) ?_
 rw [valueAt_off (by rw [← hbl, ← hadj, hks]; exact hnew)]
 walk_at "mm"
 have hne : dd ≠ D := fun e => by
   have := S.nd
   rw [e] at this
   simp at this
 refine dMeth PySem.F.slot_dict_update PySem.F.type_dict_update (dOf S (.head _) emptyIs) ?_
 walk_at "mm"
 have hDm : (D, emptyDict) ∈ (dd, emptyDict) :: (grL x dx gd nd ad (grD hh1 t1 hh2 t2 hh3 t3 gd nd ad m) ond oad nv nb ++ [(D, emptyDict)]) := .tail _ (List.mem_append_right _ (.head _))
 refine call_upd0 hne hDs (dOf (w := w) S (.head _) emptyIs) (dOf (w := w) S hDm emptyIs) ?_
 walk_at "mm"
 have GA := grParts [_] S H
 refine getA S CG GA.inst rfl rfl ?_
 walk_at "mm"
 refine dSub GA.ad hbv ?_
 walk_at "mm"
 have hdeg2 : ∀ b ∈ nb, b.kvs.length < 9 := fun b hb => by
   have := hd3 (b.k, b.kvs.map (·.1)) (by rw [hadj]; exact List.mem_map.mpr ⟨b, hb, rfl⟩)
   simpa using this
 refine setNb (P := [(dd, emptyDict)]) (R := [(D, emptyDict)]) S H hb (by have := hdeg2 b hb; lia) fun h7 nb2 S H2 ea ek ekv eka => ?_
 walk_at "mm"
 have GA := grParts [_] S H2
 refine getA S CG GA.inst rfl rfl ?_
 walk_at "mm"
 refine el_xaaa (nb_at (nb := nb2) (by rw [ek]; exact hv)) fun b2 hb2 hbk2 hbv2 => ?_
 refine dSub GA.ad hbv2 ?_
 walk_at "mm"
 refine setNb (P := [(dd, emptyDict)]) (R := [(D, emptyDict)]) S H2 hb2 ?_ fun h8 nb3 S H3 ea3 ek3 ekv3 eka3 => ?_
 · have h1 := putE_deg (u := b.k) (v := v) hd3 (b2.k, b2.kvs.map (·.1)) (by rw [hadj, ← ekv]; exact List.mem_map.mpr ⟨b2, hb2, rfl⟩)
   simpa using h1
 walk_at "mm"
 refine hQ _ _ ?_
 have S' : St g L h8 _ ([(dd, emptyDict), (D, emptyDict)] ++ grL x dx gd nd ad (grD hh1 t1 hh2 t2 hh3 t3 gd nd ad m) ond oad nv nb3) := S.perm (.cons _ (List.perm_append_comm (l₁ := [(D, emptyDict)])))
 have eA : (grL x dx gd nd ad (grD hh1 t1 hh2 t2 hh3 t3 gd nd ad m) ond oad nv nb3).map (·.1) = (grL x dx gd nd ad (grD hh1 t1 hh2 t2 hh3 t3 gd nd ad m) ond oad nv nb).map (·.1) := by rw [grL_addrs, grL_addrs, ea3, ea]
 refine h _ _ _ (Turns.of (R := [(dd, emptyDict), (D, emptyDict)]) (by rw [hg] at S'; exact S') fun p hp => ?_) (fun a ha => ?_) ⟨dx, gd, nd, ad, _, ond, oad, nv, nb3, rfl, H3, hns, ?_⟩
 · have := List.mem_map_of_mem (f := (·.1)) hp
   rw [eA] at this
   refine el_xaa (List.mem_map.mp this) fun q hq e => ?_
   have := old3 q hq
   rw [e] at this; exact this
 · rw [eA]; exact sub3 a (sub2 a ha)
 · rw [ekv3, ekv, hbk, hbk2, ← hadj]
end
section
variable {w : World} {A : Around} {outs : List Env} {base : Heap} {n : Nat} {s : Shared} {E : Value → Shared → Prop}
theorem Cx.under {h : Heap} {K : Addr} {vals : List Value} {kw : List (Str × Value)} (C : Cx w A outs base h (n + 1)) : Cx w (A.under (.builtin "type.__call__" ⟨.ref K :: vals, kw⟩)) outs base h n := by
 have h1 := C.deep
 have h2 := C.room
 refine ⟨C.bs, ⟨?_, C.below.stays, C.below.frames⟩, C.hand, ?_, ?_, ?_⟩
 · exact C.below.stack
 · exact C.guards
 · show A.depth + 1 + 20 * n ≤ 900; lia
 · have e : (A.under (.builtin "type.__call__" ⟨.ref K :: vals, kw⟩)).units = A.units + 1 := by
     show A.units + _ = _
     rfl
   rw [e]; lia
theorem graph_init {x dx : Addr} {R : Result → Shared → Prop} (C : Cx w A outs base s.heap (n + 1)) (hS : ∀ a ∈ [x, dx], base.get? a = none ∧ ∀ env ∈ outs, env.frame ≠ some a)
   (hx : s.heap.get? x = some (instObj 310 dx)) (hdx : s.heap.get? dx = some emptyDict) (hne : x ≠ dx)
   (h : ∀ h' tk' N', Turns [(x, instObj 310 dx), (dx, emptyDict)] N' s.heap h' → (∀ a ∈ [x, dx], a ∈ N'.map (·.1)) → Graph w x N' [] [] → R (.ok (.ret .none)) { s with heap := h', toks := tk' }) :
   codeAny (model prg w) A (.call (.ref 151) ⟨[.ref x], []⟩) R s := by
 refine enterKw (binds := fun D => [(Str.ofString "self", .ref x), (Str.ofString "incoming_graph_data", .none), (Str.ofString "attr", .ref D)]) [(x, instObj 310 dx), (dx, emptyDict)] (by simp [hx, hdx]) (by simp [hne]) hS C rfl rfl rfl (fun _ => rfl) (fun _ => locs rfl) (fun D h₁ L tk Qf Ef hQ D0 hDs S CG => ?_)
 dsimp only [locOf, List.reverse, List.reverseAux, List.map] at S
 refine el_xa (⟨_, rfl⟩ : ∃ g, g = hideAll s.heap ([(x, instObj 310 dx), (dx, emptyDict)].map (·.1))) fun g hg => ?_
 have hg' : g = hideAll s.heap [x, dx] := hg
 rw [← hg] at CG
 rw [show hideAll s.heap [x, dx] = g from hg'.symm] at S
 walk_at "mm"
 have S0 := S
 refine newDi S CG fun gd h2 S gd0 _ gds => ?_
 have gdF : s.heap.get? gd = none := by
   rw [hg'] at S0; exact freshSt S0 (fun a ha => by simp at ha ⊢; first | exact ha | exact .inr ha) gd0
 walk_at "mm"
 refine setA (es' := [⟨_, .str (Str.ofString "graph") _, .ref gd⟩]) (k' := _) S CG (InstAt.of_news S.nw (by k_mem) (by k_mem)) rfl rfl rfl (.tail (.tail (.tail .head))) (by simp) fun h3 S => ?_
 walk_at "mm"
 have S0 := S
 refine newDi S CG fun nd h4 S nd0 _ nds => ?_
 have ndF : s.heap.get? nd = none := by
   rw [hg'] at S0; exact freshSt S0 (fun a ha => by simp at ha ⊢; first | exact .inr ha | exact .inr (.inr ha)) nd0
 walk_at "mm"
 refine setA (es' := [⟨_, .str (Str.ofString "graph") _, .ref gd⟩, ⟨_, .str (Str.ofString "_node") _, .ref nd⟩]) (k' := _) S CG (InstAt.of_news S.nw (by k_mem) (by k_mem)) rfl rfl rfl (.tail (.tail (.tail (.tail .head)))) (by simp) fun h5 S => ?_
 walk_at "mm"
 have S0 := S
 refine newDi S CG fun ad h6 S ad0 _ ads => ?_
 have adF : s.heap.get? ad = none := by
   rw [hg'] at S0; exact freshSt S0 (fun a ha => by simp at ha ⊢; first | exact .inr (.inr ha) | exact .inr (.inr (.inr ha))) ad0
 walk_at "mm"
 refine setA (es' := [⟨_, .str (Str.ofString "graph") _, .ref gd⟩, ⟨_, .str (Str.ofString "_node") _, .ref nd⟩, ⟨_, .str (Str.ofString "_adj") _, .ref ad⟩]) (k' := _) S CG (InstAt.of_news S.nw (by k_mem) (by k_mem)) rfl rfl rfl (.tail (.tail (.tail (.tail (.tail .head))))) (by simp) fun h7 S => ?_
 walk_at "mm"
 refine isn_call (P := fun _ => True) (CG.kinAt S.keep) (fun M => Looks.of_pure rfl) (by rfl) (by intro e; cases e) trivial none_cls ?_
 walk_at "mm"
 refine wpAny_isNot_self rfl ?_
 walk_at "mm"
 refine getA S CG (InstAt.of_news S.nw (by k_mem) (by k_mem)) rfl rfl ?_
 walk_at "mm"
 refine dMeth PySem.F.slot_dict_update PySem.F.type_dict_update (dOf S (by k_mem) emptyIs) ?_
 walk_at "mm"
 have hgD : gd ≠ D := fun e => by
   have := S.nd
   rw [e] at this
   simp at this
 refine call_upd0 hgD hDs (dOf (w := w) S (by k_mem) emptyIs) (dOf (w := w) S (by k_mem) emptyIs) ?_
 walk_at "mm"
 refine hQ _ _ ?_
 have p6 : ∀ a b c d e f : Addr × Obj, ([a, b, c, d, e, f]).Perm [f, e, d, a, b, c] := fun a b c d e f => (List.perm_append_comm (l₁ := [a, b, c]) (l₂ := [d, e, f])).trans (List.Perm.append_right [a, b, c] (List.reverse_perm [d, e, f]).symm)
 have S' : St g L h7 _ ([(D, emptyDict)] ++ grL x dx gd nd ad (grD _ _ _ _ _ _ gd nd ad _) emptyDict emptyDict [] []) := S.perm (p6 _ _ _ _ _ _)
 refine h _ _ _ (Turns.of (R := [(D, emptyDict)]) (by rw [hg] at S'; exact S') fun p hp => ?_) (fun a ha => ?_) ⟨dx, gd, nd, ad, _, emptyDict, emptyDict, [], [], rfl, ⟨⟨_, _, _, _, _, _, _, rfl⟩, emptyIs, emptyIs, (fun b hb => nomatch hb), rfl, ⟨gds, nds, ads, (fun _ h => nomatch h), (fun _ h => nomatch h)⟩, ⟨Nat.zero_le _, (fun _ h => nomatch h)⟩⟩, rfl, rfl⟩
 · have := List.mem_map_of_mem (f := (·.1)) hp
   rw [grL_addrs] at this
   simp at this
   rcases this with e | e | e | e | e <;> rw [e] <;> simp [*]
 · rw [grL_addrs]; simp at ha ⊢
   rcases ha with e | e <;> simp [e]
end
section
variable {w : World} {A A' : Around} {outs : List Env} {base : Heap} {n : Nat} {E : Value → Shared → Prop} {s : Shared} {g : Heap} {N N' : List (Addr × Obj)} {l : Loc} {env : Env} {v : Value} {L d D : Addr}
theorem mergeMap0 {Q : Unit → Shared → Prop} (hs : (D == sysModules) = false) (hD : s.heap.DictOf (ik w) D []) (hd : s.heap.DictOf (ik w) d []) (h : Q () s) : wpAny (model prg w) A (mergeMapping d (.ref D) true) Q E s := by
 refine el_xxxaaaaaa (id hD) fun oo eso epo hoo hco hdo' hko hpo hno => ?_
 refine el_xxxaaaaaa (id hd) fun od esd epd hod hcd hdd hkd hpd hnd => ?_
 have h0 : eso = #[] := Array.eq_empty_of_size_eq_zero (by have := hpo.length; simpa using this)
 subst h0
 unfold mergeMapping
 refine wpAny_bind (wpAny_isInstance hD.typeIs isSubtype_dict_dict ?_)
 rw [if_pos rfl]
 refine wpAny_bind (wpAny_specialOf hD.typeIs PySem.F.slot_dict_iter.lookup ?_)
 refine wpAny_bind (wpAny_pure ?_)
 show wpAny _ _ (if (D == sysModules) = true then _ else _) _ _ s
 rw [if_neg (by rw [hs]; exact Bool.false_ne_true)]
 refine wpAny_bind (wpAny_dictEntries hod hdd ?_)
 have tail : wpAny (model prg w) A (do
     let size := (← dictEntries D).size
     let epoch ← dictEpoch D
     for i in List.range size do
       let some e := (← dictEntries D)[i]? | unsupported "dict.changed-during-merge"
       holding [e.key, e.val] do
         if true then
           if (← dictFind d e.key e.hash).isSome then rule "dict.merge.duplicate-key"; raiseNew (← newExc (.type "KeyError") [e.key])
         dictPut d e.hash e.key e.val
       if (← dictEpoch D) != epoch then unsupported "dict.changed-during-merge") Q E s := by
   refine wpAny_bind (wpAny_dictEntries hoo hdo' ?_)
   refine wpAny_bind (wpAny_dictEpoch hoo hdo' ?_)
   exact wpAny_bind (wpAny_pure (wpAny_pure h))
 dsimp only
 split
 · refine wpAny_bind (wpAny_dictEntries hoo hdo' ?_)
   refine wpAny_bind ?_
   exact wpAny_pure tail
 · exact tail
theorem kwMerged {f : Value} {x : Sem Value} {Q : Addr → Shared → Prop} (C : Cx w A' outs base g n) (S : St g L s.heap l N)
   (hx : ∀ a h', St g L h' l ((a, emptyDict) :: N) → s.heap.get? a = none → wpAny (model prg w) A x (fun v s₁ => ∃ D, v = .ref D ∧ (D == sysModules) = false ∧ s₁.heap.DictOf (ik w) D [] ∧ s₁.heap.DictOf (ik w) a [] ∧ Q a s₁) E { s with heap := h' }) :
   wpAny (model prg w) A (mergedKeywords f [(none, x)]) Q E s := by
 unfold mergedKeywords
 refine wpAny_bind (wpAny_alloc ?_)
 have a0 := get_size s.heap
 have S1 := S.add (a := s.heap.objs.size) (o := emptyDict) (fun b o e => Heap.get?_push_of_some _ e) (Heap.get?_push_size _ rfl) a0
 have hx' := hx _ _ S1 a0
 refine wpAny_bind (wpAny_holding ?_)
 refine wpAny_bind ?_
 rw [List.forIn_cons]
 refine wpAny_bind ?_
 refine wpAny_bind (wpAny_pure ?_)
 refine wpAny_bind (wpAny_mono hx' (fun v s₁ h₁ => ?_) fun _ _ y => y)
 refine el_xaaaaa h₁ fun D hsb1 h1 h2 h3 hq => ?_
 try clear h₁
 subst hsb1
 refine wpAny_bind (wpAny_onRaise (wpAny_holding (wpAny_tryCatch (wpAny_onRaise (mergeMap0 h1 h2 h3 ?_)))))
 refine wpAny_pure ?_
 refine wpAny_pure ?_
 refine wpAny_bind (wpAny_pure ?_)
 exact wpAny_pure (wpAny_pure hq)
theorem kwIn0 {f : Value} {a : Addr} {Q : List (Str × Value) → Shared → Prop} (ha : s.heap.DictOf (ik w) a []) (h : Q [] s) : wpAny (model prg w) A (keywordsIn f a) Q E s := by
 refine el_xxxaaaaaa (id ha) fun oo eso epo hoo hco hdo' hko hpo hno => ?_
 have h0 : eso = #[] := Array.eq_empty_of_size_eq_zero (by have := hpo.length; simpa using this)
 subst h0
 unfold keywordsIn
 refine wpAny_bind (wpAny_dictEntries hoo hdo' ?_)
 exact wpAny_bind (wpAny_pure (wpAny_pure h))
theorem callStar {q f : Addr} {self : Value} {first : List Value} {pos : Pos} {t1 x : Sem Value} {Q : Value → Shared → Prop} (C : Cx w A' outs base g n) (hf : fnIn (KF w) f = true)
   (h1 : wpAny (model prg w) A t1 (fun v s₁ => ∃ l N, St g L s₁.heap l N ∧ (q, methodObj (.ref f) self) ∈ N ∧ ∀ a h', St g L h' l ((a, emptyDict) :: N) → s₁.heap.get? a = none → wpAny (model prg w) A x (fun d s₂ => ∃ D, d = .ref D ∧ (D == sysModules) = false ∧ s₂.heap.DictOf (ik w) D [] ∧ St g L s₂.heap l ((a, emptyDict) :: N) ∧
     wpAny (model prg w) A (call (.ref q) (first ++ [v])) Q E s₂) E { s₁ with heap := h' }) E s) :
   wpAny (model prg w) A (callWith pos (.ref q) first [(false, t1)] [(none, x)]) Q E s := by
 unfold callWith
 refine wpAny_bind (wpAny_holding ?_)
 unfold evalArgs
 dsimp only
 refine wpAny_bind (Calls.spliced_cons (wpAny_mono h1 (fun v s₁ hv => Calls.spliced_nil ?_) fun _ _ y => y))
 refine el_xxaaa hv fun l N S hq hx => ?_
 try clear hv
 refine wpAny_bind (wpAny_pure (wpAny_holding ?_))
 rw [if_neg (show ¬ (([(none, x)] : List (Option Str × Sem Value)).all fun x => x.1.isSome) = true from Bool.false_ne_true)]
 refine wpAny_bind (kwMerged C S fun a h' S' a0 => wpAny_mono (hx a h' S' a0) (fun d s₂ h₂ => ?_) fun _ _ y => y)
 refine el_xaaaaa h₂ fun D hsb1 hs hD S2 hc => ?_
 try clear h₂
 subst hsb1
 have ha := dOf (w := w) S2 (.head _) emptyIs
 refine ⟨D, rfl, hs, hD, ha, ?_⟩
 refine wpAny_bind (wpAny_pure ?_)
 refine wpAny_bind (wpAny_holding (kwIn0 ha ?_))
 refine wpAny_pure ?_
 refine wpAny_bind (wpAny_standAt ?_)
 refine el_xaa (keeps_M (M := model prg w) hf s₂.heap (X := (⟨S2.get (.tail _ hq), C.kinAt S2.keep⟩ : MethP (KF w) q f self s₂.heap))) fun k hk' LK => ?_
 refine wpAny_bind (LK.here ?_)
 have tail : ∀ {t : Sem Value}, wpAny (model prg w) A t Q E s₂ → wpAny (model prg w) A (t >>= fun r => holding [r] point >>= fun _ => pure r) Q E s₂ :=
   fun ht => wpAny_bind (wpAny_mono ht (fun r s₂ hr => wpAny_bind (wpAny_holding (wpAny_point (wpAny_pure hr)))) fun _ _ x => x)
 have hc' : wpAny (model prg w) A (call (.ref q) (first ++ [v]) []) Q E s₂ := hc
 rcases hk' with rfl | rfl | rfl
 · exact tail (by unfold callMarked; exact Calls.wpAny_keep hc')
 · exact tail (wpAny_operating hc')
 · exact tail (wpAny_operating hc')
end
theorem mcStar {w : World} {A : Around} {E : Value → Shared → Prop} {s : Shared} {env : Env} {o : PySem.Expr} {name : Str} {apos pos : Pos} {args : List PySem.Expr} {k1 : PySem.Expr} {kp : Pos} {Q : Value → Shared → Prop}
   (h : wpAny (model prg w) A (eval o env) (fun ov s₁ => wpAny (model prg w) A (getAttr ov name true) (fun f s₂ => wpAny (model prg w) A (callWith pos f [] (backTo pos (starEach args env)) (backToKw pos (keywordEach [⟨none, k1, kp⟩] env))) Q E s₂) E s₁) E s)
   (he : eval (.Call (.Attribute o name apos) args [⟨none, k1, kp⟩] pos) env = (do
     let ov ← eval o env
     standAt apos.atName
     let (f, first) ← holding [ov] (do pure (← getAttr ov name true, ([] : List Value)))
     let callPos ← (pure pos : Sem Pos)
     callWith callPos f first (backTo pos (starEach args env)) (backToKw pos (keywordEach [⟨none, k1, kp⟩] env))) := by rfl) :
   wpAny (model prg w) A (eval (.Call (.Attribute o name apos) args [⟨none, k1, kp⟩] pos) env) Q E s := by
 rw [he]
 refine wpAny_bind (wpAny_mono h (fun ov s₁ h₁ => wpAny_bind (wpAny_standAt (wpAny_bind (wpAny_holding (wpAny_bind (wpAny_mono h₁ (fun f s₂ h₂ => wpAny_pure ?_) fun _ _ y => y)))))) fun _ _ y => y)
 exact wpAny_bind (wpAny_pure h₂)
section
variable {w : World} {A A' : Around} {outs : List Env} {base : Heap} {n : Nat} {s : Shared} {E : Value → Shared → Prop} {g : Heap} {L : Addr} {l : Loc} {N : List (Addr × Obj)}
theorem boundA {x C' : Addr} {f : Addr} {es : List DictEntry} {k : Nat} {name : Str} {ox : Obj} {expr : Bool} {Q : Value → Shared → Prop} (S : St g L s.heap l N) (C : Cx w A' outs base g n) (I : W.InstAt s.heap x ox C' (some (dictOf es k))) (hl : getL name es = some none)
   (h : ∀ q h', St g L h' l ((q, methodObj (.ref f) (.ref x)) :: N) → s.heap.get? q = none → Q (.ref q) { s with heap := h', toks := s.toks + 1 })
   (hg : plainGet (KF w) C' name = true := by rfl) (hh : hasDictIn (KF w) C' = true := by rfl) (ha : findIn (KF w) (.ref C') name = some (some (.ref f)) := by rfl) (hf : isFn (KF w) (.ref f) = true := by rfl)
   (hgf : specialIn (KF w) (.ref f) "__get__" = some (some (.builtin "function.__get__")) := by rfl) (ht : takesIn (KF w) (.ref f) = some false := by rfl) (hc : copiedNames.contains name = false := by decide +kernel) : wpAny (model prg w) A (getAttr (.ref x) name expr) Q E s := by
 have S1 := S.add (a := s.heap.objs.size) (o := methodObj (.ref f) (.ref x)) (fun b o e => Heap.get?_push_of_some _ e) (Heap.get?_push_size _ rfl) (get_size _)
 exact get_bind (C.kinAt S.keep) I (plainGet_of hg).1 (findObj_fn hh ha hgf ht hc (by show lookIn name (dictOf es k) = _; rw [lookIn_dict, hl])) (plainGet_of hg).2
   (wpAny_call (fn_get (s := { s with toks := s.toks + 1 }) (C.kinAt S.keep) (beq_iff_eq.mp hf) (handed_on rfl (h s.heap.objs.size _ S1 (get_size _)))))
noncomputable def uto (n : Nat) : List Int := List.map (fun i : Nat => (i : Int)) (List.range n)
theorem uto_succ (n : Nat) : uto (n + 1) = uto n ++ [(n : Int)] := by simp [uto, List.range_succ]
theorem uto_mem {n : Nat} {k : Int} : k ∈ uto n ↔ 0 ≤ k ∧ k < n := by
 simp [uto]
 constructor
 · rintro ⟨a, h, rfl⟩; lia
 · intro h; exact ⟨k.toNat, by lia, by lia⟩
theorem uto_len (n : Nat) : (uto n).length = n := by simp [uto]
theorem addK_uto (n : Nat) : addK (uto n) n = uto (n + 1) := by
 unfold addK
 rw [if_neg fun h => by have := uto_mem.mp h; lia, uto_succ]
theorem addN_uto (n : Nat) : addN ((uto n).map fun k => (k, [])) n = (uto (n + 1)).map fun k => (k, []) := by
 unfold addN
 rw [if_neg fun h => by rw [List.map_map] at h; have h' : (n : Int) ∈ (uto n).map id := h; rw [List.map_id] at h'; have := uto_mem.mp h'; lia, uto_succ, List.map_append]
 rfl
theorem add_nodes_code {x r : Addr} {nn : Nat} {t u v : Tok} {N : List (Addr × Obj)} {R : Result → Shared → Prop}
   (C : Cx w A outs base s.heap (n + 2)) (hS : ∀ a ∈ N.map (·.1), base.get? a = none ∧ ∀ env ∈ outs, env.frame ≠ some a) (hN : ∀ p ∈ N, s.heap.get? p.1 = some p.2) (hnd : (N.map (·.1)).Nodup) (G : Graph w x N [] [])
   (hr : IsRange s.heap r 0 nn 1 t u v) (hrN : r ∉ N.map (·.1)) (hn : nn ≤ 6)
   (h : ∀ h' tk' N', Turns N N' s.heap h' → (∀ a ∈ N.map (·.1), a ∈ N'.map (·.1)) → Graph w x N' (uto nn) ((uto nn).map fun k => (k, [])) → R (.ok (.ret .none)) { s with heap := h', toks := tk' }) :
   codeAny (model prg w) A (.call (.ref 217) ⟨[.ref x, .ref r], []⟩) R s := by
 refine enterKw (binds := fun D => [(Str.ofString "self", .ref x), (Str.ofString "nodes_for_adding", .ref r), (Str.ofString "attr", .ref D)]) N hN hnd hS C rfl rfl rfl (fun _ => rfl) (fun _ => locs rfl) (fun D h₁ L tk Qf Ef hQ D0 hDs S CG => ?_)
 dsimp only [locOf, List.reverse, List.reverseAux, List.map] at S
 refine el_xa (⟨_, rfl⟩ : ∃ g, g = hideAll s.heap (N.map (·.1))) fun g hg => ?_
 rw [← hg] at S CG
 have hrg : IsRange g r 0 nn 1 t u v := by rw [hg]; exact hideAll_get _ hr hrN
 replace S := S.perm (List.perm_append_comm (l₁ := N) (l₂ := [(D, emptyDict)]))
 walk_at "mm"
 replace S := St.relist (l' := [("n", none), ("attr", some (.ref D)), ("nodes_for_adding", some (.ref r)), ("self", some (.ref x))]) S (by rfl)
 refine for_src (E' := fun _ _ => False) (fun i l N' G' => ∃ on Ng, l = ([("n", on), ("attr", some (.ref D)), ("nodes_for_adding", some (.ref r)), ("self", some (.ref x))] : Loc) ∧ N' = Ng ++ [(D, emptyDict)] ∧ Graph w x Ng (uto i) ((uto i).map fun k => (k, [])) ∧
   (∀ p ∈ Ng, p.1 ∈ N.map (·.1) ∨ s.heap.get? p.1 = none) ∧ ∀ a ∈ N.map (·.1), a ∈ Ng.map (·.1)) (Src.range C.hand (by lia) hrg ?_) S (in_x2 none N ⟨rfl, rfl, G, fun p hp => .inl (List.mem_map_of_mem hp), fun _ m => m⟩) ?_ ?_ (fun _ _ x => x.elim)
 case refine_1 => intro v M Q E s I h; exact wpAny_pure h
 case refine_2 =>
   intro Jq Ji i v l N' G' h1 tk1 gb Bq hlt hP hJ k1 k2 S HB
   refine el_xxaaaaa hJ fun on Ng hsb2 hsb3 Gi old sub => ?_
   try clear hJ
   replace S := St.at2 hsb2 hsb3 S
   refine el_xa hP fun ti hsb1 => ?_
   try clear hP
   subst hsb1
   have CG' := CG.keeps fun b o e => k2 b o (k1 b o e)
   walk_at "mm"
   refine mcStar ?_
   walk_at "mm"
   refine el_xxxxxxxxxxxa (Gi.inst fun p hp => S.get (List.mem_append_left _ hp)) fun dx hh1 t1 hh2 t2 hh3 t3 gd nd ad m I => ?_
   refine boundA S CG' I rfl fun q h2 S q0 => ?_
   refine callStar (self := .ref x) (f := 210) (L := L) CG' rfl ?_
   rw [if_neg Bool.false_ne_true]
   walk_at "mm"
   refine in_x2 _ _ ⟨S, .head _, fun a h3 S a0 => ?_⟩ -- in56
   refine wpAny_bind ?_
   walk_at "mm"
   refine wpAny_bind (wpAny_standAt (wpAny_pure ?_))
   refine ⟨D, rfl, hDs, dOf S (.tail _ (.tail _ (List.mem_append_right _ (.head _)))) emptyIs, S, ?_⟩
   have S1 := S.sub (N' := Ng ++ [(D, emptyDict)]) ((List.sublist_cons_self _ _).trans (List.sublist_cons_self _ _))
   have hgu : (uto i).length < 10 := by rw [uto_len]; lia
   refine call_meth S.nw (.tail _ (.head _)) (add_node_code (CG'.push S1) (CG'.apartN S1) (fun p hp => S1.get (List.mem_append_left _ hp)) ?_ Gi hgu fun h4 tk4 N2 T2 sub2 G2 => ?_)
   · have nd := S1.nd
     rw [List.map_append, List.nodup_append] at nd
     exact nd.1
   have oldT : ∀ p ∈ N2, p.1 ∈ N.map (·.1) ∨ s.heap.get? p.1 = none := fun p hp => by
     rcases T2.old p hp with m | e
     · refine el_xaa (List.mem_map.mp m) fun p' hp' q => ?_
       rw [← q]; exact old p' hp'
     · refine .inr ?_
       have kk : ∀ b o, g.get? b = some o → h3.get? b = some o := fun b o e => S1.keep b o (k2 b o (k1 b o e))
       cases q : s.heap.get? p.1 with
       | none => rfl
       | some o =>
         by_cases m : p.1 ∈ N.map (·.1)
         · refine el_xaa (List.mem_map.mp (sub _ m)) fun p' hp' r' => ?_
           have := S1.get (List.mem_append_left _ hp')
           rw [r', e] at this; cases this
         · have := kk _ _ (by rw [hg]; exact hideAll_get _ q m)
           rw [e] at this; cases this
   have S2 := callSt S1 T2
   walk_at "mm"
   rw [addK_uto, addN_uto] at G2
   replace S2 := St.relist (l' := [("n", some (.int i ti)), ("attr", some (.ref D)), ("nodes_for_adding", some (.ref r)), ("self", some (.ref x))]) S2 (by rfl)
   exact HB _ _ (BodyEnd.nx [] S2 fun G3 _ _ => Ji _ _ _ _ (in_x2 _ N2 ⟨rfl, rfl, G2, oldT, fun a ha => sub2 a (sub a ha)⟩))
 intro l N' G' h1 tk1 hJ k1 S
 refine el_xxaaaaa hJ fun on Ng hsb2 hsb3 Gi old sub => ?_
 try clear hJ
 replace S := St.at2 hsb2 hsb3 S
 walk_at "mm"
 refine hQ _ _ (h _ _ Ng ?_ sub Gi)
 have S' := S.perm (List.perm_append_comm (l₁ := [(D, emptyDict)]) (l₂ := Ng))
 exact Turns.of (R := [(D, emptyDict)]) ((by rw [← hg]; exact S'.weak k1)) old
end
noncomputable def GraphG (w : World) (h : Heap) (x : Addr) (ns : List Int) (adj : List (Int × List Int)) : Prop := ∃ N, Graph w x N ns adj ∧ ∀ p ∈ N, h.get? p.1 = some p.2
theorem GraphG.ext {w : World} {h h' : Heap} {x : Addr} {ns : List Int} {adj : List (Int × List Int)} (G : GraphG w h x ns adj) (k : ∀ b o, h.get? b = some o → h'.get? b = some o) : GraphG w h' x ns adj :=
 let ⟨N, a, b⟩ := G; ⟨N, a, fun p hp => k _ _ (b p hp)⟩
structure GrRead (w : World) (h : Heap) (x dx gd nd ad : Addr) (od : Obj) (nv : List (Int × Addr)) (nb : List NB) (ns : List Int) (adj : List (Int × List Int)) : Prop where
 at_ : GrAt w h x dx gd nd ad od nv nb
 od : GrDict gd nd ad od
 ns : ns = nv.map (·.1)
 adj : adj = nb.map fun b => (b.k, b.kvs.map (·.1))
 keys : nb.map (·.k) = nv.map (·.1)
 sm : (gd == sysModules) = false ∧ (nd == sysModules) = false ∧ (ad == sysModules) = false ∧ (∀ p ∈ nv, (p.2 == sysModules) = false) ∧ ∀ b ∈ nb, (b.a == sysModules) = false
 len : nv.length ≤ 10 ∧ ∀ b ∈ nb, b.kvs.length ≤ 10
 nd : (nb.map (·.k)).Nodup
theorem GraphG.at {w : World} {h : Heap} {x : Addr} {ns : List Int} {adj : List (Int × List Int)} (G : GraphG w h x ns adj) : ∃ dx gd nd ad od nv nb, GrRead w h x dx gd nd ad od nv nb ns adj := by
 obtain ⟨N, ⟨dx, gd, nd, ad, od, ond, oad, nv, nb, rfl, H, hns, hadj⟩, get⟩ := G
 refine ⟨dx, gd, nd, ad, od, nv, nb, ⟨⟨get (x, _) (.head _), rfl, rfl, get (dx, _) (.tail _ (.head _))⟩, get (gd, _) (.tail _ (.tail _ (.head _))), Heap.dictOf_iff.mpr ⟨_, get (nd, _) (.tail _ (.tail _ (.tail _ (.head _)))), H.ond⟩,
   Heap.dictOf_iff.mpr ⟨_, get (ad, _) (.tail _ (.tail _ (.tail _ (.tail _ (.head _))))), H.oad⟩, fun b hb => Heap.dictOf_iff.mpr ⟨_, get (b.a, b.o) (.tail _ (.tail _ (.tail _ (.tail _ (.tail _ (List.mem_append_right _ (List.mem_map.mpr ⟨b, hb, rfl⟩))))))), H.ob b hb⟩⟩, H.od, hns, hadj, H.keys, H.sm, H.len, ?_⟩
 refine el_xxaaaaa (H.oad) fun _ _ _ _ _ _ nd => ?_
 simpa [List.map_map, Function.comp_def] using nd
theorem GrRead.ext {w : World} {h h' : Heap} {x dx gd nd ad : Addr} {od : Obj} {nv : List (Int × Addr)} {nb : List NB} {ns : List Int} {adj : List (Int × List Int)} (R : GrRead w h x dx gd nd ad od nv nb ns adj) (k : ∀ b o, h.get? b = some o → h'.get? b = some o) : GrRead w h' x dx gd nd ad od nv nb ns adj := by
 obtain ⟨⟨⟨i1, i2, i3, i4⟩, g, n, a, b⟩, r1, r2, r3, r4, r5, r6, r7⟩ := R
 exact ⟨⟨⟨k _ _ i1, i2, i3, k _ _ i4⟩, k _ _ g, n.keep k, a.keep k, fun q hq => (b q hq).keep k⟩, r1, r2, r3, r4, r5, r6, r7⟩
section
variable {w : World} {A A' : Around} {outs : List Env} {base : Heap} {n : Nat} {s : Shared} {E : Value → Shared → Prop} {g : Heap} {L : Addr} {l : Loc} {N : List (Addr × Obj)}
theorem has_edge_spec {x : Addr} {u v : Int} {tu tv : Tok} {ns : List Int} {adj : List (Int × List Int)} {Q : Value → Shared → Prop} (C : Cx w A outs base s.heap (n + 1)) (G : GraphG w s.heap x ns adj)
   (h : ∀ h' tk', Ext [] s.heap h' → Q (.bool (decide (v ∈ adjOf adj u))) { s with heap := h', toks := tk' }) : wpAny (model prg w) A (call (.ref 260) [.ref x, .int u tu, .int v tv]) Q E s := by
 refine enterC (binds := [(Str.ofString "self", .ref x), (Str.ofString "u", .int u tu), (Str.ofString "v", .int v tv)]) [] (by simp) (by simp) (by simp) C rfl rfl (BindsTo.of_eq rfl) (locs rfl) (fun h₁ L tk Qf Ef hQ S CG => ?_)
 dsimp only [locOf, List.reverse, List.reverseAux, List.map] at S CG
 refine el_xxxxxxxa (G.ext (h' := h₁) S.keep).at fun dx gd nd ad od nv nb R => ?_
 refine el_xxxxxxxa (R.od) fun hh1 t1 hh2 t2 hh3 t3 m hsb7 => ?_
 subst hsb7
 have hE : Ext [] s.heap h₁ := Ext.of_keep S.keep
 walk_at "mm"
 refine getA S CG R.at_.inst rfl rfl ?_
 walk_at "mm"
 refine dIn R.at_.ad R.sm.2.2.1 ?_
 by_cases hu : u ∈ nb.map (·.k)
 · refine el_xaaa (nb_at hu) fun b hb hbk hbv => ?_
   rw [hbv]
   walk_at "mm"
   first | refine ite_tt ?_ | refine ite_ff ?_
   walk_at "mm"
   refine getA S CG R.at_.inst rfl rfl ?_
   walk_at "mm"
   refine dSub R.at_.ad hbv ?_
   walk_at "mm"
   refine dIn (R.at_.nb b hb) (R.sm.2.2.2.2 b hb) ?_
   walk_at "mm"
   refine hQ _ _ ?_
   have e : (valueAt b.kvs v).isSome = decide (v ∈ adjOf adj u) := by
     have hl : adjOf adj u = b.kvs.map (·.1) := by
       unfold adjOf
       rw [R.adj, lookup_mem (by rw [List.map_map]; exact R.nd) (List.mem_map.mpr ⟨b, hb, by rw [← hbk]⟩)]; rfl
     rw [hl]
     by_cases hv : v ∈ b.kvs.map (·.1)
     · refine el_xaa (valueAt_in hv) fun y hy _ => ?_
       rw [hy, decide_eq_true hv]; rfl
     · rw [valueAt_off hv, decide_eq_false hv]; rfl
   show Q (.bool _) _
   rw [e]
   exact h _ _ hE
 · rw [valueAt_off (by rw [List.map_map]; exact hu)]
   walk_at "mm"
   refine hQ _ _ ?_
   have e : decide (v ∈ adjOf adj u) = false := by
     unfold adjOf
     rw [R.adj, lookup_off' (by rw [List.map_map]; exact hu)]; simp
   show Q (.bool false) _
   rw [← e]
   exact h _ _ hE
theorem contains_spec {x : Addr} {u : Int} {tu : Tok} {ns : List Int} {adj : List (Int × List Int)} {Q : Value → Shared → Prop} (C : Cx w A outs base s.heap (n + 1)) (G : GraphG w s.heap x ns adj)
   (h : ∀ h' tk', Ext [] s.heap h' → Q (.bool (decide (u ∈ ns))) { s with heap := h', toks := tk' }) : wpAny (model prg w) A (call (.ref 189) [.ref x, .int u tu]) Q E s := by
 refine enterC (binds := [(Str.ofString "self", .ref x), (Str.ofString "n", .int u tu)]) [] (by simp) (by simp) (by simp) C rfl rfl (BindsTo.of_eq rfl) (locs rfl) (fun h₁ L tk Qf Ef hQ S CG => ?_)
 dsimp only [locOf, List.reverse, List.reverseAux, List.map] at S CG
 refine el_xxxxxxxa (G.ext (h' := h₁) S.keep).at fun dx gd nd ad od nv nb R => ?_
 refine el_xxxxxxxa (R.od) fun hh1 t1 hh2 t2 hh3 t3 m hsb7 => ?_
 subst hsb7
 have hE : Ext [] s.heap h₁ := Ext.of_keep S.keep
 walk_at "mm"
 refine getA S CG R.at_.inst rfl rfl ?_
 walk_at "mm"
 refine dIn R.at_.nd R.sm.2.1 ?_
 walk_at "mm"
 refine hQ _ _ ?_
 show Q (.bool _) _
 have e : (valueAt (nv.map fun p => (p.1, Value.ref p.2)) u).isSome = decide (u ∈ ns) := by
   rw [R.ns]
   by_cases hv : u ∈ nv.map (·.1)
   · refine el_xaa (valueAt_in (kvs := nv.map fun p => (p.1, Value.ref p.2)) (k := u) (by rw [mapfst nv Value.ref]; exact hv)) fun y hy _ => ?_
     rw [hy, decide_eq_true hv]; rfl
   · rw [valueAt_off (by rw [mapfst nv Value.ref]; exact hv), decide_eq_false hv]; rfl
 rw [e]
 exact h _ _ hE
theorem len_spec {x : Addr} {ns : List Int} {adj : List (Int × List Int)} {Q : Value → Shared → Prop} (C : Cx w A outs base s.heap (n + 1)) (G : GraphG w s.heap x ns adj)
   (h : ∀ h' tk' u, Ext [] s.heap h' → Q (.int ns.length u) { s with heap := h', toks := tk' }) : wpAny (model prg w) A (call (.ref 196) [.ref x]) Q E s := by
 refine enterC (binds := [(Str.ofString "self", .ref x)]) [] (by simp) (by simp) (by simp) C rfl rfl (BindsTo.of_eq rfl) (locs rfl) (fun h₁ L tk Qf Ef hQ S CG => ?_)
 dsimp only [locOf, List.reverse, List.reverseAux, List.map] at S CG
 refine el_xxxxxxxa (G.ext (h' := h₁) S.keep).at fun dx gd nd ad od nv nb R => ?_
 refine el_xxxxxxxa (R.od) fun hh1 t1 hh2 t2 hh3 t3 m hsb7 => ?_
 subst hsb7
 have hE : Ext [] s.heap h₁ := Ext.of_keep S.keep
 walk_at "mm"
 refine getA S CG R.at_.inst rfl rfl ?_
 walk_at "mm"
 refine call_len_dict R.sm.2.1 R.at_.nd (by have := R.len.1; simp; lia) ?_
 walk_at "mm"
 refine hQ _ _ ?_
 have e : (((nv.map fun p => (p.1, Value.ref p.2)).length : Nat) : Int) = ns.length := by rw [R.ns, List.length_map, List.length_map]
 show Q (.int (((nv.map fun p => (p.1, Value.ref p.2)).length : Nat) : Int) _) _
 rw [e]
 exact h _ _ _ hE
end
section
variable {w : World} {A A' : Around} {outs : List Env} {base : Heap} {n : Nat} {E : Value → Shared → Prop} {s : Shared} {g : Heap} {N N' : List (Addr × Obj)} {l : Loc} {env : Env} {v : Value} {L d D : Addr} {kvs : List (Int × Value)}
theorem iki_inv {k : Int} {v : Value} (h : (ik w).is k v = true) : ∃ t, v = .int k t := Value.isInt_shape h
theorem listD {Q : Value → Shared → Prop} (hh : A.handled = none) (S : St g L s.heap l N) (lo : (d == sysModules) = false) (hd : s.heap.DictOf (ik w) d kvs) (hn : kvs.length ≤ 100)
   (h : ∀ D c h' tk vs, St g L h' l ((D, W.listOf vs.toArray c) :: N) → IntsAre vs (kvs.map (·.1)) → Q (.ref D) { s with heap := h', toks := tk }) : wpAny (model prg w) A (call (.type "list") [.ref d]) Q E s := by
 refine el_xa (hd.dictAt) fun ep hat => ?_
 refine kdl_call (kdl_dict (knd := ik w) lo) hh hat (by rw [sizeLine_eq]; lia) fun h' tk acc c hk hD hit => ?_
 have S1 := S.add (a := s.heap.objs.size) (o := W.listOf acc.toList.toArray c) hk (by simpa using hD) (get_size _)
 refine h _ c h' tk acc.toList S1 ?_
 refine el_aa hit fun h1 h2 => ?_
 try clear hit
 have key : ∀ (vs : List Value) (ks : List (Int × Value)), vs.length = ks.length → (∀ (j : Nat) (v : Value), vs[j]? = some v → ∃ (k : Int) (x : Value), ks[j]? = some (k, x) ∧ (ik w).is k v = true) → IntsAre vs (ks.map (·.1)) := by
   intro vs
   induction vs with
   | nil => intro ks hl _; cases ks with
     | nil => exact .nil
     | cons _ _ => cases hl
   | cons v r ih => intro ks hl hp; cases ks with
     | nil => cases hl
     | cons p ks =>
       refine el_xxaa (hp 0 v rfl) fun k x e hk => ?_
       simp at e
       subst e
       refine el_xa (iki_inv hk) fun t hsb1 => ?_
       subst hsb1
       exact .cons k t (ih ks (by simpa using hl) fun j u hu => by simpa using hp (j + 1) u (by simpa using hu))
 exact key _ _ (by rw [Array.length_toList]; exact h1) fun j v e => h2 j v (by rw [← Array.getElem?_toList]; exact e)
noncomputable abbrev viewOf (d : Addr) : Obj := { cls := .type "dict_items", data := .fields #[.ref d] }
theorem dItems {Q : Value → Shared → Prop} (S : St g L s.heap l N) (lo : (d == sysModules) = false) (hd : s.heap.DictOf (ik w) d kvs)
   (h : ∀ a h', St g L h' l ((a, viewOf d) :: N) → Q (.ref a) { s with heap := h' }) : wpAny (model prg w) A (call (.builtin "dict.items") [.ref d]) Q E s :=
 call_meetsIn PySem.F.slot_dict_items hd.typeIs PySem.F.entry_dict_items (PySem.F.args_dict_items_1 _) (meets_dict_items (ik w) d lo) ⟨⟨_, hd⟩, h _ _ (S.add (a := s.heap.objs.size) (o := viewOf d) (fun b o e => Heap.get?_push_of_some _ e) (Heap.get?_push_size _ rfl) (get_size _))⟩
theorem Src.items {elts : List PySem.Expr} {kk : Nat} {pos : Pos} {vw : Addr} (hh : A.handled = none) (hv : g.get? vw = some (viewOf d)) (hd : g.DictOf (ik w) d kvs) :
   Src w A (.Tuple elts kk pos) (.ref vw) g kvs.length (fun i v h => ∃ T key k x, v = .ref T ∧ kvs[i]? = some (k, x) ∧ (ik w).is k key = true ∧ h.IsTuple T #[key, x]) Plain :=
 SrcG.of Plain Eq plain_ok (fun _ => rfl) fun s Q E hk h => by
   have hd' : s.heap.DictOf (ik w) d kvs := hd.keep hk
   refine el_xa (hd'.dictAt) fun ep hat => ?_
   have hlt : d < s.heap.objs.size := hat.lt_size
   refine wpAny_pyIter_items (knd := ik w) ⟨_, hk _ _ hv, rfl, rfl⟩ hat (h _ _ _ _ _ _ rfl (kti_itemsTurns (knd := ik w) (elts := elts) (kk := kk) (pos := pos) hh s.heap.objs.size d (Nat.ne_of_lt hlt) kvs ep) ⟨⟨.none, .none, Heap.get?_push_size _ rfl⟩, hat.push _⟩ (fun b hb => by simpa using hb) (fun b hb => ?_) (fun i h st b hb => ?_) fun s₁ Q E st q => ?_)
   · rcases List.mem_cons.mp hb with e | hb
     · exact .inl e
     · rw [List.mem_singleton.mp hb]; obtain ⟨o, e, _⟩ := Heap.dictOf_iff.mp hd; exact .inr ⟨o, e⟩
   · rcases List.mem_cons.mp hb with rfl | hb
     · obtain ⟨⟨ok, ov, e⟩, _⟩ := st; exact ⟨_, e⟩
     · rw [List.mem_singleton.mp hb]; obtain ⟨_, dd⟩ := st; obtain ⟨o, es, e, _⟩ := dd; exact ⟨o, e⟩
   · obtain ⟨⟨ok, ov, e⟩, _⟩ := st
     exact kcp_self e q
theorem St.freeze {h : Heap} {K : List (Addr × Obj)} (S : St g L h l (K ++ N)) : St (hideAll h (L :: N.map (·.1))) L h l N ∧ (∀ b o, g.get? b = some o → (hideAll h (L :: N.map (·.1))).get? b = some o) ∧ ∀ p ∈ K, (hideAll h (L :: N.map (·.1))).get? p.1 = some p.2 := by
 have S1 := S.sub (List.sublist_append_right K N)
 refine ⟨S1.ground.1, S1.ground.2, fun p hp => S1.ground_get (S.get (List.mem_append_left _ hp)) (S.nw p (List.mem_append_left _ hp)).2.1 fun m => ?_⟩
 have nd := S.nd
 rw [List.map_append, List.nodup_append] at nd
 exact nd.2.2 _ (List.mem_map_of_mem hp) _ m rfl
theorem appL {D : Addr} {vs : List Value} {c : Nat} {x : Value} {Q : Value → Shared → Prop} {N' : List (Addr × Obj)} (S : St g L s.heap l N) (U : UpN D (W.listOf vs.toArray c) (W.listOf (vs ++ [x]).toArray (c + 1)) N N')
   (h : ∀ h', St g L h' l N' → Q .none { s with heap := h' }) (hsz : vs.length ≤ 1000) : wpAny (model prg w) A (call (.builtin "list.append") [.ref D, x]) Q E s := by
 refine append_at (hsz := by rw [List.size_toArray, sizeLine_eq]; lia) (S.get U.mem) fun h' hs ho => ?_
 refine h h' (S.turn U hs ?_)
 rw [ho, List.push_toArray]
theorem appM {D : Addr} {vs : List Value} {c : Nat} {pl : Sem Bool} {Q : Value × List Value → Shared → Prop} (S : St g L s.heap l N) (hm : (D, W.listOf vs.toArray c) ∈ N) (h : Q (.builtin "list.append", [.ref D]) s) : wpAny (model prg w) A (getMethod (.ref D) "append" pl) Q E s :=
 getMethod_append_N S.nw hm h
end
inductive Rows3 (h : Heap) : List Value → List (Int × Int) → Prop
 | nil : Rows3 h [] []
 | cons {T u v t1 t2 d r ps} : h.get? T = some (tupOf [.int u t1, .int v t2, d]) → Rows3 h r ps → Rows3 h (.ref T :: r) ((u, v) :: ps)
theorem Rows3.mono {h h' : Heap} (k : ∀ b o, h.get? b = some o → h'.get? b = some o) {vs ps} (x : Rows3 h vs ps) : Rows3 h' vs ps := by
 induction x with
 | nil => exact .nil
 | cons a r ih => exact .cons (k _ _ a) ih
theorem Rows3.snoc {h : Heap} {T : Addr} {u v : Int} {t1 t2 : Tok} {d : Value} (e : h.get? T = some (tupOf [.int u t1, .int v t2, d])) : ∀ {vs ps}, Rows3 h vs ps → Rows3 h (vs ++ [.ref T]) (ps ++ [(u, v)])
 | _, _, .nil => .cons e .nil
 | _, _, .cons a r => .cons a (r.snoc e)
theorem Rows3.len {h : Heap} : ∀ {vs ps}, Rows3 h vs ps → vs.length = ps.length
 | _, _, .nil => rfl
 | _, _, .cons _ r => by rw [List.length_cons, List.length_cons, r.len]
theorem Rows3.at {h : Heap} {vs ps} (y : Rows3 h vs ps) : ∀ {i : Nat} {x : Value}, vs.toArray[i]? = some x → ∃ T u v t1 t2 d, x = .ref T ∧ ps[i]? = some (u, v) ∧ h.get? T = some (tupOf [.int u t1, .int v t2, d]) := by
 induction y with
 | nil => intro i x e; simp at e
 | cons a r ih =>
   intro i x e
   cases i with
   | zero => simp at e; exact in_x6 _ _ _ _ _ _ ⟨e.symm, rfl, a⟩
   | succ i =>
     refine el_xxxxxxaaa (ih (i := i) (x := x) (by simpa using e)) fun T u v t1 t2 d e1 e2 e3 => ?_
     exact in_x6 T u v t1 t2 d ⟨e1, by simpa using e2, e3⟩
noncomputable def rowsGo (seen : List Int) : List (Int × List Int) → List (Int × Int)
 | [] => []
 | (u, vs) :: r => (vs.filter fun v => decide (v ∉ seen)).map (fun v => (u, v)) ++ rowsGo (seen ++ [u]) r
noncomputable def rowsOf (adj : List (Int × List Int)) : List (Int × Int) := rowsGo [] adj
theorem rowsGo_snoc (u : Int) (vs : List Int) : ∀ (adj : List (Int × List Int)) (seen : List Int), rowsGo seen (adj ++ [(u, vs)]) = rowsGo seen adj ++ (vs.filter fun v => decide (v ∉ seen ++ adj.map (·.1))).map fun v => (u, v)
 | [], seen => by simp [rowsGo]
 | (a, b) :: r, seen => by
   have e : seen ++ [a] ++ r.map (·.1) = seen ++ ((a, b) :: r).map (·.1) := by rw [List.map_cons, List.append_assoc]; rfl
   rw [List.cons_append, rowsGo, rowsGo, rowsGo_snoc u vs r (seen ++ [a]), e, List.append_assoc]
section
variable {w : World} {A A' : Around} {outs : List Env} {base : Heap} {n : Nat} {s : Shared} {E : Value → Shared → Prop} {g : Heap} {L : Addr} {l : Loc} {N : List (Addr × Obj)}
theorem Cx.pushC {n : Nat} {g : Heap} {h : Heap} {L a : Addr} {l : Loc} {N : List (Addr × Obj)} {name : Str} {scope : Scope} {cd : Value} (C : Cx w A outs base g (n + 1)) (S : St g L h l N) (hk : scope.kind = .function := by rfl) :
   Cx w (A.deeper (envOfC name scope L a cd)) (envOfC name scope L a cd :: outs) base h n := by
 have h1 := C.deep
 have h2 := C.room
 refine ⟨C.bs, ⟨Around.frames_deeper C.below.stack, fun b o e => S.keep b o (C.below.stays b o e), ?_⟩, C.hand, C.guards, ?_, ?_⟩
 · refine .cons (by show scope.kind ≠ .module; rw [hk]; decide) rfl S.ns ?_ (C.below.frames.of_keeps fun b o e _ => ⟨o, S.keep b o e, rfl⟩)
   cases q : base.get? L with
   | none => rfl
   | some o => have := C.below.stays _ _ q; rw [S.sep] at this; cases this
 · show A.depth + 1 + 20 * n ≤ 900; lia
 · show A.units + 3 + 50 * n + 50 ≤ 2000; lia
theorem hide_nil {h : Heap} : ∀ b o, h.get? b = some o → (hideAll h []).get? b = some o := fun _ _ e => hideAll_get _ e (by simp)
theorem perm3 {α : Type} (a b c : α) (r : List α) : (a :: b :: c :: r).Perm (c :: a :: b :: r) := ((List.Perm.swap c b r).cons a).trans (.swap c a (b :: r))
theorem valueAt_nd : ∀ {nb : List NB}, (nb.map (·.k)).Nodup → ∀ {b : NB}, b ∈ nb → valueAt (nb.map fun b => (b.k, Value.ref b.a)) b.k = some (.ref b.a)
 | [], _, _, h => nomatch h
 | c :: r, hn, b, h => by
   rw [List.map_cons, List.nodup_cons] at hn
   unfold valueAt
   rw [List.map_cons, List.find?_cons]
   by_cases e : c.k = b.k
   · rcases List.mem_cons.mp h with rfl | h
     · simp
     · exact absurd (List.mem_map.mpr ⟨b, h, e.symm⟩) hn.1
   · rcases List.mem_cons.mp h with rfl | h
     · exact absurd rfl e
     · have := valueAt_nd hn.2 h
       unfold valueAt at this
       rw [decide_eq_false e]; exact this
theorem take_next {α : Type} {l : List α} {i : Nat} {x : α} (h : l[i]? = some x) : l.take (i + 1) = l.take i ++ [x] := by rw [List.take_add_one, h]; rfl
theorem rowsGo_len : ∀ (adj : List (Int × List Int)) (seen : List Int), (∀ p ∈ adj, p.2.length ≤ 10) → (rowsGo seen adj).length ≤ 10 * adj.length
 | [], _, _ => Nat.le_refl _
 | (u, vs) :: r, seen, h => by
   have h1 := rowsGo_len r (seen ++ [u]) fun p hp => h p (.tail _ hp)
   have h2 := List.length_filter_le (fun v => decide (v ∉ seen)) vs
   have h3 : vs.length ≤ 10 := h (u, vs) (.head _)
   rw [rowsGo, List.length_append, List.length_map, List.length_cons]
   lia
noncomputable def NewRefs (g : Heap) (X : List Addr) (vs : List Value) : Prop := ∀ T, Value.ref T ∈ vs → g.get? T = none ∧ T ∉ X
theorem Rows3.has {h : Heap} {vs ps} (x : Rows3 h vs ps) : ∀ {T : Addr}, Value.ref T ∈ vs → ∃ o, h.get? T = some o := by
 induction x with
 | nil => exact fun m => nomatch m
 | cons a r ih =>
   intro T m
   rcases List.mem_cons.mp m with e | m
   · cases e; exact ⟨_, a⟩
   · exact ih m
theorem Rows3.mono' {h h' : Heap} {vs ps} (x : Rows3 h vs ps) : (∀ T o, Value.ref T ∈ vs → h.get? T = some o → h'.get? T = some o) → Rows3 h' vs ps := by
 induction x with
 | nil => exact fun _ => .nil
 | cons a r ih => exact fun k => .cons (k _ _ (.head _) a) (ih fun T o m => k T o (.tail _ m))
theorem St.freeze1 {h : Heap} {p : Addr × Obj} (S : St g L h l (p :: N)) : ∃ g1, St g1 L h l N ∧ (∀ b o, g.get? b = some o → g1.get? b = some o) ∧ g1.get? p.1 = some p.2 :=
 have F := St.freeze (K := [p]) S
 ⟨_, F.1, F.2.1, F.2.2 p (.head _)⟩
theorem edge_rows_spec {x : Addr} {ns : List Int} {adj : List (Int × List Int)} {Q : Value → Shared → Prop} (C : Cx w A outs base s.heap (n + 1)) (G : GraphG w s.heap x ns adj)
   (h : ∀ h' tk' D vs c, Ext [] s.heap h' → s.heap.get? D = none → h'.get? D = some (W.listOf vs.toArray c) → Rows3 h' vs (rowsOf adj) → (∀ T, Value.ref T ∈ vs → s.heap.get? T = none) → Q (.ref D) { s with heap := h', toks := tk' }) : wpAny (model prg w) A (call (.ref 307) [.ref x, .none]) Q E s := by
 refine wpAny_call (enterX (binds := [(Str.ofString "self", .ref x), (Str.ofString "nbunch", .none)]) [] (by simp) (by simp) (by simp) C rfl rfl (BindsTo.of_eq rfl) rfl (by decide) [("nbunch", some .none)] (fun L => ?_) (fun h₁ L tk cells Qf Ef hQ hc S CG => ?_))
 case refine_1 =>
   funext y
   show (if y = Str.ofString "nbunch" then some Value.none else none) = _
   exact congrFun (lk_store (Str.ofString "nbunch") .none []) y
 refine el_xaa (CellsAre.one hc) fun oc hsb1 hoc => ?_
 subst hsb1
 have hoc : oc.data = .cell (some (.ref x)) := hoc
 clear hc
 dsimp only [List.map, List.append] at S CG
 replace S : St (hideAll s.heap []) L h₁ [("nbunch", some Value.none)] [(L + 1, oc)] := S
 have Gg : GraphG w (hideAll s.heap []) x ns adj := G.ext hide_nil
 refine el_xa (⟨_, rfl⟩ : ∃ g, g = hideAll s.heap []) fun g hg => ?_
 rw [← hg] at S CG Gg
 refine el_xxxxxxxa (Gg.at) fun dx gd nd ad od nv nb R => ?_
 refine el_xxxxxxxa (R.od) fun hh1 t1 hh2 t2 hh3 t3 m hsb7 => ?_
 subst hsb7
 have hadj := R.adj
 walk_at "mm"
 refine wpAny_is_self rfl ?_
 walk_at "mm"
 refine getA S CG (R.ext S.keep).at_.inst rfl rfl ?_
 walk_at "mm"
 refine listD CG.hand S R.sm.2.2.1 (R.at_.ad.keep S.keep) (by have h1 := congrArg List.length R.keys; have := R.len.1; simp at h1 ⊢; lia) fun D c h2 tk2 vs S hvs => ?_
 walk_at "mm"
 refine newDi S CG fun Sd h3 S Sd0 _ Sds => ?_
 walk_at "mm"
 refine newL S fun Rw h4 S _ _ _ => ?_
 walk_at "mm"
 refine el_xaaa (S.perm (perm3 _ _ _ _).symm).freeze1 fun g1 S k1 hK1 => ?_
 have CG1 := CG.keeps k1
 have hDl : g1.IsList D vs.toArray := ⟨_, hK1, rfl, _, rfl⟩
 clear hK1
 have hnn : adj.map (·.1) = nb.map (·.k) := by rw [hadj, List.map_map]; rfl
 have hvk : IntsAre vs (adj.map (·.1)) := by rw [hnn]; rw [List.map_map] at hvs; exact hvs
 have hdeg : ∀ p ∈ adj, p.2.length ≤ 10 := fun p hp => by
   rw [hadj] at hp
   refine el_xaa (List.mem_map.mp hp) fun b hb hsb2 => ?_
   subst hsb2
   have := R.len.2 b hb
   simpa using this
 have hadl : adj.length ≤ 10 := by
   have h1 := congrArg List.length hnn
   have h2 := congrArg List.length R.keys
   have := R.len.1
   simp only [List.length_map] at h1 h2
   lia
 have hlen : vs.length = adj.length := by rw [hvk.length, List.length_map]
 walk_at "mm"
 replace S := St.relist (l' := [("d", none), ("nbr", none), ("n", none), ("rows", some (.ref Rw)), ("seen", some (.ref Sd)), ("nodes", some (.ref D)), ("nbunch", some .none)]) S (by rfl)
 refine for_src (E' := fun _ _ => False) (fun i l N' G' => ∃ o1 o2 o3 rs c' so kvs, l = ([("d", o1), ("nbr", o2), ("n", o3), ("rows", some (.ref Rw)), ("seen", some (.ref Sd)), ("nodes", some (.ref D)), ("nbunch", some .none)] : Loc) ∧
   N' = [(Rw, W.listOf (List.toArray rs) c'), (Sd, so), (L + 1, oc)] ∧ so.IsDictOf (ik w) kvs ∧ kvs.map (·.1) = (adj.take i).map (·.1) ∧ Rows3 G' rs (rowsGo [] (adj.take i)) ∧ NewRefs g [] rs) (Src.list CG1.hand hDl) S (in_x7 _ _ _ [] _ _ [] ⟨rfl, rfl, emptyIs, rfl, .nil, fun _ m => nomatch m⟩) ?_ ?_ (fun _ _ x => x.elim)
 case refine_1 =>
   intro Jq Ji i v l N' G' h5 tk5 gb Bq hlt hP hJ kG k3 S HB
   refine el_xxxxxxxaaaaaa hJ fun o1 o2 o3 rs c' so kvs hsb7 hsb8 hso hks hrs hrn => ?_
   try clear hJ
   replace S := St.at2 hsb7 hsb8 S
   refine el_xxaa (ints_at hvk hP) fun k t hsb2 hik => ?_
   subst hsb2
   have CG2 := CG1.keeps fun b o e => k3 b o (kG b o e)
   have R2 := R.ext fun b o e => S.keep b o (k3 b o (kG b o (k1 b o e)))
   rw [List.getElem?_map] at hik
   obtain ⟨⟨k', nbs⟩, hai, hkk⟩ := Option.map_eq_some_iff.mp hik
   obtain rfl : k' = k := hkk
   obtain ⟨b, hbi, hbe⟩ : ∃ b, nb[i]? = some b ∧ (b.k, b.kvs.map (·.1)) = (k', nbs) := by
     rw [hadj, List.getElem?_map] at hai
     exact Option.map_eq_some_iff.mp hai
   refine el_aa (Prod.mk.inj hbe) fun hsb0 hsb1 => ?_
   subst hsb0
   subst hsb1
   have hb : b ∈ nb := List.mem_of_getElem? hbi
   have hil : i < adj.length := by rw [← hlen]; simpa using hlt
   have hkl : kvs.length ≤ 10 := by
     have h1 := congrArg List.length hks
     have h2 := congrArg List.length R.keys
     have h3 := congrArg List.length hnn
     have := R.len.1
     simp only [List.length_map, List.length_take] at h1 h2 h3
     lia
   walk_at "mm"
   refine getA S CG2 (R.ext fun b o e => S.keep b o (k3 b o (kG b o (k1 b o e)))).at_.inst rfl rfl ?_
   walk_at "mm"
   refine dSub (R.ext fun b o e => S.keep b o (k3 b o (kG b o (k1 b o e)))).at_.ad (valueAt_nd R.nd hb) ?_
   walk_at "mm"
   refine dMeth PySem.F.slot_dict_items PySem.F.type_dict_items ((R.ext fun b o e => S.keep b o (k3 b o (kG b o (k1 b o e)))).at_.nb b hb) ?_
   walk_at "mm"
   refine dItems S (R.sm.2.2.2.2 b hb) ((R.ext fun b o e => S.keep b o (k3 b o (kG b o (k1 b o e)))).at_.nb b hb) fun vw h6 S => ?_
   refine el_xaaa (S.freeze1) fun g2 S k2 hvw => ?_
   have CG3 := CG2.keeps k2
   have hbd : g2.DictOf (ik w) b.a b.kvs := (R.at_.nb b hb).keep fun b o e => k2 b o (k3 b o (kG b o (k1 b o e)))
   walk_at "mm"
   replace S := St.relist (l' := [("d", o1), ("nbr", o2), ("n", some (.int b.k t)), ("rows", some (.ref Rw)), ("seen", some (.ref Sd)), ("nodes", some (.ref D)), ("nbunch", some .none)]) S (by rfl)
   refine for_src (E' := fun _ _ => False) (fun j l N' G' => ∃ o1 o2 rs1 c', l = ([("d", o1), ("nbr", o2), ("n", some (.int b.k t)), ("rows", some (.ref Rw)), ("seen", some (.ref Sd)), ("nodes", some (.ref D)), ("nbunch", some .none)] : Loc) ∧
     N' = [(Rw, W.listOf (List.toArray (rs ++ rs1)) c'), (Sd, so), (L + 1, oc)] ∧ NewRefs gb [L, Rw, Sd, L + 1] rs1 ∧ Rows3 G' (rs ++ rs1) (rowsGo [] (adj.take i) ++ ((((b.kvs.map (·.1)).take j).filter fun v => decide (v ∉ [] ++ (adj.take i).map (·.1))).map fun v => (b.k, v)))) (Src.items CG3.hand hvw hbd) S (in_x4 _ _ [] c' ⟨rfl, by rw [List.append_nil], (fun _ m => nomatch m), by simpa using hrs.mono fun b o e => k2 b o (k3 b o e)⟩) ?_ ?_ (fun _ _ x => x.elim)
   case refine_1 =>
     intro Jq Ji j v l N' G' h7 tk7 gc Bq hlt hP hJ kG4 k4 S HB2
     refine el_xxxxaaaa hJ fun o1 o2 rs1 c' hsb4 hsb5 hnew hrs => ?_
     try clear hJ
     replace S := St.at2 hsb4 hsb5 S
     refine el_xxxxaaaa hP fun T key kk x hsb4 hkj hkey hT => ?_
     try clear hP
     subst hsb4
     refine el_xa (iki_inv hkey) fun tk8 hsb1 => ?_
     subst hsb1
     have hkj' : (b.kvs.map (·.1))[j]? = some kk := by rw [List.getElem?_map, hkj]; rfl
     refine asg2 CG3.hand S hT fun h8 tk9 S => ?_
     have CG4 := CG3.keeps fun b o e => k4 b o (kG4 b o e)
     walk_at "mm"
     refine dNotIn (dOf (w := w) S (by k_mem) hso) Sds ?_
     by_cases hm : kk ∈ kvs.map (·.1)
     · refine el_xaa (valueAt_in hm) fun v' hv' _ => ?_
       rw [hv']
       walk_at "mm"
       first | refine ite_tt ?_ | refine ite_ff ?_
       walk_at "mm"
       replace S := St.relist (l' := [("d", some x), ("nbr", some (.int kk tk8)), ("n", some (.int b.k t)), ("rows", some (.ref Rw)), ("seen", some (.ref Sd)), ("nodes", some (.ref D)), ("nbunch", some .none)]) S (by rfl)
       refine HB2 _ _ (BodyEnd.nx [] S fun G2 k5 _ => Ji _ _ _ _ (in_x4 _ _ rs1 _ ⟨rfl, rfl, hnew, ?_⟩))
       rw [take_next hkj', List.filter_append]
       rw [hks] at hm
       have : ([kk].filter fun v => decide (v ∉ [] ++ (adj.take i).map (·.1))) = [] := by
         rw [List.filter_cons, if_neg (by simpa using hm)]; rfl
       rw [this, List.append_nil]
       exact hrs.mono k5
     · rw [valueAt_off hm]
       walk_at "mm"
       first | refine ite_tt ?_ | refine ite_ff ?_
       walk_at "mm"
       refine appM S (by k_mem) ?_
       walk_at "mm"
       refine newT S fun T2 h9 S _ _ _ => ?_
       walk_at "mm"
       refine appL S (.tail .head) (fun h10 S => ?_) ?_
       case refine_2 =>
         have h1 := hrs.len
         have h2 := rowsGo_len (adj.take i) [] fun p hp => hdeg p (List.mem_of_mem_take hp)
         have h3 := List.length_filter_le (fun v => decide (v ∉ [] ++ (adj.take i).map (·.1))) ((b.kvs.map (·.1)).take j)
         have h4 := R.len.2 b hb
         rw [List.length_append (as := rowsGo [] (adj.take i)), List.length_map] at h1
         simp only [List.length_take, List.length_map, List.length_append] at h1 h2 h3 ⊢
         lia
       walk_at "mm"
       replace S := St.relist (l' := [("d", some x), ("nbr", some (.int kk tk8)), ("n", some (.int b.k t)), ("rows", some (.ref Rw)), ("seen", some (.ref Sd)), ("nodes", some (.ref D)), ("nbunch", some .none)]) S (by rfl)
       have hT2 := S.nw (T2, _) (.head _)
       have hT2n := S.nd
       rw [List.append_assoc] at S
       refine HB2 _ _ (BodyEnd.nx [_] S fun G2 k5 hK5 => Ji _ _ _ _ (in_x4 _ _ (rs1 ++ [.ref T2]) _ ⟨rfl, rfl, fun T m => ?_, ?_⟩))
       · rcases List.mem_append.mp m with m | m
         · exact hnew T m
         · cases List.mem_singleton.mp m
           refine ⟨none_sub (fun b o e => k4 b o (kG4 b o (k2 b o e))) hT2.2.2, fun m => ?_⟩
           rcases List.mem_cons.mp m with e | m
           · exact hT2.2.1 e
           · rw [List.map_cons, List.nodup_cons] at hT2n
             exact hT2n.1 m
       rw [← List.append_assoc]
       rw [take_next hkj', List.filter_append]
       rw [hks] at hm
       have : ([kk].filter fun v => decide (v ∉ [] ++ (adj.take i).map (·.1))) = [kk] := by
         rw [List.filter_cons, if_pos (by simpa using hm)]; rfl
       rw [this, List.map_append, ← List.append_assoc]
       exact (hrs.mono k5).snoc (hK5 _ (.head _))
   intro l N' G' h7 tk7 hJ kG4 S
   refine el_xxxxaaaa hJ fun o1 o2 rs1 c' hsb4 hsb5 hnew hrs1 => ?_
   try clear hJ
   replace S := St.at2 hsb4 hsb5 S
   walk_at "mm"
   refine dSet S (fun o' => .tail .head) hso (by have h1 := congrArg List.length hks; simp only [List.length_map] at hkl h1 ⊢; lia) fun h8 so' hso' S => ?_
   walk_at "mm"
   replace S := St.relist (l' := [("d", o1), ("nbr", o2), ("n", some (.int b.k t)), ("rows", some (.ref Rw)), ("seen", some (.ref Sd)), ("nodes", some (.ref D)), ("nbunch", some .none)]) S (by rfl)
   have hk7 := S.keep
   refine HB _ _ (BodyEnd.nw (S.weak fun b o e => kG4 b o (k2 b o e)) fun G2 k5 k6 => Ji _ _ _ _ (in_x7 _ _ _ (rs ++ rs1) _ so' _ ⟨rfl, rfl, hso', ?_, ?_, fun T m => ?_⟩))
   · rw [stored_off, List.map_append, hks, take_next hai, List.map_append]; rfl
     rw [hks]
     intro m
     refine el_xaa (List.mem_map.mp m) fun q hq e => ?_
     have hn : (adj.map (·.1)).Nodup := by rw [hnn]; exact R.nd
     obtain ⟨i', hi', e'⟩ := List.mem_iff_getElem.mp hq
     rw [List.getElem_take] at e'
     rw [List.length_take] at hi'
     have h1 : i' < i := by lia
     have := List.pairwise_iff_getElem.mp hn i' i (by simp; lia) (by simpa using hil) h1
     refine this ?_
     rw [List.getElem_map, List.getElem_map, e', e]
     have := List.getElem?_eq_getElem hil
     rw [hai] at this
     rw [← Option.some.inj this]
   · rw [take_next hai, rowsGo_snoc]
     rw [List.take_of_length_le (l := b.kvs.map (·.1)) (by rw [List.length_map]; exact Nat.le_refl _)] at hrs1
     refine hrs1.mono' fun T o m e => ?_
     rcases List.mem_append.mp m with m | m
     · refine el_xa (hrs.has m) fun o' e' => ?_
       have := kG4 T o' (k2 T o' (k3 T o' e'))
       rw [e] at this; cases this
       exact k5 T o e'
     · refine el_aa (hnew T m) fun z1 z2 => ?_
       simp only [List.mem_cons, List.not_mem_nil, or_false, not_or] at z2
       exact k6 T o (hk7 T o e) z1 z2.1 (by simpa using z2.2)
   · rcases List.mem_append.mp m with m | m
     · exact hrn T m
     · exact ⟨none_sub (fun b o e => k3 b o (kG b o (k1 b o e))) (hnew T m).1, by simp⟩
 intro l N' G' h7 tk7 hJ kG4 S
 refine el_xxxxxxxaaaaaa hJ fun o1 o2 o3 rs c' so kvs hsb7 hsb8 hso hks hrs hrn => ?_
 try clear hJ
 replace S := St.at2 hsb7 hsb8 S
 walk_at "mm"
 rw [List.take_of_length_le (by simp; lia)] at hrs
 have hsk : ∀ b o, s.heap.get? b = some o → h7.get? b = some o := fun b o e => S.keep b o (kG4 b o (k1 b o (by rw [hg]; exact hide_nil b o e)))
 refine hQ _ _ (h _ _ Rw rs c' (Ext.of_keep hsk) ?_ (S.get (.head _)) (hrs.mono S.keep) fun T m => none_sub (fun b o e => by rw [hg]; exact hide_nil b o e) (hrn T m).1)
 have := (S.nw (Rw, W.listOf (List.toArray rs) c') (.head _)).2.2
 cases q : s.heap.get? Rw with
 | none => rfl
 | some o => have q2 := kG4 _ o (k1 _ o (by rw [hg]; exact hide_nil _ o q)); rw [this] at q2; cases q2
end
section
variable {w : World} {A A' : Around} {outs : List Env} {base : Heap} {n : Nat} {s : Shared} {E : Value → Shared → Prop} {g : Heap} {L : Addr} {l : Loc} {N : List (Addr × Obj)}
theorem Cx.in1 {h : Heap} (C : Cx w A outs base h (n + 1)) : Cx w A.in1 outs base h n := by
 have h1 := C.deep
 have h2 := C.room
 refine ⟨C.bs, ⟨C.below.stack, C.below.stays, C.below.frames⟩, C.hand, C.guards, ?_, ?_⟩
 · show A.depth + 20 * n ≤ 900; lia
 · show A.units + 1 + 50 * n + 50 ≤ 2000; lia
theorem propA {x C' p fget : Addr} {rest : List Value} {ox od : Obj} {name : Str} {expr : Bool} {Q : Value → Shared → Prop} (S : St g L s.heap l N) (C : Cx w A' outs base g n) (I : W.InstAt s.heap x ox C' (some od))
   (h : codeAny (model prg w) A.in1 (.call (.ref fget) ⟨[.ref x], []⟩) (fun r s' => ∃ a, r = .ok (.ret (.ref a)) ∧ Q (.ref a) s') { s with toks := s.toks + 1 })
   (hg : plainGet (KF w) C' name = true := by rfl) (hh : hasDictIn (KF w) C' = true := by rfl) (ha : findIn (KF w) (.ref C') name = some (some (.ref p)) := by rfl)
   (hn : specialIn (KF w) (.ref p) "__get__" = some (some (.builtin "property.__get__")) := by rfl) (ht : takesIn (KF w) (.ref p) = some true := by rfl) (hp : recIn (KF w) p "property" = some (.ref fget :: rest) := by rfl) :
   wpAny (model prg w) A (getAttr (.ref x) name expr) Q E s := by
 have X := C.kinAt S.keep
 refine get_bind X I (plainGet_of hg).1 (findObj_data (by obtain ⟨cd, hc, _⟩ := any_some hh; rw [hc]; rfl) ha hn ht) (plainGet_of hg).2 (wpAny_call (prop_get (s := { s with toks := s.toks + 1 }) X hp (codeAny_mono h fun r s' hr => ?_)))
 refine el_xaa hr fun a hsb1 hq => ?_
 try clear hr
 subst hsb1
 show wpAny _ _ (handedOut (.ref a)) _ _ _
 exact wpAny_pure hq
noncomputable abbrev evD (h1 : Int) (t1 : Tok) (x : Addr) (m : Nat) : Obj := dictOf [⟨h1, .str (Str.ofString "_graph") t1, .ref x⟩] m
noncomputable def EvAt (h : Heap) (ev x : Addr) : Prop := ∃ dv h1 t1 m, W.InstAt h ev (instObj 132 dv) 132 (some (evD h1 t1 x m))
theorem EvAt.keep {h h' : Heap} {ev x : Addr} (e : EvAt h ev x) (k : ∀ b o, h.get? b = some o → h'.get? b = some o) : EvAt h' ev x := by
 obtain ⟨dv, h1, t1, m, a, b, c, d⟩ := e
 exact in_x4 dv h1 t1 m ⟨k _ _ a, b, c, k _ _ d⟩ -- in63
theorem ev_init {ev dv x : Addr} {R : Result → Shared → Prop} (C : Cx w A outs base s.heap (n + 1)) (hS : ∀ a ∈ [ev, dv], base.get? a = none ∧ ∀ env ∈ outs, env.frame ≠ some a)
   (hx : s.heap.get? ev = some (instObj 132 dv)) (hdx : s.heap.get? dv = some emptyDict) (hne : ev ≠ dv)
   (h : ∀ h' tk' od, Turns [(ev, instObj 132 dv), (dv, emptyDict)] [(ev, instObj 132 dv), (dv, od)] s.heap h' → (∃ h1 t1 m, od = evD h1 t1 x m) → R (.ok (.ret .none)) { s with heap := h', toks := tk' }) :
   codeAny (model prg w) A (.call (.ref 95) ⟨[.ref ev, .ref x], []⟩) R s := by
 refine enter (binds := [(Str.ofString "self", .ref ev), (Str.ofString "G", .ref x)]) [(ev, instObj 132 dv), (dv, emptyDict)] (by simp [hx, hdx]) (by simp [hne]) hS C rfl rfl (BindsTo.of_eq rfl) (locs rfl) (fun h₁ L tk Qf Ef hQ S CG => ?_)
 dsimp only [locOf, List.reverse, List.reverseAux, List.map] at S CG
 walk_at "mm"
 refine setA (es' := [⟨_, .str (Str.ofString "_graph") _, .ref x⟩]) (k' := _) S CG (InstAt.of_news S.nw (by k_mem) (by k_mem)) rfl rfl rfl (.tail .head) (by simp) fun h3 S => ?_
 walk_at "mm"
 refine hQ _ _ (h _ _ _ (Turns.of (R := []) S fun p hp => .inl ?_) ⟨_, _, _, rfl⟩)
 simpa using List.mem_map_of_mem (f := (·.1)) hp
theorem edges_get {x : Addr} {R : Result → Shared → Prop} (C : Cx w A outs base s.heap (n + 4))
   (h : ∀ h' tk' ev, Ext [] s.heap h' → s.heap.get? ev = none → EvAt h' ev x → R (.ok (.ret (.ref ev))) { s with heap := h', toks := tk' }) :
   codeAny (model prg w) A (.call (.ref 174) ⟨[.ref x], []⟩) R s := by
 refine enter (binds := [(Str.ofString "self", .ref x)]) [] (by simp) (by simp) (by simp) C rfl rfl (BindsTo.of_eq rfl) (locs rfl) (fun h₁ L tk Qf Ef hQ S CG => ?_)
 dsimp only [locOf, List.reverse, List.reverseAux, List.map] at S CG
 walk_at "mm"
 refine wpAny_call (mkI S CG fun ev dv h2 S ev0 dv0 => ?_)
 have hne : ev ≠ dv := fun e => by
   have := S.nd
   simp [e] at this
 refine ev_init (n := n + 1) (CG.push S).under (CG.apartN (N := [(ev, instObj 132 dv), (dv, emptyDict)]) (R := []) S) (S.get (.head _)) (S.get (.tail _ (.head _))) hne fun h3 tk3 od T hod => ?_
 have S2 := callSt (N := [(ev, instObj 132 dv), (dv, emptyDict)]) (R := []) S T
 dsimp only [InitBack]
 refine ⟨rfl, ?_⟩
 walk_at "mm"
 refine el_xxxa hod fun h1 t1 m hsb3 => ?_
 try clear hod
 subst hsb3
 refine hQ _ _ (h _ _ ev (Ext.of_keep fun b o e => S2.keep b o (hide_nil b o e)) ?_ ⟨dv, h1, t1, m, S2.get (.head _), rfl, rfl, S2.get (.tail _ (.head _))⟩)
 exact none_sub (fun b o e => hide_nil b o e) ((S2.nw _ (.head _)).2.2)
end
noncomputable def NotTup (o : Obj) : Prop := ∀ vs, o ≠ tupOf vs
theorem notTup_list (xs : Array Value) (n : Nat) : NotTup (W.listOf xs n) := fun vs e => by
 have : (W.listOf xs n).cls = (tupOf vs).cls := congrArg Obj.cls e
 exact absurd this (by show ¬ (Value.type "list" = Value.type "tuple"); decide)
theorem notTup_cell {o : Obj} {v : Option Value} (h : o.data = .cell v) : NotTup o := fun vs e => by rw [e] at h; cases h
section
variable {g h : Heap} {L : Addr} {l : Loc} {N : List (Addr × Obj)}
theorem St.offTup (S : St g L h l N) (hN : ∀ p ∈ N, NotTup p.2) {T : Addr} {vs : List Value} (e : h.get? T = some (tupOf vs)) : T ≠ L ∧ T ∉ N.map (·.1) := by
 refine ⟨fun q => ?_, fun m => ?_⟩
 · refine el_xxxaaa (S.ns) fun o es ep hL hd _ => ?_
   rw [← q, e] at hL
   cases hL
   cases hd
 · refine el_xaa (List.mem_map.mp m) fun p hp q => ?_
   have := S.get (a := p.1) (o := p.2) hp
   rw [q, e] at this
   exact hN p hp vs (Option.some.inj this).symm
theorem St.freezeT {p : Addr × Obj} (S : St g L h l (p :: N)) (hN : ∀ p ∈ N, NotTup p.2) : ∃ g1, St g1 L h l N ∧ (∀ b o, g.get? b = some o → g1.get? b = some o) ∧ g1.get? p.1 = some p.2 ∧ ∀ T vs, h.get? T = some (tupOf vs) → g1.get? T = some (tupOf vs) :=
 have F := St.freeze (K := [p]) S
 ⟨_, F.1, F.2.1, F.2.2 p (.head _), fun T vs e => by
   have S' := S.sub (List.sublist_cons_self _ _)
   refine el_aa (S'.offTup hN e) fun a b => ?_
   exact S'.ground_get e a b⟩
end
theorem Rows3.tups {h h' : Heap} (k : ∀ T vs, h.get? T = some (tupOf vs) → h'.get? T = some (tupOf vs)) : ∀ {vs ps}, Rows3 h vs ps → Rows3 h' vs ps
 | _, _, .nil => .nil
 | _, _, .cons a r => .cons (k _ _ a) (r.tups k)
inductive Rows2 (h : Heap) : List Value → List (Int × Int) → Prop
 | nil : Rows2 h [] []
 | cons {T u v t1 t2 r ps} : h.get? T = some (tupOf [.int u t1, .int v t2]) → Rows2 h r ps → Rows2 h (.ref T :: r) ((u, v) :: ps)
theorem Rows2.mono {h h' : Heap} (k : ∀ b o, h.get? b = some o → h'.get? b = some o) {vs ps} (x : Rows2 h vs ps) : Rows2 h' vs ps := by
 induction x with
 | nil => exact .nil
 | cons a r ih => exact .cons (k _ _ a) ih
theorem Rows2.tups {h h' : Heap} (k : ∀ T vs, h.get? T = some (tupOf vs) → h'.get? T = some (tupOf vs)) : ∀ {vs ps}, Rows2 h vs ps → Rows2 h' vs ps
 | _, _, .nil => .nil
 | _, _, .cons a r => .cons (k _ _ a) (r.tups k)
theorem Rows2.snoc {h : Heap} {T : Addr} {u v : Int} {t1 t2 : Tok} (e : h.get? T = some (tupOf [.int u t1, .int v t2])) : ∀ {vs ps}, Rows2 h vs ps → Rows2 h (vs ++ [.ref T]) (ps ++ [(u, v)])
 | _, _, .nil => .cons e .nil
 | _, _, .cons a r => .cons a (r.snoc e)
theorem Rows2.len {h : Heap} : ∀ {vs ps}, Rows2 h vs ps → vs.length = ps.length
 | _, _, .nil => rfl
 | _, _, .cons _ r => by rw [List.length_cons, List.length_cons, r.len]
theorem Rows2.at {h : Heap} {vs ps} (y : Rows2 h vs ps) : ∀ {i : Nat} {x : Value}, vs.toArray[i]? = some x → ∃ T u v t1 t2, x = .ref T ∧ ps[i]? = some (u, v) ∧ h.get? T = some (tupOf [.int u t1, .int v t2]) := by
 induction y with
 | nil => intro i x e; simp at e
 | cons a r ih =>
   intro i x e
   cases i with
   | zero => simp at e; exact in_x5 _ _ _ _ _ ⟨e.symm, rfl, a⟩
   | succ i =>
     refine el_xxxxxaaa (ih (i := i) (x := x) (by simpa using e)) fun T u v t1 t2 e1 e2 e3 => ?_
     exact in_x5 T u v t1 t2 ⟨e1, by simpa using e2, e3⟩
section
variable {w : World} {A A' : Around} {outs : List Env} {base : Heap} {n : Nat} {s : Shared} {E : Value → Shared → Prop} {g : Heap} {L : Addr} {l : Loc} {N : List (Addr × Obj)} {m : Nat}
theorem ev_call {ev x : Addr} {ns : List Int} {adj : List (Int × List Int)} {R : Result → Shared → Prop} (C : Cx w A outs base s.heap (n + 2)) (V : EvAt s.heap ev x) (G : GraphG w s.heap x ns adj) (hsz : (rowsOf adj).length ≤ 1000)
   (h : ∀ h' tk' D vs c, Ext [] s.heap h' → s.heap.get? D = none → h'.get? D = some (W.listOf vs.toArray c) → Rows2 h' vs (rowsOf adj) → R (.ok (.ret (.ref D))) { s with heap := h', toks := tk' }) :
   codeAny (model prg w) A (.call (.ref 129) ⟨[.ref ev], []⟩) R s := by
 refine enterX (binds := [(Str.ofString "self", .ref ev), (Str.ofString "nbunch", .none), (Str.ofString "data", .bool false), (Str.ofString "default", .none)]) [] (by simp) (by simp) (by simp) C rfl rfl (kp_binds (C.bs.kin.keeps C.below.stays) fun _ => rfl) rfl (by decide) [("nbunch", some .none), ("self", some (.ref ev))] (fun L => ?_) (fun h₁ L tk cells Qf Ef hQ hc S CG => ?_)
 case refine_1 =>
   rw [← lk_store, ← lk_store]
   rfl
 refine el_xxaaa (CellsAre.two hc) fun oc oc' hsb2 hoc hoc' => ?_
 subst hsb2
 clear hc
 have hoc : oc.data = .cell (some .none) := hoc
 have hoc' : oc'.data = .cell (some (.bool false)) := hoc'
 dsimp only [List.map, List.append] at S CG
 replace S : St (hideAll s.heap []) L h₁ [("nbunch", some .none), ("self", some (.ref ev))] [(L + 1 + 1, oc), (L + 1, oc')] := S
 refine el_xxxxa (V.keep hide_nil) fun dv hh1 tt1 m1 I => ?_
 replace G : GraphG w (hideAll s.heap []) x ns adj := G.ext hide_nil
 refine el_xa (⟨_, rfl⟩ : ∃ g, g = hideAll s.heap []) fun g hg => ?_
 rw [← hg] at S CG I G
 have II : ∀ {h : Heap}, (∀ b o, g.get? b = some o → h.get? b = some o) → W.InstAt h ev (instObj 132 dv) 132 (some (evD hh1 tt1 x m1)) := fun k => by
   obtain ⟨i1, i2, i3, i4⟩ := I
   exact ⟨k _ _ i1, i2, i3, k _ _ i4⟩
 refine el_xxxxxxxa (G.at) fun dx gd nd ad od nv nb R' => ?_
 refine el_xxxxxxxa (R'.od) fun hq1 tq1 hq2 tq2 hq3 tq3 mq hsb7 => ?_
 subst hsb7
 walk_at "mm"
 refine getA S CG (II S.keep) rfl rfl ?_
 walk_at "mm"
 refine methA S CG (R'.ext S.keep).at_.inst rfl ?_
 walk_at "mm"
 refine edge_rows_spec (CG.pushC S) (G.ext S.keep) fun h2 tk2 D vs c hx D0 hD hrs _ => ?_
 obtain ⟨g1, S, k1, hDl, kT⟩ := (S.add hx.keep hD D0).freezeT (by simp [notTup_cell hoc, notTup_cell hoc'])
 have CG1 := CG.keeps k1
 have hDL : g1.IsList D vs.toArray := ⟨_, hDl, rfl, _, rfl⟩
 have hrg := hrs.tups kT
 walk_at "mm"
 refine IsiPair.bool_bool ?_
 walk_at "mm"
 refine comp_src (fun i acc G' => Rows2 G' acc ((rowsOf adj).take i)) (Src.list CG1.hand hDL) S .nil (by rw [List.size_toArray, hrs.len, sizeLine_eq]; lia) ?_ ?_
 case refine_1 =>
   intro i v acc G' Cm h3 l1 tk3 F hlt hal hP hJ kG k3 S
   refine el_xxxxxxaaa (hrg.at hP) fun T u v t1 t2 d hsb6 hi hT => ?_
   subst hsb6
   have CG2 := CG1.keeps fun b o e => k3 b o (kG b o e)
   refine asg3 CG2.hand S ⟨_, S.keep _ _ (k3 _ _ (kG _ _ hT)), rfl, _, rfl⟩ fun h4 tk4 S => ?_
   walk_at "mm"
   refine newT S fun T2 h5 S _ _ _ => ?_
   refine CEnd.mk [_] S fun G2 k4 hK => ?_
   rw [take_next hi]
   exact (hJ.mono k4).snoc (hK _ (.head _))
 intro D2 acc G' h3 tk3 hal hJ kG S
 rw [List.take_of_length_le (by rw [List.size_toArray, hrs.len]; exact Nat.le_refl _)] at hJ
 have hsk : ∀ b o, s.heap.get? b = some o → G'.get? b = some o := fun b o e => kG b o (k1 b o (by rw [hg]; exact hide_nil b o e))
 exact hQ _ _ (h _ _ D2 acc _ (Ext.of_keep fun b o e => S.keep b o (hsk b o e)) (none_sub hsk (S.none (.head _))) (S.get (.head _)) (hJ.mono S.keep))
theorem edgesA {outs₂ : List Env} {x : Addr} {ns : List Int} {adj : List (Int × List Int)} {expr : Bool} {Q : Value → Shared → Prop} (S : St g L s.heap l N) (C : Cx w A' outs base g n) (CA : Cx w A outs₂ base s.heap (m + 5)) (G : GraphG w s.heap x ns adj)
   (h : ∀ ev h' tk', St g L h' l N → EvAt h' ev x → (∀ b o, s.heap.get? b = some o → h'.get? b = some o) → s.heap.get? ev = none → Q (.ref ev) { s with heap := h', toks := tk' }) : wpAny (model prg w) A (getAttr (.ref x) "edges" expr) Q E s := by
 refine el_xxxxxxxa (G.at) fun dx gd nd ad od nv nb R' => ?_
 refine propA (p := 175) (fget := 174) S C R'.at_.inst ?_
 exact edges_get (s := { s with toks := s.toks + 1 }) (n := m) CA.in1 fun h' tk' ev hx e0 V => ⟨ev, rfl, h ev h' tk' (S.grow hx.keep) V hx.keep e0⟩
theorem edgesM {outs₂ : List Env} {x : Addr} {ns : List Int} {adj : List (Int × List Int)} {pl : Sem Bool} {Q : Value × List Value → Shared → Prop} (S : St g L s.heap l N) (C : Cx w A' outs base g n) (CA : Cx w A outs₂ base s.heap (m + 5)) (G : GraphG w s.heap x ns adj)
   (h : ∀ ev h' tk', St g L h' l N → EvAt h' ev x → (∀ b o, s.heap.get? b = some o → h'.get? b = some o) → s.heap.get? ev = none → Q (.ref ev, []) { s with heap := h', toks := tk' }) : wpAny (model prg w) A (getMethod (.ref x) "edges" pl) Q E s := by
 refine el_xxxxxxxa (G.at) fun dx gd nd ad od nv nb R' => ?_
 have hg : plainGet (KF w) 310 "edges" = true := by rfl
 exact method_usual (r := some (.ref 175)) (C.kinAt S.keep) R'.at_.inst (plainGet_of hg).1 (plainGet_of hg).2 (by rfl) (by rfl) (edgesA S C CA G h)
theorem callEv {outs₂ : List Env} {ev x : Addr} {ns : List Int} {adj : List (Int × List Int)} {pos : Pos} {env : Env} {Q : Value → Shared → Prop} (S : St g L s.heap l N) (C : Cx w A' outs base g n) (CA : Cx w A outs₂ base s.heap (m + 2)) (V : EvAt s.heap ev x) (G : GraphG w s.heap x ns adj) (hsz : (rowsOf adj).length ≤ 1000)
   (h : ∀ D vs c h' tk', St g L h' l ((D, W.listOf vs.toArray c) :: N) → Rows2 h' vs (rowsOf adj) → (∀ b o, s.heap.get? b = some o → h'.get? b = some o) → Q (.ref D) { s with heap := h', toks := tk' }) :
   wpAny (model prg w) A (callWith pos (.ref ev) [] (backTo pos (starEach [] env)) []) Q E s := by
 refine el_xxxxa (id V) fun dv hh1 tt1 m1 I => ?_
 have X := C.kinAt S.keep
 refine kco_callWith0 X I rfl (f := 129) (by rfl) (wpAny_call (kco_code X I rfl (f := 129) (by rfl) (by rfl) (by rfl) ?_))
 exact ev_call CA V G hsz fun h' tk' D vs c hx D0 hD hr => h D vs c h' tk' (S.add hx.keep hD D0) hr hx.keep
end
section
variable {w : World} {A A' : Around} {outs : List Env} {base : Heap} {n m : Nat} {s : Shared} {E : Value → Shared → Prop} {g : Heap} {L : Addr} {l : Loc} {N : List (Addr × Obj)}
theorem isK2 {h : Heap} {T : Addr} {u v : Int} {t1 t2 : Tok} (e : h.get? T = some (tupOf [.int u t1, .int v t2])) : IsK w h [u, v] T := ⟨_, _, _, e, rfl, rfl, .cons (intKind_is _ _ _ _) (.cons (intKind_is _ _ _ _) .nil)⟩
theorem isK1 {h : Heap} {T : Addr} {u : Int} {t1 : Tok} (e : h.get? T = some (tupOf [.int u t1])) : IsK w h [u] T := ⟨_, _, _, e, rfl, rfl, .cons (intKind_is _ _ _ _) .nil⟩
theorem isK3 {h : Heap} {T : Addr} {u v x : Int} {t1 t2 t3 : Tok} (e : h.get? T = some (tupOf [.int u t1, .int v t2, .int x t3])) : IsK w h [u, v, x] T := ⟨_, _, _, e, rfl, rfl, .cons (intKind_is _ _ _ _) (.cons (intKind_is _ _ _ _) (.cons (intKind_is _ _ _ _) .nil))⟩
theorem ps_empty {h : Heap} : PS w h (setObj #[] 0 (.fresh 0 0 (ledOf w))) [] :=
 ⟨⟨0, _, rfl, ⟨.nil, rfl, (fun j hj => absurd (show j ∈ (#[] : Array Nat) from hj) (by simp)), rfl, rfl, .inl ⟨rfl, by decide⟩⟩, fun _ i e he => (by simp at he), fun _ => rfl, rfl⟩, (fun c hc => nomatch hc), (fun c hc => nomatch hc), List.nodup_nil⟩
theorem PS.typeIs {s : Shared} {a : Addr} {o : Obj} {C : List (List Int × Addr)} (P : PS w s.heap o C) (ho : s.heap.get? a = some o) : s.TypeIs (.ref a) "set" := by
 refine el_xxaa (P.is) fun ep t hsb2 _ => ?_
 subst hsb2
 exact ⟨_, ho, rfl⟩
theorem setFind_ps {a ax : Addr} {o : Obj} {C : List (List Int × Addr)} {ks : List Int} {Q : Option Nat → Shared → Prop} (P : PS w s.heap o C) (ho : s.heap.get? a = some o) (hu : A.units < cLine) (hx : IsK w s.heap ks ax) (hd : ks ∈ dom)
   (h : ∀ r : Option Nat, (r.isSome = true → ks ∈ C.map (·.1)) → (C.length ≤ 4 → r.isSome = decide (ks ∈ C.map (·.1))) → Q r s) : wpAny (model prg w) A (setFind a (.ref ax) (hk ks)) Q E s := by
 refine el_xxaaaaa (P.is) fun ep t hsb2 T hr hsm hled => ?_
 subst hsb2
 have hf : t.fits (entsOf C).size = true := by rw [ents_size]; exact T.fits
 unfold setFind setFindIn
 refine wpAny_bind (setState_ps ho hf ?_)
 dsimp only
 rw [byScan_ref]
 simp only [Bool.false_eq_true, if_false]
 refine wpAny_bind (search P ho rfl T hu hx hd (fun j hj hjm hno hpr => ?_) (fun r hm hq => ?_))
 · exact wpAny_pure (h none (fun q => nomatch q) fun hl => by rw [decide_eq_false (hno (hsm hl))]; rfl)
 · exact wpAny_pure (h r (fun _ => hm) fun _ => by rw [decide_eq_true hm]; simpa using hq)
theorem hash_tup {ks : List Int} {a : Addr} {Q : Int → Shared → Prop} (hu : A.units < cLine) (hx : IsK w s.heap ks a) (h : Q (hk ks) { s with toks := s.toks + (ks.length + 1) }) : wpAny (model prg w) A (pyHash (.ref a)) Q E s :=
 wpAny_pyHash_tuple hu hx h
theorem contains_ps {a ax : Addr} {o : Obj} {C : List (List Int × Addr)} {ks : List Int} {Q : Bool → Shared → Prop} (P : PS w s.heap o C) (ho : s.heap.get? a = some o) (hu : A.units + 64 < cLine) (hx : IsK w s.heap ks ax) (hd : ks ∈ dom)
   (h : ∀ b tk, (b = true → ks ∈ C.map (·.1)) → (C.length ≤ 4 → b = decide (ks ∈ C.map (·.1))) → Q b { s with toks := tk }) : wpAny (model prg w) A (contains (.ref a) (.ref ax)) Q E s := by
 have hT := P.typeIs ho
 unfold contains
 try with_reducible refine wpAny_holding ?_
 refine wpAny_bind (wpAny_specialOf hT F.slot_set_contains.lookup ?_)
 show wpAny _ _ (if (some (Value.builtin "set.__contains__") == some Value.none) = true then _ else _) _ E s
 rw [if_neg (by rw [beq_builtin_none]; exact Bool.false_ne_true)]
 refine wpAny_bind (wpAny_callSpecialUnlessNone?_slot (name := Str.ofString "__contains__") hT F.slot_set_contains
   (wpAny_call_entry F.slot_set_contains hT entry_set_contains ?_ (F.args_set_contains_2 _ _)))
 unfold Builtin.«frozenset.__contains__» Builtin.Frozenset.oneOther
 simp only [List.isEmpty_nil, bind_assoc]
 unfold Builtin.Frozenset.addrOf Builtin.Frozenset.withSetAsKey setContains
 refine wpAny_bind (wpAny_pure ?_)
 try dsimp only
 refine wpAny_bind (wpAny_pure ?_)
 try dsimp only
 refine wpAny_bind (wpAny_tryCatch ?_)
 refine wpAny_holding ?_
 refine wpAny_bind (hash_tup (by show A.units + 1 < cLine; lia) hx ?_)
 refine wpAny_bind (setFind_ps (s := { s with toks := s.toks + (ks.length + 1) }) P ho (by show A.units + 1 < cLine; lia) hx hd fun r hr1 hr => ?_)
 refine wpAny_pure ?_
 show wpAny _ _ (ret (Value.bool r.isSome)) _ _ _
 exact wpAny_pure ⟨_, rfl, wpAny_truthy_bool (h _ _ hr1 hr)⟩
theorem in_ps {a ax : Addr} {o : Obj} {C : List (List Int × Addr)} {ks : List Int} {Q : Value → Shared → Prop} (P : PS w s.heap o C) (ho : s.heap.get? a = some o) (hu : A.units + 64 < cLine) (hx : IsK w s.heap ks ax) (hd : ks ∈ dom)
   (h : ∀ b tk, (b = true → ks ∈ C.map (·.1)) → (C.length ≤ 4 → b = decide (ks ∈ C.map (·.1))) → Q (.bool b) { s with toks := tk }) : wpAny (model prg w) A (compareOp .In (.ref ax) (.ref a)) Q E s :=
 wpAny_bind (contains_ps P ho hu hx hd fun b tk hb1 hb => wpAny_pure (h b tk hb1 hb))
theorem notIn_ps {a ax : Addr} {o : Obj} {C : List (List Int × Addr)} {ks : List Int} {Q : Value → Shared → Prop} (P : PS w s.heap o C) (ho : s.heap.get? a = some o) (hu : A.units + 64 < cLine) (hx : IsK w s.heap ks ax) (hd : ks ∈ dom)
   (h : ∀ b tk, (b = true → ks ∈ C.map (·.1)) → (C.length ≤ 4 → b = decide (ks ∈ C.map (·.1))) → Q (.bool !b) { s with toks := tk }) : wpAny (model prg w) A (compareOp .NotIn (.ref ax) (.ref a)) Q E s :=
 wpAny_bind (contains_ps P ho hu hx hd fun b tk hb1 hb => wpAny_pure (h b tk hb1 hb))
theorem setAdd_new {a ax : Addr} {o : Obj} {C : List (List Int × Addr)} {ks : List Int} {Q : Bool → Shared → Prop}
   (P : PS w s.heap o C) (ho : s.heap.get? a = some o) (hu : A.units < cLine) (hx : IsK w s.heap ks ax) (hd : ks ∈ dom) (hn : ks ∉ C.map (·.1)) (hl : C.length ≤ 16)
   (h : ∀ h' tk o' C', Heap.SameBut a s.heap h' → h'.get? a = some o' → PS w h' o' C' → C'.Perm ((ks, ax) :: C) → Q true { s with heap := h', toks := tk }) : wpAny (model prg w) A (setAdd a (.ref ax)) Q E s := by
 unfold setAdd
 refine wpAny_holding (wpAny_bind (hash_tup hu hx ?_))
 exact setAddHashed_new (s := { s with toks := s.toks + (ks.length + 1) }) P ho hu hx hd hn hl fun h' o' C' a b c d => h h' _ o' C' a b c d
theorem callAdd_ps {a ax : Addr} {o : Obj} {C : List (List Int × Addr)} {ks : List Int} {Q : Value → Shared → Prop}
   (P : PS w s.heap o C) (ho : s.heap.get? a = some o) (hu : A.units + 64 < cLine) (hx : IsK w s.heap ks ax) (hd : ks ∈ dom) (hn : ks ∉ C.map (·.1)) (hl : C.length ≤ 16)
   (h : ∀ h' tk o' C', Heap.SameBut a s.heap h' → h'.get? a = some o' → PS w h' o' C' → C'.Perm ((ks, ax) :: C) → Q .none { s with heap := h', toks := tk }) : wpAny (model prg w) A (call (.builtin "set.add") [.ref a, .ref ax]) Q E s := by
 refine wpAny_call_entry F.slot_set_add (P.typeIs ho) F.entry_set_add ?_ (F.args_set_add_2 _ _)
 unfold Builtin.«set.add» Builtin.Frozenset.oneOther
 simp only [List.isEmpty_nil, bind_assoc]
 unfold Builtin.Frozenset.addrOf
 refine wpAny_bind (wpAny_pure ?_)
 try dsimp only
 refine wpAny_bind (wpAny_pure ?_)
 try dsimp only
 refine wpAny_bind (setAdd_new P ho (by show A.units + 1 < cLine; lia) hx hd hn hl fun h' tk o' C' a b c d => ?_)
 show wpAny _ _ (ret Value.none) _ _ _
 exact wpAny_pure ⟨_, rfl, h h' tk o' C' a b c d⟩
theorem methAdd_ps {a : Addr} {o : Obj} {C : List (List Int × Addr)} {pl : Sem Bool} {Q : Value × List Value → Shared → Prop} (P : PS w s.heap o C) (ho : s.heap.get? a = some o) (h : Q (.builtin "set.add", [.ref a]) s) :
   wpAny (model prg w) A (getMethod (.ref a) "add" pl) Q E s :=
 getMethod_builtin (P.typeIs ho) F.plainAttrs_set F.slot_set_add F.type_set_add (fun b e => by
   cases e
   refine el_xxaa (P.is) fun ep t hsb2 _ => ?_
   subst hsb2
   exact ⟨_, ho, rfl⟩) h
end
section
variable {w : World} {A A' : Around} {outs : List Env} {base : Heap} {n m : Nat} {s : Shared} {E : Value → Shared → Prop} {g : Heap} {L : Addr} {l : Loc} {N : List (Addr × Obj)}
theorem kp {P : Prop} (w : World) (h : P) : (fun _ : World => P) w := h
abbrev set0 (w : World) : Obj := setObj #[] 0 (.fresh 0 0 (ledOf w))
theorem setNew_w (as : List Value) (hc : checkBuiltinCall "set.__new__" ⟨.type "set" :: as, []⟩ = pure ()) {Q₁ : Value → Shared → Prop} (h : Q₁ (.ref s.heap.objs.size) { s with heap := s.heap.push (set0 w) }) :
   codeAny (model prg w) A (.call (.builtin "set.__new__") ⟨.type "set" :: as, []⟩) (wants Q₁ E) s := by
 refine codeAny_of_tree ?_
 show wpAny _ A.in1 (do checkBuiltinCall "set.__new__" ⟨.type "set" :: as, []⟩; again (.builtin "set.__new__" ⟨.type "set" :: as, []⟩)) _ _ s
 refine wpAny_bind (wpAny_of_eq hc (wpAny_pure ⟨plainId_quiet F.plain_set_new _, codeAny_builtin F.entry_set_new ?_⟩))
 rw [Around.under_plainId F.plain_set_new _]
 unfold Builtin.«set.__new__» Builtin.Frozenset.newClass
 have hsub := sub_set_self
 obtain ⟨hp, g, d, tk, os⟩ := s
 dsimp only
 wp_walk
 refine wpAny_askSetting (wpAny_pure ?_)
 dsimp only
 simp only [newObj]
 exact wpAny_bind (wpAny_alloc (wpAny_pure (wpAny_pure h)))
theorem call_set0 {Q : Value → Shared → Prop} (h : Q (.ref s.heap.objs.size) { s with heap := s.heap.push (set0 w) }) : wpAny (model prg w) A (call (.type "set") []) Q E s := by
 refine el_xxa (F.called_set.mro) fun c tl hmro => ?_
 have hmade := F.called_set.made
 have hsub := F.called_set.sub
 refine wpAny_call (codeAny_of_tree ?_)
 show wpAny _ _ (callAny (.type "set") _) _ _ _
 refine wpAny_pure ⟨Code.quiet_builtin _ (by decide +kernel), codeAny_builtin F.entry_type_call ?_⟩
 rw [Around.under_plain (weight_type_call_type "set" [] []) rfl]
 have h1 := F.called_set.notType
 have h2 := kp w F.called_set.canCreate
 have hct := F.typeCall_set_0
 repeat (any_goals (first | assumption | wp_step))
 refine codeAny_mono (setNew_w [] F.newCall_set_0 (E := E) (Q₁ := fun obj s₁ => obj = .ref s.heap.objs.size ∧ s₁ = { s with heap := s.heap.push (set0 w) }) ⟨rfl, rfl⟩) fun r s₁ hr => ?_
 cases r with
 | error e => exact hr
 | ok fl =>
   cases fl with
   | ret obj =>
     refine el_aa hr fun hsb0 hsb1 => ?_
     try clear hr
     subst hsb0
     subst hsb1
     have hS : (s.heap.push (set0 w)).get? s.heap.objs.size = some (set0 w) := Heap.get?_push_size _ rfl
     have hT : Shared.TypeIs { s with heap := s.heap.push (set0 w) } (.ref s.heap.objs.size) "set" := ⟨_, hS, rfl⟩
     have hli := F.called_set.init.lookup
     have hbi := F.called_set.init.bind (.ref s.heap.objs.size)
     repeat (any_goals (first | assumption | wp_step))
     refine codeAny_mono (codeAny_call_builtin (R := wants (fun r s₂ => r = .none ∧ Q (.ref s.heap.objs.size) s₂) E) F.called_set.init.plain F.entry_set_init (check_set_init hT ?_)) fun r₂ s₂ hr₂ => ?_
     · unfold Builtin.«set.__init__» noKeywords
       wp_walk
       exact ⟨rfl, h⟩
     · cases r₂ with
       | error e => exact hr₂
       | ok fl₂ =>
         cases fl₂ with
         | ret r =>
           refine el_aa hr₂ fun hsb0 hq => ?_
           try clear hr₂
           subst hsb0
           repeat (any_goals (first | assumption | wp_step))
         | _ => exact hr₂.elim
   | _ => exact hr.elim
theorem call_setL {la : Addr} {items : Array Value} {Q : Value → Shared → Prop} (hh : A.handled = none) (hl : s.heap.IsList la items) (Inv : Nat → Heap → Prop)
   (hInv : ∀ i h h', Inv i h → (∀ b o, b ∉ [s.heap.objs.size + 1] → h.get? b = some o → h'.get? b = some o) → Inv i h')
   (h0 : ∀ h', (∀ b o, s.heap.get? b = some o → h'.get? b = some o) → h'.get? s.heap.objs.size = some (set0 w) → Inv 0 h')
   (step : ∀ i v (s₁ : Shared) (Q : Bool → Shared → Prop) (E : Value → Shared → Prop) (A' : Around), A'.units ≤ A.units + 10 → i < items.size → items[i]? = some v → Inv i s₁.heap → (∀ b h' tk, Heap.SameBut s.heap.objs.size s₁.heap h' → Inv (i + 1) h' → Q b { s₁ with heap := h', toks := tk }) → wpAny (model prg w) A' (setAdd s.heap.objs.size v) Q E s₁)
   (h : ∀ h' tk, (∀ b o, s.heap.get? b = some o → h'.get? b = some o) → Inv items.size h' → Q (.ref s.heap.objs.size) { s with heap := h', toks := tk }) : wpAny (model prg w) A (call (.type "set") [.ref la]) Q E s := by
 refine el_xxa (F.called_set.mro) fun c tl hmro => ?_
 have hmade := F.called_set.made
 have hsub := F.called_set.sub
 refine wpAny_call (codeAny_of_tree ?_)
 show wpAny _ _ (callAny (.type "set") _) _ _ _
 refine wpAny_pure ⟨Code.quiet_builtin _ (by decide +kernel), codeAny_builtin F.entry_type_call ?_⟩
 rw [Around.under_plain (weight_type_call_type "set" [.ref la] []) rfl]
 have h1 := F.called_set.notType
 have h2 := kp w F.called_set.canCreate
 have hct := F.typeCall_set_1 (.ref la)
 repeat (any_goals (first | assumption | wp_step))
 refine codeAny_mono (setNew_w [.ref la] (F.newCall_set_1 _) (E := E) (Q₁ := fun obj s₁ => obj = .ref s.heap.objs.size ∧ s₁ = { s with heap := s.heap.push (set0 w) }) ⟨rfl, rfl⟩) fun r s₁ hr => ?_
 cases r with
 | error e => exact hr
 | ok fl =>
   cases fl with
   | ret obj =>
     refine el_aa hr fun hsb0 hsb1 => ?_
     try clear hr
     subst hsb0
     subst hsb1
     have hS : (s.heap.push (set0 w)).get? s.heap.objs.size = some (set0 w) := Heap.get?_push_size _ rfl
     have hT : Shared.TypeIs { s with heap := s.heap.push (set0 w) } (.ref s.heap.objs.size) "set" := ⟨_, hS, rfl⟩
     have hli := F.called_set.init.lookup
     have hbi := F.called_set.init.bind (.ref s.heap.objs.size)
     repeat (any_goals (first | assumption | wp_step))
     refine codeAny_mono (codeAny_call_builtin (R := wants (fun r s₂ => r = .none ∧ ∃ h' tk, s₂ = { s with heap := h', toks := tk } ∧ (∀ b o, s.heap.get? b = some o → h'.get? b = some o) ∧ Inv items.size h') E) F.called_set.init.plain F.entry_set_init (check_set_init_1 hT ?_)) fun r₂ s₂ hr₂ => ?_
     · refine el_xaaxa hl fun ol nl hol hcl hdl => ?_
       try clear hl
       obtain ⟨ocls, odict, odata, oslots⟩ := ol
       simp only at hcl hdl
       subst hcl; subst hdl
       have hol' : (s.heap.push (set0 w)).get? la = some { cls := .type "list", dict := odict, data := .seq items nl, slots := oslots } := Heap.get?_push_of_some _ hol
       have hsls := F.sub_list_set
       have hslf := F.sub_list_frozenset
       have hne : (Value.type "list" == Value.type "dict") = false := by decide
       have hl1 : (s.heap.push (set0 w)).IsList la items := ⟨_, hol', rfl, nl, rfl⟩
       unfold Builtin.«set.__init__» noKeywords Builtin.Frozenset.updateFrom
       generalize hPI : pyIter = PI
       wp_walk
       subst hPI
       refine wpAny_pyIter_list hl1 ?_
       refine wpAny_bind (wpAny_runValue ?_)
       have hlS : la < s.heap.objs.size := Heap.lt_size hol
       have hsz : (s.heap.push (set0 w)).objs.size = s.heap.objs.size + 1 := Heap.size_push _ _
       have hneI : la ≠ (s.heap.push (set0 w)).objs.size := by rw [hsz]; exact Nat.ne_of_lt (Nat.lt_succ_of_lt hlS)
       have hSf : s.heap.objs.size ∉ [(s.heap.push (set0 w)).objs.size, la] := by
         rw [hsz]; simp only [List.mem_cons, List.not_mem_nil, or_false, not_or]
         exact ⟨Nat.ne_of_lt (Nat.lt_succ_self _), Nat.ne_of_gt hlS⟩
       have hold : ∀ b o, s.heap.get? b = some o → ((s.heap.push (set0 w)).push { cls := .type "list_iterator", data := .fields #[.ref la, .int 0 0] }).get? b = some o := fun b o e => Heap.get?_push_of_some _ (Heap.get?_push_of_some _ e)
       refine upd_loop (Walks.list (A := A.in1.in1.in1) hh (s.heap.push (set0 w)).objs.size la hneI items) s.heap.objs.size hSf Inv (fun i h h' hi k => hInv i h h' hi fun b o nb e => k b o (by rw [hsz]; exact nb) e)
         (fun i v s₁ Q₁ E₁ hi hP hI hQ => step i v s₁ Q₁ E₁ _ ?hu hi hP hI hQ) (items.size - 0) 0 _ (by lia) (Nat.zero_le _) ?hst ?hI0 ?hR
       case hst => exact ⟨⟨_, Heap.get?_push_size _ rfl, rfl, rfl⟩, hl1.push _⟩
       case hI0 => exact h0 _ hold (Heap.get?_push_of_some _ hS)
       case hu => simp
       intro h' tk k hI
       show wpAny _ _ _ _ _ _
       refine wpAny_pure ?_
       show wpAny _ _ (ret Value.none) _ _ _
       refine wpAny_pure ⟨rfl, h', tk, rfl, fun b o e => ?_, hI⟩
       have hb := Heap.lt_size e
       exact k b o (Nat.ne_of_lt hb) (by rw [hsz]; simpa using Nat.ne_of_lt (Nat.lt_succ_of_lt hb)) (hold b o e)
     · cases r₂ with
       | error e => exact hr₂
       | ok fl₂ =>
         cases fl₂ with
         | ret r =>
           refine el_axxaaa hr₂ fun h' tk hsb0 hsb3 hk' hI => ?_
           try clear hr₂
           subst hsb0
           subst hsb3
           repeat (any_goals (first | assumption | wp_step))
           exact h _ _ hk' hI
         | _ => exact hr₂.elim
   | _ => exact hr.elim
end
theorem eraseIdx_perm {α : Type} : ∀ (l : List α) (n : Nat) (h : n < l.length), l.Perm (l[n] :: l.eraseIdx n)
 | [], _, h => absurd h (Nat.not_lt_zero _)
 | x :: r, 0, _ => .refl _
 | x :: r, n + 1, h => ((eraseIdx_perm r n (Nat.lt_of_succ_lt_succ h)).cons x).trans (.swap _ _ _)
theorem pick_go {α : Type} (next : Nat → Nat) : ∀ (fuel k : Nat) (left : List α) (out : Array α), left.length = fuel → (pickOrder.go next fuel k left out).toList.Perm (out.toList ++ left)
 | 0, k, left, out, h => by
   rw [List.length_eq_zero_iff.mp h]; simp [pickOrder.go]
 | fuel + 1, k, left, out, h => by
   have hlt : next k % left.length < left.length := Nat.mod_lt _ (by lia)
   unfold pickOrder.go
   rw [List.getElem?_eq_getElem hlt]
   dsimp only
   refine (pick_go next fuel (k + 1) _ _ (by rw [List.length_eraseIdx_of_lt hlt]; lia)).trans ?_
   have e : (out.push left[next k % left.length]).toList = out.toList ++ [left[next k % left.length]] := by simp
   rw [e, List.append_assoc]
   exact List.Perm.append_left _ (eraseIdx_perm left _ hlt).symm
theorem pick_perm {α : Type} (next : Nat → Nat) (xs : Array α) : (pickOrder next xs).toList.Perm xs.toList := by
 have := pick_go next xs.size 0 xs.toList #[] (by simp)
 simpa [pickOrder] using this
theorem slot_si_next : Slot "set_iterator" "__next__" "set_iterator.__next__" :=
 .of (owner := "set_iterator") (n := "__next__") (by rw [typeLookup_type, builtinLookup_eq_fast]; kernel_rfl) (by decide +kernel) (by decide +kernel) (by decide +kernel)
   (by first | exact .inl (by decide +kernel) | exact .inr (by decide +kernel)) (by rw [isSubtype_type]; kernel_rfl)
theorem slot_si_iter : Slot "set_iterator" "__iter__" "set_iterator.__iter__" :=
 .of (owner := "set_iterator") (n := "__iter__") (by rw [typeLookup_type, builtinLookup_eq_fast]; kernel_rfl) (by decide +kernel) (by decide +kernel) (by decide +kernel)
   (by first | exact .inl (by decide +kernel) | exact .inr (by decide +kernel)) (by rw [isSubtype_type]; kernel_rfl)
theorem entry_si_next : entryFor table "set_iterator.__next__" = some Builtin.«set_iterator.__next__» := entryFor_of_fast (by kernel_rfl)
theorem entry_si_iter : entryFor table "set_iterator.__iter__" = some Builtin.«dict_keyiterator.__iter__» := entryFor_alias (id' := "dict_keyiterator.__iter__") (by kernel_rfl) rfl (by decide +kernel) (by kernel_rfl)
theorem args_si_next (a : Value) : argsOk "set_iterator.__next__" ⟨[a], []⟩ := by unfold argsOk; kernel_rfl
theorem args_si_iter (a : Value) : argsOk "set_iterator.__iter__" ⟨[a], []⟩ := by unfold argsOk; kernel_rfl
theorem entry_set_iter : entryFor table "set.__iter__" = some Builtin.«frozenset.__iter__» := entryFor_alias (id' := "frozenset.__iter__") (by kernel_rfl) rfl (by decide +kernel) (by kernel_rfl)
section
variable {w : World} {A A' : Around} {outs : List Env} {base : Heap} {n m : Nat} {s : Shared} {E : Value → Shared → Prop} {g : Heap} {L : Addr} {l : Loc} {N : List (Addr × Obj)}
noncomputable def walkOf (w : World) (a : Addr) (ep : Nat) (es : Array (Int × Value)) : List Value :=
 if w.params.followText "set-order" then (pickOrder (w.params.setOrder a ep) es).toList.map (·.2) else es.toList.map (·.2)
theorem walkOf_perm (a : Addr) (ep : Nat) (C : List (List Int × Addr)) : (walkOf w a ep (entsOf C)).Perm (C.map fun c => .ref c.2) := by
 unfold walkOf
 have e : (entsOf C).toList.map (·.2) = C.map fun c => Value.ref c.2 := by simp [Function.comp_def]
 split
 · rw [← e]; exact (pick_perm _ _).map _
 · rw [e]
abbrev siObj (sl i : Nat) (a : Addr) (n ep : Nat) : Obj := { cls := .type "set_iterator", data := .fields #[.int sl 0, .int i 0, .ref a, .int n 0, .int ep 0] }
noncomputable def SIter (w : World) (I a : Addr) (es : Array (Int × Value)) (ep : Nat) (t : SetTable) (i : Nat) (h : Heap) : Prop :=
 (∃ sl : Nat, h.get? I = some (siObj sl i a es.size ep) ∧ (w.params.followText "set-order" = false → SetTable.below t.place sl = i)) ∧ h.get? a = some (setObj es ep t)
theorem below_zero {t : SetTable} (hs : Rising t.place.toList) : SetTable.below t.place 0 = 0 := by
 refine el_aaa (below_spec hs 0) fun h1 h2 h3 => ?_
 rcases Nat.eq_zero_or_pos (SetTable.below t.place 0) with q | q
 · exact q
 · have hlt : 0 < t.place.size := by lia
   have := h2 0 _ q (Array.getElem?_eq_getElem hlt)
   lia
theorem below_next {t : SetTable} (hs : Rising t.place.toList) {i j : Nat} (hi : t.place[i]? = some j) : SetTable.below t.place (j + 1) = i + 1 := by
 refine el_aaa (below_spec hs (j + 1)) fun h1 h2 h3 => ?_
 have hsz := (Array.getElem?_eq_some_iff.mp hi).1
 have mono : ∀ {a b : Nat} {x y : Nat}, a < b → t.place[a]? = some x → t.place[b]? = some y → x < y := by
   intro a b x y hab ha hb
   rw [← Array.getElem?_toList] at ha hb
   refine el_xa (List.getElem?_eq_some_iff.mp ha) fun ha1 hsb1 => ?_
   subst hsb1
   refine el_xa (List.getElem?_eq_some_iff.mp hb) fun hb1 hsb1 => ?_
   subst hsb1
   exact List.pairwise_iff_getElem.mp hs a b ha1 hb1 hab
 rcases Nat.lt_trichotomy (SetTable.below t.place (j + 1)) (i + 1) with q | q | q
 · exfalso
   have := h3 i j (by lia) hi
   lia
 · exact q
 · exfalso
   have hlt : i + 1 < t.place.size := by lia
   have a := h2 (i + 1) _ q (Array.getElem?_eq_getElem hlt)
   have b := mono (Nat.lt_succ_self i) hi (Array.getElem?_eq_getElem hlt)
   lia
theorem set_upd {h : Heap} {I : Addr} {vs : Array Value} {k : Nat} {x : Value} {c : Value} (ho : h.get? I = some { cls := c, data := .fields vs }) : (h.update I (Obj.mapFields (·.setIfInBounds k x))).get? I = some { cls := c, data := .fields (vs.setIfInBounds k x) } :=
 Heap.get?_update_self _ ho rfl
theorem next_set {I a : Addr} {es : Array (Int × Value)} {ep : Nat} {t : SetTable} {i : Nat} {x : Value} {Q : Option Value → Shared → Prop} (st : SIter w I a es ep t i s.heap) (hf : t.fits es.size = true) (hp : t.plain = true) (hled : t.led = ledOf w) (hs : Rising t.place.toList) (hsz : t.place.size = es.size)
   (hx : (walkOf w a ep es)[i]? = some x) (hI : I ≠ a)
   (h : ∀ h', Heap.SameBut I s.heap h' → SIter w I a es ep t (i + 1) h' → Q (some x) { s with heap := h' }) : wpAny (model prg w) A (pyNext (.ref I)) Q E s := by
 obtain ⟨⟨sl, ho, hsl⟩, ha⟩ := st
 have hT : s.TypeIs (.ref I) "set_iterator" := ⟨_, ho, rfl⟩
 unfold pyNext
 refine wpAny_bind (wpAny_attempt (wpAny_callSpecial?_slot (name := Str.ofString "__next__") hT slot_si_next (wpAny_call_entry slot_si_next hT entry_si_next ?_ (args_si_next _))))
 unfold Builtin.«set_iterator.__next__»
 refine wpAny_bind (m := slotArgs "__next__" 0 ⟨[.ref I], []⟩) (wpAny_pure ?_)
 refine wpAny_bind (wpAny_fieldsOf ho rfl ?_)
 dsimp only
 refine wpAny_bind (wpAny_bind (setState_ps ha hf (wpAny_pure ?_)))
 dsimp only
 rw [if_neg (by simp)]
 have hnext : ∀ (R : Option (Value × Nat) → Shared → Prop) (E' : Value → Shared → Prop), (∀ sl', (w.params.followText "set-order" = false → SetTable.below t.place sl' = i + 1) → R (some (x, sl')) s) → wpAny (model prg w) A.in1 (setNext a sl i ep) R E' s := by
   intro R E' hR
   unfold setNext
   refine wpAny_bind (setState_ps ha hf ?_)
   dsimp only
   unfold setsByText
   refine wpAny_bind (wpAny_bind (wpAny_askSetting (wpAny_pure ?_)))
   show wpAny _ _ (if w.params.followText "set-order" = true then _ else _) _ _ _
   cases hft : w.params.followText "set-order" with
   | true =>
     rw [if_pos rfl, if_neg (by simp)]
     refine wpAny_bind ?_
     unfold setWalk
     refine wpAny_bind (setState_ps ha hf ?_)
     dsimp only
     unfold setsByText
     refine wpAny_bind (wpAny_bind (wpAny_askSetting (wpAny_pure ?_)))
     show wpAny _ _ (if w.params.followText "set-order" = true then _ else _) _ _ _
     rw [hft, if_pos rfl]
     refine wpAny_bind (wpAny_askSetting (wpAny_pure (wpAny_pure ?_)))
     unfold walkOf at hx
     rw [hft, if_pos rfl, List.getElem?_map, Array.getElem?_toList] at hx
     refine el_xaa (Option.map_eq_some_iff.mp hx) fun e he hsb2 => ?_
     subst hsb2
     show R ((pickOrder (w.params.setOrder a ep) es)[i]?.map _) s
     rw [he]
     exact hR sl fun q => by rw [hft] at q; cases q
   | false =>
     rw [if_neg Bool.false_ne_true]
     rw [if_neg (fun h => by have h' : (!t.plain && decide (es.size > 1)) = true := h; rw [hp] at h'; cases h')]
     refine wpAny_bind ?_
     have hb := hsl hft
     unfold walkOf at hx
     rw [hft, if_neg Bool.false_ne_true, List.getElem?_map, Array.getElem?_toList] at hx
     refine el_xaa (Option.map_eq_some_iff.mp hx) fun e he hsb2 => ?_
     subst hsb2
     have hi : i < es.size := (Array.getElem?_eq_some_iff.mp he).1
     have hpl : t.place[i]? = some t.place[i] := Array.getElem?_eq_getElem (by lia)
     have hL : (!t.led) = false := by rw [hled]; unfold ledOf; rw [hft]; rfl
     show wpAny _ _ (if (!t.led && !es.isEmpty) = true then _ else _) _ _ _
     rw [hL, if_neg (by simp)]
     refine wpAny_pure (wpAny_pure ?_)
     rw [hb, he, hpl]
     exact hR _ fun _ => below_next hs hpl
 show wpAny _ _ (setNext a (Int.toNat sl) (Int.toNat i) (Int.toNat ep) >>= _) _ _ _
 rw [Int.toNat_natCast, Int.toNat_natCast, Int.toNat_natCast]
 refine wpAny_bind (hnext _ _ fun sl' hsl' => ?_)
 dsimp only
 have u1 := set_upd (k := 0) (x := rawInt sl') ho
 refine wpAny_bind (wpAny_setField ho rfl (by simp) ?_)
 refine wpAny_bind (wpAny_setField u1 rfl (by simp) ?_)
 have u2 := set_upd (k := 1) (x := rawInt (i + 1)) u1
 refine wpAny_pure ⟨x, rfl, wpAny_pure (h _ ((Heap.SameBut.update ..).trans (Heap.SameBut.update ..)) ⟨⟨sl', ?_, hsl'⟩, ?_⟩)⟩
 · rw [u2]
   simp [rawInt]
 · have s2 : Heap.SameBut I s.heap ((s.heap.update I (Obj.mapFields (·.setIfInBounds 0 (rawInt sl')))).update I (Obj.mapFields (·.setIfInBounds 1 (rawInt (i + 1))))) := (Heap.SameBut.update ..).trans (Heap.SameBut.update ..)
   exact (s2.2 a (Ne.symm hI)).trans ha
theorem next_set_end {I a : Addr} {es : Array (Int × Value)} {ep : Nat} {t : SetTable} {Q : Option Value → Shared → Prop} (hh : A.handled = none) (st : SIter w I a es ep t es.size s.heap) (hf : t.fits es.size = true) (hp : t.plain = true) (hled : t.led = ledOf w)
   (h : ∀ h', Heap.ExtBut I s.heap h' → Q none { s with heap := h' }) : wpAny (model prg w) A (pyNext (.ref I)) Q E s := by
 obtain ⟨⟨sl, ho, hsl⟩, ha⟩ := st
 have hT : s.TypeIs (.ref I) "set_iterator" := ⟨_, ho, rfl⟩
 unfold pyNext
 refine wpAny_bind (wpAny_attempt (wpAny_callSpecial?_slot (name := Str.ofString "__next__") hT slot_si_next (wpAny_call_entry slot_si_next hT entry_si_next ?_ (args_si_next _))))
 unfold Builtin.«set_iterator.__next__»
 refine wpAny_bind (m := slotArgs "__next__" 0 ⟨[.ref I], []⟩) (wpAny_pure ?_)
 refine wpAny_bind (wpAny_fieldsOf ho rfl ?_)
 dsimp only
 refine wpAny_bind (wpAny_bind (setState_ps ha hf (wpAny_pure ?_)))
 dsimp only
 rw [if_neg (by simp)]
 have hnext : ∀ (R : Option (Value × Nat) → Shared → Prop) (E' : Value → Shared → Prop), R none s → wpAny (model prg w) A.in1 (setNext a sl es.size ep) R E' s := by
   intro R E' hR
   unfold setNext
   refine wpAny_bind (setState_ps ha hf ?_)
   dsimp only
   unfold setsByText
   refine wpAny_bind (wpAny_bind (wpAny_askSetting (wpAny_pure ?_)))
   show wpAny _ _ (if w.params.followText "set-order" = true then _ else _) _ _ _
   cases hft : w.params.followText "set-order" with
   | true =>
     rw [if_pos rfl, if_neg (by simp)]
     refine wpAny_bind ?_
     unfold setWalk
     refine wpAny_bind (setState_ps ha hf ?_)
     dsimp only
     unfold setsByText
     refine wpAny_bind (wpAny_bind (wpAny_askSetting (wpAny_pure ?_)))
     show wpAny _ _ (if w.params.followText "set-order" = true then _ else _) _ _ _
     rw [hft, if_pos rfl]
     refine wpAny_bind (wpAny_askSetting (wpAny_pure (wpAny_pure ?_)))
     have hsz : (pickOrder (w.params.setOrder a ep) es).size = es.size := by
       have := (pick_perm (w.params.setOrder a ep) es).length_eq
       simpa using this
     show R ((pickOrder (w.params.setOrder a ep) es)[es.size]?.map _) s
     rw [Array.getElem?_eq_none (by lia)]
     exact hR
   | false =>
     rw [if_neg Bool.false_ne_true]
     rw [if_neg (fun h => by have h' : (!t.plain && decide (es.size > 1)) = true := h; rw [hp] at h'; cases h')]
     refine wpAny_bind ?_
     have hb := hsl hft
     have hL : (!t.led) = false := by rw [hled]; unfold ledOf; rw [hft]; rfl
     show wpAny _ _ (if (!t.led && !es.isEmpty) = true then _ else _) _ _ _
     rw [hL, if_neg (by simp)]
     refine wpAny_pure (wpAny_pure ?_)
     rw [hb, Array.getElem?_eq_none (Nat.le_refl _)]
     exact hR
 show wpAny _ _ (setNext a (Int.toNat sl) (Int.toNat es.size) (Int.toNat ep) >>= _) _ _ _
 rw [Int.toNat_natCast, Int.toNat_natCast, Int.toNat_natCast]
 refine wpAny_bind (hnext _ _ ?_)
 dsimp only
 refine wpAny_bind (wpAny_setField ho rfl (by simp) ?_)
 refine wpAny_bind ?_
 simp only [newExc, newTuple]
 refine wpAny_bind (wpAny_newObj_type ?_ (by size_fits))
 refine wpAny_bind (m := firstArgMember _ _) (wpAny_of_eq (a := Value.none) (by first | rfl | (simp only [firstArgMember]; rfl)) (wpAny_newObj_type ?_ (by size_fits)))
 simp only [raiseNew]
 refine wpAny_bind (wpAny_handled ?_)
 rw [show A.in1.handled = none from hh]
 refine wpAny_bind (wpAny_pure (wpAny_throw ?_))
 refine wpAny_bind (wpAny_isInstance (T := "StopIteration") (b := true) ⟨_, Heap.get?_push_size _ rfl, rfl⟩ isSubtype_stop ?_)
 exact wpAny_pure (h _ (((Heap.SameBut.update ..).extBut.push _).push _))
theorem letGo_set {target : Expr} {I : Addr} {sl i n ep : Nat} {a : Addr} {v : Value} {Q : Unit → Shared → Prop} (hit : s.heap.get? I = some (siObj sl i a n ep)) (h : Q () s) : wpAny (model prg w) A (letOwnedTupleGo target (.ref I) v) Q E s := by
 unfold letOwnedTupleGo
 cases target <;> first
   | exact wpAny_pure h
   | (cases v <;> first
       | exact wpAny_pure h
       | (refine wpAny_bind (wpAny_load hit ?_); exact wpAny_pure h))
theorem SrcG.set {a : Addr} {o : Obj} {C : List (List Int × Addr)} (P : PS w g o C) (ho : g.get? a = some o) :
   ∃ V : List Value, V.Perm (C.map fun c => .ref c.2) ∧ ∀ (A : Around) (target : Expr), A.handled = none → Src w A target (.ref a) g V.length (fun i v _ => V[i]? = some v) Plain := by
 refine el_xxaaaaa (P.is) fun ep t hsb2 T hr hsm hled => ?_
 subst hsb2
 have hf : t.fits (entsOf C).size = true := by rw [ents_size]; exact T.fits
 have hperm := walkOf_perm (w := w) a ep C
 have hlen : (walkOf w a ep (entsOf C)).length = (entsOf C).size := by rw [hperm.length_eq, List.length_map, ents_size]
 refine ⟨walkOf w a ep (entsOf C), hperm, fun A target hh => SrcG.of Plain Eq plain_ok (fun _ => rfl) fun s Q E hk h => ?_⟩
 have ha := hk _ _ ho
 have hT : s.TypeIs (.ref a) "set" := ⟨_, ha, rfl⟩
 have hIa : s.heap.objs.size ≠ a := fun e => by rw [← e, get_size] at ha; cases ha
 have W : Walks prg w A s.heap.objs.size [s.heap.objs.size, a] [s.heap.objs.size] (walkOf w a ep (entsOf C)).length (fun i v => (walkOf w a ep (entsOf C))[i]? = some v) (SIter w s.heap.objs.size a (entsOf C) ep t) := {
   sub := fun b hb => by simp at hb; simp [hb]
   frame := fun i h h' st k => ⟨by obtain ⟨sl, e, r⟩ := st.1; exact ⟨sl, k _ (by simp) _ e, r⟩, k _ (by simp) _ st.2⟩
   item := fun i s' Q' E' hi st hQ => by
     refine next_set st hf T.plain hled T.rising (by rw [T.size, ents_size]) (List.getElem?_eq_getElem hi) hIa fun h' hs st' => ?_
     exact hQ _ h' s'.toks (List.getElem?_eq_getElem hi) st' fun b o hb e => hs.extBut b o (by simpa using hb) e
   done := fun s' Q' E' st hQ => by
     rw [hlen] at st
     exact next_set_end hh st hf T.plain hled fun h' hs => hQ h' s'.toks fun b o hb e => hs b o (by simpa using hb) e
   self := fun i s' Q' E' st hq => by
     obtain ⟨⟨sl, e, _⟩, _⟩ := st
     have hT : s'.TypeIs (.ref s.heap.objs.size) "set_iterator" := ⟨_, e, rfl⟩
     refine wpAny_pyIter_slot hT slot_si_iter (wpAny_call_entry slot_si_iter hT entry_si_iter ?_ (args_si_iter _))
     show wpAny _ _ (ret _) _ _ _
     exact wpAny_pure ⟨_, rfl, "set_iterator", _, hT, slot_si_next.lookup, hq⟩ }
 refine wpAny_pyIter_slot hT F.slot_set_iter (wpAny_call_entry F.slot_set_iter hT entry_set_iter ?_ (F.args_set_iter_1 _))
 unfold Builtin.«frozenset.__iter__»
 refine wpAny_bind (m := Builtin.Frozenset.slot0 "__iter__" ⟨[.ref a], []⟩) (wpAny_pure ?_)
 unfold Builtin.Frozenset.sizeOf setEntries setDrawn setEpoch
 refine wpAny_bind (wpAny_bind (wpAny_bind (setState_ps ha hf (wpAny_pure (wpAny_pure ?_)))))
 unfold setsByText
 refine wpAny_bind (wpAny_bind (setState_ps ha hf (wpAny_bind (wpAny_bind (wpAny_askSetting (wpAny_pure (wpAny_pure ?_)))))))
 dsimp only
 rw [if_neg (fun h => by
   have h' : (!w.params.followText "set-order" && (!t.plain && decide ((entsOf C).size > 1))) = true := h
   rw [T.plain] at h'; simp at h')]
 refine wpAny_bind (wpAny_pure ?_)
 refine wpAny_bind (wpAny_bind (setState_ps ha hf (wpAny_pure ?_)))
 refine wpAny_bind ?_
 simp only [newFields]
 refine wpAny_newObj_type ?_ (by size_fits)
 have st0 : SIter w s.heap.objs.size a (entsOf C) ep t 0 (s.heap.push (siObj 0 0 a (entsOf C).size ep)) := ⟨⟨0, Heap.get?_push_size _ rfl, fun _ => below_zero T.rising⟩, Heap.get?_push_of_some _ ha⟩
 refine wpAny_pure ⟨_, rfl, "set_iterator", _, ⟨_, Heap.get?_push_size _ rfl, rfl⟩, slot_si_next.lookup, ?_⟩
 exact h _ _ _ _ _ _ rfl (KTurns.ofWalks W fun i v s Q E st q => by obtain ⟨⟨sl, e, _⟩, _⟩ := st; exact letGo_set e q) st0 (fun b hb => by simpa using hb) (fun b hb => by
   rcases List.mem_cons.mp hb with e | hb
   · exact .inl e
   · rw [List.mem_singleton.mp hb]; exact .inr ⟨_, ho⟩) (fun i h' st b hb => by
   rcases List.mem_cons.mp hb with rfl | hb
   · obtain ⟨⟨sl, e, _⟩, _⟩ := st; exact ⟨_, e⟩
   · rw [List.mem_singleton.mp hb]; exact ⟨_, st.2⟩) fun s₁ Q E st q => W.self 0 s₁ Q E st q
end
/-! ## a generator's run up to its next stop -/
section
variable {w : World} {A : Around} {Φ : End → Shared → Prop} {c : Code} {fs : List Frame} {s : Shared}
noncomputable def SegX (w : World) (A : Around) (Φ : End → Shared → Prop) (c : Code) (t : Sem Fin) (fs : List Frame) (s : Shared) : Prop :=
 ∀ Γ p, Γ.code = c → Γ.Woken A → ∃ e s', Runs (model prg w) Γ p t fs s e s' ∧ e.quiet = true ∧ Φ e s'
theorem sx_wrap {α : Type} {m : Sem α} {K : α → Sem Fin} {H : Value → Sem Fin} {gd : Bool → Bool} {lv : List Value → List Value}
   (h : wpAny (model prg w) (A.over c fs) m (fun a s' => SegX w A Φ c (K a) fs s') (fun x s' => SegX w A Φ c (H x) fs s') s) : SegX w A Φ c (m.wrap K H gd lv) fs s := by
 intro Γ p e hΓ
 subst e
 exact runs_wrap_of_wp (Φ := fun e s' => e.quiet = true ∧ Φ e s') K H gd lv m (h (Γ.over fs) p (hΓ.over fs)) (fun a p' s' y => y Γ p' rfl hΓ) fun x p' s' y => y Γ p' rfl hΓ
theorem sx_bind {α β : Type} {m : Sem α} {f : α → Sem β} {K : β → Sem Fin} {H : Value → Sem Fin} {gd : Bool → Bool} {lv : List Value → List Value}
   (h : wpAny (model prg w) (A.over c fs) m (fun a s' => SegX w A Φ c ((f a).wrap K H gd lv) fs s') (fun x s' => SegX w A Φ c (H x) fs s') s) : SegX w A Φ c ((m >>= f).wrap K H gd lv) fs s := by
 rw [Sem.bind_eq_wrap', Sem.wrap_wrap]; exact sx_wrap h
theorem sx_point {l : List Value} {k : Unit → Sem Fin} (h : SegX w A Φ c (k ()) fs s) : SegX w A Φ c (.point l k) fs s :=
 sx_wrap (m := point) (K := k) (H := .raise) (gd := id) (lv := fun _ => l) (wpAny_point h)
theorem sx_at {p' : Pos} {k : Unit → Sem Fin} (h : SegX w A Φ c (k ()) fs s) : SegX w A Φ c (.at p' k) fs s :=
 sx_wrap (m := standAt p') (K := k) (H := .raise) (gd := id) (lv := id) (wpAny_standAt h)
theorem sx_call {c' : Code} {h : Option Value} {g : Bool} {l : List Value} {k : Result → Sem Fin} (hc : ∀ p, SegX w A Φ c' ((model prg w).den c') (.ret k h g l c p [] :: fs) s) : SegX w A Φ c (.call c' h g l k) fs s := by
 intro Γ p e hΓ
 subst e
 refine el_xxaa (hc p (Γ.goto c') p rfl (hΓ.goto c')) fun e s' hr he => ?_
 exact in_x2 e s' ⟨runs_call_seg hr, he⟩ -- in68
theorem sx_leaf {k : Result → Sem Fin} {h : Option Value} {g : Bool} {l : List Value} {c₁ : Code} {p₁ : Pos} {kp : List Value} (r : Result) (hk : SegX w A Φ c₁ (k r) fs s) : SegX w A Φ c (leafOf r) (.ret k h g l c₁ p₁ kp :: fs) s := by
 intro Γ p e hΓ
 subst e
 refine el_xxaa (hk (Γ.goto c₁) p₁ rfl (hΓ.goto c₁)) fun e s' hr he => ?_
 exact in_x2 e s' ⟨Runs.pop r hr, he⟩ -- in69
theorem sx_again {c' : Code} (hq : c'.quiet = true) (hc : SegX w A Φ c' ((model prg w).den c') fs s) : SegX w A Φ c (.pure (.again c')) fs s := by
 intro Γ p e hΓ
 subst e
 refine el_xxaa (hc (Γ.goto c') p rfl (hΓ.goto c')) fun e s' hr he => ?_
 exact in_x2 e s' ⟨Runs.head (c₁ := c') (fun _ _ x => .again hq x) hr, he⟩ -- in70
theorem sx_end (r : Result) (h : Φ (.ret r) s) : SegX w A Φ c (leafOf r) [] s := by
 intro Γ p e _
 subst e
 exact in_x2 (.ret r) s ⟨Runs.leaf r, rfl, h⟩ -- in71
theorem sx_yield {v : Value} {g : Bool} {l : List Value} {k : Resume → Sem Fin} (hfs : splitAtGen fs = none) (hg : g = false) (hfg : fs.any Frame.guarded = false) (h : ∀ p, Φ (.susp v g l k c p fs) s) : SegX w A Φ c (.yield v g l k) fs s := by
 intro Γ p e _
 subst e
 exact in_x2 _ s ⟨Runs.yield' fs hfs, by simp [End.quiet, hg, hfg], h p⟩ -- in72
noncomputable def GoesX (w : World) (A : Around) (Φ : End → Shared → Prop) (gs : GenState) (r : Resume) (s : Shared) : Prop := match gs with
 | .fresh c => r = .send .none ∧ SegX w A Φ c ((model prg w).den c) [] s
 | .suspended k _ c _ fs _ => SegX w A Φ c (k r) fs s
 | _ => False
theorem bare_end {e : End} (h : e.quiet = true) : e.genState.bare = true := End.bare_of_quiet h
theorem resumeX {E : Value → Shared → Prop} {g : Nat} {gs : GenState} {r : Resume} {l : List Value} {α : Type} {k : GenResult → Sem α} {Q : α → Shared → Prop} (hg : s.gens[g]? = some gs) (hgo : GoesX w A Φ gs r (s.setGen g .running))
   (h : ∀ e s₁, e.quiet = true → Φ e s₁ → wpAny (model prg w) A (k e.result) Q E (s₁.setGen g e.genState)) : wpAny (model prg w) A (.resume g r l k) Q E s := by
 intro Γ p hΓ
 rw [Sem.wp_resume]
 cases gs with
 | fresh c =>
   refine el_aa hgo fun hsb0 hs => ?_
   try clear hgo
   subst hsb0
   refine el_xxaaa (hs (Γ.wake c p) p rfl (hΓ.wake c p)) fun e₁ s₁ hr hq he => ?_
   exact in_x2 _ _ ⟨by unfold Wakes; rw [hg]; exact ⟨e₁, s₁, hr, hq, rfl, rfl⟩, h e₁ s₁ hq he Γ p hΓ⟩ -- in73
 | suspended k₀ l₀ c₀ p₀ fs₀ cl =>
   refine el_xxaaa (hgo (Γ.wake c₀ p) p₀ rfl (hΓ.wake c₀ p)) fun e₁ s₁ hr hq he => ?_
   exact in_x2 _ _ ⟨by unfold Wakes; rw [hg]; exact ⟨e₁, s₁, hr, hq, rfl, rfl⟩, h e₁ s₁ hq he Γ p hΓ⟩ -- in74
 | running => exact hgo.elim
 | finished => exact hgo.elim
end
section
variable {w : World} {A : Around} {E : Value → Shared → Prop} {s : Shared}
theorem next_gen {a : Addr} {gi : Nat} {gs : GenState} {Φ : End → Shared → Prop} {Q : Option Value → Shared → Prop} (hh : A.handled = none) (hl : s.heap.NoLimit) (hroom : A.depth < recursionLimit)
   (hg : s.heap.IsGen a gi) (hgs : s.gens[gi]? = some gs) (hgo : GoesX w A.in1 Φ gs (.send .none) (s.setGen gi .running))
   (hY : ∀ e v s₁, e.quiet = true → e.result = .yielded v → Φ e s₁ → Q (some v) (s₁.setGen gi e.genState))
   (hR : ∀ r s₁, Φ (.ret r) s₁ → r = .ok (.ret .none) ∧ ∀ h', (∀ b o, s₁.heap.get? b = some o → h'.get? b = some o) → Q none { s₁.setGen gi .finished with heap := h' }) :
   wpAny (model prg w) A (pyNext (.ref a)) Q E s := by
 unfold pyNext
 refine wpAny_bind (wpAny_attempt (wpAny_callSpecial?_slot (name := Str.ofString "__next__") hg.typeIs slot_gen_next (wpAny_call_entry slot_gen_next hg.typeIs entry_gen_next ?_ (args_gen_next _))))
 show wpAny _ A.in1 (Builtin.Generator.genWake (.ref a) (.send .none)) _ _ s
 unfold Builtin.Generator.genWake
 refine wpAny_bind (wpAny_holding (wpAny_genNumber hg (wpAny_bind (wpAny_genState hgs ?_))))
 cases gs with
 | running => exact hgo.elim
 | finished => exact hgo.elim
 | _ =>
   refine wpAny_bind (wpAny_roomToWake hl hroom ?_)
   show wpAny _ A.in1 (.resume gi (.send .none) [] _) _ _ s
   refine resumeX hgs hgo fun e s₁ hq hΦ => ?_
   cases e with
   | ret r =>
     refine el_aa (hR r s₁ hΦ) fun hsb0 hp => ?_
     subst hsb0
     show wpAny _ A.in1 (newExc (.type "StopIteration") [] >>= _) _ _ _
     refine wpAny_bind ?_
     simp only [newExc, newTuple]
     refine wpAny_bind (wpAny_newObj_type ?_ (by size_fits))
     refine wpAny_bind (m := firstArgMember _ _) (wpAny_of_eq (a := Value.none) (by first | rfl | (simp only [firstArgMember]; rfl)) (wpAny_newObj_type ?_ (by size_fits)))
     simp only [raiseNew]
     refine wpAny_bind (wpAny_bind (wpAny_handled ?_))
     rw [show A.in1.handled = none from hh]
     refine wpAny_throw (wpAny_bind (wpAny_isInstance (T := "StopIteration") (b := true) ⟨_, Heap.get?_push_size _ rfl, rfl⟩ isSubtype_stop ?_))
     exact wpAny_pure (hp _ fun b o hb => Heap.get?_push_of_some _ (Heap.get?_push_of_some _ hb))
   | susp v g l k c p fs => exact wpAny_pure ⟨v, rfl, wpAny_pure (hY (.susp v g l k c p fs) v s₁ hq rfl hΦ)⟩
end
section
variable {w : World} {A : Around} {Φ : End → Shared → Prop} {c : Code} {fs : List Frame} {s : Shared} {env : Env} {K : Flow → Sem Fin} {H : Value → Sem Fin} {gd : Bool → Bool} {lv : List Value → List Value}
theorem sx_cons {st : Stmt} {rest : List Stmt} (h : SegX w A Φ c ((exec st env).wrap (fun f => match f with | .next => (execs rest env).wrap K H gd lv | f => K f) H gd lv) fs s) : SegX w A Φ c ((execs (st :: rest) env).wrap K H gd lv) fs s := by rw [execs_cons_wrap]; exact h
noncomputable abbrev backK (w : World) (env : Env) (K : Flow → Sem Fin) (H : Value → Sem Fin) (gd : Bool → Bool) (lv : List Value → List Value) (r : Result) : Sem Fin :=
 ((match r with | .ok f => (.pure f : Sem Flow) | .error e => .raise e).onRaise fun (x : Value) => do
       if (← field x 1) == Value.none then unsupported "frame.own-activation:exception-without-traceback"
       setFlight x env.frame).wrap K H gd lv
theorem sx_For {target iter : Expr} {body orelse : List Stmt} {pos : Pos}
   (h : wpAny (model prg w) (A.over c fs) (eval iter env) (fun x s₁ => wpAny (model prg w) (A.over c fs) (pyIter x) (fun it s₂ => ∀ p, SegX w A Φ (.forLoop target it body orelse env) ((model prg w).den (.forLoop target it body orelse env))
     (.ret (backK w env K H gd lv) none (gd false) (lv []) c p [] :: fs) s₂) (fun x s' => SegX w A Φ c (H x) fs s') s₁) (fun x s' => SegX w A Φ c (H x) fs s') s)
   (hs : ∀ x, foldedSetIterable iter env x = pure x := by intro _; rfl) : SegX w A Φ c ((exec (.For target iter body orelse pos) env).wrap K H gd lv) fs s := by
 rw [exec_For]
 refine sx_bind (wpAny_standAt ?_)
 refine sx_bind (wpAny_mono h (fun x s₁ h₁ => ?_) fun _ _ y => y)
 refine sx_bind (wpAny_of_eq (hs x) ?_)
 refine sx_bind (wpAny_standAt ?_)
 refine sx_bind (wpAny_holding (wpAny_mono h₁ (fun it s₂ h₂ => ?_) fun _ _ y => y))
 exact sx_call h₂
noncomputable abbrev loopH (env : Env) (e : Value) : Sem Fin := (do noteFrame e env; theTreesLotGoes e : Sem Unit).wrap (fun _ => .raise e) .raise id id
noncomputable abbrev loopK (target : Expr) (it : Value) (body orelse : List Stmt) (env : Env) (f : Flow) : Sem Fin := match f with
 | .next | .cont => .pure (.again (.forLoop target it body orelse env))
 | .brk => .pure (.done .next)
 | .ret v => .pure (.done (.ret v))
theorem sx_turn {target : Expr} {it : Value} {body orelse : List Stmt}
   (h : ∀ E' : Value → Shared → Prop, wpAny (model prg w) (A.over (.forLoop target it body orelse env) fs) (pyNext it) (fun r s₁ => match r with
     | none => SegX w A Φ (.block orelse env) ((model prg w).den (.block orelse env)) fs s₁
     | some v => wpAny (model prg w) (A.over (.forLoop target it body orelse env) fs) (letOwnedTupleGo target it v) (fun _ s₂ => wpAny (model prg w) (A.over (.forLoop target it body orelse env) fs) (assign target env v) (fun _ s₃ =>
         SegX w A Φ (.forLoop target it body orelse env) ((execs body env).wrap (loopK target it body orelse env) (loopH env) id id) fs s₃) E' s₂) E' s₁) E' s) :
   SegX w A Φ (.forLoop target it body orelse env) ((model prg w).den (.forLoop target it body orelse env)) fs s := by
 show SegX w A Φ _ ((forTurn target it body orelse env).onRaise (fun x => do noteFrame x env; theTreesLotGoes x)) fs s
 simp only [forTurn]
 rw [Sem.onRaise_eq_wrap]
 have eH : (fun x => ((do noteFrame x env; theTreesLotGoes x : Sem Unit).bind fun _ => (.raise x : Sem Fin))) = loopH env := funext fun x => Sem.bind_eq_wrap _ _
 rw [eH]
 refine sx_bind (wpAny_standAt ?_)
 refine sx_bind (wpAny_onRaise (wpAny_mono (h fun x s' => SegX w A Φ (.forLoop target it body orelse env) (loopH env x) fs s') (fun r s₁ h₁ => ?_) fun x s' hx => wpAny_standAt hx))
 cases r with
 | none => exact sx_again rfl h₁
 | some v =>
   refine sx_bind (wpAny_mono h₁ (fun _ s₂ h₂ => ?_) fun x s' hx => hx)
   refine sx_bind (wpAny_mono h₂ (fun _ s₃ h₃ => ?_) fun x s' hx => hx)
   rw [Sem.bind_eq_wrap', Sem.wrap_wrap]
   have e := Sem.wrap_congr (execs body env) (K := fun a => Sem.wrap Sem.pure (loopH env) id id (match a with
     | .next => again (.forLoop target it body orelse env)
     | .cont => again (.forLoop target it body orelse env)
     | .brk => pure (Fin.done .next)
     | .ret v => pure (Fin.done (.ret v)))) (K' := loopK target it body orelse env) (H := fun e => Sem.wrap Sem.pure (loopH env) id id (Sem.raise e)) (H' := loopH env) id id (by intro f; cases f <;> rfl) (fun e => rfl)
   exact cast (congrArg (fun t => SegX w A Φ (.forLoop target it body orelse env) t fs s₃) e.symm) h₃
theorem sx_block0 (h : SegX w A Φ (.block [] env) (leafOf (.ok .next)) fs s) : SegX w A Φ (.block [] env) ((model prg w).den (.block [] env)) fs s := h
theorem sx_func {body : List Stmt} (h : SegX w A Φ (.func body env) ((execs body env).wrap (fun f => .pure (.done (.ret (match f with | .ret v => v | _ => .none)))) (fun e => (leaving env e).wrap (fun _ => .raise e) .raise id id) id id) fs s) :
   SegX w A Φ (.func body env) ((model prg w).den (.func body env)) fs s := by
 show SegX w A Φ (.func body env) (.point [] fun _ => ((execs body env).onRaise (leaving env)) >>= _) fs s
 refine sx_point ?_
 rw [Sem.onRaise_eq_wrap, Sem.bind_eq_wrap', Sem.wrap_wrap]
 rw [Sem.wrap_congr (execs body env) _ _ (K' := fun f => .pure (.done (.ret (match f with | .ret v => v | _ => .none))))
   (H' := fun e => (leaving env e).wrap (fun _ => .raise e) .raise id id) (fun f => by cases f <;> rfl) (fun e => by rw [Sem.bind_eq_wrap, Sem.wrap_wrap]; rfl)]
 exact h
theorem sx_Yield {e : Expr} {ypos pos : Pos} (hfs : splitAtGen fs = none) (hgd : gd false = false) (hfg : fs.any Frame.guarded = false)
   (h : wpAny (model prg w) (A.over c fs) (eval e env) (fun v s' => ∀ g l k p, (∀ s'' Φ', SegX w A Φ' c (K .next) fs s'' → SegX w A Φ' c (k (.send .none)) fs s'') → Φ (.susp v g l k c p fs) s') (fun x s' => SegX w A Φ c (H x) fs s') s)
   (hco : env.scope.isCoroutine = false := by rfl) (hi : interactive env = false := by rfl) : SegX w A Φ c ((exec (.Expr (.Yield (some e) ypos) pos) env).wrap K H gd lv) fs s := by
 rw [exec_Expr env _ pos hi rfl]
 show SegX w A Φ c (.at pos fun _ => ((eval e env >>= fun v => (standAt ypos >>= fun _ => yieldOut env v)) >>= fun x => dropValue (.Yield (some e) ypos) pos x).wrap K H gd lv) fs s
 have hy : ∀ v, yieldOut env v = yieldValue v := fun v => by simp only [yieldOut, hco, Bool.false_eq_true, if_false]
 simp only [hy]
 refine sx_at ?_
 rw [Sem.bind_eq_wrap', Sem.bind_eq_wrap', Sem.wrap_wrap, Sem.wrap_wrap]
 refine sx_wrap (wpAny_mono h (fun v s' h' => ?_) fun _ _ x => x)
 refine sx_at ?_
 refine sx_yield hfs hgd hfg fun p => ?_
 exact h' _ _ _ p fun s'' Φ' hx => hx
end
section
variable {w : World} {A A' : Around} {outs : List Env} {base : Heap} {n m : Nat} {s : Shared} {E : Value → Shared → Prop} {g : Heap} {L : Addr} {l : Loc} {N : List (Addr × Obj)}
theorem enterG {R : Result → Shared → Prop} {name qual : Str} {params : Arguments} {body : List Stmt} {scope : Scope} {dV kV doc pm cdv ct oc : Value} {an od : Option Addr} {osl : Array (Option Value)} {f : Addr} {args : Args} {binds : List (Str × Value)}
   (C : Cx w A outs base s.heap (n + 1))
   (ho : (KF w).lookup f = some ⟨oc, od, .func (fnOf name qual params body scope dV kV doc pm an cdv ct), osl⟩) (hcd : codeIn (KF w) cdv qual = true)
   (hbind : BindsTo s (fnOf name qual params body scope dV kV doc pm an cdv ct) args binds) (hloc : ∀ y ∈ binds, scope.names.lookup y.1 = some .local)
   (h : ∀ h₂ L I tk, (∀ b o, s.heap.get? b = some o → h₂.get? b = some o) → s.heap.get? L = none → s.heap.get? I = none → I ≠ L → h₂.Ns L (lk (locOf binds.reverse)) → h₂.IsGen I s.gens.size →
     R (.ok (.ret (.ref I))) { s with heap := h₂, toks := tk, gens := s.gens.push (.fresh (.func body (envOf qual scope L f cdv))) })
   (hco : scope.isCoroutine = false := by rfl) (hgen : scope.isGenerator = true := by rfl) (hk : scope.kind = .function := by rfl)
   (hcell : ∀ x ∈ scope.names, x.2 ≠ .cell := by decide) : codeAny (model prg w) A (.call (.ref f) args) R s := by
 have X : (KF w).In s.heap := C.bs.kin.keeps C.below.stays
 refine el_xxxa (C.bs.top) fun mean mg mb T => ?_
 have hd1 := C.deep
 refine codeAny_call_generator (fd := fnOf name qual params body scope dV kV doc pm an cdv ct) (body := body) (by unfold recursionLimit; lia) (X _ _ ho) rfl hco hgen rfl (codeRec_of X hcd) (hbind _ _ _ _ ?_)
 refine wpAny_newFunctionEnv hcell hloc (fun h₁ hns hsb => ⟨(T.nolimit.keeps C.below.stays).fresh _ hsb, ?_⟩) hk
 have L0 := get_size s.heap
 generalize hL : s.heap.objs.size = L at hns hsb L0 ⊢
 have kL : ∀ b o, s.heap.get? b = some o → h₁.get? b = some o := fun b o e => hsb.extBut b o (fun q => by rw [q, L0] at e; cases e) (Heap.get?_push_of_some _ e)
 have I0 := get_size h₁
 generalize hI : h₁.objs.size = I at I0 ⊢
 have hIL : I ≠ L := fun q => by
   refine el_xxxaa hns fun o _ _ e _ => ?_
   try clear hns
   rw [← q, I0] at e; cases e
 refine h _ L I _ (fun b o e => Heap.get?_push_of_some _ (kL b o e)) L0 (none_sub kL I0) hIL ?_ ?_
 · rw [lk_locOf]
   exact hns.keeps fun b o e => Heap.get?_push_of_some _ e
 · exact in_x3 _ _ _ ⟨by rw [← hI]; exact Heap.get?_push_size _ rfl, rfl, rfl, rfl⟩ -- in75
theorem stOf {h : Heap} (hn : h.Ns L (lk l)) : St (hideAll h [L]) L h l [] := ⟨hn, fun b o e => of_hideAll _ e, hideAll_none _ (.head _), (fun _ m => nomatch m), List.nodup_nil⟩
noncomputable def RowAt (rows : List (Int × Int)) (i : Nat) (v : Value) (h : Heap) : Prop := ∃ T u v' t1 t2, v = .ref T ∧ rows[i]? = some (u, v') ∧ h.get? T = some (tupOf [.int u t1, .int v' t2])
noncomputable def SinceX (wr : List Addr) (s₀ s : Shared) : Prop := ∃ h' tk, s = { s₀ with heap := h', toks := tk } ∧ ∀ b o, b ∉ wr → s₀.heap.get? b = some o → h'.get? b = some o
theorem SinceX.refl (wr : List Addr) (s : Shared) : SinceX wr s s := ⟨s.heap, s.toks, rfl, fun _ _ _ e => e⟩
theorem SinceX.step {wr : List Addr} {s₀ s : Shared} {h' : Heap} {tk : Nat} (x : SinceX wr s₀ s) (k : ∀ b o, b ∉ wr → s.heap.get? b = some o → h'.get? b = some o) : SinceX wr s₀ { s with heap := h', toks := tk } := by
 refine el_xxaa x fun h1 t1 hsb2 k1 => ?_
 try clear x
 subst hsb2
 exact in_x2 h' tk ⟨rfl, fun b o n e => k b o n (k1 b o n e)⟩ -- in76
noncomputable def PhiL (w : World) (A : Around) (Lg I2 : Addr) (FP : List Addr) (rows : List (Int × Int)) : Nat → Nat → Shared → End → Shared → Prop
 | 0, _, s₀ => fun e s => e = .ret (.ok (.ret .none)) ∧ SinceX [Lg, I2] s₀ s
 | m + 1, i, s₀ => fun e s => ∃ v gg lv k c p fs, e = .susp v gg lv k c p fs ∧ RowAt rows i v s.heap ∧ SinceX [Lg, I2] s₀ s ∧ (∀ b ∈ FP, ∃ o, s.heap.get? b = some o) ∧
     ∀ s'', (∀ b ∈ FP, ∀ o, s.heap.get? b = some o → s''.heap.get? b = some o) → SegX w A (PhiL w A Lg I2 FP rows m (i + 1) s'') c (k (.send .none)) fs s''
noncomputable def addrs (vs : List Value) : List Addr := vs.filterMap fun | .ref a => some a | _ => none
theorem addrs_mem {vs : List Value} {a : Addr} : a ∈ addrs vs → Value.ref a ∈ vs := fun h => by
 refine el_xaa (List.mem_filterMap.mp h) fun v hv e => ?_
 cases v <;> first | (cases e; exact hv) | cases e
theorem mem_addrs {vs : List Value} {a : Addr} : Value.ref a ∈ vs → a ∈ addrs vs := fun h => List.mem_filterMap.mpr ⟨_, h, rfl⟩
theorem rows_loop {env : Env} {Lg I2 D : Addr} {vs : List Value} {rows : List (Int × Int)} {pa pb pc tp pa' pb' tp' yp ep : Pos} {kk kk' : Nat} {kF : Result → Sem PySem.Fin} {cF : Code} {pF : Pos}
   (hh : A.handled = none) (hkF : ∀ Φ s, Φ (.ret (.ok (.ret .none))) s → SegX w A Φ cF (kF (.ok .next)) [] s)
   (hL : env.locals = Lg) (hk : env.scope.kind = .function) (ka : env.kindOf "u" = some .local) (kb : env.kindOf "v" = some .local) (kc : env.kindOf "d" = some .local) (hco : env.scope.isCoroutine = false) (hint : interactive env = false)
   (n1 : Lg ∉ I2 :: D :: addrs vs) (n2 : I2 ∉ D :: addrs vs) (hlen : vs.length = rows.length) :
   ∀ (m i : Nat) (s₀ s : Shared) (l : Loc), m + i = vs.length → s.heap.IsListIter I2 D i → s.heap.IsList D vs.toArray → s.heap.Ns Lg (lk l) → Rows3 s.heap vs rows → SinceX [Lg, I2] s₀ s →
     SegX w A (PhiL w A Lg I2 (Lg :: I2 :: D :: addrs vs) rows m i s₀) (.forLoop (.Tuple [.Name "u" pa, .Name "v" pb, .Name "d" pc] kk tp) (.ref I2) [.Expr (.Yield (some (.Tuple [.Name "u" pa', .Name "v" pb'] kk' tp')) yp) ep] [] env)
       ((model prg w).den (.forLoop (.Tuple [.Name "u" pa, .Name "v" pb, .Name "d" pc] kk tp) (.ref I2) [.Expr (.Yield (some (.Tuple [.Name "u" pa', .Name "v" pb'] kk' tp')) yp) ep] [] env)) [.ret kF none false [] cF pF []] s := by
 have hID : D ≠ I2 := fun e => n2 (e ▸ .head _)
 have hh' : ∀ (c : Code), (A.over c [.ret kF none false [] cF pF []]).handled = none := fun c => hh
 have V : ∀ (A' : Around), A'.handled = none → KTurns prg w A' (.Tuple [.Name "u" pa, .Name "v" pb, .Name "d" pc] kk tp) I2 [I2, D] [I2] vs.toArray.size _ _ _ := fun A' h => KTurns.ofWalks (Walks.list h I2 D hID vs.toArray) fun i v s Q E st q => letGo_listiter st.1 q
 intro m
 induction m with
 | zero =>
   intro i s₀ s l hi st hD hn hr hs
   have e : i = vs.toArray.size := by rw [List.size_toArray]; lia
   subst e
   refine sx_turn fun E' => ?_
   refine (V _ (hh' _)).done s _ _ ⟨st, hD⟩ fun h' tk k => ?_
   exact sx_block0 (sx_leaf (.ok .next) (hkF _ _ ⟨rfl, hs.step fun b o n e => k b o (fun m => n (.tail _ m)) e⟩))
 | succ m ih =>
   intro i s₀ s l hi st hD hn hr hs
   have hlt : i < vs.toArray.size := by rw [List.size_toArray]; lia
   refine sx_turn fun E' => ?_
   refine (V _ (hh' _)).item i s _ _ hlt ⟨st, hD⟩ fun v h1 tk1 md k1 => ?_
   refine (V _ (hh' _)).go i v _ _ _ md fun h2 hP st2 k2 => ?_
   have k02 : ∀ b o, b ≠ I2 → s.heap.get? b = some o → h2.get? b = some o := fun b o n e => k2 b o (by simpa using n) (k1 b o (by simpa using n) e)
   have nLI : Lg ≠ I2 := fun e => n1 (e ▸ .head _)
   have hn2 : h2.Ns Lg (lk l) := hn.at' fun o e => k02 _ o nLI e
   have hr2 : Rows3 h2 vs rows := hr.mono' fun T o m e => k02 T o (fun q => n2 (.tail _ (q ▸ mem_addrs m))) e
   refine el_xxxxxxaaa (hr2.at hP) fun T u v' t1 t2 d hsb6 hri hT => ?_
   subst hsb6
   refine asg3 (hh' _) (stOf hn2) ⟨_, hT, rfl, _, rfl⟩ (fun h3 tk3 S => ?_) hL hk ka kb kc
   refine sx_cons (sx_Yield rfl rfl rfl ?_ hco hint)
   refine Tuple_ (sp_cons (nmL S rfl (sp_cons (nmL S rfl (sp_nil ?_) hL hk kb)) hL hk ka))
   refine newT S fun T2 h4 S _ _ _ => ?_
   intro gg lv k p hk2
   have kS : ∀ b o, b ≠ Lg → h2.get? b = some o → h4.get? b = some o := fun b o n e => S.keep b o (hideAll_get _ e (by simpa using n))
   refine in_x7 _ gg lv k _ p _ ⟨rfl, ⟨T2, u, v', _, _, rfl, hri, S.get (.head _)⟩, hs.step fun b o n e => ?_, ?_, fun s'' keep => hk2 s'' _ ?_⟩ -- in77
   · simp only [List.mem_cons, List.not_mem_nil, or_false, not_or] at n
     exact kS b o n.1 (k02 b o n.2 e)
   · intro b hb
     have ex : ∀ {b o}, b ∈ I2 :: D :: addrs vs → h2.get? b = some o → ∃ o, h4.get? b = some o := fun hb e => ⟨_, kS _ _ (fun q => n1 (q ▸ hb)) e⟩
     rcases List.mem_cons.mp hb with rfl | hb'
     · obtain ⟨o, _, _, e, _⟩ := S.ns; exact ⟨o, e⟩
     · rcases List.mem_cons.mp hb' with rfl | hb2
       · obtain ⟨o, e, _⟩ := st2.1; exact ex hb' e
       · rcases List.mem_cons.mp hb2 with rfl | hb3
         · obtain ⟨o, e, _⟩ := st2.2; exact ex hb' e
         · obtain ⟨o, e⟩ := hr2.has (addrs_mem hb3); exact ex hb' e
   · have kF : ∀ b o, b ∈ I2 :: D :: addrs vs → h2.get? b = some o → s''.heap.get? b = some o := fun b o hb e => keep b (.tail _ hb) o (kS b o (fun q => n1 (q ▸ hb)) e)
     refine sx_again rfl (ih (i + 1) s'' s'' _ (by lia) (st2.1.at fun o e => kF _ o (.head _) e) (st2.2.at fun o e => kF _ o (.tail _ (.head _)) e) (S.ns.at' fun o e => keep _ (.head _) o e) (hr2.mono' fun T o m e => kF T o (.tail _ (.tail _ (mem_addrs m))) e) (SinceX.refl _ _))
end
section
variable {w : World} {A A' : Around} {outs : List Env} {base : Heap} {n m : Nat} {s : Shared} {E : Value → Shared → Prop} {g : Heap} {L : Addr} {l : Loc} {N : List (Addr × Obj)}
theorem Cx.overF {h : Heap} {a : Addr} {name : Str} {scope : Scope} {cd : Value} {body : List Stmt} (C : Cx w A outs base g (n + 2)) (S : St g L h l N) (hk : scope.kind = .function := by rfl) :
   Cx w (A.in1.over (.func body (envOf name scope L a cd)) []) (envOf name scope L a cd :: outs) base h n := by
 have h1 := C.deep
 have h2 := C.room
 refine ⟨C.bs, ⟨?_, fun b o e => S.keep b o (C.below.stays b o e), ?_⟩, C.hand, ?_, ?_, ?_⟩
 · show pushEnvs [envOf name scope L a cd] (pushEnvs [] A.frames) = _
   rw [C.below.stack]; rfl
 · refine .cons (by show scope.kind ≠ .module; rw [hk]; decide) rfl S.ns ?_ (C.below.frames.of_keeps fun b o e _ => ⟨o, S.keep b o e, rfl⟩)
   cases q : base.get? L with
   | none => rfl
   | some o => have := C.below.stays _ _ q; rw [S.sep] at this; cases this
 · show pushGuards [] (pushGuards [] A.guards) = _
   rw [C.guards]; rfl
 · show A.depth + 0 + 1 + 20 * n ≤ 900; lia
 · show A.units + 1 + 0 + 3 + 50 * n + 50 ≤ 2000; lia
theorem sx_mono {Φ Φ' : End → Shared → Prop} {c : Code} {t : Sem PySem.Fin} {fs : List Frame} (k : ∀ e s, Φ e s → Φ' e s) (h : SegX w A Φ c t fs s) : SegX w A Φ' c t fs s := fun Γ p e hΓ =>
 let ⟨x, s', a, b, d⟩ := h Γ p e hΓ; ⟨x, s', a, b, k x s' d⟩
noncomputable def PhiF (w : World) (A : Around) (Lg : Addr) (rows : List (Int × Int)) : Nat → Shared → End → Shared → Prop
 | 0, s₀ => fun e s => e = .ret (.ok (.ret .none)) ∧ SinceX [Lg] s₀ s
 | m + 1, s₀ => fun e s => ∃ v gg lv k c p fs I2 FP, e = .susp v gg lv k c p fs ∧ RowAt rows 0 v s.heap ∧ SinceX [Lg] s₀ s ∧ s₀.heap.get? I2 = none ∧ Lg ∈ FP ∧ I2 ∈ FP ∧ (∀ b ∈ FP, (b = Lg ∨ s₀.heap.get? b = none) ∧ ∃ o, s.heap.get? b = some o) ∧
     ∀ s'', (∀ b ∈ FP, ∀ o, s.heap.get? b = some o → s''.heap.get? b = some o) → SegX w A (PhiL w A Lg I2 FP rows m 1 s'') c (k (.send .none)) fs s''
theorem ev_gen {ev : Addr} {R : Result → Shared → Prop} (C : Cx w A outs base s.heap (n + 1))
   (h : ∀ (code0 : Code) h₂ L I tk, (∀ b o, s.heap.get? b = some o → h₂.get? b = some o) → s.heap.get? L = none → s.heap.get? I = none → I ≠ L → h₂.Ns L (lk [("self", some (.ref ev))]) → h₂.IsGen I s.gens.size →
     (∀ (A₁ : Around) outs₁ n₁ g₁ s₁ x ns adj, Cx w A₁ outs₁ base g₁ (n₁ + 4) → (∀ b o, g₁.get? b = some o → s₁.heap.get? b = some o) → g₁.get? L = none → s₁.heap.Ns L (lk [("self", some (.ref ev))]) → EvAt g₁ ev x → GraphG w g₁ x ns adj →
       SegX w A₁.in1 (PhiF w A₁.in1 L (rowsOf adj) (rowsOf adj).length s₁) code0 ((model prg w).den code0) [] s₁) →
     R (.ok (.ret (.ref I))) { s with heap := h₂, toks := tk, gens := s.gens.push (.fresh code0) }) :
   codeAny (model prg w) A (.call (.ref 109) ⟨[.ref ev], []⟩) R s := by
 refine enterG (binds := [(Str.ofString "self", .ref ev)]) C rfl rfl (BindsTo.of_eq rfl) (locs rfl) fun h₂ L I tk hk L0 I0 hIL hn hI => h _ h₂ L I tk hk L0 I0 hIL hn hI ?_
 clear h C
 intro A₁ outs₁ n₁ g₁ s₁ x ns adj C k₁ gL hn1 V G
 have S : St g₁ L s₁.heap [("self", some (.ref ev))] [] := ⟨hn1, k₁, gL, (fun _ m => nomatch m), List.nodup_nil⟩
 refine el_xxxxa (id V) fun dv hh1 tt1 m1 I' => ?_
 have II : ∀ {h : Heap}, (∀ b o, g₁.get? b = some o → h.get? b = some o) → W.InstAt h ev (instObj 132 dv) 132 (some (evD hh1 tt1 x m1)) := fun k => by
   obtain ⟨i1, i2, i3, i4⟩ := I'
   exact ⟨k _ _ i1, i2, i3, k _ _ i4⟩
 refine el_xxxxxxxa (G.at) fun dx gd nd ad od nv nb R' => ?_
 refine el_xxxxxxxa (R'.od) fun hq1 tq1 hq2 tq2 hq3 tq3 mq hsb7 => ?_
 subst hsb7
 refine sx_func (sx_cons (sx_For ?_))
 walk_at "mm"
 refine getA S C (II S.keep) rfl rfl ?_
 walk_at "mm"
 refine methA S C (R'.ext S.keep).at_.inst rfl ?_
 walk_at "mm"
 refine edge_rows_spec (n := n₁ + 1) (C.overF S) (G.ext S.keep) fun h' tk' D vs c hx D0 hD hrs hfr => ?_
 have S2 := S.grow hx.keep
 refine wpAny_pyIter_list ⟨_, hD, rfl, _, rfl⟩ ?_
 intro p
 have hI2 := get_size h'
 have hP := Heap.get?_push_size h' (o := { cls := .type "list_iterator", data := .fields #[.ref D, .int 0 0] }) rfl
 have kP : ∀ b o, h'.get? b = some o → (h'.push { cls := .type "list_iterator", data := .fields #[.ref D, .int 0 0] }).get? b = some o := fun b o e => Heap.get?_push_of_some _ e
 refine el_xa (⟨_, rfl⟩ : ∃ I2, I2 = h'.objs.size) fun I2 eI2 => ?_
 rw [← eI2] at hI2 hP ⊢
 obtain ⟨hq, ehq⟩ : ∃ hq, hq = h'.push { cls := .type "list_iterator", data := .fields #[.ref D, .int 0 0] } := ⟨_, rfl⟩
 rw [← ehq] at hP kP ⊢
 have S3 := S2.grow kP
 have hlen := hrs.len
 have nT : ∀ b ∈ addrs vs, ∃ o, h'.get? b = some o := fun b hb => hrs.has (addrs_mem hb)
 have nL : ∃ o, s₁.heap.get? L = some o := by obtain ⟨o, _, _, e, _⟩ := S.ns; exact ⟨o, e⟩
 have n2 : I2 ∉ D :: addrs vs := fun m => by
   rcases List.mem_cons.mp m with e | m
   · rw [e, hD] at hI2; cases hI2
   · obtain ⟨o, e⟩ := nT _ m; rw [e] at hI2; cases hI2
 have n1 : L ∉ I2 :: D :: addrs vs := fun m => by
   refine el_xa nL fun o e => ?_
   try clear nL
   rcases List.mem_cons.mp m with q | m
   · have := hx.keep _ _ e; rw [q, hI2] at this; cases this
   · rcases List.mem_cons.mp m with q | m
     · rw [q, D0] at e; cases e
     · have := hfr _ (addrs_mem m); rw [this] at e; cases e
 have I20 : s₁.heap.get? I2 = none := none_sub hx.keep hI2
 refine sx_mono ?_ (rows_loop (A := A₁.in1) (Lg := L) (I2 := I2) (D := D) (vs := vs) (rows := rowsOf adj) C.hand (fun Φ s h => sx_end (.ok (.ret .none)) h) rfl rfl rfl rfl rfl rfl rfl n1 n2 hlen vs.length 0 s₁ { s₁ with heap := hq, toks := tk' } [("self", some (.ref ev))] rfl ⟨_, hP, rfl, rfl⟩ ⟨_, kP _ _ hD, rfl, _, rfl⟩ S3.ns (hrs.mono kP) ⟨hq, tk', rfl, fun b o _ e => kP b o (hx.keep b o e)⟩)
 intro e s2 hΦ
 rw [hlen] at hΦ
 have since : ∀ {s2}, SinceX [L, I2] s₁ s2 → SinceX [L] s₁ s2 := fun ⟨h', tk, a, b⟩ => ⟨h', tk, a, fun c o n e => b c o (fun m => by
   rcases List.mem_cons.mp m with q | m
   · exact n (by rw [q]; exact .head _)
   · rw [List.mem_singleton.mp m, I20] at e; cases e) e⟩
 cases hl : (rowsOf adj).length with
 | zero =>
   rw [hl] at hΦ
   exact ⟨hΦ.1, since hΦ.2⟩
 | succ m =>
   rw [hl] at hΦ
   refine el_xxxxxxxaaaaa hΦ fun v gg lv k c p fs hsb7 h1 h2 h3 h4 => ?_
   try clear hΦ
   subst hsb7
   refine in_x9 v gg lv k c p fs I2 _ ⟨rfl, h1, since h2, I20, .head _, .tail _ (.head _), fun b hb => ⟨?_, h3 b hb⟩, h4⟩ -- in80
   rcases List.mem_cons.mp hb with q | hb
   · exact .inl q
   · rcases List.mem_cons.mp hb with q | hb
     · exact .inr (q ▸ I20)
     · rcases List.mem_cons.mp hb with q | hb
       · exact .inr (q ▸ D0)
       · exact .inr (hfr _ (addrs_mem hb))
end
section
variable {w : World} {A A' : Around} {outs : List Env} {base : Heap} {n m : Nat} {s : Shared} {E : Value → Shared → Prop} {g : Heap} {L : Addr} {l : Loc} {N : List (Addr × Obj)}
theorem letGo_gen {target : Expr} {I : Addr} {k : Nat} {v : Value} {Q : Unit → Shared → Prop} (hit : s.heap.IsGen I k) (h : Q () s) : wpAny (model prg w) A (letOwnedTupleGo target (.ref I) v) Q E s := by
 refine el_xxxaaaa hit fun o nm qn ho hc hd _ => ?_
 try clear hit
 unfold letOwnedTupleGo
 cases target <;> first
   | exact wpAny_pure h
   | (cases v <;> first
       | exact wpAny_pure h
       | (refine wpAny_bind (wpAny_load ho ?_); rw [hc, hd]; exact wpAny_pure h))
theorem iter_gen {x C : Addr} {f : Addr} {ox : Obj} {od : Option Obj} {Q : Value → Shared → Prop} (X : (KF w).In s.heap) (I : W.InstAt s.heap x ox C od) (hs : findIn (KF w) (.ref C) "__iter__" = some (some (.ref f))) (hf : isFn (KF w) (.ref f) = true)
   (h : wpAny (model prg w) A (call (.ref f) [.ref x]) (fun v s' => ∃ a k, v = .ref a ∧ s'.heap.IsGen a k ∧ Q v s') E s) : wpAny (model prg w) A (pyIter (.ref x)) Q E s := by
 have hcall : wpAny (model prg w) A (call (.ref f) [.ref x] >>= fun v => pure (some v)) (fun r s' => ∃ a k, r = some (.ref a) ∧ s'.heap.IsGen a k ∧ Q (.ref a) s') E s :=
   wpAny_bind (wpAny_mono h (fun v s' ⟨a, k, e, b, c⟩ => wpAny_pure ⟨a, k, by rw [e], b, e ▸ c⟩) fun _ _ z => z)
 have hask : ∀ refuse : Sem Value, wpAny (model prg w) A (callSpecialIfBoundUnlessNone? (.ref x) "__iter__" refuse) (fun r s' => ∃ a k, r = some (.ref a) ∧ s'.heap.IsGen a k ∧ Q (.ref a) s') E s := by
   intro refuse
   simp only [callSpecialIfBoundUnlessNone?, bindSpecialIfBound?]
   refine wpAny_holding (wpAny_bind (wpAny_bind (wpAny_bind (I.type.here ((looks_findIn X hs).here (wpAny_bind (wpAny_askSetting (wpAny_ite ?_))))))))
   have hgo : wpAny (model prg w) A (if (Value.ref f == Value.none) = true then (refuse >>= fun v => pure (some v)) else (call (.ref f) [.ref x] >>= fun v => pure (some v))) (fun r s' => ∃ a k, r = some (.ref a) ∧ s'.heap.IsGen a k ∧ Q (.ref a) s') E s := by
     rw [if_neg (show ¬ ((Value.ref f == Value.none) = true) from Bool.false_ne_true)]; exact hcall
   split
   · exact wpAny_bind ((bind_fn X _ (beq_iff_eq.mp hf)).here (wpAny_pure (by exact hgo)))
   · exact wpAny_tryCatch (wpAny_bind ((bind_fn X _ (beq_iff_eq.mp hf)).here (wpAny_pure (by exact hgo))))
 unfold pyIter
 refine wpAny_bind (wpAny_bind (I.type.here ((looks_findIn X hs).here ?_)))
 show wpAny _ A (callSpecialIfBoundUnlessNone? (.ref x) "__iter__" _ >>= _) Q E s
 refine wpAny_bind (wpAny_mono (hask _) (fun r s' hr => ?_) fun _ _ z => z)
 refine el_xxaaa hr fun a k hsb2 hg hq => ?_
 try clear hr
 subst hsb2
 refine wpAny_bind (wpAny_specialOf hg.typeIs slot_gen_next.lookup ?_)
 exact wpAny_pure hq
noncomputable def EvSt (w : World) (A : Around) (g : Heap) (I Lg : Addr) (l0 : Loc) (code0 : Code) (gens0 : Gens) (rows : List (Int × Int)) (i : Nat) (h : Heap) (gs : Gens) (X W : List Addr) : Prop :=
 (∀ b o, g.get? b = some o → h.get? b = some o) ∧ (∀ b ∈ X, g.get? b = none) ∧ I ∉ X ∧ Lg ∉ X ∧ I ≠ Lg ∧ h.IsGen I gens0.size ∧ ∃ gst, gst.bare = true ∧ gs = gens0.push gst ∧
   ((i = 0 ∧ W = [Lg] ∧ gst = .fresh code0 ∧ h.Ns Lg (lk l0)) ∨
    (∃ I2 FP, 0 < i ∧ W = [Lg, I2] ∧ g.get? I2 = none ∧ I ≠ I2 ∧ Lg ∈ FP ∧ I2 ∈ FP ∧ (∀ b ∈ FP, b ∉ X ∧ ∃ o, h.get? b = some o) ∧
      ∀ s'', (∀ b ∈ FP, ∀ o, h.get? b = some o → s''.heap.get? b = some o) → GoesX w A.in1 (PhiL w A.in1 Lg I2 FP rows (rows.length - i) i s'') gst (.send .none) s''))
theorem push_set {gs : Gens} {a b : GenState} : (gs.push a).setIfInBounds gs.size b = gs.push b := by
 apply Array.ext'
 simp
theorem SinceX.gens {wr : List Addr} {s₀ s : Shared} (x : SinceX wr s₀ s) : s.gens = s₀.gens := by obtain ⟨h, t, rfl, _⟩ := x; rfl
theorem ev_itrF {F : Heap → Prop} {I Lg : Addr} {l0 : Loc} {code0 : Code} {gens0 : Gens} {rows : List (Int × Int)} {target : Expr} (hB : Bs w base) (hbg : ∀ b o, base.get? b = some o → g.get? b = some o) (hhand : A.handled = none) (hdeep : A.depth ≤ 900) (hgL : g.get? Lg = none) (hgI : g.get? I = none)
   (first : ∀ s₁, (∀ b o, g.get? b = some o → s₁.heap.get? b = some o) → F s₁.heap → s₁.heap.Ns Lg (lk l0) → SegX w A.in1 (PhiF w A.in1 Lg rows rows.length s₁) code0 ((model prg w).den code0) [] s₁) :
   ItrF w A target g I F rows.length (RowAt rows) (fun gs => AllBare gens0 → AllBare gs) Eq (fun i v h gs X W => EvSt w A g I Lg l0 code0 gens0 rows (i + 1) h gs X W ∧ RowAt rows i v h) (EvSt w A g I Lg l0 code0 gens0 rows) where
 frame := fun i h h' gs gs' X X' W st k k' r => by
   subst r
   refine el_aaaaaaxaaa st fun gst a1 a2 a3 a4 a5 a6 b1 b2 b3 => ?_
   try clear st
   have nx : ∀ b, (∃ o, h.get? b = some o) → b ∉ X → b ∉ X' := fun b ⟨o, e⟩ nb m => (k' b m).elim nb fun q => by rw [e] at q; cases q
   have hI : ∃ o, h.get? I = some o := by obtain ⟨o, _, _, e, _⟩ := a6; exact ⟨o, e⟩
   have hL : ∃ o, h.get? Lg = some o := by
     rcases b3 with ⟨_, _, _, o, _, _, e, _⟩ | ⟨_, _, _, _, _, _, hm, _, hf, _⟩
     · exact ⟨o, e⟩
     · exact (hf _ hm).2
   refine ⟨fun b o e => k b o (fun m => by rw [a2 b m] at e; cases e) (a1 b o e), fun b m => (k' b m).elim (a2 b) fun q => none_sub a1 q, nx I hI a3, nx Lg hL a4, a5, ?_, gst, b1, b2, ?_⟩
   · refine el_xxxaa a6 fun o nm qn e r => ?_
     try clear a6
     exact in_x3 o nm qn ⟨k _ _ a3 e, r⟩ -- in82
   · rcases b3 with ⟨c1, c2, c3, c4⟩ | ⟨I2, FP, c1, c2, cg, c3, c4, c5, c6, c7⟩
     · exact .inl ⟨c1, c2, c3, c4.at' fun o e => k _ o a4 e⟩
     · exact .inr ⟨I2, FP, c1, c2, cg, c3, c4, c5, fun b hb => ⟨nx b (c6 b hb).2 (c6 b hb).1, by obtain ⟨o, e⟩ := (c6 b hb).2; exact ⟨o, k b o (c6 b hb).1 e⟩⟩, fun s'' hs => c7 s'' fun b hb o e => hs b hb o (k b o (c6 b hb).1 e)⟩
 item := fun i s X W Q E hi st hX hF hQ => by
   refine el_aaaaaaxaaa st fun gst a1 a2 a3 a4 a5 a6 b1 b2 b3 => ?_
   try clear st
   refine el_xxxa (hB.top) fun mean mg mb T => ?_
   have hlim := T.nolimit.keeps fun b o e => a1 b o (hbg b o e)
   have hd1 := hdeep
   have hroom : A.depth < recursionLimit := by unfold recursionLimit; lia
   have hgs : s.gens[gens0.size]? = some gst := by rw [b2]; simp
   refine el_xa (⟨rows.length - i - 1, by lia⟩ : ∃ m, rows.length - i = m + 1) fun m hm => ?_
   rcases b3 with ⟨rfl, rfl, rfl, c4⟩ | ⟨I2, FP, c1, rfl, cg, c3, c4, c5, c6, c7⟩
   · have hm' : rows.length = m + 1 := by lia
     refine next_gen hhand hlim hroom a6 hgs (Φ := PhiF w A.in1 Lg rows rows.length (s.setGen gens0.size .running)) ⟨rfl, first _ a1 hF c4⟩ (fun e v s₁ hq hres hΦ => ?_) fun r s₁ hΦ => ?_
     · rw [hm'] at hΦ
       refine el_xxxxxxxxxaaaaaaaa hΦ fun v' gg lv k c p fs I2 FP hsb9 h1 h2 h3 h4 h5 h6 h7 => ?_
       try clear hΦ
       subst hsb9
       cases hres
       have hgens := h2.gens
       refine el_xxaa h2 fun h' tk hsb2 kk => ?_
       try clear h2
       subst hsb2
       have kk' : ∀ b o, b ∉ [Lg] → s.heap.get? b = some o → h'.get? b = some o := kk
       refine hQ v h' tk _ [Lg, I2] ⟨⟨fun b o e => kk' b o (fun m => by rw [List.mem_singleton.mp m, hgL] at e; cases e) (a1 b o e), a2, a3, a4, a5, ?_, _, bare_end hq, ?_, .inr ⟨I2, FP, by lia, rfl, none_sub a1 h3, ?_, h4, h5, fun b hb => ⟨fun m => ?_, (h6 b hb).2⟩, ?_⟩⟩, h1⟩ kk' (fun b hb => ?_) (fun b hb => ?_)
       · refine el_xxxaa a6 fun o nm qn e r => ?_
         try clear a6
         exact in_x3 o nm qn ⟨kk' _ _ (by simpa using a5) e, r⟩ -- in83
       · show ((s.gens.setIfInBounds gens0.size _).setIfInBounds gens0.size _) = _
         rw [b2, push_set, push_set]
       · intro q
         refine el_xxxaa a6 fun o nm qn e r => ?_
         try clear a6
         have : s.heap.get? I2 = none := h3
         rw [← q, e] at this; cases this
       · rcases (h6 b hb).1 with q | q
         · exact a4 (q ▸ m)
         · refine el_xa (hX b m) fun o e => ?_
           have q' : s.heap.get? b = none := q
           rw [e] at q'; cases q'
       · intro s'' hs
         rw [hm', show m + 1 - (0 + 1) = m by lia]
         exact h7 s'' hs
       · rcases List.mem_cons.mp hb with q | hb
         · exact .inl (q ▸ .head _)
         · exact .inr (by rw [List.mem_singleton.mp hb]; exact h3)
       · rw [List.mem_singleton.mp hb]; exact .head _
     · rw [hm'] at hΦ
       refine el_xxxxxxxxxaa hΦ fun v' gg lv k c p fs I2 FP e _ => ?_
       try clear hΦ
       cases e
   · refine next_gen hhand hlim hroom a6 hgs (Φ := PhiL w A.in1 Lg I2 FP rows (rows.length - i) i (s.setGen gens0.size .running)) (c7 _ fun b hb o e => e) (fun e v s₁ hq hres hΦ => ?_) fun r s₁ hΦ => ?_
     · rw [hm] at hΦ
       refine el_xxxxxxxaaaaa hΦ fun v' gg lv k c p fs hsb7 h1 h2 h3 h4 => ?_
       try clear hΦ
       subst hsb7
       cases hres
       refine el_xxaa h2 fun h' tk hsb2 kk => ?_
       try clear h2
       subst hsb2
       have kk' : ∀ b o, b ∉ [Lg, I2] → s.heap.get? b = some o → h'.get? b = some o := kk
       have nIW : I ∉ [Lg, I2] := by simp [a5, c3]
       refine hQ v h' tk _ [Lg, I2] ⟨⟨fun b o e => kk' b o (fun m => ?_) (a1 b o e), a2, a3, a4, a5, ?_, _, bare_end hq, ?_, .inr ⟨I2, FP, by lia, rfl, cg, c3, c4, c5, fun b hb => ⟨(c6 b hb).1, h3 b hb⟩, ?_⟩⟩, h1⟩ kk' (fun b hb => .inl hb) (fun b hb => hb)
       · rcases List.mem_cons.mp m with q | m
         · rw [q, hgL] at e; cases e
         · rw [List.mem_singleton.mp m, cg] at e; cases e
       · refine el_xxxaa a6 fun o nm qn e r => ?_
         try clear a6
         exact in_x3 o nm qn ⟨kk' _ _ nIW e, r⟩ -- in84
       · show ((s.gens.setIfInBounds gens0.size _).setIfInBounds gens0.size _) = _
         rw [b2, push_set, push_set]
       · intro s'' hs
         rw [show rows.length - (i + 1) = m by lia]
         exact h4 s'' hs
     · rw [hm] at hΦ
       refine el_xxxxxxxaa hΦ fun v' gg lv k c p fs e _ => ?_
       try clear hΦ
       cases e
 go := fun i v s X W Q E md hQ => letGo_gen md.1.2.2.2.2.2.1 (hQ s.heap md.2 md.1 fun b o _ e => e)
 done := fun s X W Q E st hX hF hQ => by
   refine el_aaaaaaxaaa st fun gst a1 a2 a3 a4 a5 a6 b1 b2 b3 => ?_
   try clear st
   refine el_xxxa (hB.top) fun mean mg mb T => ?_
   have hlim := T.nolimit.keeps fun b o e => a1 b o (hbg b o e)
   have hd1 := hdeep
   have hroom : A.depth < recursionLimit := by unfold recursionLimit; lia
   have hgs : s.gens[gens0.size]? = some gst := by rw [b2]; simp
   have fin : ∀ (W' : List Addr) (r : Result) s₁, W' = W → r = .ok (.ret .none) → SinceX W' (s.setGen gens0.size .running) s₁ → r = .ok (.ret .none) ∧ ∀ h', (∀ b o, s₁.heap.get? b = some o → h'.get? b = some o) → Q none { s₁.setGen gens0.size .finished with heap := h' } := by
     intro W' r s₁ rfl rfl
     refine elc_xxaa fun h1 tk hsb2 kk => ?_
     subst hsb2
     refine ⟨rfl, fun h' k' => hQ h' tk _ (fun x => ?_) fun b o n e => k' b o (kk b o n e)⟩
     show AllBare ((s.gens.setIfInBounds gens0.size _).setIfInBounds gens0.size _)
     rw [b2, push_set, push_set]
     exact x.push rfl
   rcases b3 with ⟨h0, rfl, rfl, c4⟩ | ⟨I2, FP, c1, rfl, cg, c3, c4, c5, c6, c7⟩
   · refine next_gen hhand hlim hroom a6 hgs (Φ := PhiF w A.in1 Lg rows rows.length (s.setGen gens0.size .running)) ⟨rfl, first _ a1 hF c4⟩ (fun e v s₁ hq hres hΦ => ?_) fun r s₁ hΦ => ?_
     · rw [h0] at hΦ
       rw [hΦ.1] at hres; cases hres
     · rw [h0] at hΦ
       refine el_aa hΦ fun e h2 => ?_
       try clear hΦ
       cases e
       exact fin _ _ s₁ rfl rfl h2
   · have c7' := c7 (s.setGen gens0.size .running) fun b hb o e => e
     rw [Nat.sub_self] at c7'
     refine next_gen hhand hlim hroom a6 hgs c7' (fun e v s₁ hq hres hΦ => ?_) fun r s₁ hΦ => ?_
     · rw [hΦ.1] at hres; cases hres
     · refine el_aa hΦ fun e h2 => ?_
       try clear hΦ
       cases e
       exact fin _ _ s₁ rfl rfl h2
 wrX := fun i h gs X W st b hb => by
   refine el_aaaaaaxaaa st fun gst a1 a2 a3 a4 a5 a6 b1 b2 b3 => ?_
   try clear st
   rcases b3 with ⟨_, rfl, _, _⟩ | ⟨I2, FP, _, rfl, _, _, c4, c5, c6, _⟩
   · rw [List.mem_singleton.mp hb]; exact a4
   · rcases List.mem_cons.mp hb with q | hb
     · rw [q]; exact a4
     · rw [List.mem_singleton.mp hb]; exact (c6 I2 c5).1
 gp := fun i h gs X W st x => by
   refine el_aaaaaaxaaa st fun gst _ _ _ _ _ _ b1 b2 _ => ?_
   try clear st
   rw [b2]; exact x.push b1
end
noncomputable def IS (w : World) (o : Obj) (S : Int → Bool) (n : Nat) : Prop := ∃ es ep t, o.ExactSet ∧ o.data = .set es ep t ∧ ElemsOf (intKind prg w) es.toList ∧ (∀ k, S k = true ↔ ∃ e ∈ es.toList, (intKind prg w).is k e.2 = true) ∧ es.size < scanBound ∧ t.fits es.size = true ∧ es.size = n
section
variable {w : World} {A A' : Around} {outs : List Env} {base : Heap} {n m : Nat} {s : Shared} {E : Value → Shared → Prop} {g : Heap} {L : Addr} {l : Loc} {N N' : List (Addr × Obj)} {a : Addr} {o : Obj} {f : Int → Bool}
theorem IS.of {h : Heap} (X : h.SetOf (intKind prg w) a f n) : ∃ o, h.get? a = some o ∧ IS w o f n := by
 refine el_xxxxaa X fun o es ep t e r => ?_
 try clear X
 exact ⟨o, e, es, ep, t, r⟩
theorem IS.at {h : Heap} (X : IS w o f n) (e : h.get? a = some o) : h.SetOf (intKind prg w) a f n := by
 refine el_xxxa X fun es ep t r => ?_
 try clear X
 exact in_x4 o es ep t ⟨e, r⟩ -- in87
theorem is_set0 : IS w (set0 w) (fun _ => false) 0 := ⟨#[], 0, _, ⟨rfl, rfl, rfl⟩, rfl, (fun e he => nomatch he), (fun k => ⟨(fun h => nomatch h), (fun ⟨e, he, _⟩ => nomatch he)⟩), by decide, rfl, rfl⟩
theorem notTup_set {o : Obj} {es : Array (Int × Value)} {ep : Nat} {t : SetTable} (h : o.data = .set es ep t) : NotTup o := fun vs e => by rw [e] at h; cases h
theorem PS.notTup {h : Heap} {C : List (List Int × Addr)} (P : PS w h o C) : NotTup o := by obtain ⟨ep, t, rfl, _⟩ := P.is; exact notTup_set rfl
theorem notTup_set0 : NotTup (set0 w) := notTup_set rfl
theorem set0F {Q : Value → Shared → Prop} (S : St g L s.heap l N) (h : ∀ a h', St g L h' l ((a, set0 w) :: N) → s.heap.get? a = none → (∀ b o, s.heap.get? b = some o → h'.get? b = some o) → Q (.ref a) { s with heap := h' }) : wpAny (model prg w) A (call (.type "set") []) Q E s :=
 call_set0 (h _ _ (S.add (a := s.heap.objs.size) (o := set0 w) (fun b o e => Heap.get?_push_of_some _ e) (Heap.get?_push_size _ rfl) (get_size _)) (get_size _) fun b o e => Heap.get?_push_of_some _ e)
theorem inI {k : Int} {t : Tok} {Q : Value → Shared → Prop} (S : St g L s.heap l N) (hm : (a, o) ∈ N) (I : IS w o f n) (h : Q (.bool (f k)) { s with toks := s.toks + 1 }) : wpAny (model prg w) A (compareOp .In (.int k t) (.ref a)) Q E s :=
 wpAny_inSet_of (knd := intKind prg w) (intKind_is _ _ _ _) rfl (I.at (S.get hm)) h
theorem notInI {k : Int} {t : Tok} {Q : Value → Shared → Prop} (S : St g L s.heap l N) (hm : (a, o) ∈ N) (I : IS w o f n) (h : Q (.bool (!f k)) { s with toks := s.toks + 1 }) : wpAny (model prg w) A (compareOp .NotIn (.int k t) (.ref a)) Q E s :=
 wpAny_notInSet_of (knd := intKind prg w) (intKind_is _ _ _ _) rfl (I.at (S.get hm)) h
theorem St.turnX {h h' : Heap} {o' : Obj} (S : St g L h l N) (U : UpN a o o' N N') (x : Ext [a] h h') (ho : h'.get? a = some o') : St g L h' l N' := by
 have z := S.nw (a, o) U.mem
 refine el_xxaaaa (U.upd S.nd).split fun pre post e1 e2 p q => ?_
 have off : ∀ b, b ≠ a → b ∉ [a] := fun b e m => e (List.mem_singleton.mp m)
 refine ⟨S.ns.at' fun o e => x _ o (off _ (Ne.symm z.2.1)) e, fun b o e => x b o (off _ fun q => by rw [q, z.2.2] at e; cases e) (S.keep b o e), S.sep, ?_, by rw [U.fst]; exact S.nd⟩
 subst e1 e2
 intro r hr
 by_cases hra : r.1 = a
 · have : r = (a, o') := by
     rcases List.mem_append.mp hr with m | m
     · exact absurd hra (p _ m)
     · rcases List.mem_cons.mp m with rfl | m
       · rfl
       · exact absurd hra (q _ m)
   rw [this]
   exact ⟨ho, z.2⟩
 · have hr' : r ∈ pre ++ (a, o) :: post := by
     rcases List.mem_append.mp hr with m | m
     · exact List.mem_append_left _ m
     · rcases List.mem_cons.mp m with rfl | m
       · exact absurd rfl hra
       · exact List.mem_append_right _ (.tail _ m)
   have y := S.nw r hr'
   exact ⟨x _ _ (off _ hra) y.1, y.2⟩
theorem updM {Q : Value × List Value → Shared → Prop} {pl : Sem Bool} (S : St g L s.heap l N) (hm : (a, o) ∈ N) (I : IS w o f n) (h : Q (.builtin "set.update", [.ref a]) s) : wpAny (model prg w) A (getMethod (.ref a) "update" pl) Q E s :=
 getMethod_builtin (I.at (S.get hm)).typeIs F.plainAttrs_set PySem.F.slot_set_update PySem.F.type_set_update (fun b e => by
   cases e
   refine el_xxxaa I fun es ep t hx _ => ?_
   try clear I
   obtain ⟨c, d, dt, sl⟩ := o
   refine el_aaa hx fun hsb0 hsb1 hsb2 => ?_
   try clear hx
   subst hsb0
   subst hsb1
   subst hsb2
   exact ⟨_, S.get hm, rfl⟩) h
abbrev addP (f : Int → Bool) (u v : Int) : Int → Bool := fun k => (f k || decide (k = u)) || decide (k = v)
abbrev addS (f : Int → Bool) (n : Nat) (u v : Int) : Nat := if (f v || decide (v = u)) then (if f u then n else n + 1) else (if f u then n else n + 1) + 1
theorem updI {T : Addr} {u v : Int} {k1 k2 : Tok} {Q : Value → Shared → Prop} (hh : A.handled = none) (S : St g L s.heap l N) (I : IS w o f n) (hm : (a, o) ∈ N) (hn : n + 3 < scanBound) (hT : s.heap.IsTuple T #[.int u k1, .int v k2])
   (N' : Obj → List (Addr × Obj)) (U : ∀ o', UpN a o o' N (N' o')) (h : ∀ o' h' tk, St g L h' l (N' o') → IS w o' (addP f u v) (addS f n u v) → Ext [a] s.heap h' → Q .none { s with heap := h', toks := tk }) :
   wpAny (model prg w) A (call (.builtin "set.update") [.ref a, .ref T]) Q E s :=
 call_update_pair hh (I.at (S.get hm)) hT hn fun h' tk n' x X e => by
   subst e
   refine el_xaa (IS.of X) fun o' e' I' => ?_
   exact h o' h' tk (S.turnX (U o') x e') I' x
end
theorem PS.re {w : World} {h h' : Heap} {o : Obj} {C : List (List Int × Addr)} (P : PS w h o C) (K : ∀ c ∈ C, IsK w h' c.1 c.2) : PS w h' o C := ⟨P.is, K, P.dm, P.nd⟩
theorem ite_no {c P Q : Prop} [Decidable c] (h : ¬ c) (q : Q) : if c then P else Q := by rw [if_neg h]; exact q
theorem ite_yes {c P Q : Prop} [Decidable c] (h : c) (q : P) : if c then P else Q := by rw [if_pos h]; exact q
noncomputable def TP (h : Heap) (C : List (List Int × Addr)) : Prop := ∀ c ∈ C, ∃ u v t1 t2, c.1 = [u, v] ∧ h.get? c.2 = some (tupOf [.int u t1, .int v t2])
noncomputable abbrev ks2 (e : Int × Int) : List Int := [e.1, e.2]
noncomputable def nodesOf (M : List (Int × Int)) : List Int := M.flatMap fun e => [e.1, e.2]
noncomputable def grStep (M : List (Int × Int)) (e : Int × Int) : List (Int × Int) := if e.1 ∉ nodesOf M ∧ e.2 ∉ nodesOf M ∧ e.1 ≠ e.2 then M ++ [e] else M
noncomputable def greedy (rows : List (Int × Int)) : List (Int × Int) := rows.foldl grStep []
noncomputable def In6 (rows : List (Int × Int)) : Prop := ∀ e ∈ rows, (0 ≤ e.1 ∧ e.1 < 6) ∧ (0 ≤ e.2 ∧ e.2 < 6)
section
variable {w : World} {A A' : Around} {outs : List Env} {base : Heap} {n m : Nat} {s : Shared} {E : Value → Shared → Prop} {g : Heap} {L : Addr} {l : Loc} {N N' : List (Addr × Obj)} {a : Addr} {o : Obj}
theorem nodesOf_snoc (M : List (Int × Int)) (e : Int × Int) : nodesOf (M ++ [e]) = nodesOf M ++ [e.1, e.2] := by simp [nodesOf]
theorem nodesOf_len (M : List (Int × Int)) : (nodesOf M).length = 2 * M.length := by
 induction M with
 | nil => rfl
 | cons e r ih => show (e.1 :: e.2 :: nodesOf r).length = _; simp [ih]; lia
theorem nodup_len {α : Type} [BEq α] [LawfulBEq α] : ∀ {l m : List α}, l.Nodup → (∀ x ∈ l, x ∈ m) → l.length ≤ m.length
 | [], _, _, _ => Nat.zero_le _
 | x :: r, m, hn, h => by
   rw [List.nodup_cons] at hn
   have h1 := nodup_len (l := r) (m := m.erase x) hn.2 fun y hy => (List.mem_erase_of_ne fun q => hn.1 (by subst q; exact hy)).mpr (h y (.tail _ hy))
   have h2 := List.length_erase_of_mem (h x (.head _))
   have h3 : 0 < m.length := List.length_pos_of_mem (h x (.head _))
   rw [List.length_cons]
   lia
theorem lt6 {l : List Int} (hn : l.Nodup) (h : ∀ x ∈ l, 0 ≤ x ∧ x < 6) : l.length ≤ 6 := by
 have h2 : ∀ x ∈ l, x ∈ ((List.range 6).map fun i : Nat => (i : Int)) := fun x hx => by
   have := h x hx
   exact List.mem_map.mpr ⟨x.toNat, List.mem_range.mpr (by lia), by lia⟩
 have := nodup_len hn h2
 simpa using this
structure Mt (M : List (Int × Int)) : Prop where
 nd : (nodesOf M).Nodup
 lt : ∀ x ∈ nodesOf M, 0 ≤ x ∧ x < 6
theorem Mt.len {M : List (Int × Int)} (X : Mt M) : M.length ≤ 3 := by
 have h1 := lt6 X.nd X.lt
 rw [nodesOf_len] at h1
 lia
theorem Mt.snoc {M : List (Int × Int)} (X : Mt M) {e : Int × Int} (h1 : e.1 ∉ nodesOf M) (h2 : e.2 ∉ nodesOf M) (h3 : e.1 ≠ e.2) (h4 : (0 ≤ e.1 ∧ e.1 < 6) ∧ (0 ≤ e.2 ∧ e.2 < 6)) : Mt (M ++ [e]) := by
 refine ⟨?_, fun x hx => ?_⟩
 · rw [nodesOf_snoc, List.nodup_append]
   refine ⟨X.nd, by simp [h3], fun a ha b hb q => ?_⟩
   subst q
   simp only [List.mem_cons, List.not_mem_nil, or_false] at hb
   rcases hb with rfl | rfl
   · exact h1 ha
   · exact h2 ha
 · rw [nodesOf_snoc, List.mem_append] at hx
   rcases hx with hx | hx
   · exact X.lt x hx
   · simp only [List.mem_cons, List.not_mem_nil, or_false] at hx
     rcases hx with rfl | rfl
     · exact h4.1
     · exact h4.2
theorem ks_off {M : List (Int × Int)} {u v : Int} (h : u ∉ nodesOf M) : [u, v] ∉ M.map ks2 := fun hm => by
 refine el_xaa (List.mem_map.mp hm) fun e he q => ?_
 simp only [List.cons.injEq, and_true] at q
 exact h (List.mem_flatMap.mpr ⟨e, he, by simp [q.1]⟩)
theorem addF {T : Addr} {C : List (List Int × Addr)} {ks : List Int} {Q : Value → Shared → Prop} (hu : A.units + 64 < cLine) (S : St g L s.heap l N) (P : PS w s.heap o C) (hm : (a, o) ∈ N) (hx : IsK w s.heap ks T) (hd : ks ∈ dom) (hn : ks ∉ C.map (·.1)) (hl : C.length ≤ 16)
   (N' : Obj → List (Addr × Obj)) (U : ∀ o', UpN a o o' N (N' o'))
   (h : ∀ o' C' h' tk, St g L h' l (N' o') → PS w h' o' C' → C'.Perm ((ks, T) :: C) → Heap.SameBut a s.heap h' → Q .none { s with heap := h', toks := tk }) : wpAny (model prg w) A (call (.builtin "set.add") [.ref a, .ref T]) Q E s :=
 callAdd_ps P (S.get hm) hu hx hd hn hl fun h' tk o' C' hs ho P' hp => by
   exact h o' C' h' tk (S.turn (U o') hs ho) P' hp hs
theorem TP.perm {h : Heap} {C C' : List (List Int × Addr)} (X : TP h C) (hp : C'.Perm C) : TP h C' := fun c hc => X c (hp.subset hc)
theorem TP.cons {h : Heap} {C : List (List Int × Addr)} {T : Addr} {u v : Int} {t1 t2 : Tok} (X : TP h C) (e : h.get? T = some (tupOf [.int u t1, .int v t2])) : TP h (([u, v], T) :: C) := fun c hc => by
 rcases List.mem_cons.mp hc with rfl | hc
 · exact in_x4 u v t1 t2 ⟨rfl, e⟩ -- in90
 · exact X c hc
theorem TP.mono {h h' : Heap} {C : List (List Int × Addr)} (X : TP h C) (k : ∀ b o, h.get? b = some o → h'.get? b = some o) : TP h' C := fun c hc => by
 refine el_xxxxaa (X c hc) fun u v t1 t2 a b => ?_
 exact in_x4 u v t1 t2 ⟨a, k _ _ b⟩ -- in91
theorem TP.isK {h : Heap} {C : List (List Int × Addr)} (X : TP h C) : ∀ c ∈ C, IsK w h c.1 c.2 := fun c hc => by
 refine el_xxxxaa (X c hc) fun u v t1 t2 a b => ?_
 rw [a]; exact isK2 b
theorem nodes_snoc {M : List (Int × Int)} {u v : Int} {S : Int → Bool} (h : S = fun k => decide (k ∈ nodesOf M)) : addP S u v = fun k => decide (k ∈ nodesOf (M ++ [(u, v)])) := by
 funext k
 rw [nodesOf_snoc, h]
 simp [addP, Bool.or_assoc, Bool.decide_or]
theorem addS_le {S : Int → Bool} {n : Nat} {u v : Int} : addS S n u v ≤ n + 2 := by
 unfold addS
 split <;> split <;> lia
end
section
variable {w : World} {A A' : Around} {outs : List Env} {base : Heap} {n m : Nat} {s : Shared} {E : Value → Shared → Prop} {g : Heap} {L : Addr} {l : Loc} {N N' : List (Addr × Obj)} {a : Addr} {o : Obj}
theorem mm_code {x : Addr} {ns : List Int} {adj : List (Int × List Int)} {R : Result → Shared → Prop} (C : Cx w A outs base s.heap (n + 7)) (G : GraphG w s.heap x ns adj) (hsz : (rowsOf adj).length ≤ 1000) (h6' : In6 (rowsOf adj))
   (h : ∀ h' tk' T o Cs, Ext [] s.heap h' → s.heap.get? T = none → h'.get? T = some o → PS w h' o Cs → (Cs.map (·.1)).Perm ((greedy (rowsOf adj)).map ks2) → TP h' Cs → R (.ok (.ret (.ref T))) { s with heap := h', toks := tk' }) :
   codeAny (model prg w) A (.call (.ref 53) ⟨[.ref x], []⟩) R s := by
 refine enter (binds := [(Str.ofString "G", .ref x)]) [] (by simp) (by simp) (by simp) C rfl rfl (BindsTo.of_eq rfl) (locs rfl) (fun h₁ L tk Qf Ef hQ S CG => ?_)
 dsimp only [List.map, List.reverse, List.reverseAux, locOf] at S CG
 have Gg : GraphG w (hideAll s.heap []) x ns adj := G.ext hide_nil
 refine el_xa (⟨_, rfl⟩ : ∃ g, g = hideAll s.heap []) fun g hg => ?_
 rw [← hg] at S CG Gg
 have hsg : ∀ b o, s.heap.get? b = some o → g.get? b = some o := fun b o e => by rw [hg]; exact hide_nil b o e
 have CG5 := CG.less (k := n + 6) (by lia)
 walk_at "mm"
 refine set0F S fun Ma h2 S Ma0 _ => ?_
 walk_at "mm"
 refine set0F S fun Nd h3 S Nd0 _ => ?_
 walk_at "mm"
 refine edgesM (m := n) S CG (by exact CG5.push S) (Gg.ext S.keep) fun ev h4 tk4 S V k4 _ => ?_
 walk_at "mm"
 refine callEv (m := n + 3) S CG (by exact CG5.push S) V (Gg.ext S.keep) hsz fun D vs c h5 tk5 S hrs k5 => ?_
 refine el_xaaaa (S.freezeT (by simp [notTup_set0])) fun g1 S k1 hDl kT => ?_
 have CG1 := CG.keeps k1
 have hDL : g1.IsList D vs.toArray := ⟨_, hDl, rfl, _, rfl⟩
 have hrg := hrs.tups kT
 refine el_xa (⟨_, rfl⟩ : ∃ rows, rows = rowsOf adj) fun rows hrows => ?_
 rw [← hrows] at hrg h h6'
 replace S := St.relist (l' := [("v", none), ("u", none), ("edge", none), ("nodes", some (.ref Nd)), ("matching", some (.ref Ma)), ("G", some (.ref x))]) S (by rfl)
 refine for_src (E' := fun _ _ => False) (fun i l N' G' => ∃ x1 x2 x3 o1 o2 Cs F nn M, l = ([("v", x1), ("u", x2), ("edge", x3), ("nodes", some (.ref Nd)), ("matching", some (.ref Ma)), ("G", some (.ref x))] : Loc) ∧
   N' = [(Nd, o2), (Ma, o1)] ∧ M = greedy (rows.take i) ∧ Mt M ∧ PS w G' o1 Cs ∧ TP G' Cs ∧ (Cs.map (·.1)).Perm (M.map ks2) ∧ IS w o2 F nn ∧ (F = fun k => decide (k ∈ nodesOf M)) ∧ nn ≤ 2 * i)
   (Src.list CG1.hand hDL) S (in_x9 _ _ _ _ _ [] _ _ [] ⟨rfl, rfl, rfl, ⟨.nil, fun _ m => nomatch m⟩, ps_empty, (fun _ m => nomatch m), .nil, is_set0, rfl, Nat.zero_le _⟩) ?_ ?_ (fun _ _ x => x.elim)
 case refine_1 =>
   intro Jq Ji i v l N' G' h6 tk6 gb Bq hlt hP hJ kG k3 S HB
   refine el_xxxxxxxxxaaaaaaaaaa hJ fun x1 x2 x3 o1 o2 Cs F nn M hsb9 hsb10 hM hMt hPS hTP hperm hIS hF hnn => ?_
   try clear hJ
   replace S := St.at2 hsb9 hsb10 S
   refine el_xxxxxaaa (hrg.at hP) fun T u v t1 t2 hsb5 hi hT => ?_
   subst hsb5
   have CG2 := CG1.keeps fun b o e => k3 b o (kG b o e)
   have hTb := k3 _ _ (kG _ _ hT)
   have hin := h6' _ (List.mem_iff_getElem?.mpr ⟨i, hi⟩)
   have hlt' : i < rows.length := (List.getElem?_eq_some_iff.mp hi).1
   have hgr : greedy (rows.take (i + 1)) = grStep M (u, v) := by rw [take_next hi, hM]; unfold greedy; rw [List.foldl_append]; rfl
   walk_at "mm"
   refine asg2 CG2.hand S ⟨_, S.keep _ _ hTb, rfl, _, rfl⟩ fun h7 tk7 S => ?_
   walk_at "mm"
   refine notInI S (.head _) hIS ?_
   rw [hF]
   walk_at "mm"
   by_cases hu : u ∈ nodesOf M
   · refine ite_no (by simp [hu]) ?_
     walk_at "mm"
     replace S := St.relist (l' := [("v", some (.int v t2)), ("u", some (.int u t1)), ("edge", some (.ref T)), ("nodes", some (.ref Nd)), ("matching", some (.ref Ma)), ("G", some (.ref x))]) S (by rfl)
     refine HB _ _ (BodyEnd.nx [] S fun G2 k4 _ => Ji _ _ _ _ (in_x9 _ _ _ _ _ Cs _ nn M ⟨rfl, rfl, by rw [hgr, grStep, if_neg (by simp [hu])], hMt, hPS.re (hTP.mono k4).isK, hTP.mono k4, hperm, hIS, hF, by lia⟩))
   refine ite_yes (by simp [hu]) ?_
   walk_at "mm"
   refine notInI S (.head _) hIS ?_
   rw [hF]
   walk_at "mm"
   by_cases hv : v ∈ nodesOf M
   · refine ite_no (by simp [hv]) ?_
     walk_at "mm"
     replace S := St.relist (l' := [("v", some (.int v t2)), ("u", some (.int u t1)), ("edge", some (.ref T)), ("nodes", some (.ref Nd)), ("matching", some (.ref Ma)), ("G", some (.ref x))]) S (by rfl)
     refine HB _ _ (BodyEnd.nx [] S fun G2 k4 _ => Ji _ _ _ _ (in_x9 _ _ _ _ _ Cs _ nn M ⟨rfl, rfl, by rw [hgr, grStep, if_neg (by simp [hv])], hMt, hPS.re (hTP.mono k4).isK, hTP.mono k4, hperm, hIS, hF, by lia⟩))
   refine ite_yes (by simp [hv]) ?_
   walk_at "mm"
   refine ne_int ?_
   walk_at "mm"
   by_cases huv : u = v
   · refine ite_no (by simp [huv]) ?_
     walk_at "mm"
     replace S := St.relist (l' := [("v", some (.int v t2)), ("u", some (.int u t1)), ("edge", some (.ref T)), ("nodes", some (.ref Nd)), ("matching", some (.ref Ma)), ("G", some (.ref x))]) S (by rfl)
     refine HB _ _ (BodyEnd.nx [] S fun G2 k4 _ => Ji _ _ _ _ (in_x9 _ _ _ _ _ Cs _ nn M ⟨rfl, rfl, by rw [hgr, grStep, if_neg (by simp [huv])], hMt, hPS.re (hTP.mono k4).isK, hTP.mono k4, hperm, hIS, hF, by lia⟩))
   refine ite_yes (by simp [huv]) ?_
   walk_at "mm"
   have hin' : (0 ≤ u ∧ u < 6) ∧ (0 ≤ v ∧ v < 6) := hin
   have hMl := hMt.len
   have hCl : Cs.length = M.length := by have := hperm.length_eq; simpa using this
   have kGs : ∀ b o, G'.get? b = some o → h7.get? b = some o := fun b o e => S.keep b o (k3 b o e)
   have hPSs : PS w h7 o1 Cs := hPS.re (hTP.mono kGs).isK
   refine methAdd_ps hPSs (S.get (.tail _ (.head _))) ?_
   walk_at "mm"
   refine addF (CG2.push S).line S hPSs (.tail _ (.head _)) (isK2 (S.keep _ _ hTb)) (mem_dom hin'.1 hin'.2) (fun m => ks_off hu (hperm.subset m)) (by lia) (fun o' => [(Nd, o2), (Ma, o')]) (fun o' => .tail .head) fun o1' Cs' h8 tk8 S hPS' hp hs => ?_
   walk_at "mm"
   refine updM S (.head _) hIS ?_
   walk_at "mm"
   refine updI CG2.hand S hIS (.head _) ?_ ⟨_, S.keep _ _ hTb, rfl, _, rfl⟩ (fun o' => [(Nd, o'), (Ma, o1')]) (fun o' => .head) fun o2' h9 tk9 S hIS' x9 => ?_
   · have : rows.length ≤ 1000 := by rw [hrows]; exact hsz
     have : 2010 < scanBound := by decide
     lia
   walk_at "mm"
   replace S := St.relist (l' := [("v", some (.int v t2)), ("u", some (.int u t1)), ("edge", some (.ref T)), ("nodes", some (.ref Nd)), ("matching", some (.ref Ma)), ("G", some (.ref x))]) S (by rfl)
   refine HB _ _ (BodyEnd.nx [] S fun G2 k4 _ => Ji _ _ _ _ ?_)
   have hTP' : TP G2 Cs' := ((hTP.mono k4).cons (k4 _ _ (kG _ _ hT))).perm hp
   refine in_x9 _ _ _ _ _ Cs' _ _ (M ++ [(u, v)]) ⟨rfl, rfl, by rw [hgr, grStep, if_pos ⟨hu, hv, huv⟩], hMt.snoc hu hv huv hin', hPS'.re hTP'.isK, hTP', ?_, hIS', nodes_snoc hF, ?_⟩ -- in92
   · refine (hp.map _).trans ?_
     rw [List.map_append]
     exact (hperm.cons _).trans (List.perm_append_singleton _ _).symm
   · have := addS_le (S := F) (n := nn) (u := u) (v := v)
     lia
 intro l N' G' h6 tk6 hJ kG S
 refine el_xxxxxxxxxaaaaaaaaaa hJ fun x1 x2 x3 o1 o2 Cs F nn M hsb9 hsb10 hM hMt hPS hTP hperm hIS hF hnn => ?_
 try clear hJ
 replace S := St.at2 hsb9 hsb10 S
 walk_at "mm"
 have hsk : ∀ b o, s.heap.get? b = some o → G'.get? b = some o := fun b o e => kG b o (k1 b o (hsg b o e))
 rw [List.take_of_length_le (by rw [List.size_toArray, hrg.len]; exact Nat.le_refl _)] at hM
 refine hQ _ _ (h _ _ Ma o1 Cs (Ext.of_keep fun b o e => S.keep b o (hsk b o e)) (none_sub hsk (S.none (.tail _ (.head _)))) (S.get (.tail _ (.head _))) (hPS.re (hTP.mono S.keep).isK) ?_ (hTP.mono S.keep))
 rw [← hM]; exact hperm
end
section
variable {M : Model} {A : Around} {E : Value → Shared → Prop} {s : Shared}
theorem setFlight_selfW {base : Heap} {l : List Env} {e L : Addr} {cls a0 : Value} {Q : Unit → Shared → Prop} (R : Heap.HeldW base l e cls a0 L s.heap)
   (h : ∀ h', Heap.HeldW base l e cls a0 L h' → s.heap.UpToSlots h' → Q () { s with heap := h' }) : wpAny M A (setFlight (.ref e) (some L)) Q E s := by
 refine el_aaaxxxxxaaaaaaaaa R fun oe vs T oT ts hkb hen hl he hcls hd h1 hnT hTe hT hdT h3 => ?_
 try clear R
 have hsz3 : 3 < ts.size := (Array.getElem?_eq_some_iff.mp h3).1
 have other : ∀ b, b ≠ T → (s.heap.update T (Obj.mapFields (·.setIfInBounds 3 ((some L).elim Value.none fun f => rawInt f)))).get? b = s.heap.get? b :=
   fun b hb => Heap.get?_update_other _ _ (Ne.symm hb)
 have noRecord : ∀ b o, s.heap.get? b = some o → (∀ vs, o.data ≠ .fields vs) → b ≠ T := fun b o hb hnf q => by
   rw [q, hT] at hb; injection hb with hb; subst hb; exact hnf ts hdT
 unfold setFlight
 refine wpAny_bind (wpAny_field he hd h1 ?_)
 rw [if_pos (show (Value.ref T != Value.none) = true from by simp)]
 refine wpAny_setField hT hdT hsz3 (h _ ⟨fun b o hbo => (other b fun q => by rw [q, hnT] at hbo; cases hbo).trans (hkb b o hbo), hen,
   hl.of_keeps fun b o hb hnf => ⟨o, (other b (noRecord b o hb hnf)).trans hb, rfl⟩, ?_⟩ fun b o hb hnf => ⟨o.slots, (other b (noRecord b o hb hnf)).trans hb⟩)
 exact in_x5 oe vs T _ _ ⟨(other e (Ne.symm hTe)).trans he, hcls, hd, h1, hnT, hTe, Heap.get?_update_self _ hT (Obj.isFreed_of_fields (Obj.data_mapFields hdT _)), Obj.data_mapFields hdT _, by simp [hsz3]⟩ -- in93
theorem note_madeW {base h : Heap} {env : Env} {outer : List Env} {L e : Addr} {cls : Value} {args : List Value} {Q : Unit → Shared → Prop} (hfr : A.frames = some (env :: outer)) (hf : env.frame = some L) (hkb : base.StaysIn h) (hl : h.FunFrames base (env :: outer)) (hx : Heap.MadeExcOf h s.heap e cls args)
   (hQ : ∀ h' a0, Heap.HeldW base (env :: outer) e cls a0 L h' → s.heap.UpToSlots h' → Q () { s with heap := h' }) : wpAny M A (noteFrame (.ref e) env) Q E s := by
 refine el_xaaa (hx.there) fun t he htn ht => ?_
 have fresh : ∀ b, h.get? b = none → base.get? b = none := fun b hb => by
   cases hq : base.get? b with
   | none => rfl
   | some o' => have := hkb b o' hq; rw [hb] at this; cases this
 unfold noteFrame
 simp only [hf]
 refine wpAny_bind (wpAny_field he rfl (x := Value.none) rfl ?_)
 rw [if_neg (by decide)]
 refine wpAny_entryW hfr (hl.of_keeps fun b o hb _ => ⟨o, hx.keeps b o hb, rfl⟩) hf he (fun b o hb => hx.keeps b o (hkb b o hb)) (fresh e hx.new) rfl (by simp) rfl fun h' hN => ?_
 refine el_aaaa hN fun k1 k2 k3 k4 => ?_
 try clear hN
 exact hQ h' (.ref t) ⟨k1, fresh e hx.new, k2, k3⟩ k4
theorem leave_heldW {base : Heap} {env : Env} {outer : List Env} {L e : Addr} {cls a0 : Value} {Q : Unit → Shared → Prop} (hf : env.frame = some L)
   (hh : Heap.HeldW base (env :: outer) e cls a0 L s.heap) (hQ : ∀ h', Heap.FlyingW base outer e cls a0 h' → s.heap.UpToSlots h' → Q () { s with heap := h' }) : wpAny M A (leaving env (.ref e)) Q E s := by
 unfold leaving
 refine wpAny_bind (wpAny_noteFrame_againW hf hh.2.2.2 ?_)
 refine wpAny_landsW hh fun h' hfl hs => ?_
 obtain ⟨k1, k2, ⟨_, _, k3⟩, k4⟩ := hfl
 exact hQ h' ⟨k1, k2, k3, k4⟩ hs
theorem back_heldW {base : Heap} {env : Env} {l : List Env} {L e : Addr} {cls a0 : Value} {E : Value → Shared → Prop} (hf : env.frame = some L) (hh : Heap.HeldW base l e cls a0 L s.heap)
   (hE : ∀ h', Heap.HeldW base l e cls a0 L h' → s.heap.UpToSlots h' → E (.ref e) { s with heap := h' }) : cameBackBy M A env E (.ref e) s := by
 unfold cameBackBy
 refine el_aaaxxxxxaaaaa (id hh) fun oe vs T oT ts _ _ _ he hcls hd h1 _ => ?_
 refine wpAny_bind (wpAny_field he hd h1 ?_)
 rw [if_neg (show ¬ ((Value.ref T == Value.none) = true) from by simp)]
 rw [hf]
 first
   | exact setFlight_selfW hh hE
   | exact wpAny_bind (wpAny_pure (setFlight_selfW hh hE))
end
noncomputable def Rz (h0 : Heap) (outs : List Env) (e : Addr) (h' : Heap) : Prop :=
 ∃ B a0, (∀ b o, h0.get? b = some o → b ∉ outs.filterMap (·.frame) → B.get? b = some o) ∧ Heap.FlyingW B outs e (.ref 44) a0 h' ∧ h0.UpToSlots h'
noncomputable def LeaveE (w : World) (A : Around) (env : Env) (R : Result → Shared → Prop) : Value → Shared → Prop := fun e s' =>
 wpAny (model prg w) (A.deeper env) (leaving env e) (fun _ s'' => R (.error e) s'') (fun e' s'' => R (.error e') s'') s'
section
variable {w : World} {A A' : Around} {outs : List Env} {base : Heap} {n m : Nat} {s s' : Shared} {E : Value → Shared → Prop} {g h h0 : Heap} {L a e : Addr} {l : Loc} {N : List (Addr × Obj)} {name : Str} {scope : Scope} {cd : Value} {R : Result → Shared → Prop}
theorem frame_off (C : Cx w A outs base g n) (S : St g L h l N) {b : Addr} {o : Obj} (e : g.get? b = some o) (hb : b ∉ outs.filterMap (·.frame)) : b ∉ (envOf name scope L a cd :: outs).filterMap (·.frame) := fun hm => by
 rcases kts_mem hm with z | z
 · rw [z, S.sep] at e; cases e
 · exact hb z
theorem rz_made {vs : List Value} (C : Cx w A outs base g (n + 1)) (S : St g L h l N) (hx : Heap.MadeExcOf h s'.heap e (.ref 44) vs) (hsub : ∀ b o, h0.get? b = some o → g.get? b = some o)
   (hR : ∀ h', Rz h0 outs e h' → R (.error (.ref e)) { s' with heap := h' }) (hk : scope.kind = .function := by rfl) :
   notedBy (model prg w) (A.deeper (envOf name scope L a cd)) (envOf name scope L a cd) (cameBackBy (model prg w) (A.deeper (envOf name scope L a cd)) (envOf name scope L a cd) (LeaveE w A (envOf name scope L a cd) R)) (.ref e) s' := by
 have K' := (C.push (name := name) (scope := scope) (a := a) (cd := cd) S hk).below
 have hin : ∀ env ∈ (envOf name scope L a cd :: outs), ∀ b, env.frame = some b → b ∈ (envOf name scope L a cd :: outs).filterMap (·.frame) := fun env he b hb => List.mem_filterMap.mpr ⟨env, he, hb⟩
 have sg : ∀ b o, h0.get? b = some o → b ∉ outs.filterMap (·.frame) → (hideAll h ((envOf name scope L a cd :: outs).filterMap (·.frame))).get? b = some o := fun b o q nm => hideAll_get _ (S.keep b o (hsub b o q)) (frame_off C S (hsub b o q) nm)
 unfold notedBy
 refine note_madeW (base := hideAll h ((envOf name scope L a cd :: outs).filterMap (·.frame))) K'.stack rfl (fun b o q => of_hideAll _ q) (funFrames_hide K'.frames hin) hx fun h1 a0 H1 u1 => ?_
 refine back_heldW rfl H1 fun h2 H2 u2 => ?_
 unfold LeaveE
 refine leave_heldW rfl H2 fun h3 F3 u3 => ?_
 refine hR h3 ⟨_, a0, sg, F3, ?_⟩
 exact ((((Heap.UpToSlots.of_keeps fun b o q => hx.keeps b o (S.keep b o (hsub b o q))).trans u1).trans u2)).trans u3
theorem rz_pass (C : Cx w A outs base g (n + 1)) (S : St g L h l N) (hz : Rz h (envOf name scope L a cd :: outs) e s'.heap) (hsub : ∀ b o, h0.get? b = some o → g.get? b = some o)
   (hR : ∀ h', Rz h0 outs e h' → R (.error (.ref e)) { s' with heap := h' }) : LeaveE w A (envOf name scope L a cd) R (.ref e) s' := by
 refine el_xxaaa hz fun B a0 hB hF hu => ?_
 try clear hz
 unfold LeaveE
 refine wpAny_leaves_onW (Around.frames_deeper C.below.stack) rfl hF fun h1 F1 u1 => ?_
 exact hR h1 ⟨B, a0, fun b o q nm => hB b o (S.keep b o (hsub b o q)) (frame_off C S (hsub b o q) nm), F1, ((Heap.UpToSlots.of_keeps fun b o q => S.keep b o (hsub b o q)).trans hu).trans u1⟩
theorem rz_catch {x : Str} {np pos : Pos} {b₀ : Stmt} {suite : List Stmt} {rest : List ExceptHandler} {Q : Flow → Shared → Prop} (C : Cx w A outs base g (n + 1)) (S : St g L h l N) (hz : Rz h (envOf name scope L a cd :: outs) e s'.heap)
   (ex : nsIn (KF w) mainGlobals x = some (some (.ref 44))) (q : ktsIn (KF w) 44 "BaseException" = true)
   (k : ∀ h', h'.Ns L (lk l) → (∀ b o, h.get? b = some o → b ∉ (envOf name scope L a cd :: outs).filterMap (·.frame) → h'.get? b = some o) → h.UpToSlots h' →
     wpAny (model prg w) ((A.deeper (envOf name scope L a cd)).mark (some (.ref e))) (execs (b₀ :: suite) (envOf name scope L a cd)) Q (fun _ _ => False) { s' with heap := h' })
   (hk : scope.kind = .function := by rfl) (hx : (envOf name scope L a cd).kindOf x = some .globalImplicit := by rfl) (hd : (x == ("__debug__" : Str)) = false := by decide) :
   wpAny (model prg w) (A.deeper (envOf name scope L a cd)) (noteFrame (.ref e) (envOf name scope L a cd))
     (fun _ s₂ => wpAny (model prg w) (A.deeper (envOf name scope L a cd)) (setFlight (.ref e) none) (fun _ s₃ =>
       wpAny (model prg w) (A.deeper (envOf name scope L a cd)) (handleBy (.ref e) (envOf name scope L a cd) (.ExceptHandler (some (.Name x np)) none (b₀ :: suite) pos :: rest)) Q E s₃) E s₂) E s' := by
 refine el_xxaaa hz fun B a0 hB hF hu => ?_
 try clear hz
 have K' := (C.push (name := name) (scope := scope) (a := a) (cd := cd) S hk).below
 have off : ∀ b o, base.get? b = some o → b ∉ (envOf name scope L a cd :: outs).filterMap (·.frame) := fun b o q hm => by
   rw [(K'.frames.mem hm).1] at q; cases q
 have bB : ∀ b o, base.get? b = some o → B.get? b = some o := fun b o q => hB b o (K'.stays b o q) (off b o q)
 refine wpAny_looks_onW (Around.frames_deeper C.below.stack) rfl hF fun h₄ hheld₄ u4 => ?_
 refine wpAny_landsW hheld₄ fun h₅ F5 u5 => ?_
 have k5 : ∀ b o, base.get? b = some o → h₅.get? b = some o := fun b o q => F5.1 b o (bB b o q)
 have X₅ : (KF w).In h₅ := C.bs.kin.keeps k5
 refine el_xaa (F5.there) fun ob hob hobc => ?_
 refine el_xxxxxxxxxxxxxxxxxaaa (kts_cls X₅ q) fun nm q' N' bs bm hdct sn sub ab col dd k0 k1 k2 k3 k5' newId hC hbase hbT => ?_
 refine el_xxxa (C.bs.top) fun mean mg mb T => ?_
 refine wpAny_handleBy_cons (codeAny_handlers_test (Calls.Name_function_global hk hx (Calls.loadGlobal_global (env := envOf name scope L a cd) (T.g.keeps k5) (mg_of C.bs.kin T.g ex) ?_) hd)) (by intro q; cases q)
 refine wpAny_excMatches_sub_self hC hob hobc hbase (codeAny_handlers_suite ?_)
 refine lands_againW F5 fun h₆ F6 u6 => ?_
 have u : h.UpToSlots h₆ := ((hu.trans u4).trans u5).trans u6
 exact wpAny_mono (k h₆ (u.ns S.ns) (fun b o e nm => F6.1 b o (hB b o e nm)) u) (fun _ _ x => x) fun _ _ x => x.elim
end
section
variable {w : World} {A A' : Around} {outs : List Env} {base : Heap} {n m : Nat} {s s' : Shared} {E : Value → Shared → Prop} {g h h0 : Heap} {L a e : Addr} {l : Loc} {N : List (Addr × Obj)} {name : Str} {scope : Scope} {cd : Value} {R : Result → Shared → Prop}
theorem itemsAre_reads {h : Heap} {ks : List Int} {vs : List Value} (X : ItemsAre (intKind prg w) ks vs) : ReadsAll h vs (ks.map .int) [] := by
 induction X with
 | nil => exact .nil
 | cons hk _ ih =>
   exact ReadsAll.cons (as := []) (bs := []) (PyProof.V.reads_key_int _ _ hk) ih
theorem IsK.reads {h : Heap} {ks : List Int} {T : Addr} (X : IsK w h ks T) : Reads h (.ref T) (.tuple (ks.map .int)) [] := by
 refine el_xxxaaaa X fun o items n ho hc hd hi => ?_
 try clear X
 exact .tuple ho hc hd (itemsAre_reads hi)
theorem dom_shown : dom.all (fun ks => decide ((PyData.tuple (ks.map .int)).shown.length ≤ 100) && (PyData.tuple (ks.map .int)).showable && decide ((PyData.tuple (ks.map .int)).depth ≤ 3) && !(PyData.tuple (ks.map .int)).hasDict) = true := by decide +kernel
theorem fmtK {ks : List Int} {T : Addr} {Q : Value → Shared → Prop} (hg : A.guards = some []) (hu : A.units + 10 < cLine) (hx : IsK w s.heap ks T) (hd : ks ∈ dom)
   (h : ∀ h' y u tk, y.length ≤ 100 → (∀ b o, s.heap.get? b = some o → h'.get? b = some o) → Q (.str y u) { s with heap := h', toks := tk }) : wpAny (model prg w) A (formatField (.ref T) Str.empty) Q E s := by
 have z := List.all_eq_true.mp dom_shown ks hd
 simp only [Bool.and_eq_true, decide_eq_true_eq, Bool.not_eq_true'] at z
 obtain ⟨⟨⟨z1, z2⟩, z3⟩, z4⟩ := z
 exact formatField_of_reads hx.reads z2 (fun q => by rw [z4] at q; cases q) hg (by lia) (fun _ _ e => e) (fun h' u tk k => h h' _ u tk z1 k) (Nat.le_trans z1 (by rw [sizeLine_eq]; lia))
theorem enterE {qual : Str} {params : Arguments} {body : List Stmt} {dV kV doc pm cdv ct oc : Value} {an od : Option Addr} {osl : Array (Option Value)} {f : Addr} {args : Args} {binds : List (Str × Value)}
   (C : Cx w A outs base s.heap (n + 1))
   (ho : (KF w).lookup f = some ⟨oc, od, .func (fnOf name qual params body scope dV kV doc pm an cdv ct), osl⟩) (hcd : codeIn (KF w) cdv qual = true)
   (hbind : BindsTo s (fnOf name qual params body scope dV kV doc pm an cdv ct) args binds) (hloc : ∀ y ∈ binds, scope.names.lookup y.1 = some .local)
   (h : ∀ h₁ L tk (Qf : Flow → Shared → Prop), (∀ fl s', R (.ok (.ret (retOf fl))) s' → Qf fl s') → St (hideAll s.heap []) L h₁ (locOf binds.reverse) [] →
     Cx w A outs base (hideAll s.heap []) (n + 1) →
     wpAny (model prg w) (A.deeper (envOf qual scope L f cdv)) (execs body (envOf qual scope L f cdv)) Qf (LeaveE w A (envOf qual scope L f cdv) R) { s with heap := h₁, toks := tk })
   (hco : scope.isCoroutine = false := by rfl) (hgen : scope.isGenerator = false := by rfl) (hk : scope.kind = .function := by rfl)
   (hcell : ∀ x ∈ scope.names, x.2 ≠ .cell := by decide) : codeAny (model prg w) A (.call (.ref f) args) R s := by
 have X : (KF w).In s.heap := C.bs.kin.keeps C.below.stays
 refine el_xxxa (C.bs.top) fun mean mg mb T => ?_
 have hd1 := C.deep
 refine codeAny_call_def (fd := fnOf name qual params body scope dV kV doc pm an cdv ct) (body := body) (binds := binds) (by unfold recursionLimit; lia) (X _ _ ho) rfl (T.nolimit.keeps C.below.stays)
   (codeRec_of X hcd) rfl hbind hcell hloc (fun h₁ hns hk₁ => ?_) hco hgen hk
 have hsep : (hideAll s.heap []).get? s.heap.objs.size = none := by
   cases q : (hideAll s.heap []).get? s.heap.objs.size with
   | none => rfl
   | some o => exact absurd (Heap.lt_size (of_hideAll _ q)) (Nat.lt_irrefl _)
 exact h h₁ _ _ _ (fun fl _ x => by cases fl <;> exact x) ⟨by rw [lk_locOf]; exact hns, fun b o e => hk₁ b o (of_hideAll _ e), hsep, (fun p hp => nomatch hp), List.nodup_nil⟩ (C.keeps hide_nil)
theorem exc44 (w : World) : excIn (KF w) 44 [.type "Exception", .type "BaseException", .type "object"] "Exception.__new__" = true := by kernel_rfl
theorem kts44 (w : World) : ktsIn (KF w) 44 "BaseException" = true := by kernel_rfl
theorem raiseF {x : Str} {np cpos pos : Pos} {e₀ : Expr} {env : Env} {Q : Flow → Shared → Prop} (S : St g L s.heap l N) (C : Cx w A' outs base g n) (hh : A.handled = none)
   (h : wpAny (model prg w) A (spliced (backTo cpos (starEach [e₀] env))) (fun vs s₂ => vs.length ≤ sizeLine ∧ (∀ b o, base.get? b = some o → s₂.heap.get? b = some o) ∧
     ∀ h' e, Heap.MadeExcOf s₂.heap h' e (.ref 44) vs → E (.ref e) { s₂ with heap := h' }) E s)
   (ex : nsIn (KF w) mainGlobals x = some (some (.ref 44)) := by rfl) (q : excIn (KF w) 44 [.type "Exception", .type "BaseException", .type "object"] "Exception.__new__" = true := exc44 w)
   (he : starEach [e₀] env = (false, eval e₀ env) :: starEach [] env := by rfl)
   (hk : env.scope.kind = .function := by rfl) (hx : env.kindOf x = some .globalImplicit := by rfl) (hg : env.globals = mainGlobals := by rfl) (hd : (x == ("__debug__" : Str)) = false := by decide) :
   wpAny (model prg w) A (exec (.Raise (some (.Call (.Name x np) [e₀] [] cpos)) none pos) env) Q E s := by
 refine el_xxxa (id C.bs.top) fun mean mg mb T => ?_
 refine el_xxxxxxxxxxxxxxxxxaaaa (own_of_in C.bs.kin (topRead_of T) ex q).obj fun tl N' nm q' bs hdct sn sub ab col dd k0 k1 k2 k3 k5 mN hC hN hni Tl => ?_
 refine wpAny_Raise_call_subT (C := 44) (nm := nm) (q := q') (N := N') (bs := bs) (bm := tl) (hdct := hdct) (sn := sn) (sub := sub) (ab := ab) (col := col) (dd := dd) (k0 := k0) (k1 := k1) (k2 := k2) (k3 := k3) (k5 := k5)
   PySem.F.excBase_Exception (mN := mN) (Tl.hasType PySem.F.excBase_Exception.hasBase) hh (by rw [he]; rfl) hni (nmG S C ex ⟨rfl, ?_⟩ hk hx hg hd)
 rw [he] at h ⊢
 exact Calls.evalArgs_plain (wpAny_mono h (fun vs s₂ h₂ => ⟨rfl, h₂.1, h₂.2.1 _ _ hC, hN.keeps h₂.2.1, Tl.keeps h₂.2.1, h₂.2.2⟩) fun _ _ y => y)
end
section
variable {w : World} {A A' : Around} {outs : List Env} {base : Heap} {n m : Nat} {s s' : Shared} {E : Value → Shared → Prop} {g h h0 : Heap} {L a e : Addr} {l : Loc} {N : List (Addr × Obj)} {name : Str} {scope : Scope} {cd : Value} {R : Result → Shared → Prop}
theorem contains_X {x C f : Addr} {ox : Obj} {od : Option Obj} {v : Value} {Q : Bool → Shared → Prop} (X : (KF w).In s.heap) (I : W.InstAt s.heap x ox C od) (hs : findIn (KF w) (.ref C) "__contains__" = some (some (.ref f))) (hf : isFn (KF w) (.ref f) = true)
   (h : wpAny (model prg w) A (call (.ref f) [.ref x, v]) (fun r s' => wpAny (model prg w) A (truthy r) Q E s') E s) : wpAny (model prg w) A (contains (.ref x) v) Q E s := by
 unfold contains
 refine wpAny_holding (wpAny_bind (wpAny_bind (I.type.here ((looks_findIn X hs).here ?_))))
 rw [if_neg (by simp)]
 exact wpAny_bind (unlessNone_K X I hs hf h)
theorem notInG {x : Addr} {u : Int} {tu : Tok} {ns : List Int} {adj : List (Int × List Int)} {Q : Value → Shared → Prop} (CA : Cx w A outs base s.heap (n + 1)) (G : GraphG w s.heap x ns adj)
   (h : ∀ h' tk', Ext [] s.heap h' → Q (.bool !(decide (u ∈ ns))) { s with heap := h', toks := tk' }) : wpAny (model prg w) A (compareOp .NotIn (.int u tu) (.ref x)) Q E s := by
 refine el_xxxxxxxa (G.at) fun dx gd nd ad od nv nb R => ?_
 exact wpAny_bind (contains_X (f := 189) (C := 310) (CA.bs.kin.keeps CA.below.stays) R.at_.inst (by rfl) (by rfl) (contains_spec CA G fun h' tk' hx => wpAny_truthy_bool (wpAny_pure (h h' tk' hx))))
theorem lenG {x : Addr} {ns : List Int} {adj : List (Int × List Int)} {Q : Value → Shared → Prop} (CA : Cx w A.in1 outs base s.heap (n + 1)) (G : GraphG w s.heap x ns adj) (hn : ns.length ≤ 100)
   (h : ∀ h' tk' u, Ext [] s.heap h' → Q (.int ns.length u) { s with heap := h', toks := tk' }) : wpAny (model prg w) A (call (.builtin "len") [.ref x]) Q E s := by
 refine el_xxxxxxxa (G.at) fun dx gd nd ad od nv nb R => ?_
 refine Calls.call_function_entry kind_len plain_len entry_len (args_len1 _) ?_
 unfold Builtin.«len»
 refine wpAny_bind (m := oneArg "len" _) (wpAny_pure ?_)
 refine wpAny_bind (m := callSpecial? (.ref x) (Str.ofString "__len__")) (special_fn (f := 196) (C := 310) (CA.bs.kin.keeps CA.below.stays) R.at_.inst (by rfl) (by rfl) (len_spec CA G fun h' tk' u hx => ?_))
 refine wpAny_bind (wpAny_holding (wpAny_pure ?_))
 refine wpAny_bind (wpAny_letGo ?_)
 show wpAny _ _ (if (ns.length : Int) < 0 then _ else _) _ _ _
 rw [if_neg (by lia)]
 show wpAny _ _ (if (ns.length : Int) ≥ 2 ^ 63 then _ else _) _ _ _
 rw [if_neg (by lia)]
 exact wpAny_bind (wpAny_mkInt (wpAny_pure ⟨_, rfl, h _ _ _ hx⟩))
theorem lenT {T : Addr} {items : Array Value} {Q : Value → Shared → Prop} (hl : s.heap.IsTuple T items) (hfit : (items.size : Int) < 2 ^ 63)
   (h : ∀ u tk, Q (.int items.size u) { s with toks := tk }) : wpAny (model prg w) A (call (.builtin "len") [.ref T]) Q E s := by
 refine el_xaaxa (id hl) fun o n ho hc hd => ?_
 have hT : s.TypeIs (.ref T) "tuple" := ⟨o, ho, hc⟩
 refine Calls.call_function_entry kind_len plain_len entry_len (args_len1 _) ?_
 unfold Builtin.«len»
 refine wpAny_bind (m := oneArg "len" _) (wpAny_pure ?_)
 refine wpAny_bind (m := callSpecial? (.ref T) (Str.ofString "__len__")) (wpAny_callSpecial?_slot (name := Str.ofString "__len__") hT PySem.F.slot_tuple_len
   (wpAny_call_entry PySem.F.slot_tuple_len hT PySem.F.entry_tuple_len ?_ (PySem.F.args_tuple_len_1 _)))
 · unfold Builtin.«tuple.__len__»
   refine wpAny_bind (m := slotArgs "__len__" 0 ⟨[.ref T], []⟩) (wpAny_pure ?_)
   refine wpAny_bind (wpAny_tupleItemsOf ho hd ?_)
   refine wpAny_bind (wpAny_mkInt (wpAny_pure ⟨_, rfl, ?_⟩))
   refine wpAny_bind (wpAny_holding (wpAny_pure ?_))
   refine wpAny_bind (wpAny_letGo ?_)
   show wpAny _ _ (if ((items.size : Nat) : Int) < 0 then _ else _) _ _ _
   rw [if_neg (by lia)]
   show wpAny _ _ (if ((items.size : Nat) : Int) ≥ 2 ^ 63 then _ else _) _ _ _
   rw [if_neg (by lia)]
   exact wpAny_bind (wpAny_mkInt (wpAny_pure ⟨_, rfl, h _ _⟩))
theorem itemsAre_len {ks : List Int} {vs : List Value} (X : ItemsAre (intKind prg w) ks vs) : vs.length = ks.length := by
 induction X with
 | nil => rfl
 | cons _ _ ih => rw [List.length_cons, List.length_cons, ih]
theorem IsK.tup {h : Heap} {ks : List Int} {T : Addr} (X : IsK w h ks T) : ∃ items : Array Value, h.IsTuple T items ∧ items.size = ks.length := by
 refine el_xxxaaaa X fun o items n ho hc hd hi => ?_
 try clear X
 exact ⟨items, ⟨o, ho, hc, n, hd⟩, by rw [← Array.length_toList]; exact itemsAre_len hi⟩
theorem IsK.tup2 {h : Heap} {u v : Int} {T : Addr} (X : IsK w h [u, v] T) : ∃ t1 t2, h.IsTuple T #[.int u t1, .int v t2] := by
 refine el_xxxaaaa X fun o items n ho hc hd hi => ?_
 try clear X
 obtain ⟨l⟩ := items
 cases hi with
 | cons h1 r1 =>
   cases r1 with
   | cons h2 r2 =>
     cases r2
     refine el_xa (iki_inv h1) fun t1 hsb1 => ?_
     subst hsb1
     refine el_xa (iki_inv h2) fun t2 hsb1 => ?_
     subst hsb1
     exact in_x3 t1 t2 o ⟨ho, hc, n, hd⟩ -- in95
theorem perm_map_inv {α β : Type} {f : α → β} {l₁ l₂ : List β} (p : l₁.Perm l₂) : ∀ C : List α, C.map f = l₁ → ∃ C' : List α, C'.Perm C ∧ C'.map f = l₂ := by
 induction p with
 | nil => intro C h; exact ⟨C, .refl _, h⟩
 | cons x p ih =>
   intro C h
   cases C with
   | nil => cases h
   | cons c r =>
     rw [List.map_cons] at h
     refine el_aa (List.cons.inj h) fun h1 h2 => ?_
     refine el_xaa (ih r h2) fun C' p' e => ?_
     exact ⟨c :: C', p'.cons c, by rw [List.map_cons, e, h1]⟩
 | swap x y l =>
   intro C h
   cases C with
   | nil => cases h
   | cons c r =>
     cases r with
     | nil => cases h
     | cons d r =>
       simp only [List.map_cons, List.cons.injEq] at h
       refine el_aaa h fun h1 h2 h3 => ?_
       try clear h
       exact ⟨d :: c :: r, .swap _ _ _, by simp only [List.map_cons]; rw [h1, h2, h3]⟩
 | trans p q ih1 ih2 =>
   intro C h
   refine el_xaa (ih1 C h) fun C1 p1 e1 => ?_
   refine el_xaa (ih2 C1 e1) fun C2 p2 e2 => ?_
   exact ⟨C2, p2.trans p1, e2⟩
end
noncomputable def TurnedT (Gr : Gens → Gens → Prop) (s₁ : Shared) (Gb G : Heap) (L : Addr) (J' : Loc → List (Addr × Obj) → Heap → Prop) (s' : Shared) : Prop :=
 ∃ h tk gs l' N', s' = { s₁ with heap := h, toks := tk, gens := gs } ∧ Gr s₁.gens gs ∧ St Gb L h l' N' ∧ ∀ G2 : Heap, (∀ b o, G.get? b = some o → G2.get? b = some o) → (∀ T vs, Gb.get? T = some (tupOf vs) → G2.get? T = some (tupOf vs)) → (∀ b o, h.get? b = some o → Gb.get? b = none → b ≠ L → b ∉ N'.map (·.1) → G2.get? b = some o) → J' l' N' G2
noncomputable def BodyEndT (Gr : Gens → Gens → Prop) (s₁ : Shared) (Gb G : Heap) (L : Addr) (J' : Loc → List (Addr × Obj) → Heap → Prop) (Q : Flow → Shared → Prop) : Flow → Shared → Prop
 | .next, s' => TurnedT Gr s₁ Gb G L J' s'
 | .cont, s' => TurnedT Gr s₁ Gb G L J' s'
 | .brk, s' => Q .next s'
 | .ret v, s' => Q (.ret v) s'
theorem TurnedT.of {s₁ : Shared} {Gb G h : Heap} {L : Addr} {J' : Loc → List (Addr × Obj) → Heap → Prop} {l' : Loc} {N' : List (Addr × Obj)} {tk : Nat} (S : St Gb L h l' N')
   (hJ : ∀ G2 : Heap, (∀ b o, G.get? b = some o → G2.get? b = some o) → (∀ T vs, Gb.get? T = some (tupOf vs) → G2.get? T = some (tupOf vs)) → J' l' N' G2) : TurnedT Eq s₁ Gb G L J' { s₁ with heap := h, toks := tk } :=
 ⟨h, tk, s₁.gens, l', N', rfl, rfl, S, fun G2 k1 k2 _ => hJ G2 k1 k2⟩
theorem BodyEndT.nx {s₁ : Shared} {Gb G h : Heap} {L : Addr} {J' : Loc → List (Addr × Obj) → Heap → Prop} {Q : Flow → Shared → Prop} {l' : Loc} {N' : List (Addr × Obj)} {tk : Nat} (S : St Gb L h l' N')
   (hJ : ∀ G2 : Heap, (∀ b o, G.get? b = some o → G2.get? b = some o) → (∀ T vs, Gb.get? T = some (tupOf vs) → G2.get? T = some (tupOf vs)) → J' l' N' G2) : BodyEndT Eq s₁ Gb G L J' Q .next { s₁ with heap := h, toks := tk } := TurnedT.of S hJ
theorem BodyEndT.ct {s₁ : Shared} {Gb G h : Heap} {L : Addr} {J' : Loc → List (Addr × Obj) → Heap → Prop} {Q : Flow → Shared → Prop} {l' : Loc} {N' : List (Addr × Obj)} {tk : Nat} (S : St Gb L h l' N')
   (hJ : ∀ G2 : Heap, (∀ b o, G.get? b = some o → G2.get? b = some o) → (∀ T vs, Gb.get? T = some (tupOf vs) → G2.get? T = some (tupOf vs)) → J' l' N' G2) : BodyEndT Eq s₁ Gb G L J' Q .cont { s₁ with heap := h, toks := tk } := TurnedT.of S hJ
noncomputable def SrcT (w : World) (A : Around) (target : Expr) (xv : Value) (g : Heap) (n : Nat) (P : Nat → Value → Heap → Prop) (GP : Shared → Gens → Prop) (Gr : Gens → Gens → Prop) : Prop :=
 ∀ (s : Shared) (Q : Value → Shared → Prop) (E : Value → Shared → Prop), (∀ b o, g.get? b = some o → s.heap.get? b = some o) →
   (∀ I W Md Stw h' tk gs, Itr w A target g I n P (GP s) Gr Md Stw → (∀ i h gs X W, Stw i h gs X W → ∀ b ∈ W, ∀ vs, h.get? b ≠ some (tupOf vs)) → (∀ b ∈ W, g.get? b = none) → (∀ X, (∀ b ∈ X, g.get? b = none ∧ ∃ o, s.heap.get? b = some o) → Stw 0 h' gs X W) → (∀ b o, s.heap.get? b = some o → h'.get? b = some o) →
     Q (.ref I) { s with heap := h', toks := tk, gens := gs }) → wpAny (model prg w) A (pyIter xv) Q E s
section
variable {w : World} {A : Around} {E : Value → Shared → Prop} {s : Shared} {g : Heap} {N N' : List (Addr × Obj)} {l : Loc} {env : Env} {v : Value} {L : Addr}
theorem for_loopT {target : Expr} {body : List Stmt} {Q : Flow → Shared → Prop} {E' : Value → Shared → Prop} {I : Addr} {W₀ : List Addr} {n : Nat} {P : Nat → Value → Heap → Prop} {GP : Gens → Prop} {Gr : Gens → Gens → Prop} {Md : Nat → Value → Heap → Gens → List Addr → List Addr → Prop} {Stw : Nat → Heap → Gens → List Addr → List Addr → Prop}
   (J : Nat → Loc → List (Addr × Obj) → Heap → Prop) (X : Itr w A target g I n P GP Gr Md Stw) (hW₀ : ∀ b ∈ W₀, g.get? b = none) (hst : Stw 0 s.heap s.gens (env.locals :: N.map (·.1)) W₀) (hT : ∀ i h gs X W, Stw i h gs X W → ∀ b ∈ W, ∀ vs, h.get? b ≠ some (tupOf vs)) (S : St g env.locals s.heap l N) (h0 : J 0 l N g)
   (turn : ∀ i v l N G h₁ tk gs, i < n → P i v h₁ → GP gs → J i l N G → (∀ b o, g.get? b = some o → G.get? b = some o) → (∀ b o, G.get? b = some o → (hideAll h₁ (env.locals :: N.map (·.1))).get? b = some o) → St (hideAll h₁ (env.locals :: N.map (·.1))) env.locals h₁ l N →
     wpAny (model prg w) A (assign target env v) (fun _ s₂ => wpAny (model prg w) A (execs body env) (BodyEndT Gr { s with heap := h₁, toks := tk, gens := gs } (hideAll h₁ (env.locals :: N.map (·.1))) G env.locals (J (i + 1)) Q) E' s₂) E' { s with heap := h₁, toks := tk, gens := gs })
   (done : ∀ l N G h tk gs, GP gs → J n l N G → (∀ b o, g.get? b = some o → G.get? b = some o) → St G env.locals h l N → Q .next { s with heap := h, toks := tk, gens := gs })
   (hE : ∀ e s', E' e s' → notedBy (model prg w) A env (cameBackBy (model prg w) A env E) e s') :
   codeAny (model prg w) A (.forLoop target (.ref I) body [] env) (fun r s' => match r with | .ok f => Q f s' | .error e => cameBackBy (model prg w) A env E e s') s := by
 refine codeAny_forLoop_any
   (fun k s' => ∃ h tk gs l N i G W, s' = { s with heap := h, toks := tk, gens := gs } ∧ Stw i h gs (env.locals :: N.map (·.1)) W ∧ (∀ b o, g.get? b = some o → G.get? b = some o) ∧ (∀ b ∈ W, G.get? b = none) ∧ St G env.locals h l N ∧ J i l N G ∧ i ≤ n ∧ k = n + 1 - i) ?_ (n + 1)
   ⟨s.heap, s.toks, s.gens, l, N, 0, g, W₀, rfl, hst, fun _ _ e => e, hW₀, S, h0, Nat.zero_le _, rfl⟩
 intro k s'
 refine elc_xxxxxxxxaaaaaaaa fun h tk gs l N i G W hsb8 hst hgG hGw S hJ hi hsb15 => ?_
 subst hsb8
 subst hsb15
 have hwN := X.wrX _ _ _ _ _ hst
 have next : ∀ h₁ : Heap, (∀ b o, b ∉ W → h.get? b = some o → h₁.get? b = some o) → St G env.locals h₁ l N := fun h₁ hk₁ =>
   ⟨S.ns.at' fun o e => hk₁ _ o (fun m => hwN _ m (.head _)) e, fun b o e => hk₁ b o (fun m => by rw [hGw b m] at e; cases e) (S.keep b o e), S.sep, fun p hp => ⟨hk₁ _ _ (fun m => hwN _ m (.tail _ (List.mem_map_of_mem hp))) (S.nw p hp).1, (S.nw p hp).2⟩, S.nd⟩
 have hX : ∀ b ∈ env.locals :: N.map (·.1), ∃ o, h.get? b = some o := fun b hb => by
   rcases List.mem_cons.mp hb with rfl | hb
   · refine el_xxxaa (S.ns) fun o _ _ e _ => ?_
     exact ⟨o, e⟩
   · refine el_xaa (List.mem_map.mp hb) fun p hp hsb2 => ?_
     subst hsb2
     exact ⟨_, (S.nw p hp).1⟩
 by_cases hlt : i < n
 · refine X.item i _ _ _ _ _ hlt hst hX fun v h₁ tk₁ gs₁ W₁ hMd hk₁ hWn hWW => ?_
   refine X.go i v _ _ _ _ _ hMd fun h₂ hP hst₂ hk₂ => ?_
   have hGw₁ : ∀ b ∈ W₁, G.get? b = none := fun b hb => (hWn b hb).elim (hGw b) fun e => none_sub S.keep e
   have S2 := next h₂ fun b o hb x => hk₂ b o (fun m => (hWn b m).elim hb fun e => by rw [e] at x; cases x) (hk₁ b o hb x)
   refine el_aa (S2.ground) fun S3 k3 => ?_
   have hfin : ∀ s₃, TurnedT Gr { s with heap := h₂, toks := tk₁, gens := gs₁ } (hideAll h₂ (env.locals :: N.map (·.1))) G env.locals (J (i + 1)) s₃ →
       ∃ m, m < n + 1 - i ∧ ∃ h tk gs l N i G W, s₃ = { s with heap := h, toks := tk, gens := gs } ∧ Stw i h gs (env.locals :: N.map (·.1)) W ∧ (∀ b o, g.get? b = some o → G.get? b = some o) ∧ (∀ b ∈ W, G.get? b = none) ∧ St G env.locals h l N ∧ J i l N G ∧ i ≤ n ∧ m = n + 1 - i := by
     intro s₃
     refine elc_xxxxxaaaa fun h' tk' gs' l' N' hsb5 hgr S' hJ' => ?_
     subst hsb5
     have newX : ∀ b ∈ env.locals :: N'.map (·.1), b ∈ env.locals :: N.map (·.1) ∨ h₂.get? b = none := fun b hb => by
       rcases List.mem_cons.mp hb with rfl | hb
       · exact .inl (.head _)
       · by_cases q : b ∈ env.locals :: N.map (·.1)
         · exact .inl q
         · refine el_xaa (List.mem_map.mp hb) fun p hp hsb2 => ?_
           subst hsb2
           refine .inr ?_
           cases e : h₂.get? p.1 with
           | none => rfl
           | some o => have := hideAll_get _ e q; rw [(S'.nw p hp).2.2] at this; cases this
     have hst₃ : Stw (i + 1) h' gs' (env.locals :: N'.map (·.1)) W₁ := X.frame _ _ _ _ _ _ _ _ hst₂ (fun b o hb e => S'.keep b o (hideAll_get _ e hb)) newX hgr
     have hw2 : ∀ b ∈ W₁, ∃ o, (hideAll h₂ (env.locals :: N.map (·.1))).get? b = some o := fun b hb => by
       cases e : h₂.get? b with
       | none =>
         have := X.wrX _ _ _ _ _ (X.frame _ _ _ _ _ _ [b] _ hst₂ (fun b o _ e => e) (fun b' hb' => by rw [List.mem_singleton.mp hb']; exact .inr e) hgr) b hb (.head _)
         exact this.elim
       | some o => exact ⟨o, hideAll_get _ e (X.wrX _ _ _ _ _ hst₂ b hb)⟩
     have hG2 : ∀ b o, G.get? b = some o → (hideAll h' (W₁ ++ env.locals :: N'.map (·.1))).get? b = some o := fun b o e => by
       have e2 := k3 b o e
       refine hideAll_get _ (S'.keep b o e2) fun m => ?_
       rcases List.mem_append.mp m with m | m
       · rw [hGw₁ b m] at e; cases e
       · rcases List.mem_cons.mp m with q | m
         · rw [q, S'.sep] at e2; cases e2
         · refine el_xaa (List.mem_map.mp m) fun p hp q => ?_
           rw [← q, (S'.nw p hp).2.2] at e2; cases e2
     refine ⟨n + 1 - (i + 1), by lia, h', tk', gs', l', N', i + 1, hideAll h' (W₁ ++ env.locals :: N'.map (·.1)), W₁, rfl, hst₃, fun b o e => hG2 b o (hgG b o e), fun b hb => hideAll_none _ (List.mem_append_left _ hb), ?_, ?_, hlt, rfl⟩
     · exact ⟨S'.ns, fun b o e => of_hideAll _ e, hideAll_none _ (List.mem_append_right _ (.head _)), fun p hp => ⟨(S'.nw p hp).1, (S'.nw p hp).2.1, hideAll_none _ (List.mem_append_right _ (.tail _ (List.mem_map_of_mem hp)))⟩, S'.nd⟩
     · refine hJ' _ hG2 (fun T vs e => hideAll_get _ (S'.keep _ _ e) fun m => ?_) fun b o e e1 e2 e3 => hideAll_get _ e fun m => ?_
       · rcases List.mem_append.mp m with m | m
         · exact hT _ _ _ _ _ hst₃ _ m _ (S'.keep _ _ e)
         · rcases List.mem_cons.mp m with q | m
           · rw [q, S'.sep] at e; cases e
           · refine el_xaa (List.mem_map.mp m) fun p hp q => ?_
             rw [← q, (S'.nw p hp).2.2] at e; cases e
       rcases List.mem_append.mp m with m | m
       · refine el_xa (hw2 b m) fun o' e' => ?_
         rw [e1] at e'; cases e'
       · exact (List.mem_cons.mp m).elim e2 e3
   refine wpAny_mono (wpAny_mono (turn i v l N G h₂ tk₁ gs₁ hlt hP (X.gp _ _ _ _ _ hst₂) hJ hgG k3 S3) (fun _ s₂ h₂' => wpAny_mono h₂' (fun f s₃ h₃ => ?_) hE) hE) (fun _ _ x => x) fun _ _ x => x
   cases f with
   | ret v => exact h₃
   | brk => exact h₃
   | cont => exact hfin _ h₃
   | next => exact hfin _ h₃
 · obtain rfl : i = n := by lia
   refine X.done _ _ _ _ _ hst hX fun h₁ tk₁ gs₁ hgp hk₁ => wpAny_execs_nil ?_
   exact done l N G h₁ tk₁ gs₁ hgp hJ hgG (next h₁ hk₁)
theorem for_srcT {target : Expr} {body : List Stmt} {Q : Flow → Shared → Prop} {E' : Value → Shared → Prop} {xv : Value} {n : Nat} {P : Nat → Value → Heap → Prop} {GP : Shared → Gens → Prop} {Gr : Gens → Gens → Prop}
   (J : Nat → Loc → List (Addr × Obj) → Heap → Prop) (X : SrcT w A target xv g n P GP Gr) (S : St g L s.heap l N) (h0 : J 0 l N g)
   (turn : ∀ Jq : Nat → Loc → List (Addr × Obj) → Heap → Prop, (∀ a b c d, J a b c d → Jq a b c d) → ∀ i v l N G h₁ tk gs, i < n → P i v h₁ → GP s gs → J i l N G → (∀ b o, g.get? b = some o → G.get? b = some o) → (∀ b o, G.get? b = some o → (hideAll h₁ (L :: N.map (·.1))).get? b = some o) → St (hideAll h₁ (L :: N.map (·.1))) L h₁ l N →
     wpAny (model prg w) A (assign target env v) (fun _ s₂ => wpAny (model prg w) A (execs body env) (BodyEndT Gr { s with heap := h₁, toks := tk, gens := gs } (hideAll h₁ (L :: N.map (·.1))) G L (Jq (i + 1)) Q) E' s₂) E' { s with heap := h₁, toks := tk, gens := gs })
   (done : ∀ l N G h tk gs, GP s gs → J n l N G → (∀ b o, g.get? b = some o → G.get? b = some o) → St G L h l N → Q .next { s with heap := h, toks := tk, gens := gs })
   (hE : ∀ e s', E' e s' → notedBy (model prg w) A env (cameBackBy (model prg w) A env E) e s') (hL : env.locals = L := by rfl) :
   wpAny (model prg w) A (pyIter xv) (fun it s₂ => codeAny (model prg w) A (.forLoop target it body [] env) (fun r s' => match r with | .ok f => Q f s' | .error e => cameBackBy (model prg w) A env E e s') s₂) E s := by
 subst hL
 refine X s _ _ S.keep fun I W Md Stw h' tk gs X hT hW hst hk => ?_
 refine for_loopT (s := { s with heap := h', toks := tk, gens := gs }) J X hW (hst _ fun b hb => ?_) hT (S.grow hk) h0 (turn J fun _ _ _ _ h => h) done hE
 rcases List.mem_cons.mp hb with rfl | hb
 · refine el_xxxaa (S.ns) fun o _ _ e _ => ?_
   exact ⟨S.sep, o, e⟩
 · refine el_xaa (List.mem_map.mp hb) fun p hp hsb2 => ?_
   subst hsb2
   exact ⟨(S.nw p hp).2.2, _, (S.nw p hp).1⟩
end
section
variable {w : World} {A : Around} {g : Heap} {d : Addr} {kvs : List (Int × Value)}
noncomputable def PairAt (w : World) (kvs : List (Int × Value)) (i : Nat) (v : Value) (h : Heap) : Prop := ∃ T key k x, v = .ref T ∧ kvs[i]? = some (k, x) ∧ (ik w).is k key = true ∧ h.get? T = some (tupOf [key, x])
noncomputable def ItSt (w : World) (I d : Addr) (kvs : List (Int × Value)) (ep : Nat) (gs0 : Gens) (i : Nat) (h : Heap) (gs : Gens) (X W : List Addr) : Prop :=
 ((i = 0 ∧ ∃ ok ov, IsItemIter h I d 0 kvs.length ep ok ov) ∨ ∃ ok ov a f oa, 0 < i ∧ KdxIt h I d i kvs.length ep ok ov a f ∧ h.get? a = some oa ∧ a ≠ I ∧ a ∉ X) ∧ I ∉ X ∧ d ∉ X ∧ d ≠ I ∧ h.DictAt (ik w) d kvs ep ∧ W = [I] ∧ gs = gs0
theorem ItSt.get {I : Addr} {ep : Nat} {gs0 gs : Gens} {i : Nat} {h : Heap} {X W : List Addr} (st : ItSt w I d kvs ep gs0 i h gs X W) : ∃ o, h.get? I = some o := by
 refine el_aa st fun st _ => ?_
 try clear st
 rcases st with ⟨_, ok, ov, e⟩ | ⟨ok, ov, a, f, oa, _, e, _⟩
 · exact ⟨_, e⟩
 · exact ⟨_, e⟩
theorem items_itr {x : Str} {px : Pos} {I : Addr} {ep : Nat} {gs0 : Gens} (hh : A.handled = none) : Itr w A (.Name x px) g I kvs.length (PairAt w kvs) (fun gs => gs = gs0) Eq (fun i v h gs X W => PairAt w kvs i v h ∧ ItSt w I d kvs ep gs0 (i + 1) h gs X W) (ItSt w I d kvs ep gs0) where
 frame := fun i h h' gs gs' X X' W st k k' r => by
   subst r
   refine el_xa (st.get) fun o ho => ?_
   refine el_aaaaaaa st fun c i1 i2 i3 i4 i5 i6 => ?_
   try clear st
   have nx : ∀ b, (∃ o, h.get? b = some o) → b ∉ X → b ∉ X' := fun b ⟨o, e⟩ nb m => (k' b m).elim nb fun q => by rw [e] at q; cases q
   have hd : ∃ o, h.get? d = some o := by obtain ⟨o, _, e, _⟩ := i4; exact ⟨o, e⟩
   refine ⟨?_, nx I ⟨o, ho⟩ i1, nx d hd i2, i3, i4.at' fun o e => k _ _ i2 e, i5, i6⟩
   rcases c with ⟨e, ok, ov, q⟩ | ⟨ok, ov, a, f, oa, hi, q, ha, hai, hax⟩
   · exact .inl ⟨e, ok, ov, k _ _ i1 q⟩
   · exact .inr ⟨ok, ov, a, f, oa, hi, k _ _ i1 q, k _ _ hax ha, hai, nx a ⟨_, ha⟩ hax⟩
 item := fun i s X W Q E hi st hX hQ => by
   refine el_aaaaaaa st fun c i1 i2 i3 i4 i5 i6 => ?_
   try clear st
   obtain ⟨⟨k, x⟩, hx⟩ : ∃ p, kvs[i]? = some p := ⟨kvs[i], by simp [hi]⟩
   have nX : s.heap.objs.size ∉ X := fun m => by
     refine el_xa (hX _ m) fun o e => ?_
     exact absurd (Heap.lt_size e) (Nat.lt_irrefl _)
   have fin : ∀ key h', (ik w).is k key = true → (∃ ok ov a f oa, 0 < i + 1 ∧ KdxIt h' I d (i + 1) kvs.length ep ok ov a f ∧ h'.get? a = some oa ∧ a ≠ I ∧ a ∉ X) → h'.get? s.heap.objs.size = some { cls := .type "tuple", data := .seq #[key, x] } →
       (∀ b o, b ≠ I → s.heap.get? b = some o → h'.get? b = some o) → Q (some (.ref s.heap.objs.size)) { s with heap := h' } := fun key h' hk c' ht kp => by
     refine hQ _ h' s.toks s.gens W ⟨⟨_, key, k, x, rfl, hx, hk, ht⟩, .inr c', i1, i2, i3, i4.at' fun o e => kp d o i3 e, i5, i6⟩ (fun b o hb e => kp b o (fun q => hb (by rw [i5, q]; exact List.mem_singleton_self _)) e) (fun b hb => .inl hb) (fun b hb => hb)
   rcases c with ⟨rfl, ok, ov, hit⟩ | ⟨ok, ov, a, f, oa, _, hit, ha, hai, hax⟩
   · exact wpAny_pyNext_items_item hit i4 hx fun key h' hk hit' ht hz kp => fin key h' hk ⟨key, x, _, false, _, Nat.succ_pos _, hit', ht, Nat.ne_of_gt (Heap.lt_size hit), nX⟩ ht kp
   · exact kdx_next_out hit ha hai i4 hx fun key h' hk hit' ht hz kp => fin key h' hk ⟨ok, ov, a, true, oa, Nat.succ_pos _, hit', kp a oa hai ha, hai, hax⟩ ht kp
 go := fun i v s X W Q E md hQ => by
   have : wpAny (model prg w) A (pure ()) Q E s := wpAny_pure (hQ s.heap md.1 md.2 fun b o _ e => e)
   exact this
 done := fun s X W Q E st _ hQ => by
   refine el_aaaaaaa st fun c i1 i2 i3 i4 i5 i6 => ?_
   try clear st
   have fin : ∀ h', Heap.ExtBut I s.heap h' → Q none { s with heap := h' } := fun h' x => hQ h' s.toks s.gens i6 fun b o hb e => x b o (fun q => hb (by rw [i5, q]; exact List.mem_singleton_self _)) e
   rcases c with ⟨e, ok, ov, hit⟩ | ⟨ok, ov, a, f, oa, _, hit, ha, hai, hax⟩
   · rw [← e] at hit
     exact wpAny_pyNext_items_end hh hit i4 (by simp) fin
   · exact kdx_end_out hh hit i4 (by simp) fin
 wrX := fun _ _ _ _ _ st b hb => by
   rw [st.2.2.2.2.2.1, List.mem_singleton] at hb
   rw [hb]; exact st.2.1
 gp := fun _ _ _ _ _ st => st.2.2.2.2.2.2
theorem SrcT.itemsN {x : Str} {px : Pos} {vw : Addr} (hh : A.handled = none) (hv : g.get? vw = some (viewOf d)) (hd : g.DictOf (ik w) d kvs) : SrcT w A (.Name x px) (.ref vw) g kvs.length (PairAt w kvs) Plain Eq := fun s Q E hk h => by
 have hd' : s.heap.DictOf (ik w) d kvs := hd.keep hk
 refine el_xa (hd'.dictAt) fun ep hat => ?_
 have hlt : d < s.heap.objs.size := hat.lt_size
 refine wpAny_pyIter_items (knd := ik w) ⟨_, hk _ _ hv, rfl, rfl⟩ hat ?_
 refine h s.heap.objs.size [s.heap.objs.size] _ (ItSt w s.heap.objs.size d kvs ep s.gens) _ s.toks s.gens (items_itr hh) (fun i h gs X W st b hb vs e => ?_) (fun b hb => ?_) (fun X hX => ?_) (fun b o e => Heap.get?_push_of_some _ e)
 · refine el_aaaaaaa st fun c _ _ _ _ hW _ => ?_
   try clear st
   rw [hW, List.mem_singleton] at hb
   rcases c with ⟨_, ok, ov, q⟩ | ⟨ok, ov, a, f, oa, _, q, _⟩
   · unfold IsItemIter at q; rw [hb, q] at e; exact absurd (congrArg Obj.cls (Option.some.inj e)) (by show ¬ (Value.type "dict_itemiterator" = Value.type "tuple"); decide)
   · unfold KdxIt at q; rw [hb, q] at e; exact absurd (congrArg Obj.cls (Option.some.inj e)) (by show ¬ (Value.type "dict_itemiterator" = Value.type "tuple"); decide)
 · rw [List.mem_singleton.mp hb]; exact none_sub hk (get_size _)
 · refine ⟨.inl ⟨rfl, .none, .none, Heap.get?_push_size _ rfl⟩, fun m => ?_, fun m => ?_, Nat.ne_of_lt hlt, hat.push _, rfl, rfl⟩
   · refine el_axa (hX _ m) fun o _ e => ?_
     rw [get_size] at e; cases e
   · refine el_aa (hX _ m) fun e _ => ?_
     refine el_xaa (Heap.dictOf_iff.mp hd) fun o e' _ => ?_
     rw [e] at e'; cases e'
end
noncomputable def IntVals (kvs : List (Int × Value)) (ps : List (Int × Int)) : Prop := kvs.length = ps.length ∧ ∀ (i : Nat) (k : Int) (x : Value), kvs[i]? = some (k, x) → ∃ v t, x = .int v t ∧ ps[i]? = some (k, v)
noncomputable def mdStep (M : List (Int × Int)) (e : Int × Int) : List (Int × Int) := if (e.2, e.1) ∈ M ∨ e ∈ M then M else M ++ [e]
noncomputable def mds (ps : List (Int × Int)) : List (Int × Int) := ps.foldl mdStep []
theorem mdStep_len (M : List (Int × Int)) (e : Int × Int) : M.length ≤ (mdStep M e).length := by
 unfold mdStep; split
 · exact Nat.le_refl _
 · rw [List.length_append]; lia
theorem md_len : ∀ (ps M : List (Int × Int)), M.length ≤ (ps.foldl mdStep M).length
 | [], _ => Nat.le_refl _
 | p :: r, M => Nat.le_trans (mdStep_len M p) (md_len r _)
theorem mds_take (ps : List (Int × Int)) (i : Nat) : (mds (ps.take i)).length ≤ (mds ps).length := by
 have e : mds ps = (ps.drop i).foldl mdStep (mds (ps.take i)) := by
   unfold mds
   rw [← List.foldl_append, List.take_append_drop]
 rw [e]; exact md_len _ _
theorem ks2_mem {M : List (Int × Int)} {u v : Int} : [u, v] ∈ M.map ks2 ↔ (u, v) ∈ M := by
 constructor
 · intro h
   obtain ⟨⟨a, b⟩, he, q⟩ := List.mem_map.mp h
   simp only [ks2, List.cons.injEq, and_true] at q
   refine el_aa q fun hsb0 hsb1 => ?_
   try clear q
   subst hsb0
   subst hsb1
   exact he
 · intro h
   exact List.mem_map.mpr ⟨(u, v), h, rfl⟩
section
variable {w : World} {A A' : Around} {outs : List Env} {base : Heap} {n m : Nat} {s s' : Shared} {E : Value → Shared → Prop} {g h h0 : Heap} {L a e : Addr} {l : Loc} {N : List (Addr × Obj)} {name : Str} {scope : Scope} {cd : Value} {R : Result → Shared → Prop}
theorem Cx.line10 (C : Cx w A outs base h n) : A.units + 10 < cLine := by have := C.line; lia
theorem inP {T a : Addr} {o : Obj} {C : List (List Int × Addr)} {ks : List Int} {Q : Value → Shared → Prop} (hu : A.units + 64 < cLine) (S : St g L s.heap l N) (hm : (a, o) ∈ N) (P : PS w s.heap o C) (hx : IsK w s.heap ks T) (hd : ks ∈ dom)
   (h : ∀ b tk, (b = true → ks ∈ C.map (·.1)) → (C.length ≤ 4 → b = decide (ks ∈ C.map (·.1))) → Q (.bool b) { s with toks := tk }) : wpAny (model prg w) A (compareOp .In (.ref T) (.ref a)) Q E s := in_ps P (S.get hm) hu hx hd h
noncomputable def MadeE (s₀ : Shared) (g : Heap) (L : Addr) (bad : Prop) : Value → Shared → Prop := fun ev s' => ∃ a h vs l N tk, ev = .ref a ∧ s' = { s₀ with heap := s'.heap, toks := tk } ∧ St g L h l N ∧ Heap.MadeExcOf h s'.heap a (.ref 44) vs ∧ bad
theorem madeE_out {s₀ : Shared} {bad : Prop} (C : Cx w A outs base g (n + 1)) (hsub : ∀ b o, s₀.heap.get? b = some o → g.get? b = some o)
   (hR : bad → ∀ e h' tk', Rz s₀.heap outs e h' → R (.error (.ref e)) { s₀ with heap := h', toks := tk' }) (hk : scope.kind = .function := by rfl) :
   ∀ ev s', MadeE s₀ g L bad ev s' → notedBy (model prg w) (A.deeper (envOf name scope L a cd)) (envOf name scope L a cd) (cameBackBy (model prg w) (A.deeper (envOf name scope L a cd)) (envOf name scope L a cd) (LeaveE w A (envOf name scope L a cd) R)) ev s' := by
 intro ev s'
 refine elc_xxxxxxaaaaa fun e h vs l N tk hsb6 hs S hx hb => ?_
 subst hsb6
 refine rz_made C S hx hsub (fun h' hz => ?_) hk
 rw [hs]
 exact hR hb e h' tk hz
theorem mds_code {d : Addr} {kvs : List (Int × Value)} {ps : List (Int × Int)} (C : Cx w A outs base s.heap (n + 1)) (hd : s.heap.DictOf (ik w) d kvs) (lo : (d == sysModules) = false) (iv : IntVals kvs ps)
   (dm : ∀ p ∈ ps, [p.1, p.2] ∈ dom ∧ [p.2, p.1] ∈ dom) (h4 : (mds ps).length ≤ 4) (hk : (∀ p ∈ ps, p.1 ≠ p.2) ∨ ∃ k, ps = [(k, k)])
   (hr1 : (∀ p ∈ ps, p.1 ≠ p.2) → ∀ h' tk' T o Cs, Ext [] s.heap h' → s.heap.get? T = none → h'.get? T = some o → PS w h' o Cs → (Cs.map (·.1)).Perm ((mds ps).map ks2) → TP h' Cs → R (.ok (.ret (.ref T))) { s with heap := h', toks := tk' })
   (h2 : (∃ k, ps = [(k, k)]) → ∀ e h' tk', Rz s.heap outs e h' → R (.error (.ref e)) { s with heap := h', toks := tk' }) :
   codeAny (model prg w) A (.call (.ref 60) ⟨[.ref d], []⟩) R s := by
 refine enterE (binds := [(Str.ofString "matching", .ref d)]) C rfl rfl (BindsTo.of_eq rfl) (locs rfl) (fun h₁ L tk Qf hQ S CG => ?_)
 dsimp only [List.map, List.reverse, List.reverseAux, locOf] at S CG
 replace hd : (hideAll s.heap []).DictOf (ik w) d kvs := hd.keep hide_nil
 refine el_xa (⟨_, rfl⟩ : ∃ g, g = hideAll s.heap []) fun g hg => ?_
 rw [← hg] at S CG hd
 have hsg : ∀ b o, s.heap.get? b = some o → g.get? b = some o := fun b o e => by rw [hg]; exact hide_nil b o e
 walk_at "mm"
 refine set0F S fun Ed hh2 S Ed0 _ => ?_
 walk_at "mm"
 refine dMeth PySem.F.slot_dict_items PySem.F.type_dict_items (hd.keep S.keep) ?_
 walk_at "mm"
 refine dItems S lo (hd.keep S.keep) fun vw hh3 S => ?_
 refine el_xaaa (S.freeze1) fun g1 S k1 hvw => ?_
 have CG1 := CG.keeps k1
 have hd1 : g1.DictOf (ik w) d kvs := hd.keep k1
 replace S := St.relist (l' := [("v", none), ("u", none), ("edge", none), ("edges", some (.ref Ed)), ("matching", some (.ref d))]) S (by rfl)
 refine for_srcT (E' := MadeE s g L (∃ k, ps = [(k, k)])) (fun i l N' G' => ∃ x1 x2 x3 o Cs M, l = ([("v", x1), ("u", x2), ("edge", x3), ("edges", some (.ref Ed)), ("matching", some (.ref d))] : Loc) ∧
   N' = [(Ed, o)] ∧ M = mds (ps.take i) ∧ PS w G' o Cs ∧ TP G' Cs ∧ (Cs.map (·.1)).Perm (M.map ks2) ∧ ∀ p ∈ ps.take i, p.1 ≠ p.2)
   (SrcT.itemsN CG1.hand hvw hd1) S ⟨_, _, _, _, [], _, rfl, rfl, rfl, ps_empty, (fun _ m => nomatch m), .nil, fun _ m => nomatch m⟩ ?_ ?_ (madeE_out CG hsg h2)
 case refine_1 =>
   intro Jq Ji i v l N' G' h6 tk6 gs6 hlt hP hgs hJ kG k3 S
   cases hgs
   refine el_xxxxxxaaaaaaa hJ fun x1 x2 x3 o Cs M hsb6 hsb7 hM hPS hTP hperm hNL => ?_
   try clear hJ
   subst hsb6
   subst hsb7
   refine el_xxxxaaaa hP fun T key u x hsb4 hi hkey hT => ?_
   try clear hP
   subst hsb4
   refine el_xa (iki_inv hkey) fun t1 hsb1 => ?_
   subst hsb1
   refine el_xxaa (iv.2 _ _ _ hi) fun vv t2 hsb2 hpi => ?_
   subst hsb2
   have hTo := S.offTup (by simp [hPS.notTup]) hT
   have hTb := S.ground_get hT hTo.1 hTo.2
   refine el_xa (⟨_, rfl⟩ : ∃ gb, gb = hideAll h6 (L :: [(Ed, o)].map (·.1))) fun gb hgb => ?_
   rw [← hgb] at S k3 hTb ⊢
   have CG2 := CG1.keeps fun b o e => k3 b o (kG b o e)
   have hdm := dm _ (List.mem_iff_getElem?.mpr ⟨i, hpi⟩)
   dsimp only at hdm
   have hmd : mds (ps.take (i + 1)) = mdStep M (u, vv) := by rw [take_next hpi, hM]; unfold mds; rw [List.foldl_append]; rfl
   have hMl : M.length ≤ 4 := by rw [hM]; exact Nat.le_trans (mds_take _ _) h4
   have hCl : Cs.length = M.length := by have := hperm.length_eq; simpa using this
   have hin : ∀ a b, ([a, b] ∈ Cs.map (·.1)) = ((a, b) ∈ M) := fun a b => propext (hperm.mem_iff.trans ks2_mem)
   have kGb : ∀ b o, G'.get? b = some o → gb.get? b = some o := k3
   have hPSb : PS w gb o Cs := hPS.re (hTP.mono kGb).isK
   have hM0 : u = vv → M = [] := fun q => by
     rcases hk with z | ⟨k, e⟩
     · exact absurd q (z _ (List.mem_iff_getElem?.mpr ⟨i, hpi⟩))
     · have : i = 0 := by
         rw [e] at hpi
         cases i with
         | zero => rfl
         | succ j => simp at hpi
       rw [hM, this]; rfl
   have hNL' : u ≠ vv → ∀ p ∈ ps.take (i + 1), p.1 ≠ p.2 := fun q p hp => by
     rw [take_next hpi] at hp
     rcases List.mem_append.mp hp with hp | hp
     · exact hNL p hp
     · rw [List.mem_singleton.mp hp]; exact q
   walk_at "mm"
   refine asg2 CG2.hand S ⟨_, S.keep _ _ hTb, rfl, _, rfl⟩ fun h7 tk7 S => ?_
   walk_at "mm"
   refine newT S fun T2 h8 S _ hT2 _ => ?_
   walk_at "mm"
   refine inP (CG2.push S).line S (.tail _ (.head _)) (hPSb.grow S.keep) (isK2 hT2) hdm.2 fun b1 tk8 _ hb1 => ?_
   replace hb1 := hb1 (by lia)
   rw [hb1]
   walk_at "mm"
   by_cases m1 : (vv, u) ∈ M
   · refine ite_yes (by simp [hin, m1]) ?_
     walk_at "mm"
     replace S := St.relist (l' := [("v", some (.int vv t2)), ("u", some (.int u t1)), ("edge", some (.ref T)), ("edges", some (.ref Ed)), ("matching", some (.ref d))]) S (by rfl)
     refine BodyEndT.ct (S.sub (List.sublist_cons_self _ _)) fun G2 k4 k5 => Ji _ _ _ _ ⟨_, _, _, _, Cs, M, rfl, rfl, by rw [hmd, mdStep, if_pos (.inl m1)], hPS.re (hTP.mono k4).isK, hTP.mono k4, hperm, hNL' fun q => by rw [hM0 q] at m1; cases m1⟩
   refine ite_no (by simp [hin, m1]) ?_
   walk_at "mm"
   refine inP (CG2.push S).line S (.tail _ (.head _)) (hPSb.grow S.keep) (isK2 (S.keep _ _ hTb)) hdm.1 fun b2 tk9 _ hb2 => ?_
   replace hb2 := hb2 (by lia)
   rw [hb2]
   walk_at "mm"
   by_cases m2 : (u, vv) ∈ M
   · refine ite_yes (by simp [hin, m2]) ?_
     walk_at "mm"
     replace S := St.relist (l' := [("v", some (.int vv t2)), ("u", some (.int u t1)), ("edge", some (.ref T)), ("edges", some (.ref Ed)), ("matching", some (.ref d))]) S (by rfl)
     refine BodyEndT.ct (S.sub (List.sublist_cons_self _ _)) fun G2 k4 k5 => Ji _ _ _ _ ⟨_, _, _, _, Cs, M, rfl, rfl, by rw [hmd, mdStep, if_pos (.inr m2)], hPS.re (hTP.mono k4).isK, hTP.mono k4, hperm, hNL' fun q => by rw [hM0 q] at m2; cases m2⟩
   refine ite_no (by simp [hin, m2]) ?_
   walk_at "mm"
   refine PyProof.Rows.eq_int ?_
   walk_at "mm"
   by_cases huv : u = vv
   · refine ite_yes (by simp [huv]) ?_
     have hbad : ∃ k, ps = [(k, k)] := hk.resolve_left fun z => z _ (List.mem_iff_getElem?.mpr ⟨i, hpi⟩) huv
     walk_at "mm"
     refine raiseF S CG2 CG2.hand ?_
     walk_at "mm"
     refine JoinedStr_many ?_
     refine joinParts_cons ?_
     walk_at "mm"
     refine ⟨(by size_fits), ?_⟩
     refine joinParts_cons (FormattedValue_plain ?_)
     walk_at "mm"
     refine fmtK (CG2.push S).guards (CG2.push S).line10 (isK2 (S.keep _ _ hTb)) hdm.1 fun h9 y uu tk9 hy hk9 => ?_
     have hz : (Str.empty ++ Str.ofString "Selfloops cannot appear in matchings ").length ≤ 200 := by decide
     have hz2 : (Str.empty ++ Str.ofString "Selfloops cannot appear in matchings " ++ y).length ≤ sizeLine := by rw [strLen_append, sizeLine_eq]; lia
     refine ⟨hz2, joinParts_nil ?_ hz2⟩
     replace S := S.grow hk9
     walk_at "mm"
     refine ⟨by rw [sizeLine_eq]; simp, fun b o e => S.keep b o (CG2.below.stays b o e), fun h' e hx => ?_⟩
     exact in_x6 e _ _ _ _ _ ⟨rfl, rfl, S.weak fun b o q => k3 b o (kG b o (k1 b o q)), hx, hbad⟩ -- in106
   refine ite_no (by simp [huv]) ?_
   walk_at "mm"
   refine methAdd_ps (hPSb.grow S.keep) (S.get (.tail _ (.head _))) ?_
   walk_at "mm"
   refine addF (CG2.push S).line S (hPSb.grow S.keep) (.tail _ (.head _)) (isK2 (S.keep _ _ hTb)) hdm.1 (by rw [hin]; exact m2) (by lia) (fun o' => [(T2, tupOf [.int vv t2, .int u t1]), (Ed, o')]) (fun o' => .tail .head) fun o1' Cs' h9 tk9 S hPS' hp hs => ?_
   walk_at "mm"
   replace S := St.relist (l' := [("v", some (.int vv t2)), ("u", some (.int u t1)), ("edge", some (.ref T)), ("edges", some (.ref Ed)), ("matching", some (.ref d))]) S (by rfl)
   refine BodyEndT.nx (S.sub (List.sublist_cons_self _ _)) fun G2 k4 k5 => Ji _ _ _ _ ?_
   have hTP' : TP G2 Cs' := ((hTP.mono k4).cons (k5 _ _ hTb)).perm hp
   refine in_x6 _ _ _ _ Cs' (M ++ [(u, vv)]) ⟨rfl, rfl, by rw [hmd, mdStep, if_neg (by simp [m1, m2])], hPS'.re hTP'.isK, hTP', ?_, hNL' huv⟩ -- in107
   refine (hp.map _).trans ?_
   rw [List.map_append]
   exact (hperm.cons _).trans (List.perm_append_singleton _ _).symm
 intro l N' G' h6 tk6 gs6 hgs hJ kG S
 cases hgs
 refine el_xxxxxxaaaaaaa hJ fun x1 x2 x3 o Cs M hsb6 hsb7 hM hPS hTP hperm hNL => ?_
 try clear hJ
 subst hsb6
 subst hsb7
 walk_at "mm"
 have hsk : ∀ b o, s.heap.get? b = some o → G'.get? b = some o := fun b o e => kG b o (k1 b o (hsg b o e))
 rw [List.take_of_length_le (by rw [iv.1]; exact Nat.le_refl _)] at hM
 have hfin : ∀ p ∈ ps, p.1 ≠ p.2 := by
   rwa [List.take_of_length_le (by rw [iv.1]; exact Nat.le_refl _)] at hNL
 refine hQ _ _ (hr1 hfin _ _ Ed o Cs (Ext.of_keep fun b o e => S.keep b o (hsk b o e)) (none_sub hsk (S.none (.head _))) (S.get (.head _)) (hPS.re (hTP.mono S.keep).isK) ?_ (hTP.mono S.keep))
 rw [← hM]; exact hperm
end
theorem dom_len : dom.all (fun ks => decide (ks.length ≤ 3)) = true := by decide +kernel
noncomputable def prs (C : List (List Int × Addr)) : List (Int × Int) := C.map fun c => (c.1.getD 0 0, c.1.getD 1 0)
noncomputable def isM (adj : List (Int × List Int)) (rows : List (Int × Int)) : Bool := decide ((∀ e ∈ rows, e.1 ≠ e.2 ∧ e.2 ∈ adjOf adj e.1) ∧ (nodesOf rows).Nodup)
noncomputable def InN (ns : List Int) (rows : List (Int × Int)) : Prop := ∀ e ∈ rows, e.1 ∈ ns ∧ e.2 ∈ ns
noncomputable def SetK (ns : List Int) (Cs : List (List Int × Addr)) (out : Option (List (Int × Int))) : Prop :=
 (∃ rows, out = some rows ∧ InN ns rows ∧ (Cs.map (·.1)).Perm (rows.map ks2) ∧ rows.length ≤ 20) ∨ (out = none ∧ ∃ ks T, Cs = [(ks, T)] ∧ (ks.length ≠ 2 ∨ ∃ u v, ks = [u, v] ∧ (u ∉ ns ∨ v ∉ ns)))
noncomputable def DictK (ns : List Int) (ps : List (Int × Int)) (out : Option (List (Int × Int))) : Prop :=
 (∃ k, ps = [(k, k)] ∧ out = none) ∨ ((∀ p ∈ ps, p.1 ≠ p.2) ∧ ((out = some (mds ps) ∧ InN ns (mds ps)) ∨ (out = none ∧ ∃ u v, mds ps = [(u, v)] ∧ (u ∉ ns ∨ v ∉ ns))))
noncomputable def MArg (w : World) (h : Heap) (v : Value) (ns : List Int) (out : Option (List (Int × Int))) : Prop :=
 (∃ a o Cs, v = .ref a ∧ h.get? a = some o ∧ PS w h o Cs ∧ SetK ns Cs out) ∨
 (∃ d kvs ps, v = .ref d ∧ (d == sysModules) = false ∧ h.DictOf (ik w) d kvs ∧ IntVals kvs ps ∧ (∀ p ∈ ps, [p.1, p.2] ∈ dom ∧ [p.2, p.1] ∈ dom) ∧ (mds ps).length ≤ 4 ∧ DictK ns ps out)
theorem MArg.keep {w : World} {h h' : Heap} {v : Value} {ns : List Int} {out : Option (List (Int × Int))} (X : MArg w h v ns out) (k : ∀ b o, h.get? b = some o → h'.get? b = some o) : MArg w h' v ns out := by
 rcases X with ⟨a, o, Cs, e, ho, P, K⟩ | ⟨d, kvs, ps, e, lo, hd, r⟩
 · exact .inl ⟨a, o, Cs, e, k _ _ ho, P.grow k, K⟩
 · exact .inr ⟨d, kvs, ps, e, lo, hd.keep k, r⟩
theorem nodesOf_perm {a b : List (Int × Int)} (p : a.Perm b) : (nodesOf a).Perm (nodesOf b) := p.flatMap_right _
theorem isM_perm {adj : List (Int × List Int)} {a b : List (Int × Int)} (p : a.Perm b) : isM adj a = isM adj b := by
 unfold isM
 have h1 : (∀ e ∈ a, e.1 ≠ e.2 ∧ e.2 ∈ adjOf adj e.1) ↔ (∀ e ∈ b, e.1 ≠ e.2 ∧ e.2 ∈ adjOf adj e.1) := ⟨fun h e he => h e (p.mem_iff.mpr he), fun h e he => h e (p.mem_iff.mp he)⟩
 have h2 := (nodesOf_perm p).nodup_iff
 rw [decide_eq_decide, h1, h2]
theorem prs_perm {C : List (List Int × Addr)} {rows : List (Int × Int)} (p : (C.map (·.1)).Perm (rows.map ks2)) : (prs C).Perm rows := by
 have := p.map fun k : List Int => (k.getD 0 0, k.getD 1 0)
 rw [List.map_map, List.map_map] at this
 have e : (((fun k : List Int => (k.getD 0 0, k.getD 1 0)) ∘ ks2) : Int × Int → Int × Int) = id := by funext e; rfl
 rw [e, List.map_id] at this
 exact this
theorem isM_mem {adj : List (Int × List Int)} {rows : List (Int × Int)} {e : Int × Int} (h : e ∈ rows) (b : e.1 = e.2 ∨ e.2 ∉ adjOf adj e.1) : isM adj rows = false := by
 unfold isM
 rw [decide_eq_false_iff_not]
 intro z
 have := z.1 e h
 rcases b with b | b
 · exact this.1 b
 · exact b this.2
theorem isM_dup {adj : List (Int × List Int)} {rows : List (Int × Int)} {i : Nat} {e : Int × Int} (h : rows[i]? = some e) (b : e.1 ∈ nodesOf (rows.take i) ∨ e.2 ∈ nodesOf (rows.take i)) : isM adj rows = false := by
 unfold isM
 rw [decide_eq_false_iff_not]
 intro z
 have e1 : rows = rows.take i ++ (e :: rows.drop (i + 1)) := by
   refine el_xa (List.getElem?_eq_some_iff.mp h) fun hi q => ?_
   rw [← q, ← List.drop_eq_getElem_cons hi, List.take_append_drop]
 have nd := z.2
 rw [e1] at nd
 unfold nodesOf at nd b
 rw [List.flatMap_append, List.nodup_append] at nd
 rcases b with b | b
 · exact nd.2.2 _ b _ (by simp) rfl
 · exact nd.2.2 _ b _ (by simp) rfl
theorem isM_true {adj : List (Int × List Int)} {rows : List (Int × Int)} (h1 : ∀ e ∈ rows, e.1 ≠ e.2 ∧ e.2 ∈ adjOf adj e.1) (h2 : (nodesOf rows).Nodup) : isM adj rows = true := decide_eq_true ⟨h1, h2⟩
theorem nodup_snoc2 {M : List (Int × Int)} {u v : Int} (hn : (nodesOf M).Nodup) (h1 : u ∉ nodesOf M) (h2 : v ∉ nodesOf M) (h3 : u ≠ v) : (nodesOf (M ++ [(u, v)])).Nodup := by
 rw [nodesOf_snoc, List.nodup_append]
 refine ⟨hn, by simp [h3], fun a ha b hb q => ?_⟩
 subst q
 simp only [List.mem_cons, List.not_mem_nil, or_false] at hb
 rcases hb with rfl | rfl
 · exact h1 ha
 · exact h2 ha
theorem len2 {ks : List Int} (h : ks.length = 2) : ∃ u v, ks = [u, v] := by
 match ks, h with
 | [u, v], _ => exact ⟨u, v, rfl⟩
section
variable {w : World} {A A' : Around} {outs : List Env} {base : Heap} {n m : Nat} {s s' : Shared} {E : Value → Shared → Prop} {g h h0 : Heap} {L a e : Addr} {l : Loc} {N : List (Addr × Obj)} {name : Str} {scope : Scope} {cd : Value} {R : Result → Shared → Prop}
theorem setK_bad {ns : List Int} {Cs C' : List (List Int × Addr)} {out : Option (List (Int × Int))} {c : List Int × Addr} (K : SetK ns Cs out) (hp : C'.Perm Cs) (hc : c ∈ C') (b : c.1.length ≠ 2 ∨ ∃ u v, c.1 = [u, v] ∧ (u ∉ ns ∨ v ∉ ns)) : out = none := by
 rcases K with ⟨rows, e, hin, p, _⟩ | ⟨e, _⟩
 · exfalso
   have hm : c.1 ∈ rows.map ks2 := p.mem_iff.mp (List.mem_map_of_mem (hp.mem_iff.mp hc))
   refine el_xaa (List.mem_map.mp hm) fun r hr q => ?_
   have := hin r hr
   rcases b with b | ⟨u, v, e, b⟩
   · rw [← q] at b; exact b rfl
   · rw [e] at q
     simp only [ks2, List.cons.injEq, and_true] at q
     rw [q.1, q.2] at this
     rcases b with b | b
     · exact b this.1
     · exact b this.2
 · exact e
theorem setK_good {ns : List Int} {Cs C' : List (List Int × Addr)} {out : Option (List (Int × Int))} {c : List Int × Addr} {u v : Int} (K : SetK ns Cs out) (hp : C'.Perm Cs) (hc : c ∈ C') (e : c.1 = [u, v]) (hu : u ∈ ns) (hv : v ∈ ns) : ∃ rows, out = some rows ∧ (prs C').Perm rows ∧ C'.length ≤ 20 := by
 rcases K with ⟨rows, e, hin, p, hl⟩ | ⟨_, ks, T, q, b⟩
 · have q := prs_perm ((hp.map _).trans p)
   exact ⟨rows, e, q, by have := q.length_eq; unfold prs at this; rw [List.length_map] at this; lia⟩
 · exfalso
   subst q
   have : c = (ks, T) := List.mem_singleton.mp (hp.mem_iff.mp hc)
   subst this
   dsimp only at e
   subst e
   rcases b with b | ⟨u', v', e', b⟩
   · exact b rfl
   · simp only [List.cons.injEq, and_true] at e'
     rw [← e'.1, ← e'.2] at b
     exact b.elim (fun z => z hu) fun z => z hv
theorem dictK_hk {ns : List Int} {ps : List (Int × Int)} {out : Option (List (Int × Int))} (K : DictK ns ps out) : (∀ p ∈ ps, p.1 ≠ p.2) ∨ ∃ k, ps = [(k, k)] := by
 rcases K with ⟨k, e, _⟩ | ⟨h, _⟩
 · exact .inr ⟨k, e⟩
 · exact .inl h
theorem dictK_loop {ns : List Int} {ps : List (Int × Int)} {out : Option (List (Int × Int))} (K : DictK ns ps out) (h : ∃ k, ps = [(k, k)]) : out = none := by
 rcases K with ⟨k, e, q⟩ | ⟨h', _⟩
 · exact q
 · refine el_xa h fun k e => ?_
   try clear h
   exact absurd rfl (h' (k, k) (by rw [e]; exact .head _))
theorem dictK_set {ns : List Int} {ps : List (Int × Int)} {out : Option (List (Int × Int))} {Cs : List (List Int × Addr)} (K : DictK ns ps out) (h : ∀ p ∈ ps, p.1 ≠ p.2) (h4 : (mds ps).length ≤ 4) (p : (Cs.map (·.1)).Perm ((mds ps).map ks2)) : SetK ns Cs out := by
 rcases K with ⟨k, e, q⟩ | ⟨_, ⟨e, hi⟩ | ⟨e, u, v, q, b⟩⟩
 · exact absurd rfl (h (k, k) (by rw [e]; exact .head _))
 · exact .inl ⟨_, e, hi, p, by lia⟩
 · rw [q] at p
   have := List.perm_singleton.mp p
   refine el_xa (List.length_eq_one_iff.mp (by have := congrArg List.length this; simpa using this) : ∃ c, Cs = [c]) fun c hsb1 => ?_
   subst hsb1
   simp only [List.map_cons, List.map_nil, List.cons.injEq, and_true] at this
   exact .inr ⟨e, c.1, c.2, rfl, .inr ⟨u, v, this, b⟩⟩
theorem SrcG.setC {a : Addr} {o : Obj} {C : List (List Int × Addr)} (P : PS w g o C) (ho : g.get? a = some o) :
   ∃ C' : List (List Int × Addr), C'.Perm C ∧ ∀ (A : Around) (target : Expr), A.handled = none → Src w A target (.ref a) g C'.length (fun i v _ => ∃ c, C'[i]? = some c ∧ v = .ref c.2) Plain := by
 refine el_xaa (SrcG.set P ho) fun V hV X => ?_
 refine el_xaa (perm_map_inv hV.symm C rfl) fun C' hp e => ?_
 refine ⟨C', hp, fun A target hh => ?_⟩
 have hx := X A target hh
 have e2 : (fun (i : Nat) (v : Value) (_ : Heap) => V[i]? = some v) = fun i v _ => ∃ c, C'[i]? = some c ∧ v = .ref c.2 := by
   funext i v _
   rw [← e, List.getElem?_map, Option.map_eq_some_iff]
   exact propext ⟨fun ⟨c, h1, h2⟩ => ⟨c, h1, h2.symm⟩, fun ⟨c, h1, h2⟩ => ⟨c, h1, h2.symm⟩⟩
 have e3 : V.length = C'.length := by rw [← e, List.length_map]
 rw [e2, e3] at hx
 exact hx
theorem raise1 {env : Env} {outs₂ : List Env} {n₂ : Nat} {ks : List Int} {T : Addr} {x y ms : Str} {np cpos pos p1 p2 p3 p4 : Pos} {kk : Nat} {Q : Flow → Shared → Prop} (S : St g L s.heap l N) (C : Cx w A' outs base g n) (CA : Cx w A outs₂ base s.heap n₂) (hx : IsK w s.heap ks T) (hd : ks ∈ dom) (hv : (l.lookup y).join = some (.ref T))
   (hE : ∀ h9 tk e h' vs, St g L h9 l N → Heap.MadeExcOf h9 h' e (.ref 44) vs → E (.ref e) { s with heap := h', toks := tk }) (hm : ms.length ≤ 200 := by decide)
   (ex : nsIn (KF w) mainGlobals x = some (some (.ref 44)) := by rfl) (hL : env.locals = L := by rfl) (hly : env.kindOf y = some .local := by rfl) (hdy : (y == ("__debug__" : Str)) = false := by decide)
   (hk : env.scope.kind = .function := by rfl) (hkx : env.kindOf x = some .globalImplicit := by rfl) (hg : env.globals = mainGlobals := by rfl) (hdx : (x == ("__debug__" : Str)) = false := by decide) :
   wpAny (model prg w) A (exec (.Raise (some (.Call (.Name x np) [.JoinedStr [.Constant (.str ms) kk p1, .FormattedValue (.Name y p2) (-1) none p3] p4] [] cpos)) none pos) env) Q E s := by
 refine raiseF S C CA.hand ?_ ex (exc44 w) rfl hk hkx hg hdx
 refine sp_cons ?_
 refine JoinedStr_many ?_
 refine joinParts_cons (Calls.Constant_str ?_)
 have e0 : Str.empty.length = 0 := rfl
 have hz : (Str.empty ++ ms).length ≤ 200 := by rw [strLen_append, e0]; lia
 refine ⟨Nat.le_trans hz (by rw [sizeLine_eq]; lia), ?_⟩
 refine joinParts_cons (FormattedValue_plain (nmL (s := { s with toks := s.toks + 1 }) S hv ?_ hL hk hly hdy))
 refine fmtK (s := { s with toks := s.toks + 1 }) CA.guards CA.line10 hx hd fun h9 yy uu tk9 hy hk9 => ?_
 have hz2 : (Str.empty ++ ms ++ yy).length ≤ sizeLine := by rw [strLen_append, sizeLine_eq]; lia
 refine ⟨hz2, joinParts_nil (sp_nil ?_) hz2⟩
 have S' := S.grow hk9
 exact ⟨by rw [sizeLine_eq]; simp, fun b o e => S'.keep b o (C.below.stays b o e), fun h' e hx => hE h9 _ e h' _ S' hx⟩
theorem raise2 {env : Env} {outs₂ : List Env} {n₂ : Nat} {ks : List Int} {T : Addr} {x y ms ms2 : Str} {np cpos pos p1 p2 p3 p4 p5 : Pos} {kk kk2 : Nat} {Q : Flow → Shared → Prop} (S : St g L s.heap l N) (C : Cx w A' outs base g n) (CA : Cx w A outs₂ base s.heap n₂) (hx : IsK w s.heap ks T) (hd : ks ∈ dom) (hv : (l.lookup y).join = some (.ref T))
   (hE : ∀ h9 tk e h' vs, St g L h9 l N → Heap.MadeExcOf h9 h' e (.ref 44) vs → E (.ref e) { s with heap := h', toks := tk }) (hm : ms.length ≤ 200 := by decide) (hm2 : ms2.length ≤ 200 := by decide)
   (ex : nsIn (KF w) mainGlobals x = some (some (.ref 44)) := by rfl) (hL : env.locals = L := by rfl) (hly : env.kindOf y = some .local := by rfl) (hdy : (y == ("__debug__" : Str)) = false := by decide)
   (hk : env.scope.kind = .function := by rfl) (hkx : env.kindOf x = some .globalImplicit := by rfl) (hg : env.globals = mainGlobals := by rfl) (hdx : (x == ("__debug__" : Str)) = false := by decide) :
   wpAny (model prg w) A (exec (.Raise (some (.Call (.Name x np) [.JoinedStr [.Constant (.str ms) kk p1, .FormattedValue (.Name y p2) (-1) none p3, .Constant (.str ms2) kk2 p5] p4] [] cpos)) none pos) env) Q E s := by
 refine raiseF S C CA.hand ?_ ex (exc44 w) rfl hk hkx hg hdx
 refine sp_cons ?_
 refine JoinedStr_many ?_
 refine joinParts_cons (Calls.Constant_str ?_)
 have e0 : Str.empty.length = 0 := rfl
 have hz : (Str.empty ++ ms).length ≤ 200 := by rw [strLen_append, e0]; lia
 refine ⟨Nat.le_trans hz (by rw [sizeLine_eq]; lia), ?_⟩
 refine joinParts_cons (FormattedValue_plain (nmL (s := { s with toks := s.toks + 1 }) S hv ?_ hL hk hly hdy))
 refine fmtK (s := { s with toks := s.toks + 1 }) CA.guards CA.line10 hx hd fun h9 yy uu tk9 hy hk9 => ?_
 have hz2 : (Str.empty ++ ms ++ yy).length ≤ 300 := by rw [strLen_append]; lia
 refine ⟨Nat.le_trans hz2 (by rw [sizeLine_eq]; lia), joinParts_cons (Calls.Constant_str ?_)⟩
 have hz3 : (Str.empty ++ ms ++ yy ++ ms2).length ≤ sizeLine := by rw [strLen_append, sizeLine_eq]; lia
 refine ⟨hz3, joinParts_nil (sp_nil ?_) hz3⟩
 have S' := S.grow hk9
 exact ⟨by rw [sizeLine_eq]; simp, fun b o e => S'.keep b o (C.below.stays b o e), fun h' e hx => hE h9 _ e h' _ S' hx⟩
theorem setK_end {ns : List Int} {Cs C' : List (List Int × Addr)} {out : Option (List (Int × Int))} (K : SetK ns Cs out) (hp : C'.Perm Cs) (h : out = none → C'.length = 0) : ∃ rows, out = some rows ∧ (prs C').Perm rows := by
 rcases K with ⟨rows, e, hin, p, hl⟩ | ⟨e, ks, T, q, _⟩
 · exact ⟨rows, e, prs_perm ((hp.map _).trans p)⟩
 · have h1 := h e
   have h2 := hp.length_eq
   rw [q] at h2
   simp at h2
   lia
theorem prs_len (C : List (List Int × Addr)) : (prs C).length = C.length := by unfold prs; rw [List.length_map]
end
section
variable {w : World} {A A' : Around} {outs : List Env} {base : Heap} {n m : Nat} {s s' : Shared} {E : Value → Shared → Prop} {g h h0 : Heap} {L a e : Addr} {l : Loc} {N : List (Addr × Obj)} {name : Str} {scope : Scope} {cd : Value} {R : Result → Shared → Prop}
noncomputable def MidS (w : World) (s : Shared) (g : Heap) (L : Addr) (lof : Value → Loc) (ns : List Int) (out : Option (List (Int × Int))) (s₁ : Shared) : Prop :=
 ∃ a o Cs Gd h tk, s₁ = { s with heap := h, toks := tk } ∧ St Gd L h (lof (.ref a)) [] ∧ (∀ b o, g.get? b = some o → Gd.get? b = some o) ∧ Gd.get? a = some o ∧ PS w Gd o Cs ∧ SetK ns Cs out
theorem ism_code {x : Addr} {mv : Value} {ns : List Int} {adj : List (Int × List Int)} {out : Option (List (Int × Int))} (C : Cx w A outs base s.heap (n + 4)) (G : GraphG w s.heap x ns adj) (hM : MArg w s.heap mv ns out)
   (hr1 : ∀ rows, out = some rows → ∀ h' tk', Ext [] s.heap h' → R (.ok (.ret (.bool (isM adj rows)))) { s with heap := h', toks := tk' })
   (hr2 : out = none → ∀ e h' tk', Rz s.heap outs e h' → R (.error (.ref e)) { s with heap := h', toks := tk' }) :
   codeAny (model prg w) A (.call (.ref 67) ⟨[.ref x, mv], []⟩) R s := by
 refine enterE (binds := [(Str.ofString "G", .ref x), (Str.ofString "matching", mv)]) C rfl rfl (BindsTo.of_eq rfl) (locs rfl) (fun h₁ L tk Qf hQ S CG => ?_)
 dsimp only [List.map, List.reverse, List.reverseAux, locOf] at S CG
 replace hM : MArg w (hideAll s.heap []) mv ns out := hM.keep hide_nil
 have Gg : GraphG w (hideAll s.heap []) x ns adj := G.ext hide_nil
 refine el_xa (⟨_, rfl⟩ : ∃ g, g = hideAll s.heap []) fun g hg => ?_
 rw [← hg] at S CG hM Gg
 have hsg : ∀ b o, s.heap.get? b = some o → g.get? b = some o := fun b o e => by rw [hg]; exact hide_nil b o e
 refine wpAny_execs_cons (wpAny_mono (Q := fun f s₁ => f = .next ∧ MidS w s g L (fun v => [("matching", some v), ("G", some (.ref x))]) ns out s₁) ?_ ?_ (fun _ _ z => z))
 case refine_1 =>
   walk_at "mm"
   rcases hM with ⟨a, o, Cs, rfl, ho, P, K⟩ | ⟨d, kvs, ps, rfl, lo, hd, iv, dm, h4, K⟩
   · refine IsiPair.set_dict (S.keep _ _ ho) (by obtain ⟨ep, t, rfl, _⟩ := P.is; rfl) ?_
     walk_at "mm"
     exact ⟨rfl, a, o, Cs, g, _, _, rfl, S, fun _ _ e => e, ho, P, K⟩
   · refine el_xaa (Heap.dictOf_iff.mp hd) fun od eod hod => ?_
     refine IsiPair.dict_dict (S.keep _ _ eod) (by obtain ⟨es, ep, hx, _⟩ := hod; exact hx.1) ?_
     walk_at "mm"
     refine wpAny_call (mds_code (CG.push S) (hd.keep S.keep) lo iv dm h4 (dictK_hk K) ?_ ?_)
     · intro hnl h3 tk3 T o3 Cs hx T0 hT P hp hTP
       obtain ⟨g1, S, k1, hT1, kT⟩ := (S.add hx.keep hT T0).freezeT (by simp)
       walk_at "mm"
       replace S := St.relist (l' := [("matching", some (.ref T)), ("G", some (.ref x))]) S (by rfl)
       exact ⟨rfl, T, o3, Cs, g1, _, _, rfl, S, k1, hT1, P.re (TP.isK fun c hc => by obtain ⟨u, v, t1, t2, e1, e2⟩ := hTP c hc; exact ⟨u, v, t1, t2, e1, kT _ _ e2⟩), dictK_set K hnl h4 hp⟩
     · intro hb e h3 tk3 hz
       exact rz_pass CG S hz hsg fun h' hz' => hr2 (dictK_loop K hb) e h' tk3 hz'
 intro f s₁
 refine elc_axxxxxxaaaaaa fun a o Cs Gd h1 tk1 hsb0 hsb7 S kd ho P K => ?_
 subst hsb0
 subst hsb7
 dsimp only at S ⊢
 have CG1 := CG.keeps kd
 have hsd : ∀ b o, s.heap.get? b = some o → Gd.get? b = some o := fun b o e => kd b o (hsg b o e)
 walk_at "mm"
 refine set0F S fun Nd hh2 S Nd0 _ => ?_
 walk_at "mm"
 refine el_xaa (SrcG.setC P ho) fun C' hp X => ?_
 refine el_xa (⟨_, rfl⟩ : ∃ rows', rows' = prs C') fun rows' hrows => ?_
 replace S := St.relist (l' := [("v", none), ("u", none), ("edge", none), ("nodes", some (.ref Nd)), ("matching", some (.ref a)), ("G", some (.ref x))]) S (by rfl)
 refine for_src (E' := MadeE s g L (out = none)) (fun i l N' G' => ∃ x1 x2 x3 o2 F nn, l = ([("v", x1), ("u", x2), ("edge", x3), ("nodes", some (.ref Nd)), ("matching", some (.ref a)), ("G", some (.ref x))] : Loc) ∧
   N' = [(Nd, o2)] ∧ IS w o2 F nn ∧ (F = fun k => decide (k ∈ nodesOf (rows'.take i))) ∧ (∀ e ∈ rows'.take i, e.1 ≠ e.2 ∧ e.2 ∈ adjOf adj e.1) ∧ (nodesOf (rows'.take i)).Nodup ∧ nn = 2 * i ∧ (out = none → i = 0))
   (X _ _ CG1.hand) S (in_x6 _ _ _ _ _ _ ⟨rfl, rfl, is_set0, rfl, (fun _ m => nomatch m), .nil, rfl, fun _ => rfl⟩) ?_ ?_ (madeE_out CG hsg hr2)
 case refine_1 =>
   intro Jq Ji i v l N' G' h6 tk6 gb Bq hlt hP hJ kG k3 S HB
   refine el_xxxxxxaaaaaaaa hJ fun x1 x2 x3 o2 F nn hsb6 hsb7 hIS hF hok hnd hnn hz => ?_
   try clear hJ
   replace S := St.at2 hsb6 hsb7 S
   refine el_xaa hP fun c hc hsb2 => ?_
   try clear hP
   subst hsb2
   obtain ⟨ks, T⟩ := c
   have kb : ∀ b o, Gd.get? b = some o → gb.get? b = some o := fun b o e => k3 b o (kG b o e)
   have CG2 := CG1.keeps kb
   have hcm : (ks, T) ∈ C' := List.mem_iff_getElem?.mpr ⟨i, hc⟩
   have hkT : IsK w gb ks T := (P.keys _ (hp.mem_iff.mp hcm)).keeps kb
   have hdm : ks ∈ dom := P.dm _ (hp.mem_iff.mp hcm)
   have Gb := Gg.ext fun b o e => kb b o (kd b o e)
   refine el_xaa (hkT.tup) fun items hti hsz => ?_
   have weak : ∀ {h l N}, St gb L h l N → St g L h l N := fun S => S.weak fun b o e => kb b o (kd b o e)
   walk_at "mm"
   have hti' : Heap.IsTuple h1 T items := hti.at fun o e => S.keep _ _ e
   refine lenT hti' (by rw [hsz]; have := (List.all_eq_true.mp dom_len ks hdm); simp at this; lia) fun uu tk7 => ?_
   walk_at "mm"
   refine ne_int ?_
   walk_at "mm"
   by_cases hl2 : ks.length = 2
   case neg =>
     refine ite_yes (by simp; lia) ?_
     have hbad := setK_bad K hp hcm (.inl hl2)
     walk_at "mm"
     exact raise1 S CG2 (CG2.push S) (hkT.keeps S.keep) hdm (by rfl) fun h9 tk9 e h' vs S hx => ⟨e, h9, vs, _, _, tk9, rfl, rfl, weak S, hx, hbad⟩
   refine ite_no (by simp; lia) ?_
   refine el_xxa (len2 hl2) fun u v hsb2 => ?_
   subst hsb2
   refine el_xxa (hkT.tup2) fun t1 t2 ht2 => ?_
   have hri : rows'[i]? = some (u, v) := by rw [hrows, prs, List.getElem?_map, hc]; rfl
   walk_at "mm"
   refine asg2 CG2.hand S (ht2.at fun o e => S.keep _ _ e) fun h7 tk7 S => ?_
   walk_at "mm"
   refine notInG (CG2.push S) (Gb.ext S.keep) fun h8 tk8 hx8 => ?_
   replace S := S.grow hx8.keep
   walk_at "mm"
   by_cases hu : u ∈ ns
   case neg =>
     refine ite_yes (by simp [hu]) ?_
     walk_at "mm"
     exact raise2 S CG2 (CG2.push S) (hkT.keeps S.keep) hdm (by rfl) fun h9 tk9 e h' vs S hx => ⟨e, h9, vs, _, _, tk9, rfl, rfl, weak S, hx, setK_bad K hp hcm (.inr ⟨u, v, rfl, .inl hu⟩)⟩
   refine ite_no (by simp [hu]) ?_
   walk_at "mm"
   refine notInG (CG2.push S) (Gb.ext S.keep) fun h9 tk9 hx9 => ?_
   replace S := S.grow hx9.keep
   walk_at "mm"
   by_cases hv : v ∈ ns
   case neg =>
     refine ite_yes (by simp [hv]) ?_
     walk_at "mm"
     exact raise2 S CG2 (CG2.push S) (hkT.keeps S.keep) hdm (by rfl) fun h9 tk9 e h' vs S hx => ⟨e, h9, vs, _, _, tk9, rfl, rfl, weak S, hx, setK_bad K hp hcm (.inr ⟨u, v, rfl, .inr hv⟩)⟩
   refine ite_no (by simp [hv]) ?_
   refine el_xaaa (setK_good K hp hcm rfl hu hv) fun rows hout hpr hl20 => ?_
   have hret : isM adj rows' = false → ∀ {hh tk l₂ N₂}, St gb L hh l₂ N₂ → Qf (.ret (.bool false)) { s with heap := hh, toks := tk } := fun q hh tk l₂ N₂ S => hQ _ _ (by
     have := hr1 rows hout hh tk (Ext.of_keep fun b o e => S.keep b o (kb b o (hsd b o e)))
     rw [← isM_perm (hrows ▸ hpr), q] at this
     exact this)
   walk_at "mm"
   refine PyProof.Rows.eq_int ?_
   walk_at "mm"
   by_cases huv : u = v
   · refine ite_yes (by simp [huv]) ?_
     walk_at "mm"
     exact HB _ _ (BodyEnd.rt (hret (isM_mem (List.mem_iff_getElem?.mpr ⟨i, hri⟩) (.inl huv)) S))
   refine ite_no (by simp [huv]) ?_
   walk_at "mm"
   refine el_xxxxxxxa (Gb.at) fun dx gd nd ad od nv nb R' => ?_
   refine el_xxxxxxxa (R'.od) fun hq1 tq1 hq2 tq2 hq3 tq3 mq hsb7 => ?_
   subst hsb7
   refine methA S CG2 (R'.ext S.keep).at_.inst rfl ?_
   walk_at "mm"
   refine has_edge_spec (CG2.push S) (Gb.ext S.keep) fun h10 tk10 hx10 => ?_
   replace S := S.grow hx10.keep
   walk_at "mm"
   by_cases hed : v ∈ adjOf adj u
   case neg =>
     refine ite_yes (by simp [hed]) ?_
     walk_at "mm"
     exact HB _ _ (BodyEnd.rt (hret (isM_mem (List.mem_iff_getElem?.mpr ⟨i, hri⟩) (.inr hed)) S))
   refine ite_no (by simp [hed]) ?_
   walk_at "mm"
   refine inI S (.head _) hIS ?_
   rw [hF]
   walk_at "mm"
   by_cases hun : u ∈ nodesOf (rows'.take i)
   · refine ite_yes (by simp [hun]) ?_
     walk_at "mm"
     exact HB _ _ (BodyEnd.rt (hret (isM_dup hri (.inl hun)) S))
   refine ite_no (by simp [hun]) ?_
   walk_at "mm"
   refine inI S (.head _) hIS ?_
   rw [hF]
   walk_at "mm"
   by_cases hvn : v ∈ nodesOf (rows'.take i)
   · refine ite_yes (by simp [hvn]) ?_
     walk_at "mm"
     exact HB _ _ (BodyEnd.rt (hret (isM_dup hri (.inr hvn)) S))
   refine ite_no (by simp [hvn]) ?_
   walk_at "mm"
   refine updM S (.head _) hIS ?_
   walk_at "mm"
   have hi20 : i < 20 := by lia
   refine updI CG2.hand S hIS (.head _) ?_ (ht2.at fun o e => S.keep _ _ e) (fun o' => [(Nd, o')]) (fun o' => .head) fun o2' h11 tk11 S hIS' x11 => ?_
   · have : 50 < scanBound := by decide
     lia
   walk_at "mm"
   replace S := St.relist (l' := [("v", some (.int v t2)), ("u", some (.int u t1)), ("edge", some (.ref T)), ("nodes", some (.ref Nd)), ("matching", some (.ref a)), ("G", some (.ref x))]) S (by rfl)
   refine HB _ _ (BodyEnd.nx [] S fun G2 k4 _ => Ji _ _ _ _ (in_x6 _ _ _ _ _ _ ⟨rfl, rfl, hIS', ?_, fun e he => ?_, ?_, ?_, fun q => ?_⟩))
   · rw [take_next hri]; exact nodes_snoc hF
   · rw [take_next hri] at he
     rcases List.mem_append.mp he with he | he
     · exact hok e he
     · rw [List.mem_singleton.mp he]; exact ⟨huv, hed⟩
   · rw [take_next hri]; exact nodup_snoc2 hnd hun hvn huv
   · rw [hF, hnn]; simp [addS, hun, hvn, Ne.symm huv]; lia
   · rw [hout] at q; cases q
 intro l N' G' h6 tk6 hJ kG S
 refine el_xxxxxxaaaaaaaa hJ fun x1 x2 x3 o2 F nn hsb6 hsb7 hIS hF hok hnd hnn hz => ?_
 try clear hJ
 replace S := St.at2 hsb6 hsb7 S
 walk_at "mm"
 refine el_xaa (setK_end K hp hz) fun rows hout hpr => ?_
 rw [List.take_of_length_le (by rw [hrows, prs_len]; exact Nat.le_refl _)] at hok hnd
 have := hr1 rows hout _ tk6 (Ext.of_keep fun b o e => S.keep b o (kG b o (hsd b o e)))
 rw [← isM_perm (hrows ▸ hpr), isM_true hok hnd] at this
 exact hQ _ _ this
end
noncomputable def isP (adj : List (Int × List Int)) (ns : List Int) (rows : List (Int × Int)) : Bool := isM adj rows && decide (2 * rows.length = ns.length)
section
variable {w : World} {A A' : Around} {outs : List Env} {base : Heap} {n m : Nat} {s s' : Shared} {E : Value → Shared → Prop} {g h h0 : Heap} {L a e : Addr} {l : Loc} {N : List (Addr × Obj)} {name : Str} {scope : Scope} {cd : Value} {R : Result → Shared → Prop}
theorem lenI {f : Int → Bool} {nn : Nat} {o : Obj} {Q : Value → Shared → Prop} (S : St g L s.heap l N) (hm : (a, o) ∈ N) (I : IS w o f nn) (h : ∀ u tk, Q (.int nn u) { s with toks := tk }) : wpAny (model prg w) A (call (.builtin "len") [.ref a]) Q E s := by
 refine el_xxxaaaaaaa I fun es ep t hx hd _ _ hb hf hn => ?_
 try clear I
 subst hn
 exact call_len_set (S.get hm) hx hd hf (by have : scanBound ≤ 2 ^ 30 := by decide
                                            lia) (h _ _)
theorem isp_code {x : Addr} {mv : Value} {ns : List Int} {adj : List (Int × List Int)} {out : Option (List (Int × Int))} (C : Cx w A outs base s.heap (n + 4)) (G : GraphG w s.heap x ns adj) (hns : ns.length ≤ 100) (hM : MArg w s.heap mv ns out)
   (hr1 : ∀ rows, out = some rows → ∀ h' tk', Ext [] s.heap h' → R (.ok (.ret (.bool (isP adj ns rows)))) { s with heap := h', toks := tk' })
   (hr2 : out = none → ∀ e h' tk', Rz s.heap outs e h' → R (.error (.ref e)) { s with heap := h', toks := tk' }) :
   codeAny (model prg w) A (.call (.ref 81) ⟨[.ref x, mv], []⟩) R s := by
 refine enterE (binds := [(Str.ofString "G", .ref x), (Str.ofString "matching", mv)]) C rfl rfl (BindsTo.of_eq rfl) (locs rfl) (fun h₁ L tk Qf hQ S CG => ?_)
 dsimp only [List.map, List.reverse, List.reverseAux, locOf] at S CG
 replace hM : MArg w (hideAll s.heap []) mv ns out := hM.keep hide_nil
 have Gg : GraphG w (hideAll s.heap []) x ns adj := G.ext hide_nil
 refine el_xa (⟨_, rfl⟩ : ∃ g, g = hideAll s.heap []) fun g hg => ?_
 rw [← hg] at S CG hM Gg
 have hsg : ∀ b o, s.heap.get? b = some o → g.get? b = some o := fun b o e => by rw [hg]; exact hide_nil b o e
 refine wpAny_execs_cons (wpAny_mono (Q := fun f s₁ => f = .next ∧ MidS w s g L (fun v => [("matching", some v), ("G", some (.ref x))]) ns out s₁) ?_ ?_ (fun _ _ z => z))
 case refine_1 =>
   walk_at "mm"
   rcases hM with ⟨a, o, Cs, rfl, ho, P, K⟩ | ⟨d, kvs, ps, rfl, lo, hd, iv, dm, h4, K⟩
   · refine IsiPair.set_dict (S.keep _ _ ho) (by obtain ⟨ep, t, rfl, _⟩ := P.is; rfl) ?_
     walk_at "mm"
     exact ⟨rfl, a, o, Cs, g, _, _, rfl, S, fun _ _ e => e, ho, P, K⟩
   · refine el_xaa (Heap.dictOf_iff.mp hd) fun od eod hod => ?_
     refine IsiPair.dict_dict (S.keep _ _ eod) (by obtain ⟨es, ep, hx, _⟩ := hod; exact hx.1) ?_
     walk_at "mm"
     refine wpAny_call (mds_code (CG.push S) (hd.keep S.keep) lo iv dm h4 (dictK_hk K) ?_ ?_)
     · intro hnl h3 tk3 T o3 Cs hx T0 hT P hp hTP
       obtain ⟨g1, S, k1, hT1, kT⟩ := (S.add hx.keep hT T0).freezeT (by simp)
       walk_at "mm"
       replace S := St.relist (l' := [("matching", some (.ref T)), ("G", some (.ref x))]) S (by rfl)
       exact ⟨rfl, T, o3, Cs, g1, _, _, rfl, S, k1, hT1, P.re (TP.isK fun c hc => by obtain ⟨u, v, t1, t2, e1, e2⟩ := hTP c hc; exact ⟨u, v, t1, t2, e1, kT _ _ e2⟩), dictK_set K hnl h4 hp⟩
     · intro hb e h3 tk3 hz
       exact rz_pass CG S hz hsg fun h' hz' => hr2 (dictK_loop K hb) e h' tk3 hz'
 intro f s₁
 refine elc_axxxxxxaaaaaa fun a o Cs Gd h1 tk1 hsb0 hsb7 S kd ho P K => ?_
 subst hsb0
 subst hsb7
 dsimp only at S ⊢
 have CG1 := CG.keeps kd
 have hsd : ∀ b o, s.heap.get? b = some o → Gd.get? b = some o := fun b o e => kd b o (hsg b o e)
 walk_at "mm"
 refine set0F S fun Nd hh2 S Nd0 _ => ?_
 walk_at "mm"
 refine el_xaa (SrcG.setC P ho) fun C' hp X => ?_
 refine el_xa (⟨_, rfl⟩ : ∃ rows', rows' = prs C') fun rows' hrows => ?_
 replace S := St.relist (l' := [("v", none), ("u", none), ("edge", none), ("nodes", some (.ref Nd)), ("matching", some (.ref a)), ("G", some (.ref x))]) S (by rfl)
 refine for_src (E' := MadeE s g L (out = none)) (fun i l N' G' => ∃ x1 x2 x3 o2 F nn, l = ([("v", x1), ("u", x2), ("edge", x3), ("nodes", some (.ref Nd)), ("matching", some (.ref a)), ("G", some (.ref x))] : Loc) ∧
   N' = [(Nd, o2)] ∧ IS w o2 F nn ∧ (F = fun k => decide (k ∈ nodesOf (rows'.take i))) ∧ (∀ e ∈ rows'.take i, e.1 ≠ e.2 ∧ e.2 ∈ adjOf adj e.1) ∧ (nodesOf (rows'.take i)).Nodup ∧ nn = 2 * i ∧ (out = none → i = 0))
   (X _ _ CG1.hand) S (in_x6 _ _ _ _ _ _ ⟨rfl, rfl, is_set0, rfl, (fun _ m => nomatch m), .nil, rfl, fun _ => rfl⟩) ?_ ?_ (madeE_out CG hsg hr2)
 case refine_1 =>
   intro Jq Ji i v l N' G' h6 tk6 gb Bq hlt hP hJ kG k3 S HB
   refine el_xxxxxxaaaaaaaa hJ fun x1 x2 x3 o2 F nn hsb6 hsb7 hIS hF hok hnd hnn hz => ?_
   try clear hJ
   replace S := St.at2 hsb6 hsb7 S
   refine el_xaa hP fun c hc hsb2 => ?_
   try clear hP
   subst hsb2
   obtain ⟨ks, T⟩ := c
   have kb : ∀ b o, Gd.get? b = some o → gb.get? b = some o := fun b o e => k3 b o (kG b o e)
   have CG2 := CG1.keeps kb
   have hcm : (ks, T) ∈ C' := List.mem_iff_getElem?.mpr ⟨i, hc⟩
   have hkT : IsK w gb ks T := (P.keys _ (hp.mem_iff.mp hcm)).keeps kb
   have hdm : ks ∈ dom := P.dm _ (hp.mem_iff.mp hcm)
   have Gb := Gg.ext fun b o e => kb b o (kd b o e)
   refine el_xaa (hkT.tup) fun items hti hsz => ?_
   have weak : ∀ {h l N}, St gb L h l N → St g L h l N := fun S => S.weak fun b o e => kb b o (kd b o e)
   walk_at "mm"
   have hti' : Heap.IsTuple h1 T items := hti.at fun o e => S.keep _ _ e
   refine lenT hti' (by rw [hsz]; have := (List.all_eq_true.mp dom_len ks hdm); simp at this; lia) fun uu tk7 => ?_
   walk_at "mm"
   refine ne_int ?_
   walk_at "mm"
   by_cases hl2 : ks.length = 2
   case neg =>
     refine ite_yes (by simp; lia) ?_
     have hbad := setK_bad K hp hcm (.inl hl2)
     walk_at "mm"
     exact raise1 S CG2 (CG2.push S) (hkT.keeps S.keep) hdm (by rfl) fun h9 tk9 e h' vs S hx => ⟨e, h9, vs, _, _, tk9, rfl, rfl, weak S, hx, hbad⟩
   refine ite_no (by simp; lia) ?_
   refine el_xxa (len2 hl2) fun u v hsb2 => ?_
   subst hsb2
   refine el_xxa (hkT.tup2) fun t1 t2 ht2 => ?_
   have hri : rows'[i]? = some (u, v) := by rw [hrows, prs, List.getElem?_map, hc]; rfl
   walk_at "mm"
   refine asg2 CG2.hand S (ht2.at fun o e => S.keep _ _ e) fun h7 tk7 S => ?_
   walk_at "mm"
   refine notInG (CG2.push S) (Gb.ext S.keep) fun h8 tk8 hx8 => ?_
   replace S := S.grow hx8.keep
   walk_at "mm"
   by_cases hu : u ∈ ns
   case neg =>
     refine ite_yes (by simp [hu]) ?_
     walk_at "mm"
     exact raise2 S CG2 (CG2.push S) (hkT.keeps S.keep) hdm (by rfl) fun h9 tk9 e h' vs S hx => ⟨e, h9, vs, _, _, tk9, rfl, rfl, weak S, hx, setK_bad K hp hcm (.inr ⟨u, v, rfl, .inl hu⟩)⟩
   refine ite_no (by simp [hu]) ?_
   walk_at "mm"
   refine notInG (CG2.push S) (Gb.ext S.keep) fun h9 tk9 hx9 => ?_
   replace S := S.grow hx9.keep
   walk_at "mm"
   by_cases hv : v ∈ ns
   case neg =>
     refine ite_yes (by simp [hv]) ?_
     walk_at "mm"
     exact raise2 S CG2 (CG2.push S) (hkT.keeps S.keep) hdm (by rfl) fun h9 tk9 e h' vs S hx => ⟨e, h9, vs, _, _, tk9, rfl, rfl, weak S, hx, setK_bad K hp hcm (.inr ⟨u, v, rfl, .inr hv⟩)⟩
   refine ite_no (by simp [hv]) ?_
   refine el_xaaa (setK_good K hp hcm rfl hu hv) fun rows hout hpr hl20 => ?_
   have hret : isM adj rows' = false → ∀ {hh tk l₂ N₂}, St gb L hh l₂ N₂ → Qf (.ret (.bool false)) { s with heap := hh, toks := tk } := fun q hh tk l₂ N₂ S => hQ _ _ (by
     have := hr1 rows hout hh tk (Ext.of_keep fun b o e => S.keep b o (kb b o (hsd b o e)))
     rw [isP, ← isM_perm (hrows ▸ hpr), q] at this
     exact this)
   walk_at "mm"
   refine PyProof.Rows.eq_int ?_
   walk_at "mm"
   by_cases huv : u = v
   · refine ite_yes (by simp [huv]) ?_
     walk_at "mm"
     exact HB _ _ (BodyEnd.rt (hret (isM_mem (List.mem_iff_getElem?.mpr ⟨i, hri⟩) (.inl huv)) S))
   refine ite_no (by simp [huv]) ?_
   walk_at "mm"
   refine el_xxxxxxxa (Gb.at) fun dx gd nd ad od nv nb R' => ?_
   refine el_xxxxxxxa (R'.od) fun hq1 tq1 hq2 tq2 hq3 tq3 mq hsb7 => ?_
   subst hsb7
   refine methA S CG2 (R'.ext S.keep).at_.inst rfl ?_
   walk_at "mm"
   refine has_edge_spec (CG2.push S) (Gb.ext S.keep) fun h10 tk10 hx10 => ?_
   replace S := S.grow hx10.keep
   walk_at "mm"
   by_cases hed : v ∈ adjOf adj u
   case neg =>
     refine ite_yes (by simp [hed]) ?_
     walk_at "mm"
     exact HB _ _ (BodyEnd.rt (hret (isM_mem (List.mem_iff_getElem?.mpr ⟨i, hri⟩) (.inr hed)) S))
   refine ite_no (by simp [hed]) ?_
   walk_at "mm"
   refine inI S (.head _) hIS ?_
   rw [hF]
   walk_at "mm"
   by_cases hun : u ∈ nodesOf (rows'.take i)
   · refine ite_yes (by simp [hun]) ?_
     walk_at "mm"
     exact HB _ _ (BodyEnd.rt (hret (isM_dup hri (.inl hun)) S))
   refine ite_no (by simp [hun]) ?_
   walk_at "mm"
   refine inI S (.head _) hIS ?_
   rw [hF]
   walk_at "mm"
   by_cases hvn : v ∈ nodesOf (rows'.take i)
   · refine ite_yes (by simp [hvn]) ?_
     walk_at "mm"
     exact HB _ _ (BodyEnd.rt (hret (isM_dup hri (.inr hvn)) S))
   refine ite_no (by simp [hvn]) ?_
   walk_at "mm"
   refine updM S (.head _) hIS ?_
   walk_at "mm"
   have hi20 : i < 20 := by lia
   refine updI CG2.hand S hIS (.head _) ?_ (ht2.at fun o e => S.keep _ _ e) (fun o' => [(Nd, o')]) (fun o' => .head) fun o2' h11 tk11 S hIS' x11 => ?_
   · have : 50 < scanBound := by decide
     lia
   walk_at "mm"
   replace S := St.relist (l' := [("v", some (.int v t2)), ("u", some (.int u t1)), ("edge", some (.ref T)), ("nodes", some (.ref Nd)), ("matching", some (.ref a)), ("G", some (.ref x))]) S (by rfl)
   refine HB _ _ (BodyEnd.nx [] S fun G2 k4 _ => Ji _ _ _ _ (in_x6 _ _ _ _ _ _ ⟨rfl, rfl, hIS', ?_, fun e he => ?_, ?_, ?_, fun q => ?_⟩))
   · rw [take_next hri]; exact nodes_snoc hF
   · rw [take_next hri] at he
     rcases List.mem_append.mp he with he | he
     · exact hok e he
     · rw [List.mem_singleton.mp he]; exact ⟨huv, hed⟩
   · rw [take_next hri]; exact nodup_snoc2 hnd hun hvn huv
   · rw [hF, hnn]; simp [addS, hun, hvn, Ne.symm huv]; lia
   · rw [hout] at q; cases q
 intro l N' G' h6 tk6 hJ kG S
 refine el_xxxxxxaaaaaaaa hJ fun x1 x2 x3 o2 F nn hsb6 hsb7 hIS hF hok hnd hnn hz => ?_
 try clear hJ
 replace S := St.at2 hsb6 hsb7 S
 have CGe := CG.keeps fun b o e => kG b o (kd b o e)
 walk_at "mm"
 refine el_xaa (setK_end K hp hz) fun rows hout hpr => ?_
 rw [List.take_of_length_le (by rw [hrows, prs_len]; exact Nat.le_refl _)] at hok hnd
 refine lenI S (.head _) hIS fun u1 tk7 => ?_
 walk_at "mm"
 refine lenG (CGe.push S).in1 (Gg.ext fun b o e => S.keep b o (kG b o (kd b o e))) hns fun h8 tk8 u2 hx8 => ?_
 replace S := S.grow hx8.keep
 walk_at "mm"
 refine PyProof.Rows.eq_int ?_
 walk_at "mm"
 have hl1 := hpr.length_eq
 rw [prs_len] at hl1
 have := hr1 rows hout _ tk8 (Ext.of_keep fun b o e => S.keep b o (kG b o (hsd b o e)))
 rw [isP, ← isM_perm (hrows ▸ hpr), isM_true hok hnd, ← hl1] at this
 refine hQ _ _ ?_
 have e : ((nn : Int) == (ns.length : Int)) = (true && decide (2 * C'.length = ns.length)) := by
   rw [hnn]
   by_cases q : 2 * C'.length = ns.length
   · simp [q] <;> lia
   · simp [q] <;> lia
 show R (.ok (.ret (.bool _))) _
 rw [e]
 exact this
end
noncomputable def EvN (h0 h : Heap) (ev x : Addr) : Prop := ∃ dv h1 t1 m, W.InstAt h ev (instObj 132 dv) 132 (some (evD h1 t1 x m)) ∧ h0.get? ev = none ∧ h0.get? dv = none
section
variable {w : World} {A A' : Around} {outs outs₂ : List Env} {base : Heap} {n m : Nat} {s s' : Shared} {E : Value → Shared → Prop} {g h h0 : Heap} {L a e : Addr} {l : Loc} {N : List (Addr × Obj)} {R : Result → Shared → Prop}
theorem EvN.ground {ev x : Addr} {l' : Loc} {N' : List (Addr × Obj)} {g' : Heap} (V : EvN h0 h ev x) (S0 : St g' L h0 l' N') (S : St g L h l N) (hN : ∀ b ∈ N.map (·.1), b ∈ N'.map (·.1)) : EvAt (hideAll h (L :: N.map (·.1))) ev x := by
 obtain ⟨dv, h1, t1, m, ⟨i1, i2, i3, i4⟩, e1, e2⟩ := V
 have off : ∀ b, h0.get? b = none → b ∉ L :: N.map (·.1) := fun b e hm => by
   refine el_aaa (S0.new e) fun a1 _ a3 => ?_
   rcases List.mem_cons.mp hm with q | q
   · exact a1 q
   · exact a3 (hN b q)
 exact in_x4 dv h1 t1 m ⟨hideAll_get _ i1 (off _ e1), i2, i3, hideAll_get _ i4 (off _ e2)⟩ -- in118
theorem edges_get2 {x : Addr} (C : Cx w A outs base s.heap (n + 4))
   (h : ∀ h' tk' ev, Ext [] s.heap h' → EvN s.heap h' ev x → R (.ok (.ret (.ref ev))) { s with heap := h', toks := tk' }) :
   codeAny (model prg w) A (.call (.ref 174) ⟨[.ref x], []⟩) R s := by
 refine enter (binds := [(Str.ofString "self", .ref x)]) [] (by simp) (by simp) (by simp) C rfl rfl (BindsTo.of_eq rfl) (locs rfl) (fun h₁ L tk Qf Ef hQ S CG => ?_)
 dsimp only [locOf, List.reverse, List.reverseAux, List.map] at S CG
 walk_at "mm"
 refine wpAny_call (mkI S CG fun ev dv h2 S ev0 dv0 => ?_)
 have hne : ev ≠ dv := fun e => by
   have := S.nd
   simp [e] at this
 refine ev_init (n := n + 1) (CG.push S).under (CG.apartN (N := [(ev, instObj 132 dv), (dv, emptyDict)]) (R := []) S) (S.get (.head _)) (S.get (.tail _ (.head _))) hne fun h3 tk3 od T hod => ?_
 have S2 := callSt (N := [(ev, instObj 132 dv), (dv, emptyDict)]) (R := []) S T
 dsimp only [InitBack]
 refine ⟨rfl, ?_⟩
 walk_at "mm"
 refine el_xxxa hod fun h1 t1 m hsb3 => ?_
 try clear hod
 subst hsb3
 refine hQ _ _ (h _ _ ev (Ext.of_keep fun b o e => S2.keep b o (hide_nil b o e)) ⟨dv, h1, t1, m, ⟨S2.get (.head _), rfl, rfl, S2.get (.tail _ (.head _))⟩, ?_, ?_⟩)
 · exact none_sub (fun b o e => hide_nil b o e) ((S2.nw _ (.head _)).2.2)
 · exact none_sub (fun b o e => hide_nil b o e) ((S2.nw _ (.tail _ (.head _))).2.2)
theorem edgesA2 {x : Addr} {ns : List Int} {adj : List (Int × List Int)} {expr : Bool} {Q : Value → Shared → Prop} (S : St g L s.heap l N) (C : Cx w A' outs base g n) (CA : Cx w A outs₂ base s.heap (m + 5)) (G : GraphG w s.heap x ns adj)
   (h : ∀ ev h' tk', St g L h' l N → EvN s.heap h' ev x → (∀ b o, s.heap.get? b = some o → h'.get? b = some o) → Q (.ref ev) { s with heap := h', toks := tk' }) : wpAny (model prg w) A (getAttr (.ref x) "edges" expr) Q E s := by
 refine el_xxxxxxxa (G.at) fun dx gd nd ad od nv nb R' => ?_
 refine propA (p := 175) (fget := 174) S C R'.at_.inst ?_
 exact edges_get2 (s := { s with toks := s.toks + 1 }) (n := m) CA.in1 fun h' tk' ev hx V => ⟨ev, rfl, h ev h' tk' (S.grow hx.keep) V hx.keep⟩
end
abbrev ItrL (w : World) (A : Around) (target : Expr) (g : Heap) (I L₀ : Addr) (n : Nat) (P : Nat → Value → Heap → Prop) (GP : Gens → Prop) (Gr : Gens → Gens → Prop) (Md : Nat → Value → Heap → Gens → List Addr → List Addr → Prop) (Stw : Nat → Heap → Gens → List Addr → List Addr → Prop) : Prop := ItrF w A target g I (fun h => ∃ m, h.Ns L₀ m) n P GP Gr Md Stw
noncomputable def SrcL (w : World) (A : Around) (target : Expr) (xv : Value) (g : Heap) (L₀ : Addr) (n : Nat) (P : Nat → Value → Heap → Prop) (GP : Shared → Gens → Prop) (Gr : Gens → Gens → Prop) : Prop :=
 ∀ (s : Shared) (Q : Value → Shared → Prop) (E : Value → Shared → Prop), (∀ b o, g.get? b = some o → s.heap.get? b = some o) → (∃ m, s.heap.Ns L₀ m) →
   (∀ I W Md Stw h' tk gs, ItrL w A target g I L₀ n P (GP s) Gr Md Stw → (∀ b ∈ W, g.get? b = none) → (∀ X, (∀ b ∈ X, g.get? b = none ∧ ∃ o, s.heap.get? b = some o) → Stw 0 h' gs X W) → (∀ b o, s.heap.get? b = some o → h'.get? b = some o) →
     Q (.ref I) { s with heap := h', toks := tk, gens := gs }) → wpAny (model prg w) A (pyIter xv) Q E s
section
variable {w : World} {A : Around} {E : Value → Shared → Prop} {s : Shared} {g : Heap} {N N' : List (Addr × Obj)} {l : Loc} {env : Env} {v : Value} {L : Addr}
theorem for_srcL0 {target : Expr} {body : List Stmt} {Q : Flow → Shared → Prop} {E' : Value → Shared → Prop} {xv : Value} {n : Nat} {P : Nat → Value → Heap → Prop} {GP : Shared → Gens → Prop} {Gr : Gens → Gens → Prop}
   (J : Nat → Loc → List (Addr × Obj) → Heap → Prop) (X : SrcL w A target xv g L n P GP Gr) (S : St g L s.heap l N) (h0 : J 0 l N g)
   (turn : ∀ i v l N G h₁ tk gs, i < n → P i v h₁ → GP s gs → J i l N G → (∀ b o, g.get? b = some o → G.get? b = some o) → (∀ b o, G.get? b = some o → (hideAll h₁ (L :: N.map (·.1))).get? b = some o) → St (hideAll h₁ (L :: N.map (·.1))) L h₁ l N →
     wpAny (model prg w) A (assign target env v) (fun _ s₂ => wpAny (model prg w) A (execs body env) (BodyEndG Gr { s with heap := h₁, toks := tk, gens := gs } (hideAll h₁ (L :: N.map (·.1))) G L (J (i + 1)) Q) E' s₂) E' { s with heap := h₁, toks := tk, gens := gs })
   (done : ∀ l N G h tk gs, GP s gs → J n l N G → (∀ b o, g.get? b = some o → G.get? b = some o) → St G L h l N → Q .next { s with heap := h, toks := tk, gens := gs })
   (hE : ∀ e s', E' e s' → notedBy (model prg w) A env (cameBackBy (model prg w) A env E) e s') (hL : env.locals = L := by rfl) :
   wpAny (model prg w) A (pyIter xv) (fun it s₂ => codeAny (model prg w) A (.forLoop target it body [] env) (fun r s' => match r with | .ok f => Q f s' | .error e => cameBackBy (model prg w) A env E e s') s₂) E s := by
 subst hL
 refine X s _ _ S.keep ⟨_, S.ns⟩ fun I W Md Stw h' tk gs X hW hst hk => ?_
 refine for_loopF (s := { s with heap := h', toks := tk, gens := gs }) J X (fun _ m e => ⟨m, e⟩) hW (hst _ fun b hb => ?_) (S.grow hk) h0 turn done hE
 rcases List.mem_cons.mp hb with rfl | hb
 · refine el_xxxaa (S.ns) fun o _ _ e _ => ?_
   exact ⟨S.sep, o, e⟩
 · refine el_xaa (List.mem_map.mp hb) fun p hp hsb2 => ?_
   subst hsb2
   exact ⟨(S.nw p hp).2.2, _, (S.nw p hp).1⟩
theorem for_srcL {target : Expr} {body : List Stmt} {Q : Flow → Shared → Prop} {E' : Value → Shared → Prop} {xv : Value} {n : Nat} {P : Nat → Value → Heap → Prop} {GP : Shared → Gens → Prop} {Gr : Gens → Gens → Prop}
   (J : Nat → Loc → List (Addr × Obj) → Heap → Prop) (X : SrcL w A target xv g L n P GP Gr) (S : St g L s.heap l N) (h0 : J 0 l N g)
   (turn : ∀ Jq : Nat → Loc → List (Addr × Obj) → Heap → Prop, (∀ a b c d, J a b c d → Jq a b c d) → ∀ i v l N G h₁ tk gs gb (B : Flow → Shared → Prop), i < n → P i v h₁ → GP s gs → J i l N G → (∀ b o, g.get? b = some o → G.get? b = some o) → (∀ b o, G.get? b = some o → gb.get? b = some o) → St gb L h₁ l N → (∀ f s', BodyEndG Gr { s with heap := h₁, toks := tk, gens := gs } gb G L (Jq (i + 1)) Q f s' → B f s') →
     wpAny (model prg w) A (assign target env v) (fun _ s₂ => wpAny (model prg w) A (execs body env) B E' s₂) E' { s with heap := h₁, toks := tk, gens := gs })
   (done : ∀ l N G h tk gs, GP s gs → J n l N G → (∀ b o, g.get? b = some o → G.get? b = some o) → St G L h l N → Q .next { s with heap := h, toks := tk, gens := gs })
   (hE : ∀ e s', E' e s' → notedBy (model prg w) A env (cameBackBy (model prg w) A env E) e s') (hL : env.locals = L := by rfl) :
   wpAny (model prg w) A (pyIter xv) (fun it s₂ => codeAny (model prg w) A (.forLoop target it body [] env) (fun r s' => match r with | .ok f => Q f s' | .error e => cameBackBy (model prg w) A env E e s') s₂) E s :=
 for_srcL0 J X S h0 (fun i v l N G h₁ tk gs a b c d e f S => turn J (fun _ _ _ _ h => h) i v l N G h₁ tk gs _ _ a b c d e f S fun _ _ h => h) done hE hL
end
section
variable {w : World} {A₀ A A' : Around} {outs : List Env} {base : Heap} {n m : Nat} {s : Shared} {E : Value → Shared → Prop} {g : Heap} {L : Addr} {l : Loc} {N : List (Addr × Obj)}
theorem Cx.pushN {h : Heap} {L₀ a : Addr} {name : Str} {scope : Scope} {cd : Value} (C : Cx w A₀ outs base g (n + 1)) (k : ∀ b o, g.get? b = some o → h.get? b = some o) (hF : ∃ m, h.Ns L₀ m) (hg : g.get? L₀ = none) (hk : scope.kind = .function := by rfl) :
   Cx w (A₀.deeper (envOf name scope L₀ a cd)) (envOf name scope L₀ a cd :: outs) base h n := by
 have h1 := C.deep
 have h2 := C.room
 refine el_xa hF fun m hn => ?_
 try clear hF
 refine ⟨C.bs, ⟨Around.frames_deeper C.below.stack, fun b o e => k b o (C.below.stays b o e), ?_⟩, C.hand, C.guards, ?_, ?_⟩
 · refine .cons (by show scope.kind ≠ .module; rw [hk]; decide) rfl hn ?_ (C.below.frames.of_keeps fun b o e _ => ⟨o, k b o e, rfl⟩)
   cases q : base.get? L₀ with
   | none => rfl
   | some o => have := C.below.stays _ _ q; rw [hg] at this; cases this
 · show A₀.depth + 1 + 20 * n ≤ 900; lia
 · show A₀.units + 3 + 50 * n + 50 ≤ 2000; lia
theorem ev_itrL {I Lg L₀ : Addr} {l0 : Loc} {code0 : Code} {gens0 : Gens} {rows : List (Int × Int)} {target : Expr} (C : Cx w A₀ outs base g (n + 2)) (hhand : A.handled = none) (hdeep : A.depth ≤ 900) (hgL : g.get? Lg = none) (hgI : g.get? I = none)
   (first : ∀ s₁, (∀ b o, g.get? b = some o → s₁.heap.get? b = some o) → (∃ m, s₁.heap.Ns L₀ m) → s₁.heap.Ns Lg (lk l0) → SegX w A.in1 (PhiF w A.in1 Lg rows rows.length s₁) code0 ((model prg w).den code0) [] s₁) :
   ItrL w A target g I L₀ rows.length (RowAt rows) (fun gs => AllBare gens0 → AllBare gs) Eq (fun i v h gs X W => EvSt w A g I Lg l0 code0 gens0 rows (i + 1) h gs X W ∧ RowAt rows i v h) (EvSt w A g I Lg l0 code0 gens0 rows) :=
 ev_itrF C.bs C.below.stays hhand hdeep hgL hgI first
theorem SrcL.ev {ev x L₀ a : Addr} {name : Str} {scope : Scope} {cd : Value} {ns : List Int} {adj : List (Int × List Int)} {target : Expr} (C : Cx w A outs base g (n + 6)) (hg : g.get? L₀ = none) (V : EvAt g ev x) (G : GraphG w g x ns adj) (hk' : scope.kind = .function := by rfl) :
   SrcL w (A.deeper (envOf name scope L₀ a cd)) target (.ref ev) g L₀ (rowsOf adj).length (RowAt (rowsOf adj)) Bare Eq := fun s Q E hk hF h => by
 refine el_xxxxa (V.keep hk) fun dv hh1 tt1 m1 I => ?_
 have CS := C.pushN (name := name) (scope := scope) (a := a) (cd := cd) hk hF hg hk'
 refine iter_gen (f := 109) (C.kinAt hk) I (by rfl) (by rfl) (wpAny_call (ev_gen (CS.less (k := n + 1) (by lia)) fun code0 h₂ L I tk k2 L0 I0 hIL hn hI first => ⟨I, s.gens.size, rfl, hI, ?_⟩))
 have gL := none_sub hk L0
 have gI := none_sub hk I0
 have k3 : ∀ b o, g.get? b = some o → h₂.get? b = some o := fun b o e => k2 b o (hk b o e)
 have hLL : L₀ ≠ L := fun q => by
   refine el_xxxxaa hF fun m o _ _ e _ => ?_
   try clear hF
   rw [q, L0] at e; cases e
 refine h I [L] _ _ h₂ tk (s.gens.push (.fresh code0)) (ev_itrL (n := n) (I := I) (Lg := L) (L₀ := L₀) (l0 := [("self", some (.ref ev))]) (code0 := code0) (gens0 := s.gens) (target := target) (C.less (by lia)) CS.hand (by have := CS.deep; lia) gL gI fun s₁ k₁ hF₁ hn₁ => ?_) (fun b hb => by rw [List.mem_singleton.mp hb]; exact gL) (fun X hX => ?_) k2
 · have kg : ∀ b o, g.get? b = some o → (hideAll s₁.heap [L]).get? b = some o := fun b o e => hideAll_get _ (k₁ b o e) fun m => by rw [List.mem_singleton.mp m, gL] at e; cases e
   have hF₂ : ∃ m, (hideAll s₁.heap [L]).Ns L₀ m := by
     refine el_xa hF₁ fun m hn => ?_
     try clear hF₁
     exact ⟨m, hn.at' fun o e => hideAll_get _ e fun q => hLL (List.mem_singleton.mp q)⟩
   exact first _ _ (n + 1) (hideAll s₁.heap [L]) s₁ x ns adj (C.pushN (name := name) (scope := scope) (a := a) (cd := cd) kg hF₂ hg hk') (fun b o e => of_hideAll _ e) (hideAll_none _ (.head _)) hn₁ (V.keep kg) (G.ext kg)
 · have nX : ∀ b, s.heap.get? b = none → b ∉ X := fun b e m => by
     refine el_axa (hX b m) fun o _ q => ?_
     rw [e] at q; cases q
   exact ⟨k3, fun b m => (hX b m).1, nX I I0, nX L L0, hIL, hI, _, rfl, rfl, .inl ⟨rfl, rfl, rfl, hn⟩⟩
end
noncomputable def isMx (adj : List (Int × List Int)) (rows : List (Int × Int)) : Bool := isM adj rows && (rowsOf adj).all fun e => decide (e.1 ∈ nodesOf rows ∨ e.2 ∈ nodesOf rows ∨ e.1 = e.2)
theorem isMx_perm {adj : List (Int × List Int)} {a b : List (Int × Int)} (p : a.Perm b) : isMx adj a = isMx adj b := by
 unfold isMx
 have h : ∀ x, x ∈ nodesOf a ↔ x ∈ nodesOf b := fun x => (nodesOf_perm p).mem_iff
 simp only [isM_perm p, h]
theorem isMx_no {adj : List (Int × List Int)} {rows : List (Int × Int)} {e : Int × Int} (he : e ∈ rowsOf adj) (h1 : e.1 ∉ nodesOf rows) (h2 : e.2 ∉ nodesOf rows) (h3 : e.1 ≠ e.2) : isMx adj rows = false := by
 unfold isMx
 rw [Bool.and_eq_false_iff]
 right
 rw [List.all_eq_false]
 exact ⟨e, he, by simp [h1, h2, h3]⟩
noncomputable def bothW (rows : List (Int × Int)) : List (List Int) := rows.flatMap fun e => [[e.1, e.2], [e.2, e.1]]
theorem bothW_snoc (rows : List (Int × Int)) (e : Int × Int) : bothW (rows ++ [e]) = bothW rows ++ [[e.1, e.2], [e.2, e.1]] := by simp [bothW]
theorem bothW_len (rows : List (Int × Int)) : (bothW rows).length = 2 * rows.length := by
 induction rows with
 | nil => rfl
 | cons e r ih => show ([e.1, e.2] :: [e.2, e.1] :: bothW r).length = _; simp [ih]; lia
theorem bothW_off {rows : List (Int × Int)} {u v : Int} (hu : u ∉ nodesOf rows) : [u, v] ∉ bothW rows := fun m => by
 refine el_xaa (List.mem_flatMap.mp m) fun e he q => ?_
 refine hu (List.mem_flatMap.mpr ⟨e, he, ?_⟩)
 simp only [List.mem_cons, List.cons.injEq, and_true, List.not_mem_nil, or_false] at q ⊢
 rcases q with q | q
 · exact .inl q.1
 · exact .inr q.1
theorem bothW_mem {rows : List (Int × Int)} {u v : Int} (m : [u, v] ∈ bothW rows) : u ∈ nodesOf rows := by
 by_cases h : u ∈ nodesOf rows
 · exact h
 · exact absurd m (bothW_off h)
section
variable {w : World} {A A' : Around} {outs : List Env} {base : Heap} {n m : Nat} {s s' : Shared} {E : Value → Shared → Prop} {g h h0 : Heap} {L a e : Addr} {l : Loc} {N : List (Addr × Obj)} {name : Str} {scope : Scope} {cd : Value} {R : Result → Shared → Prop}
theorem isx_code {x : Addr} {mv : Value} {ns : List Int} {adj : List (Int × List Int)} {out : Option (List (Int × Int))} (C : Cx w A outs base s.heap (n + 7)) (G : GraphG w s.heap x ns adj) (hn6 : ns.length ≤ 6) (h06 : ∀ x ∈ ns, 0 ≤ x ∧ x < 6) (hr6 : In6 (rowsOf adj)) (hM : MArg w s.heap mv ns out)
   (hr1 : ∀ rows, out = some rows → ∀ h' tk' gs, Ext [] s.heap h' → Bare s gs → R (.ok (.ret (.bool (isMx adj rows)))) { s with heap := h', toks := tk', gens := gs })
   (hr2 : out = none → ∀ e h' tk', Rz s.heap outs e h' → R (.error (.ref e)) { s with heap := h', toks := tk' }) :
   codeAny (model prg w) A (.call (.ref 74) ⟨[.ref x, mv], []⟩) R s := by
 refine enterE (binds := [(Str.ofString "G", .ref x), (Str.ofString "matching", mv)]) C rfl rfl (BindsTo.of_eq rfl) (locs rfl) (fun h₁ L tk Qf hQ S CG => ?_)
 dsimp only [List.map, List.reverse, List.reverseAux, locOf] at S CG
 replace hM : MArg w (hideAll s.heap []) mv ns out := hM.keep hide_nil
 have Gg : GraphG w (hideAll s.heap []) x ns adj := G.ext hide_nil
 refine el_xa (⟨_, rfl⟩ : ∃ g, g = hideAll s.heap []) fun g hg => ?_
 rw [← hg] at S CG hM Gg
 have hsg : ∀ b o, s.heap.get? b = some o → g.get? b = some o := fun b o e => by rw [hg]; exact hide_nil b o e
 refine wpAny_execs_cons (wpAny_mono (Q := fun f s₁ => f = .next ∧ MidS w s g L (fun v => [("matching", some v), ("G", some (.ref x))]) ns out s₁) ?_ ?_ (fun _ _ z => z))
 case refine_1 =>
   walk_at "mm"
   rcases hM with ⟨a, o, Cs, rfl, ho, P, K⟩ | ⟨d, kvs, ps, rfl, lo, hd, iv, dm, h4, K⟩
   · refine IsiPair.set_dict (S.keep _ _ ho) (by obtain ⟨ep, t, rfl, _⟩ := P.is; rfl) ?_
     walk_at "mm"
     exact ⟨rfl, a, o, Cs, g, _, _, rfl, S, fun _ _ e => e, ho, P, K⟩
   · refine el_xaa (Heap.dictOf_iff.mp hd) fun od eod hod => ?_
     refine IsiPair.dict_dict (S.keep _ _ eod) (by obtain ⟨es, ep, hx, _⟩ := hod; exact hx.1) ?_
     walk_at "mm"
     refine wpAny_call (mds_code (CG.push S) (hd.keep S.keep) lo iv dm h4 (dictK_hk K) ?_ ?_)
     · intro hnl h3 tk3 T o3 Cs hx T0 hT P hp hTP
       obtain ⟨g1, S, k1, hT1, kT⟩ := (S.add hx.keep hT T0).freezeT (by simp)
       walk_at "mm"
       replace S := St.relist (l' := [("matching", some (.ref T)), ("G", some (.ref x))]) S (by rfl)
       exact ⟨rfl, T, o3, Cs, g1, _, _, rfl, S, k1, hT1, P.re (TP.isK fun c hc => by obtain ⟨u, v, t1, t2, e1, e2⟩ := hTP c hc; exact ⟨u, v, t1, t2, e1, kT _ _ e2⟩), dictK_set K hnl h4 hp⟩
     · intro hb e h3 tk3 hz
       exact rz_pass CG S hz hsg fun h' hz' => hr2 (dictK_loop K hb) e h' tk3 hz'
 intro f s₁
 refine elc_axxxxxxaaaaaa fun a o Cs Gd h1 tk1 hsb0 hsb7 S kd ho P K => ?_
 subst hsb0
 subst hsb7
 dsimp only at S ⊢
 have CG1 := CG.keeps kd
 have hsd : ∀ b o, s.heap.get? b = some o → Gd.get? b = some o := fun b o e => kd b o (hsg b o e)
 walk_at "mm"
 refine set0F S fun Ed hh1 S Ed0 _ => ?_
 walk_at "mm"
 refine set0F S fun Nd hh2 S Nd0 _ => ?_
 walk_at "mm"
 refine el_xaa (SrcG.setC P ho) fun C' hp X => ?_
 refine el_xa (⟨_, rfl⟩ : ∃ rows', rows' = prs C') fun rows' hrows => ?_
 replace S := St.relist (l' := [("v", none), ("u", none), ("edge", none), ("nodes", some (.ref Nd)), ("edges", some (.ref Ed)), ("matching", some (.ref a)), ("G", some (.ref x))]) S (by rfl)
 refine for_src (E' := MadeE s g L (out = none)) (fun i l N' G' => ∃ x1 x2 x3 o2 o3 F nn Es, l = ([("v", x1), ("u", x2), ("edge", x3), ("nodes", some (.ref Nd)), ("edges", some (.ref Ed)), ("matching", some (.ref a)), ("G", some (.ref x))] : Loc) ∧
   N' = [(Nd, o2), (Ed, o3)] ∧ IS w o2 F nn ∧ (F = fun k => decide (k ∈ nodesOf (rows'.take i))) ∧ (∀ e ∈ rows'.take i, e.1 ≠ e.2 ∧ e.2 ∈ adjOf adj e.1) ∧ (nodesOf (rows'.take i)).Nodup ∧ nn = 2 * i ∧ (out = none → i = 0) ∧ PS w G' o3 Es ∧ (Es.map (·.1)).Perm (bothW (rows'.take i)) ∧ (∀ e ∈ rows'.take i, e.1 ∈ ns ∧ e.2 ∈ ns) ∧ i ≤ rows'.length)
   (X _ _ CG1.hand) S (in_x8 _ _ _ _ _ _ _ [] ⟨rfl, rfl, is_set0, rfl, (fun _ m => nomatch m), .nil, rfl, (fun _ => rfl), ps_empty, .nil, (fun _ m => nomatch m), Nat.zero_le _⟩) ?_ ?_ (madeE_out CG hsg hr2)
 case refine_1 =>
   intro Jq Ji i v l N' G' h6 tk6 gb Bq hlt hP hJ kG k3 S HB
   refine el_xxxxxxxxaaaaaaaaaaaa hJ fun x1 x2 x3 o2 o3 F nn Es hsb8 hsb9 hIS hF hok hnd hnn hz hPE hpE hinN hile => ?_
   try clear hJ
   replace S := St.at2 hsb8 hsb9 S
   refine el_xaa hP fun c hc hsb2 => ?_
   try clear hP
   subst hsb2
   obtain ⟨ks, T⟩ := c
   have kb : ∀ b o, Gd.get? b = some o → gb.get? b = some o := fun b o e => k3 b o (kG b o e)
   have CG2 := CG1.keeps kb
   have hcm : (ks, T) ∈ C' := List.mem_iff_getElem?.mpr ⟨i, hc⟩
   have hkT : IsK w gb ks T := (P.keys _ (hp.mem_iff.mp hcm)).keeps kb
   have hdm : ks ∈ dom := P.dm _ (hp.mem_iff.mp hcm)
   have Gb := Gg.ext fun b o e => kb b o (kd b o e)
   refine el_xaa (hkT.tup) fun items hti hsz => ?_
   have weak : ∀ {h l N}, St gb L h l N → St g L h l N := fun S => S.weak fun b o e => kb b o (kd b o e)
   walk_at "mm"
   have hti' : Heap.IsTuple h1 T items := hti.at fun o e => S.keep _ _ e
   refine lenT hti' (by rw [hsz]; have := (List.all_eq_true.mp dom_len ks hdm); simp at this; lia) fun uu tk7 => ?_
   walk_at "mm"
   refine ne_int ?_
   walk_at "mm"
   by_cases hl2 : ks.length = 2
   case neg =>
     refine ite_yes (by simp; lia) ?_
     have hbad := setK_bad K hp hcm (.inl hl2)
     walk_at "mm"
     exact raise1 S CG2 (CG2.push S) (hkT.keeps S.keep) hdm (by rfl) fun h9 tk9 e h' vs S hx => ⟨e, h9, vs, _, _, tk9, rfl, rfl, weak S, hx, hbad⟩
   refine ite_no (by simp; lia) ?_
   refine el_xxa (len2 hl2) fun u v hsb2 => ?_
   subst hsb2
   refine el_xxa (hkT.tup2) fun t1 t2 ht2 => ?_
   have hri : rows'[i]? = some (u, v) := by rw [hrows, prs, List.getElem?_map, hc]; rfl
   walk_at "mm"
   refine asg2 CG2.hand S (ht2.at fun o e => S.keep _ _ e) fun h7 tk7 S => ?_
   walk_at "mm"
   refine notInG (CG2.push S) (Gb.ext S.keep) fun h8 tk8 hx8 => ?_
   replace S := S.grow hx8.keep
   walk_at "mm"
   by_cases hu : u ∈ ns
   case neg =>
     refine ite_yes (by simp [hu]) ?_
     walk_at "mm"
     exact raise2 S CG2 (CG2.push S) (hkT.keeps S.keep) hdm (by rfl) fun h9 tk9 e h' vs S hx => ⟨e, h9, vs, _, _, tk9, rfl, rfl, weak S, hx, setK_bad K hp hcm (.inr ⟨u, v, rfl, .inl hu⟩)⟩
   refine ite_no (by simp [hu]) ?_
   walk_at "mm"
   refine notInG (CG2.push S) (Gb.ext S.keep) fun h9 tk9 hx9 => ?_
   replace S := S.grow hx9.keep
   walk_at "mm"
   by_cases hv : v ∈ ns
   case neg =>
     refine ite_yes (by simp [hv]) ?_
     walk_at "mm"
     exact raise2 S CG2 (CG2.push S) (hkT.keeps S.keep) hdm (by rfl) fun h9 tk9 e h' vs S hx => ⟨e, h9, vs, _, _, tk9, rfl, rfl, weak S, hx, setK_bad K hp hcm (.inr ⟨u, v, rfl, .inr hv⟩)⟩
   refine ite_no (by simp [hv]) ?_
   refine el_xaaa (setK_good K hp hcm rfl hu hv) fun rows hout hpr hl20 => ?_
   have hret : isM adj rows' = false → ∀ {hh tk l₂ N₂}, St gb L hh l₂ N₂ → Qf (.ret (.bool false)) { s with heap := hh, toks := tk } := fun q hh tk l₂ N₂ S => hQ _ _ (by
     have := hr1 rows hout hh tk s.gens (Ext.of_keep fun b o e => S.keep b o (kb b o (hsd b o e))) fun z => z
     rw [isMx, ← isM_perm (hrows ▸ hpr), q] at this
     exact this)
   walk_at "mm"
   refine PyProof.Rows.eq_int ?_
   walk_at "mm"
   by_cases huv : u = v
   · refine ite_yes (by simp [huv]) ?_
     walk_at "mm"
     exact HB _ _ (BodyEnd.rt (hret (isM_mem (List.mem_iff_getElem?.mpr ⟨i, hri⟩) (.inl huv)) S))
   refine ite_no (by simp [huv]) ?_
   walk_at "mm"
   refine el_xxxxxxxa (Gb.at) fun dx gd nd ad od nv nb R' => ?_
   refine el_xxxxxxxa (R'.od) fun hq1 tq1 hq2 tq2 hq3 tq3 mq hsb7 => ?_
   subst hsb7
   refine methA S CG2 (R'.ext S.keep).at_.inst rfl ?_
   walk_at "mm"
   refine has_edge_spec (CG2.push S) (Gb.ext S.keep) fun h10 tk10 hx10 => ?_
   replace S := S.grow hx10.keep
   walk_at "mm"
   by_cases hed : v ∈ adjOf adj u
   case neg =>
     refine ite_yes (by simp [hed]) ?_
     walk_at "mm"
     exact HB _ _ (BodyEnd.rt (hret (isM_mem (List.mem_iff_getElem?.mpr ⟨i, hri⟩) (.inr hed)) S))
   refine ite_no (by simp [hed]) ?_
   walk_at "mm"
   refine inI S (.head _) hIS ?_
   rw [hF]
   walk_at "mm"
   by_cases hun : u ∈ nodesOf (rows'.take i)
   · refine ite_yes (by simp [hun]) ?_
     walk_at "mm"
     exact HB _ _ (BodyEnd.rt (hret (isM_dup hri (.inl hun)) S))
   refine ite_no (by simp [hun]) ?_
   walk_at "mm"
   refine inI S (.head _) hIS ?_
   rw [hF]
   walk_at "mm"
   by_cases hvn : v ∈ nodesOf (rows'.take i)
   · refine ite_yes (by simp [hvn]) ?_
     walk_at "mm"
     exact HB _ _ (BodyEnd.rt (hret (isM_dup hri (.inr hvn)) S))
   refine ite_no (by simp [hvn]) ?_
   walk_at "mm"
   refine updM S (.head _) hIS ?_
   walk_at "mm"
   have hi20 : i < 20 := by lia
   refine updI CG2.hand S hIS (.head _) ?_ (ht2.at fun o e => S.keep _ _ e) (fun o' => [(Nd, o'), (Ed, o3)]) (fun o' => .head) fun o2' h11 tk11 S hIS' x11 => ?_
   · have : 50 < scanBound := by decide
     lia
   walk_at "mm"
   have hi6 : 2 * i ≤ 6 := by
     have h1 : (nodesOf (rows'.take i)).length ≤ ns.length := nodup_len hnd fun y hy => by
       refine el_xaa (List.mem_flatMap.mp hy) fun e he q => ?_
       have := hinN e he
       simp only [List.mem_cons, List.not_mem_nil, or_false] at q
       rcases q with q | q
       · rw [q]; exact this.1
       · rw [q]; exact this.2
     rw [nodesOf_len, List.length_take] at h1
     lia
   have hEl : Es.length = 2 * i := by
     have := hpE.length_eq
     rw [bothW_len, List.length_take, List.length_map] at this
     lia
   have hPEb : PS w gb o3 Es := hPE.grow k3
   have hOff : [u, v] ∉ Es.map (·.1) := fun m => bothW_off hun (hpE.mem_iff.mp m)
   refine methAdd_ps (hPEb.grow S.keep) (S.get (.tail _ (.head _))) ?_
   walk_at "mm"
   refine addF (CG2.push S).line S (hPEb.grow S.keep) (.tail _ (.head _)) (hkT.keeps S.keep) hdm hOff (by lia) (fun o' => [(Nd, o2'), (Ed, o')]) (fun o' => .tail .head) fun o3' Es' h12 tk12 S hPE' hp' hs' => ?_
   walk_at "mm"
   refine methAdd_ps hPE' (S.get (.tail _ (.head _))) ?_
   walk_at "mm"
   refine newT S fun T2 h13 S _ hT2 k13 => ?_
   walk_at "mm"
   have hOff2 : [v, u] ∉ Es'.map (·.1) := fun m => by
     have := (hp'.map (·.1)).mem_iff.mp m
     rw [List.map_cons, List.mem_cons] at this
     rcases this with q | q
     · simp only [List.cons.injEq, and_true] at q
       exact huv q.2
     · exact bothW_off hvn (hpE.mem_iff.mp q)
   have hEl' : Es'.length = 2 * i + 1 := by have := hp'.length_eq; simp at this; lia
   refine addF (CG2.push S).line S (hPE'.grow k13) (.tail _ (.tail _ (.head _))) (isK2 hT2) (mem_dom (h06 v hv) (h06 u hu)) hOff2 (by lia) (fun o' => [(T2, tupOf [.int v t2, .int u t1]), (Nd, o2'), (Ed, o')]) (fun o' => .tail (.tail .head)) fun o3'' Es'' h14 tk14 S hPE'' hp'' hs'' => ?_
   walk_at "mm"
   replace S := St.relist (l' := [("v", some (.int v t2)), ("u", some (.int u t1)), ("edge", some (.ref T)), ("nodes", some (.ref Nd)), ("edges", some (.ref Ed)), ("matching", some (.ref a)), ("G", some (.ref x))]) S (by rfl)
   refine HB _ _ (BodyEnd.nx [(T2, tupOf [.int v t2, .int u t1])] S fun G2 k4 k5 => Ji _ _ _ _ ?_)
   have hkT2 : IsK w G2 [u, v] T := (P.keys _ (hp.mem_iff.mp hcm)).keeps fun b o e => k4 b o (kG b o e)
   have hPE2 : PS w G2 o3'' Es'' := hPE''.re fun c hc => by
     rcases List.mem_cons.mp (hp''.mem_iff.mp hc) with rfl | hc
     · exact isK2 (k5 (T2, _) (.head _))
     · rcases List.mem_cons.mp (hp'.mem_iff.mp hc) with rfl | hc
       · exact hkT2
       · exact (hPE.grow k4).keys c hc
   have hlt2 : i + 1 ≤ rows'.length := (List.getElem?_eq_some_iff.mp hri).1
   refine in_x8 _ _ _ _ _ _ _ Es'' ⟨rfl, rfl, hIS', ?_, fun e he => ?_, ?_, ?_, fun q => ?_, hPE2, ?_, fun e he => ?_, hlt2⟩ -- in126
   · rw [take_next hri]; exact nodes_snoc hF
   · rw [take_next hri] at he
     rcases List.mem_append.mp he with he | he
     · exact hok e he
     · rw [List.mem_singleton.mp he]; exact ⟨huv, hed⟩
   · rw [take_next hri]; exact nodup_snoc2 hnd hun hvn huv
   · rw [hF, hnn]; simp [addS, hun, hvn, Ne.symm huv]; lia
   · rw [hout] at q; cases q
   · rw [take_next hri, bothW_snoc]
     refine (hp''.map _).trans ?_
     refine (((hp'.map _).trans (hpE.cons _)).cons _).trans ?_
     refine (List.Perm.swap _ _ _).trans ?_
     exact (List.perm_append_comm (l₁ := [[u, v], [v, u]]) (l₂ := bothW (rows'.take i)))
   · rw [take_next hri] at he
     rcases List.mem_append.mp he with he | he
     · exact hinN e he
     · rw [List.mem_singleton.mp he]; exact ⟨hu, hv⟩
 intro l N' G' h6 tk6 hJ kG S
 refine el_xxxxxxxxaaaaaaaaaaaa hJ fun x1 x2 x3 o2 o3 F nn Es hsb8 hsb9 hIS hF hok hnd hnn hz hPE hpE hinN hile => ?_
 try clear hJ
 replace S := St.at2 hsb8 hsb9 S
 refine el_xaa (setK_end K hp hz) fun rows hout hpr => ?_
 rw [List.take_of_length_le (by rw [hrows, prs_len]; exact Nat.le_refl _)] at hok hnd hF hpE
 have CGe := CG.keeps fun b o e => kG b o (kd b o e)
 have Ge := Gg.ext fun b o e => kG b o (kd b o e)
 have S0 := S
 walk_at "mm"
 refine edgesA2 (m := n + 1) S CGe (by exact CGe.push S) (Ge.ext S.keep) fun ev h7 tk7 S V k7 => ?_
 have Vg := V.ground S0 S (fun b hb => hb)
 refine el_aa (S.ground) fun S k8 => ?_
 refine el_xa (⟨_, rfl⟩ : ∃ g8, g8 = hideAll h7 (L :: [(Nd, o2), (Ed, o3)].map (·.1))) fun g8 hg8 => ?_
 rw [← hg8] at S k8 Vg
 have CG8 := CGe.keeps k8
 walk_at "mm"
 replace S := St.relist (l' := [("v", x1), ("u", x2), ("edge", x3), ("nodes", some (.ref Nd)), ("edges", some (.ref Ed)), ("matching", some (.ref a)), ("G", some (.ref x))]) S (by rfl)
 refine for_srcL (E' := fun _ _ => False) (fun i l N' G'' => ∃ y1 y2, l = ([("v", y1), ("u", y2), ("edge", x3), ("nodes", some (.ref Nd)), ("edges", some (.ref Ed)), ("matching", some (.ref a)), ("G", some (.ref x))] : Loc) ∧
   N' = [(Nd, o2), (Ed, o3)] ∧ ∀ e ∈ (rowsOf adj).take i, e.1 ∈ nodesOf rows' ∨ e.2 ∈ nodesOf rows' ∨ e.1 = e.2)
   (SrcL.ev (n := n + 1) CG8 S.sep Vg (Ge.ext k8)) S (in_x2 _ _ ⟨rfl, rfl, fun _ m => nomatch m⟩) ?_ ?_ (fun _ _ z => z.elim)
 case refine_1 =>
   intro Jq Ji i v l N' G'' h9 tk9 gs9 gb Bq hlt hP hgs hJ kG9 k9 S HB
   refine el_xxaaa hJ fun y1 y2 hsb2 hsb3 hcov => ?_
   try clear hJ
   replace S := St.at2 hsb2 hsb3 S
   refine el_xxxxxaaa hP fun T u v t1 t2 hsb5 hri hT => ?_
   try clear hP
   subst hsb5
   have kb : ∀ b o, G'.get? b = some o → gb.get? b = some o := fun b o e => k9 b o (kG9 b o (k8 b o e))
   have CG9 := CGe.keeps kb
   have h66 : (0 ≤ u ∧ u < 6) ∧ (0 ≤ v ∧ v < 6) := hr6 _ (List.mem_iff_getElem?.mpr ⟨i, hri⟩)
   refine asg2 CG9.hand S ⟨_, hT, rfl, _, rfl⟩ fun h10 tk10 S => ?_
   walk_at "mm"
   refine newT S fun T2 h11 S _ hT2 _ => ?_
   walk_at "mm"
   refine notIn_ps ((hPE.grow kb).grow S.keep) (S.get (.tail _ (.tail _ (.head _)))) (CG9.push S).line (isK2 hT2) (mem_dom h66.1 h66.2) fun b tk11 hb1 _ => ?_
   walk_at "mm"
   cases b with
   | true =>
     refine ite_no (by simp) ?_
     walk_at "mm"
     replace S := St.relist (l' := [("v", some (.int v t2)), ("u", some (.int u t1)), ("edge", x3), ("nodes", some (.ref Nd)), ("edges", some (.ref Ed)), ("matching", some (.ref a)), ("G", some (.ref x))]) S (by rfl)
     refine HB _ _ (BodyEnd.nx [_] S fun G2 k10 _ => Ji _ _ _ _ (in_x2 _ _ ⟨rfl, rfl, fun e he => ?_⟩))
     rw [take_next hri] at he
     rcases List.mem_append.mp he with he | he
     · exact hcov e he
     · rw [List.mem_singleton.mp he]; exact .inl (bothW_mem (hpE.mem_iff.mp (hb1 rfl)))
   | false =>
     refine ite_yes (by simp) ?_
     walk_at "mm"
     refine notInI S (.tail _ (.head _)) hIS ?_
     rw [hF]
     walk_at "mm"
     by_cases hu : u ∈ nodesOf rows'
     · refine ite_no (by simp [hu]) ?_
       walk_at "mm"
       replace S := St.relist (l' := [("v", some (.int v t2)), ("u", some (.int u t1)), ("edge", x3), ("nodes", some (.ref Nd)), ("edges", some (.ref Ed)), ("matching", some (.ref a)), ("G", some (.ref x))]) S (by rfl)
       refine HB _ _ (BodyEnd.nx [_] S fun G2 k10 _ => Ji _ _ _ _ (in_x2 _ _ ⟨rfl, rfl, fun e he => ?_⟩))
       rw [take_next hri] at he
       rcases List.mem_append.mp he with he | he
       · exact hcov e he
       · rw [List.mem_singleton.mp he]; exact .inl hu
     refine ite_yes (by simp [hu]) ?_
     walk_at "mm"
     refine notInI S (.tail _ (.head _)) hIS ?_
     rw [hF]
     walk_at "mm"
     by_cases hv : v ∈ nodesOf rows'
     · refine ite_no (by simp [hv]) ?_
       walk_at "mm"
       replace S := St.relist (l' := [("v", some (.int v t2)), ("u", some (.int u t1)), ("edge", x3), ("nodes", some (.ref Nd)), ("edges", some (.ref Ed)), ("matching", some (.ref a)), ("G", some (.ref x))]) S (by rfl)
       refine HB _ _ (BodyEnd.nx [_] S fun G2 k10 _ => Ji _ _ _ _ (in_x2 _ _ ⟨rfl, rfl, fun e he => ?_⟩))
       rw [take_next hri] at he
       rcases List.mem_append.mp he with he | he
       · exact hcov e he
       · rw [List.mem_singleton.mp he]; exact .inr (.inl hv)
     refine ite_yes (by simp [hv]) ?_
     walk_at "mm"
     refine ne_int ?_
     walk_at "mm"
     by_cases huv : u = v
     · refine ite_no (by simp [huv]) ?_
       walk_at "mm"
       replace S := St.relist (l' := [("v", some (.int v t2)), ("u", some (.int u t1)), ("edge", x3), ("nodes", some (.ref Nd)), ("edges", some (.ref Ed)), ("matching", some (.ref a)), ("G", some (.ref x))]) S (by rfl)
       refine HB _ _ (BodyEnd.nx [_] S fun G2 k10 _ => Ji _ _ _ _ (in_x2 _ _ ⟨rfl, rfl, fun e he => ?_⟩))
       rw [take_next hri] at he
       rcases List.mem_append.mp he with he | he
       · exact hcov e he
       · rw [List.mem_singleton.mp he]; exact .inr (.inr huv)
     refine ite_yes (by simp [huv]) ?_
     walk_at "mm"
     have e1 : isMx adj rows = false := by rw [← isMx_perm (hrows ▸ hpr), isMx_no (List.mem_iff_getElem?.mpr ⟨i, hri⟩) hu hv huv]
     have hfin := fun hh tk => hr1 rows hout hh tk gs9
     rw [e1] at hfin
     exact HB _ _ (BodyEndG.rt (hQ _ _ (hfin _ _ (Ext.of_keep fun b o e => S.keep b o (kb b o (kG b o (hsd b o e)))) hgs)))
 intro l N' G'' h9 tk9 gs9 hgs hJ kG9 S
 refine el_xxaaa hJ fun y1 y2 hsb2 hsb3 hcov => ?_
 try clear hJ
 replace S := St.at2 hsb2 hsb3 S
 walk_at "mm"
 rw [List.take_length] at hcov
 have this := hr1 rows hout _ tk9 gs9 (Ext.of_keep fun b o e => S.keep b o (kG9 b o (k8 b o (kG b o (hsd b o e))))) hgs
 have e1 : isMx adj rows = true := by
   rw [← isMx_perm (hrows ▸ hpr), isMx, isM_true hok hnd, Bool.true_and, List.all_eq_true]
   exact fun e he => decide_eq_true (hcov e he)
 rw [e1] at this
 exact hQ _ _ this
end
noncomputable def saidB (kind : Int) (adj : List (Int × List Int)) (ns : List Int) (rows : List (Int × Int)) : Bool := if kind = 0 then isM adj rows else if kind = 1 then isMx adj rows else isP adj ns rows
noncomputable def Caught (outs : List Env) (h h' : Heap) : Prop := (∀ b o, h.get? b = some o → b ∉ outs.filterMap (·.frame) → h'.get? b = some o) ∧ h.UpToSlots h'
section
variable {w : World} {A A' : Around} {outs : List Env} {base : Heap} {n m : Nat} {s s' : Shared} {E : Value → Shared → Prop} {g h h0 : Heap} {L a e : Addr} {l : Loc} {N : List (Addr × Obj)} {name : Str} {scope : Scope} {cd : Value} {R : Result → Shared → Prop}
theorem caught_out (C : Cx w A outs base g (n + 1)) (S : St g L h l N) (hsub : ∀ b o, h0.get? b = some o → g.get? b = some o) {h' : Heap} (k : ∀ b o, h.get? b = some o → b ∉ (envOf name scope L a cd :: outs).filterMap (·.frame) → h'.get? b = some o) (u : h.UpToSlots h') : Caught outs h0 h' :=
 ⟨fun b o e nm => k b o (S.keep b o (hsub b o e)) (frame_off C S (hsub b o e) nm), (Heap.UpToSlots.of_keeps fun b o e => S.keep b o (hsub b o e)).trans u⟩
theorem said_code {x : Addr} {kind : Int} {tk0 : Tok} {mv : Value} {ns : List Int} {adj : List (Int × List Int)} {out : Option (List (Int × Int))} (C : Cx w A outs base s.heap (n + 8)) (G : GraphG w s.heap x ns adj) (hn6 : ns.length ≤ 6) (h06 : ∀ x ∈ ns, 0 ≤ x ∧ x < 6) (hr6 : In6 (rowsOf adj)) (hM : MArg w s.heap mv ns out)
   (hr1 : ∀ rows, out = some rows → ∀ h' tk' gs, Ext [] s.heap h' → Bare s gs → R (.ok (.ret (.bool (saidB kind adj ns rows)))) { s with heap := h', toks := tk', gens := gs })
   (hr2 : out = none → ∀ h' tk' t, Caught outs s.heap h' → R (.ok (.ret (.str (Str.ofString "refused") t))) { s with heap := h', toks := tk' }) :
   codeAny (model prg w) A (.call (.ref 333) ⟨[.int kind tk0, .ref x, mv], []⟩) R s := by
 refine enter (binds := [(Str.ofString "kind", .int kind tk0), (Str.ofString "graph", .ref x), (Str.ofString "pairs", mv)]) [] (by simp) (by simp) (by simp) C rfl rfl (BindsTo.of_eq rfl) (locs rfl) (fun h₁ L tk Qf Ef hQ S CG => ?_)
 dsimp only [List.map, List.reverse, List.reverseAux, locOf] at S CG
 replace hM : MArg w (hideAll s.heap []) mv ns out := hM.keep hide_nil
 have Gg : GraphG w (hideAll s.heap []) x ns adj := G.ext hide_nil
 refine el_xa (⟨_, rfl⟩ : ∃ g, g = hideAll s.heap []) fun g hg => ?_
 rw [← hg] at S CG hM Gg
 have hsg : ∀ b o, s.heap.get? b = some o → g.get? b = some o := fun b o e => by rw [hg]; exact hide_nil b o e
 walk_at "mm"
 refine wpAny_Try_except ?_
 walk_at "mm"
 refine PyProof.Rows.eq_int ?_
 walk_at "mm"
 by_cases hk0 : kind = 0
 · refine ite_yes (by simp [hk0]) ?_
   walk_at "mm"
   refine wpAny_call (ism_code (CG.push S) (Gg.ext S.keep) (hM.keep S.keep) (fun rows e h2 tk2 hx => ?_) fun e0 e h2 tk2 hz => ?_)
   · have := hr1 rows e h2 tk2 s.gens (Ext.of_keep fun b o e => hx.keep b o (S.keep b o (hsg b o e))) fun z => z
     rw [saidB, if_pos hk0] at this
     exact hQ _ _ this
   · refine rz_catch CG S hz (by rfl) (kts44 w) fun h3 hn3 k3 u3 => ?_
     walk_at "mm"
     exact hQ _ _ (hr2 e0 _ _ _ (caught_out CG S hsg k3 u3))
 refine ite_no (by simp [hk0]) ?_
 walk_at "mm"
 refine PyProof.Rows.eq_int ?_
 walk_at "mm"
 by_cases hk1 : kind = 1
 · refine ite_yes (by simp [hk1]) ?_
   walk_at "mm"
   refine wpAny_call (isx_code (CG.push S) (Gg.ext S.keep) hn6 h06 hr6 (hM.keep S.keep) (fun rows e h2 tk2 gs hx hgs => ?_) fun e0 e h2 tk2 hz => ?_)
   · have := hr1 rows e h2 tk2 gs (Ext.of_keep fun b o e => hx.keep b o (S.keep b o (hsg b o e))) hgs
     rw [saidB, if_neg hk0, if_pos hk1] at this
     exact hQ _ _ this
   · refine rz_catch CG S hz (by rfl) (kts44 w) fun h3 hn3 k3 u3 => ?_
     walk_at "mm"
     exact hQ _ _ (hr2 e0 _ _ _ (caught_out CG S hsg k3 u3))
 refine ite_no (by simp [hk1]) ?_
 walk_at "mm"
 refine wpAny_call (isp_code (CG.push S) (Gg.ext S.keep) (by lia) (hM.keep S.keep) (fun rows e h2 tk2 hx => ?_) fun e0 e h2 tk2 hz => ?_)
 · have := hr1 rows e h2 tk2 s.gens (Ext.of_keep fun b o e => hx.keep b o (S.keep b o (hsg b o e))) fun z => z
   rw [saidB, if_neg hk0, if_neg hk1] at this
   exact hQ _ _ this
 · refine rz_catch CG S hz (by rfl) (kts44 w) fun h3 hn3 k3 u3 => ?_
   walk_at "mm"
   exact hQ _ _ (hr2 e0 _ _ _ (caught_out CG S hsg k3 u3))
end
section
variable {w : World} {A A' : Around} {outs : List Env} {base : Heap} {n m : Nat} {s s' : Shared} {E : Value → Shared → Prop} {g h h0 : Heap} {L a e : Addr} {l : Loc} {N : List (Addr × Obj)} {name : Str} {scope : Scope} {cd : Value} {R : Result → Shared → Prop}
theorem setof_code {d : Addr} {kvs : List (Int × Value)} {ps : List (Int × Int)} (C : Cx w A outs base s.heap (n + 2)) (hd : s.heap.DictOf (ik w) d kvs) (lo : (d == sysModules) = false) (iv : IntVals kvs ps)
   (dm : ∀ p ∈ ps, [p.1, p.2] ∈ dom ∧ [p.2, p.1] ∈ dom) (h4 : (mds ps).length ≤ 4) (hk : (∀ p ∈ ps, p.1 ≠ p.2) ∨ ∃ k, ps = [(k, k)])
   (hr1 : (∀ p ∈ ps, p.1 ≠ p.2) → ∀ h' tk' T o Cs, Ext [] s.heap h' → s.heap.get? T = none → h'.get? T = some o → PS w h' o Cs → (Cs.map (·.1)).Perm ((mds ps).map ks2) → TP h' Cs → R (.ok (.ret (.ref T))) { s with heap := h', toks := tk' })
   (hr2 : (∃ k, ps = [(k, k)]) → ∀ h' tk', Caught outs s.heap h' → R (.ok (.ret .none)) { s with heap := h', toks := tk' }) :
   codeAny (model prg w) A (.call (.ref 350) ⟨[.ref d], []⟩) R s := by
 refine enter (binds := [(Str.ofString "table", .ref d)]) [] (by simp) (by simp) (by simp) C rfl rfl (BindsTo.of_eq rfl) (locs rfl) (fun h₁ L tk Qf Ef hQ S CG => ?_)
 dsimp only [List.map, List.reverse, List.reverseAux, locOf] at S CG
 replace hd : (hideAll s.heap []).DictOf (ik w) d kvs := hd.keep hide_nil
 refine el_xa (⟨_, rfl⟩ : ∃ g, g = hideAll s.heap []) fun g hg => ?_
 rw [← hg] at S CG hd
 have hsg : ∀ b o, s.heap.get? b = some o → g.get? b = some o := fun b o e => by rw [hg]; exact hide_nil b o e
 have hsk : ∀ b o, s.heap.get? b = some o → h₁.get? b = some o := fun b o e => S.keep b o (hsg b o e)
 walk_at "mm"
 refine wpAny_Try_except ?_
 walk_at "mm"
 refine wpAny_call (mds_code (CG.push S) (hd.keep S.keep) lo iv dm h4 hk (fun hnl h2 tk2 T o Cs hx T0 hT P hp hTP => ?_) fun hb e h2 tk2 hz => ?_)
 · exact hQ _ _ (hr1 hnl h2 tk2 T o Cs (Ext.of_keep fun b o e => hx.keep b o (hsk b o e)) (none_sub hsk T0) hT P hp hTP)
 · refine rz_catch CG S hz (by rfl) (kts44 w) fun h3 hn3 k3 u3 => ?_
   walk_at "mm"
   exact hQ _ _ (hr2 hb _ _ (caught_out CG S hsg k3 u3))
end
section
open PySem.Spec PySem.SeqAt
/-! ## lists of pairs as data -/
abbrev pd (e : Int × Int) : PyData := .tuple [.int e.1, .int e.2]
theorem rows_reads {h : Heap} : ∀ {vs : List Value} {rows : List (Int × Int)}, Rows2 h vs rows → ReadsAll h vs (rows.map pd) []
 | _, _, .nil => .nil
 | _, _, .cons a r => ReadsAll.cons (as := []) (bs := []) (.tuple a rfl rfl (ReadsAll.cons (as := []) (bs := []) (.int _ _) (ReadsAll.cons (as := []) (bs := []) (.int _ _) .nil))) (rows_reads r)
theorem ints_reads {h : Heap} {vs : List Value} {ns : List Int} (x : IntsAre vs ns) : ReadsAll h vs (ns.map .int) [] := by
 induction x with
 | nil => exact .nil
 | cons n t r ih => exact ReadsAll.cons (as := []) (bs := []) (.int _ _) ih
theorem rowsL {h : Heap} {D : Addr} {vs : List Value} {c : Nat} {rows : List (Int × Int)} (e : h.get? D = some (W.listOf vs.toArray c)) (r : Rows2 h vs rows) : Reads h (.ref D) (.list (rows.map pd)) [D] := .list e rfl rfl (rows_reads r)
theorem intsL {h : Heap} {D : Addr} {vs : List Value} {c : Nat} {ns : List Int} (e : h.get? D = some (W.listOf vs.toArray c)) (r : IntsAre vs ns) : Reads h (.ref D) (.list (ns.map .int)) [D] := .list e rfl rfl (ints_reads r)
theorem pdR {h : Heap} {T : Addr} {u v : Int} {t1 t2 : Tok} (e : h.get? T = some (tupOf [.int u t1, .int v t2])) : Reads h (.ref T) (pd (u, v)) [] := .tuple e rfl rfl (ReadsAll.cons (as := []) (bs := []) (.int _ _) (ReadsAll.cons (as := []) (bs := []) (.int _ _) .nil))
theorem lay_pds : ∀ rows : List (Int × Int), PyData.canLayAll0 (rows.map pd) = true
 | [] => rfl
 | e :: r => by rw [List.map_cons, PyData.canLayAll0, lay_pds r]; rfl
theorem depth_pds : ∀ rows : List (Int × Int), PyData.depthAll (rows.map pd) ≤ 1
 | [] => by simp [PyData.depthAll]
 | e :: r => by
   have := depth_pds r
   rw [List.map_cons, PyData.depthAll]
   have e1 : PyData.depth (pd e) = 1 := rfl
   lia
theorem shaped_pds (rows : List (Int × Int)) : shaped (.list (rows.map pd)) = true := by
 unfold shaped
 rw [Bool.and_eq_true]
 refine ⟨by rw [PyData.canLay0]; exact lay_pds rows, decide_eq_true ?_⟩
 have := depth_pds rows
 rw [PyData.depth]; lia
theorem lay_ints : ∀ ns : List Int, PyData.canLayAll0 (ns.map .int) = true
 | [] => rfl
 | e :: r => by rw [List.map_cons, PyData.canLayAll0, lay_ints r]; rfl
theorem depth_ints : ∀ ns : List Int, PyData.depthAll (ns.map .int) = 0
 | [] => by simp [PyData.depthAll]
 | e :: r => by rw [List.map_cons, PyData.depthAll, depth_ints r]; rfl
theorem shaped_ints (ns : List Int) : shaped (.list (ns.map .int)) = true := by
 unfold shaped
 rw [Bool.and_eq_true]
 refine ⟨by rw [PyData.canLay0]; exact lay_ints ns, decide_eq_true ?_⟩
 rw [PyData.depth, depth_ints]; lia
theorem shaped_pd (e : Int × Int) : shaped (pd e) = true := rfl
theorem same_pd (a b : Int × Int) : Spec.same (pd a) (pd b) = decide (a = b) := by
 have h : Spec.same (pd a) (pd b) = ((a.1 == b.1) && (a.2 == b.2)) := by
   simp [Spec.same, Spec.sameAll]
 rw [h]
 obtain ⟨a1, a2⟩ := a
 obtain ⟨b1, b2⟩ := b
 by_cases q1 : a1 = b1 <;> by_cases q2 : a2 = b2 <;> simp [q1, q2]
theorem count_pd (e : Int × Int) : ∀ rows : List (Int × Int), (Spec.countIn (pd e) (rows.map pd) ≠ 0) ↔ e ∈ rows
 | [] => by simp [Spec.countIn]
 | y :: r => by
   have ih := count_pd e r
   have h0 := countIn_ge0 (pd e) (r.map pd)
   rw [List.map_cons, Spec.countIn, same_pd, List.mem_cons, ← ih]
   by_cases q : y = e
   · subst q; simp; lia
   · simp [q, Ne.symm q]
theorem count_int (e : Int) : ∀ ns : List Int, (Spec.countIn (.int e) (ns.map .int) ≠ 0) ↔ e ∈ ns
 | [] => by simp [Spec.countIn]
 | y :: r => by
   have ih := count_int e r
   have h0 := countIn_ge0 (.int e) (r.map .int)
   have hs : Spec.same (.int y) (.int e) = decide (y = e) := by simp [Spec.same]; rfl
   rw [List.map_cons, Spec.countIn, hs, List.mem_cons, ← ih]
   by_cases q : y = e
   · subst q; simp; lia
   · simp [q, Ne.symm q]
theorem mix_pd (e : Int × Int) (rows : List (Int × Int)) : ∀ y ∈ rows.map pd, noMix y (pd e) = true := fun y hy => by
 refine el_xaa (List.mem_map.mp hy) fun r _ hsb2 => ?_
 subst hsb2
 rfl
theorem mix_int (e : Int) (ns : List Int) : ∀ y ∈ ns.map PyData.int, noMix y (.int e) = true := fun y hy => by
 refine el_xaa (List.mem_map.mp hy) fun r _ hsb2 => ?_
 subst hsb2
 rfl
theorem eqv_pds : ∀ a b : List (Int × Int), PyData.eqv (.list (a.map pd)) (.list (b.map pd)) = decide (a = b) := by
 have key : ∀ a b : List (Int × Int), PyData.eqvAll (a.map pd) (b.map pd) = decide (a = b) := by
   intro a
   induction a with
   | nil => intro b; cases b <;> simp [PyData.eqvAll]
   | cons x r ih =>
     intro b
     cases b with
     | nil => simp [PyData.eqvAll]
     | cons y t =>
       have e : PyData.eqv (pd x) (pd y) = decide (x = y) := by rw [← same_eq_eqv _ _ rfl, same_pd]
       rw [List.map_cons, List.map_cons, PyData.eqvAll, ih, e]
       by_cases q1 : x = y <;> by_cases q2 : r = t <;> simp [q1, q2]
 intro a b
 rw [PyData.eqv, key]
theorem eqv_ints : ∀ a b : List Int, PyData.eqv (.list (a.map .int)) (.list (b.map .int)) = decide (a = b) := by
 have key : ∀ a b : List Int, PyData.eqvAll (a.map .int) (b.map .int) = decide (a = b) := by
   intro a
   induction a with
   | nil => intro b; cases b <;> simp [PyData.eqvAll]
   | cons x r ih =>
     intro b
     cases b with
     | nil => simp [PyData.eqvAll]
     | cons y t =>
       have e : PyData.eqv (.int x) (.int y) = decide (x = y) := by simp [PyData.eqv]; rfl
       rw [List.map_cons, List.map_cons, PyData.eqvAll, ih, e]
       by_cases q1 : x = y <;> by_cases q2 : r = t <;> simp [q1, q2]
 intro a b
 rw [PyData.eqv, key]
section
variable {w : World} {A A' : Around} {outs outs₂ : List Env} {base : Heap} {n m : Nat} {s s' : Shared} {E : Value → Shared → Prop} {g h h0 : Heap} {L a e : Addr} {l : Loc} {N N' : List (Addr × Obj)}
theorem Cx.deep65 (C : Cx w A outs base h (n + 1)) (env : Env) : (A.deeper env).units + 65 < cLine := by
 have h2 := C.room
 show A.units + 3 + 65 < 9900
 lia
theorem notInRows {D : Addr} {x : Value} {vs : List Value} {c : Nat} {rows : List (Int × Int)} {e : Int × Int} {Q : Value → Shared → Prop} (hu : A.units + 65 < cLine) (hD : s.heap.get? D = some (W.listOf vs.toArray c)) (r : Rows2 s.heap vs rows) (hx : Reads s.heap x (pd e) [])
   (h : Q (.bool !(decide (e ∈ rows))) s) : wpAny (model prg w) A (compareOp .NotIn x (.ref D)) Q E s :=
 notIn_list_dataH (rowsL hD r) hx (shaped_pds rows) (shaped_pd e) hu (mix_pd e rows) (by
   have : decide (Spec.countIn (pd e) (rows.map pd) ≠ 0) = decide (e ∈ rows) := decide_eq_decide.mpr (count_pd e rows)
   rw [this]; exact h)
theorem notInInts {D : Addr} {k : Int} {t : Tok} {vs : List Value} {c : Nat} {ns : List Int} {Q : Value → Shared → Prop} (hu : A.units + 65 < cLine) (hD : s.heap.get? D = some (W.listOf vs.toArray c)) (r : IntsAre vs ns)
   (h : Q (.bool !(decide (k ∈ ns))) s) : wpAny (model prg w) A (compareOp .NotIn (.int k t) (.ref D)) Q E s :=
 notIn_list_dataH (intsL hD r) (.int k t) (shaped_ints ns) rfl hu (mix_int k ns) (by
   have : decide (Spec.countIn (.int k) (ns.map .int) ≠ 0) = decide (k ∈ ns) := decide_eq_decide.mpr (count_int k ns)
   rw [this]; exact h)
theorem neRows {D D2 : Addr} {vs vs2 : List Value} {c c2 : Nat} {r1 r2 : List (Int × Int)} {Q : Value → Shared → Prop} (hu : A.units + 64 < cLine) (hD : s.heap.get? D = some (W.listOf vs.toArray c)) (R1 : Rows2 s.heap vs r1) (hD2 : s.heap.get? D2 = some (W.listOf vs2.toArray c2)) (R2 : Rows2 s.heap vs2 r2)
   (h : Q (.bool !(decide (r1 = r2))) s) : wpAny (model prg w) A (compareOp .NotEq (.ref D) (.ref D2)) Q E s :=
 ne_dataH (rowsL hD R1) (rowsL hD2 R2) (shaped_pds _) (shaped_pds _) hu (by rw [eqv_pds]; exact h)
theorem neInts {D D2 : Addr} {vs vs2 : List Value} {c c2 : Nat} {r1 r2 : List Int} {Q : Value → Shared → Prop} (hu : A.units + 64 < cLine) (hD : s.heap.get? D = some (W.listOf vs.toArray c)) (R1 : IntsAre vs r1) (hD2 : s.heap.get? D2 = some (W.listOf vs2.toArray c2)) (R2 : IntsAre vs2 r2)
   (h : Q (.bool !(decide (r1 = r2))) s) : wpAny (model prg w) A (compareOp .NotEq (.ref D) (.ref D2)) Q E s :=
 ne_dataH (intsL hD R1) (intsL hD2 R2) (shaped_ints _) (shaped_ints _) hu (by rw [eqv_ints]; exact h)
theorem eqInts {D D2 : Addr} {vs vs2 : List Value} {c c2 : Nat} {r1 r2 : List Int} {Q : Value → Shared → Prop} (hu : A.units + 64 < cLine) (hD : s.heap.get? D = some (W.listOf vs.toArray c)) (R1 : IntsAre vs r1) (hD2 : s.heap.get? D2 = some (W.listOf vs2.toArray c2)) (R2 : IntsAre vs2 r2)
   (h : Q (.bool (decide (r1 = r2))) s) : wpAny (model prg w) A (compareOp .Eq (.ref D) (.ref D2)) Q E s :=
 eq_dataH (intsL hD R1) (intsL hD2 R2) (shaped_ints _) (shaped_ints _) hu (by rw [eqv_ints]; exact h)
theorem addLF {D D2 : Addr} {vs ws : List Value} {c c2 : Nat} {Q : Value → Shared → Prop} (S : St g L s.heap l N) (hl : s.heap.get? D = some (W.listOf vs.toArray c)) (hb : s.heap.get? D2 = some (W.listOf ws.toArray c2)) (hsz : vs.length + ws.length ≤ 1000)
   (h : ∀ a h', St g L h' l ((a, W.listOf (vs ++ ws).toArray 0) :: N) → (∀ b o, s.heap.get? b = some o → h'.get? b = some o) → Q (.ref a) { s with heap := h' }) : wpAny (model prg w) A (binaryOp .Add (.ref D) (.ref D2)) Q E s := by
 refine PySem.P.add_list hl hb ?_ (by rw [sizeLine_eq]; simp only [List.size_toArray]; lia)
 have e : vs.toArray ++ ws.toArray = (vs ++ ws).toArray := by simp
 rw [e]
 exact h _ _ (S.add (a := s.heap.objs.size) (o := W.listOf (vs ++ ws).toArray 0) (fun b o e => Heap.get?_push_of_some _ e) (Heap.get?_push_size _ rfl) (get_size _)) fun b o e => Heap.get?_push_of_some _ e
theorem subT {value slice : PySem.Expr} {T : Addr} {xs : Array Value} {k : Int} {u : Tok} {v : Value} {j : Nat} {Q : Value → Shared → Prop} (hT : s.heap.IsTuple T xs) (hlo : -(2 ^ 63) ≤ k) (hhi : k < 2 ^ 63) (hj : seqIndex? k xs.size = some j) (hx : xs[j]? = some v) (h : Q v s)
   (hs : subscripted slice false (.ref T) (.int k u) = operate [.ref T, .int k u] (getItem (.ref T) (.int k u)) := by first | exact sub_const | exact sub_name | rfl) :
   wpAny (model prg w) A (subscriptTail value slice (.ref T) (.int k u)) Q E s :=
 tail_any (isTup_of hT).typeIs PyProof.Rows.slot_tuple_getitem.lookup (getItem_tuple (isTup_of hT) hlo hhi hj hx h) hs
theorem stC {env : Env} {x : Str} {v : Value} {v₀ : Option Value} {c : Addr} {o : Obj} {Q : Unit → Shared → Prop} (S : St g L s.heap l N) (hc : env.cells.lookup x = some c) (hm : (c, o) ∈ N) (ho : o.data = .cell v₀) (Nf : Obj → List (Addr × Obj)) (U : ∀ o', UpN c o o' N (Nf o'))
   (h : ∀ o' h', o'.data = .cell (some v) → St g L h' l (Nf o') → Q () { s with heap := h' }) (hk : env.scope.kind = .function := by rfl) (hl : env.kindOf x = some .cell := by rfl) : wpAny (model prg w) A (storeName env x v) Q E s :=
 wpAny_storeName_cell hk hl hc ⟨o, S.get hm, ho⟩ fun h' ⟨o', e', d'⟩ hs => h o' h' d' (S.turn (U o') hs e')
theorem nmF {env : Env} {x : Str} {v : Value} {c : Addr} {o : Obj} {pos : Pos} {Q : Value → Shared → Prop} (hc : env.cells.lookup x = some c) (hg : s.heap.get? c = some o) (ho : o.data = .cell (some v)) (h : Q v s)
   (hk : env.scope.kind = .function := by rfl) (hl : env.kindOf x = some .cell := by rfl) (hd : (x == ("__debug__" : Str)) = false := by decide) : wpAny (model prg w) A (eval (.Name x pos) env) Q E s :=
 wpAny_Name (wpAny_loadName_cell hk hl hc ⟨o, hg, ho⟩ h) hd
end
end
theorem dedup_le : ∀ (ns acc : List Int), (ns.foldl step_dedup acc).length ≤ acc.length + ns.length
 | [], _ => Nat.le_refl _
 | k :: r, acc => by
   have := dedup_le r (step_dedup acc k)
   have h : (step_dedup acc k).length ≤ acc.length + 1 := by
     unfold step_dedup; split <;> simp
   rw [List.foldl_cons, List.length_cons]; lia
theorem dedup_len : ∀ (ns acc : List Int), (ns.foldl step_dedup acc).length = acc.length + ns.length ↔ (ns.Nodup ∧ ∀ x ∈ ns, x ∉ acc)
 | [], acc => by simp
 | k :: r, acc => by
   rw [List.foldl_cons, List.length_cons, List.nodup_cons]
   by_cases hk : k ∈ acc
   · have e : step_dedup acc k = acc := by
       unfold step_dedup
       rw [if_pos (by simpa using hk)]
     have := dedup_le r acc
     rw [e]
     constructor
     · intro h; lia
     · intro h; exact absurd hk (h.2 k (.head _))
   · have e : step_dedup acc k = acc ++ [k] := by
       unfold step_dedup
       rw [if_neg (by simpa using hk)]
     rw [e]
     have ih := dedup_len r (acc ++ [k])
     rw [List.length_append, List.length_singleton] at ih
     rw [show acc.length + (r.length + 1) = acc.length + 1 + r.length from by lia, ih]
     constructor
     · refine elc_aa fun h1 h2 => ?_
       refine ⟨⟨fun m => h2 k m (by simp), h1⟩, fun x hx => ?_⟩
       rcases List.mem_cons.mp hx with rfl | hx
       · exact hk
       · exact fun m => h2 x hx (List.mem_append_left _ m)
     · rintro ⟨⟨h1, h2⟩, h3⟩
       refine ⟨h2, fun x hx m => ?_⟩
       rcases List.mem_append.mp m with m | m
       · exact h3 x (.tail _ hx) m
       · rw [List.mem_singleton.mp m] at hx; exact h1 hx
theorem firstMet_full (ns : List Int) : firstMet (fun i => ns.getD i 0) ns.length = ns.foldl step_dedup [] := by
 unfold firstMet
 have : (List.range ns.length).map (fun i => ns.getD i 0) = ns := by
   apply List.ext_getElem
   · simp
   · intro i h1 h2
     simp at h1
     simp [List.getD, h1]
 rw [this]
theorem firstMet_nd (ns : List Int) : ((firstMet (fun i => ns.getD i 0) ns.length).length = ns.length) ↔ ns.Nodup := by
 rw [firstMet_full]
 have := dedup_len ns []
 simpa using this
noncomputable def bads (edges rows : List (Int × Int)) : List (Int × Int) := rows.filter fun e => decide (e.1 = e.2 ∨ (e ∉ edges ∧ (e.2, e.1) ∉ edges))
noncomputable def frees (edges rows : List (Int × Int)) : List (Int × Int) := edges.filter fun e => decide (e.1 ≠ e.2 ∧ e.1 ∉ nodesOf rows ∧ e.2 ∉ nodesOf rows)
noncomputable def dueB (kind nn : Int) (edges rows : List (Int × Int)) : Bool :=
 if bads edges rows ≠ [] ∨ ¬ (nodesOf rows).Nodup then false else if kind = 1 then decide (frees edges rows = []) else decide (kind = 0 ∨ ((nodesOf rows).length : Int) = nn)
section
variable {w : World} {A A' : Around} {outs : List Env} {base : Heap} {n m : Nat} {s s' : Shared} {E : Value → Shared → Prop} {R : Result → Shared → Prop} {g : Heap} {L : Addr} {l : Loc} {N : List (Addr × Obj)}
theorem due_code {ex rx : Addr} {kind nn : Int} {tk0 tk1 : Tok} {ev rv : List Value} {ce cr : Nat} {edges rows : List (Int × Int)} (C : Cx w A outs base s.heap (n + 8)) (hex : s.heap.get? ex = some (W.listOf ev.toArray ce)) (hE : Rows2 s.heap ev edges) (hrx : s.heap.get? rx = some (W.listOf rv.toArray cr)) (hR : Rows2 s.heap rv rows)
   (hl1 : edges.length ≤ 100) (hl2 : rows.length ≤ 100) (h : ∀ h' tk', Ext [] s.heap h' → R (.ok (.ret (.bool (dueB kind nn edges rows)))) { s with heap := h', toks := tk' }) :
   codeAny (model prg w) A (.call (.ref 338) ⟨[.int kind tk0, .int nn tk1, .ref ex, .ref rx], []⟩) R s := by
 refine enterX (binds := [(Str.ofString "kind", .int kind tk0), (Str.ofString "n", .int nn tk1), (Str.ofString "edges", .ref ex), (Str.ofString "rows", .ref rx)]) [] (by simp) (by simp) (by simp) C rfl rfl (BindsTo.of_eq rfl) rfl (by decide) [("rows", some (.ref rx)), ("n", some (.int nn tk1)), ("kind", some (.int kind tk0))] (fun L => ?_) (fun h₁ L tk cells Qf Ef hQ hc S CG => ?_)
 case refine_1 =>
   rw [← lk_store, ← lk_store, ← lk_store]
   rfl
 refine el_xxaaa (CellsAre.two hc) fun oc oc' hsb2 hoc hoc' => ?_
 subst hsb2
 clear hc
 have hoc : oc.data = .cell none := hoc
 have hoc' : oc'.data = .cell (some (.ref ex)) := hoc'
 dsimp only [List.map, List.append] at S CG
 replace S : St (hideAll s.heap []) L h₁ [("rows", some (.ref rx)), ("n", some (.int nn tk1)), ("kind", some (.int kind tk0))] [(L + 1 + 1, oc), (L + 1, oc')] := S
 replace hex : (hideAll s.heap []).get? ex = _ := hide_nil _ _ hex
 replace hrx : (hideAll s.heap []).get? rx = _ := hide_nil _ _ hrx
 replace hE := hE.mono hide_nil
 replace hR := hR.mono hide_nil
 refine el_xa (⟨_, rfl⟩ : ∃ g, g = hideAll s.heap []) fun g hg => ?_
 rw [← hg] at S CG hex hrx hE hR
 have hsg : ∀ b o, s.heap.get? b = some o → g.get? b = some o := fun b o e => by rw [hg]; exact hide_nil b o e
 have hlR := hR.len
 have hlE := hE.len
 walk_at "mm"
 refine newL S fun Nd0 hh2 S _ _ _ => ?_
 walk_at "mm"
 refine stC S (c := L + 1 + 1) (by rfl) (.tail _ (.head _)) hoc (fun o' => [(Nd0, W.listOf ([] : List Value).toArray 0), (L + 1 + 1, o'), (L + 1, oc')]) (fun o' => .tail .head) fun o1 hh3 ho1 S => ?_
 refine el_xaaa (S.freeze1) fun g1 S k1 hN0 => ?_
 have CG1 := CG.keeps k1
 walk_at "mm"
 replace S := St.relist (l' := [("v", none), ("u", none), ("rows", some (.ref rx)), ("n", some (.int nn tk1)), ("kind", some (.int kind tk0))]) S (by rfl)
 refine for_src (E' := fun _ _ => False) (fun i l N' G' => ∃ x1 x2 o1 Nd vs c, l = ([("v", x1), ("u", x2), ("rows", some (.ref rx)), ("n", some (.int nn tk1)), ("kind", some (.int kind tk0))] : Loc) ∧
   N' = [(L + 1 + 1, o1), (L + 1, oc')] ∧ o1.data = .cell (some (.ref Nd)) ∧ G'.get? Nd = some (W.listOf (List.toArray vs) c) ∧ IntsAre vs (nodesOf (rows.take i)))
   (Src.list CG1.hand ⟨_, k1 _ _ hrx, rfl, _, rfl⟩) S (in_x6 _ _ _ _ [] _ ⟨rfl, rfl, ho1, hN0, .nil⟩) ?_ ?_ (fun _ _ z => z.elim)
 case refine_1 =>
   intro Jq Ji i v l N' G' h6 tk6 gb Bq hlt hP hJ kG k3 S HB
   refine el_xxxxxxaaaaa hJ fun x1 x2 o1 Nd vs c hsb6 hsb7 ho1 hNd hvs => ?_
   try clear hJ
   replace S := St.at2 hsb6 hsb7 S
   refine el_xxxxxaaa (hR.at hP) fun T u v t1 t2 hsb5 hri hT => ?_
   subst hsb5
   have CG2 := CG1.keeps fun b o e => k3 b o (kG b o e)
   have kb : ∀ b o, g.get? b = some o → gb.get? b = some o := fun b o e => k3 b o (kG b o (k1 b o e))
   have hvl := hvs.length
   rw [nodesOf_len, List.length_take] at hvl
   have hlt2 : i < rows.length := (List.getElem?_eq_some_iff.mp hri).1
   refine asg2 CG2.hand S ⟨_, S.keep _ _ (kb _ _ hT), rfl, _, rfl⟩ fun h7 tk7 S => ?_
   walk_at "mm"
   refine newL S fun D2 h8 S _ hD2 _ => ?_
   walk_at "mm"
   refine addLF S (S.keep _ _ (k3 _ _ hNd)) hD2 (by simp; lia) fun Nd2 h9 S _ => ?_
   walk_at "mm"
   refine stC S (c := L + 1 + 1) (by rfl) (.tail _ (.tail _ (.head _))) ho1 (fun o' => [(Nd2, W.listOf (vs ++ [Value.int u t1, Value.int v t2]).toArray 0), (D2, W.listOf [Value.int u t1, Value.int v t2].toArray 0), (L + 1 + 1, o'), (L + 1, oc')]) (fun o' => .tail (.tail .head)) fun o2 h10 ho2 S => ?_
   walk_at "mm"
   replace S := St.relist (l' := [("v", some (.int v t2)), ("u", some (.int u t1)), ("rows", some (.ref rx)), ("n", some (.int nn tk1)), ("kind", some (.int kind tk0))]) S (by rfl)
   refine HB _ _ (BodyEnd.nx [_, _] S fun G2 k4 k5 => Ji _ _ _ _ (in_x6 _ _ _ Nd2 _ _ ⟨rfl, rfl, ho2, k5 (Nd2, _) (.head _), ?_⟩))
   rw [take_next hri, nodesOf_snoc]
   exact hvs.append (.cons _ _ (.cons _ _ .nil))
 intro l N' G' h6 tk6 hJ kG S
 refine el_xxxxxxaaaaa hJ fun x1 x2 o1 Nd vs c hsb6 hsb7 ho1 hNd hvs => ?_
 try clear hJ
 replace S := St.at2 hsb6 hsb7 S
 rw [List.take_of_length_le (by rw [List.size_toArray, hlR]; exact Nat.le_refl _)] at hvs
 refine el_xaaa (S.freeze1) fun g2 S k2 hc2 => ?_
 refine el_xaaa (S.freeze1) fun g3 S k3 hc1 => ?_
 replace hc2 := k3 _ _ hc2
 dsimp only at hc1 hc2
 have kg3 : ∀ b o, g.get? b = some o → g3.get? b = some o := fun b o e => k3 b o (k2 b o (kG b o (k1 b o e)))
 have hNd3 := k3 _ _ (k2 _ _ hNd)
 have CG3 := CG.keeps kg3
 have hR3 := hR.mono kg3
 have hE3 := hE.mono kg3
 walk_at "mm"
 refine comp_src (fun i acc G' => Rows2 G' acc (bads edges (rows.take i))) (Src.list CG3.hand ⟨_, kg3 _ _ hrx, rfl, _, rfl⟩) S .nil (by rw [List.size_toArray, sizeLine_eq]; lia) ?_ ?_
 case refine_1 =>
   intro i v acc G' Cm h7 l1 tk7 F hlt hal hP hJ kG7 k7 S
   refine el_xxxxxaaa (hR3.at hP) fun T u v t1 t2 hsb5 hri hT => ?_
   subst hsb5
   have kb : ∀ b o, g3.get? b = some o → (hideAll h7 [Cm]).get? b = some o := fun b o e => k7 b o (kG7 b o e)
   have CG7 := CG3.keeps kb
   have bstep : bads edges (rows.take (i + 1)) = bads edges (rows.take i) ++ bads edges [(u, v)] := by rw [take_next hri]; exact List.filter_append ..
   have yes : (u = v ∨ ((u, v) ∉ edges ∧ (v, u) ∉ edges)) → ∀ G2 : Heap, (∀ b o, G'.get? b = some o → G2.get? b = some o) → Rows2 G2 (acc ++ [.ref T]) (bads edges (rows.take (i + 1))) := fun q G2 k8 => by
     rw [bstep, show bads edges [(u, v)] = [(u, v)] from by simp only [bads, List.filter_cons, List.filter_nil]; rw [if_pos (decide_eq_true q)]]
     exact (hJ.mono k8).snoc (k8 _ _ (kG7 _ _ hT))
   have no : ¬ (u = v ∨ ((u, v) ∉ edges ∧ (v, u) ∉ edges)) → ∀ G2 : Heap, (∀ b o, G'.get? b = some o → G2.get? b = some o) → Rows2 G2 acc (bads edges (rows.take (i + 1))) := fun q G2 k8 => by
     rw [bstep, show bads edges [(u, v)] = [] from by simp only [bads, List.filter_cons, List.filter_nil]; rw [if_neg (by simpa using q)], List.append_nil]
     exact hJ.mono k8
   walk_at "mm"
   refine subT ⟨_, S.keep _ _ (kb _ _ hT), rfl, _, rfl⟩ (by decide) (by decide) (j := 0) (by rfl) (by rfl) ?_
   walk_at "mm"
   refine subT ⟨_, S.keep _ _ (kb _ _ hT), rfl, _, rfl⟩ (by decide) (by decide) (j := 1) (by rfl) (by rfl) ?_
   walk_at "mm"
   refine PyProof.Rows.eq_int ?_
   walk_at "mm"
   by_cases huv : u = v
   · refine ite_yes (by simp [huv]) ?_
     walk_at "mm"
     exact CEnd.mk [] S fun G2 k8 _ => yes (.inl huv) G2 k8
   refine ite_no (by simp [huv]) ?_
   walk_at "mm"
   refine nmF (by rfl) (S.keep _ _ (kb _ _ hc1)) hoc' ?_
   refine notInRows (CG.deep65 _) (S.keep _ _ (kb _ _ (kg3 _ _ hex))) (hE3.mono fun b o e => S.keep b o (kb b o e)) (pdR (S.keep _ _ (kb _ _ hT))) ?_
   walk_at "mm"
   by_cases m1 : (u, v) ∈ edges
   · refine ite_no (by simp [m1]) ?_
     walk_at "mm"
     exact CEnd.mk [] S fun G2 k8 _ => no (by simp [m1, huv]) G2 k8
   refine ite_yes (by simp [m1]) ?_
   walk_at "mm"
   refine subT ⟨_, S.keep _ _ (kb _ _ hT), rfl, _, rfl⟩ (by decide) (by decide) (j := 1) (by rfl) (by rfl) ?_
   walk_at "mm"
   refine subT ⟨_, S.keep _ _ (kb _ _ hT), rfl, _, rfl⟩ (by decide) (by decide) (j := 0) (by rfl) (by rfl) ?_
   walk_at "mm"
   refine newT S fun T2 h8 S _ hT2 _ => ?_
   walk_at "mm"
   refine nmF (by rfl) (S.keep _ _ (kb _ _ hc1)) hoc' ?_
   refine notInRows (CG.deep65 _) (S.keep _ _ (kb _ _ (kg3 _ _ hex))) (hE3.mono fun b o e => S.keep b o (kb b o e)) (pdR hT2) ?_
   walk_at "mm"
   by_cases m2 : (v, u) ∈ edges
   · refine ite_no (by simp [m2]) ?_
     walk_at "mm"
     exact CEnd.mk [_] S fun G2 k8 _ => no (by simp [m2, huv]) G2 k8
   refine ite_yes (by simp [m2]) ?_
   walk_at "mm"
   exact CEnd.mk [_] S fun G2 k8 _ => yes (.inr ⟨m1, m2⟩) G2 k8
 intro D acc G' h7 tk7 hal hJ kG7 S
 rw [List.take_of_length_le (by rw [List.size_toArray, hlR]; exact Nat.le_refl _)] at hJ
 have CG4 := CG3.keeps kG7
 have hsk : ∀ b o, s.heap.get? b = some o → G'.get? b = some o := fun b o e => kG7 b o (kg3 b o (hsg b o e))
 walk_at "mm"
 refine newL S fun D2 h8 S _ hD2 k8 => ?_
 walk_at "mm"
 refine neRows (r2 := []) (Nat.lt_of_succ_lt (CG.deep65 _)) (S.get (.tail _ (.head _))) (hJ.mono S.keep) hD2 .nil ?_
 walk_at "mm"
 have hret : ∀ {hh tk l₂ N₂}, dueB kind nn edges rows = false → St G' L hh l₂ N₂ → Qf (.ret (.bool false)) { s with heap := hh, toks := tk } := fun {hh tk l₂ N₂} q S => hQ _ _ (by
   have := h hh tk (Ext.of_keep fun b o e => S.keep b o (hsk b o e))
   rw [q] at this
   exact this)
 by_cases hb : bads edges rows = []
 case neg =>
   refine ite_yes (by simp [hb]) ?_
   walk_at "mm"
   exact hret (by rw [dueB, if_pos (.inl hb)]) S
 refine ite_no (by simp [hb]) ?_
 walk_at "mm"
 have hc2G : ∀ {hh l₂ N₂}, St G' L hh l₂ N₂ → hh.get? (L + 1 + 1) = some o1 := fun S => S.keep _ _ (kG7 _ _ hc2)
 have hNdG : ∀ {hh l₂ N₂}, St G' L hh l₂ N₂ → hh.get? Nd = some (W.listOf vs.toArray c) := fun S => S.keep _ _ (kG7 _ _ hNd3)
 have hvl := hvs.length
 rw [nodesOf_len] at hvl
 refine nmF (by rfl) (hc2G S) ho1 ?_
 walk_at "mm"
 refine call_set_list (prog := prg) (w := w) CG4.hand (items := vs.toArray) (ns := nodesOf rows) ⟨_, hNdG S, rfl, _, rfl⟩ hvs ?_ fun h9 tk9 hso hk9 => ?_
 · have : 1000 < scanBound := by decide
   simp only [List.size_toArray]; lia
 refine el_xaa (IS.of hso) fun os hos his => ?_
 replace S := S.add (fun b o e => hk9 b o (Heap.lt_size e) e) hos (get_size _)
 have hsize : vs.toArray.size = (nodesOf rows).length := by rw [List.size_toArray, hvs.length]
 refine el_xa (⟨_, rfl⟩ : ∃ k, k = (firstMet (fun i => (nodesOf rows).getD i 0) vs.toArray.size).length) fun kk hkk => ?_
 rw [← hkk] at his
 rw [hsize] at hkk
 walk_at "mm"
 refine lenI S (.head _) his fun u1 tk10 => ?_
 walk_at "mm"
 refine nmF (by rfl) (hc2G S) ho1 ?_
 walk_at "mm"
 refine call_len_list (items := vs.toArray) ⟨_, hNdG S, rfl, _, rfl⟩ (by simp only [List.size_toArray]; lia) ?_
 walk_at "mm"
 refine ne_int ?_
 walk_at "mm"
 rw [hsize]
 by_cases hnd : (nodesOf rows).Nodup
 case neg =>
   refine ite_yes ?_ ?_
   · have := _root_.mt (firstMet_nd (nodesOf rows)).mp hnd
     rw [← hkk] at this
     simp; lia
   walk_at "mm"
   exact hret (by rw [dueB, if_pos (.inr hnd)]) S
 refine ite_no ?_ ?_
 · have := (firstMet_nd (nodesOf rows)).mpr hnd
   rw [← hkk] at this
   simp [this]
 walk_at "mm"
 refine PyProof.Rows.eq_int ?_
 walk_at "mm"
 by_cases hk1 : kind = 1
 · refine ite_yes (by simp [hk1]) ?_
   walk_at "mm"
   refine nmF (by rfl) (S.keep _ _ (kG7 _ _ hc1)) hoc' ?_
   refine comp_src (fun i acc G' => ∃ ms, IntsAre acc ms ∧ (ms = [] ↔ frees (edges.take i) rows = [])) (Src.list CG4.hand ⟨_, kG7 _ _ (kg3 _ _ hex), rfl, _, rfl⟩) S ⟨[], .nil, by simp [frees]⟩ (by rw [List.size_toArray, sizeLine_eq]; lia) ?_ ?_
   case refine_1 =>
     intro i v acc G'' Cm h11 l1 tk11 F hlt hal hP hJ2 kG8 k11 S
     refine el_xxxxxaaa (hE3.at hP) fun T u v t1 t2 hsb5 hri hT => ?_
     subst hsb5
     refine el_xaa hJ2 fun ms hms hmf => ?_
     try clear hJ2
     have kb : ∀ b o, g3.get? b = some o → (hideAll h11 [Cm]).get? b = some o := fun b o e => k11 b o (kG8 b o (kG7 b o e))
     have CG7 := CG3.keeps kb
     have fstep : frees (edges.take (i + 1)) rows = frees (edges.take i) rows ++ frees [(u, v)] rows := by rw [take_next hri]; exact List.filter_append ..
     have no : ¬ (u ≠ v ∧ u ∉ nodesOf rows ∧ v ∉ nodesOf rows) → (ms = [] ↔ frees (edges.take (i + 1)) rows = []) := fun q => by
       rw [fstep, show frees [(u, v)] rows = [] from by simp only [frees, List.filter_cons, List.filter_nil]; rw [if_neg (by simpa using q)], List.append_nil]
       exact hmf
     refine asg2 CG7.hand S ⟨_, S.keep _ _ (kb _ _ hT), rfl, _, rfl⟩ fun h12 tk12 S => ?_
     walk_at "mm"
     refine ne_int ?_
     walk_at "mm"
     by_cases huv : u = v
     · refine ite_no (by simp [huv]) ?_
       walk_at "mm"
       exact CEnd.mk [] S fun G2 k8 _ => ⟨ms, hms, no (by simp [huv])⟩
     refine ite_yes (by simp [huv]) ?_
     walk_at "mm"
     refine nmF (by rfl) (S.keep _ _ (kb _ _ hc2)) ho1 ?_
     refine notInInts (CG.deep65 _) (S.keep _ _ (kb _ _ hNd3)) hvs ?_
     walk_at "mm"
     by_cases hu : u ∈ nodesOf rows
     · refine ite_no (by simp [hu]) ?_
       walk_at "mm"
       exact CEnd.mk [] S fun G2 k8 _ => ⟨ms, hms, no (by simp [hu])⟩
     refine ite_yes (by simp [hu]) ?_
     walk_at "mm"
     refine nmF (by rfl) (S.keep _ _ (kb _ _ hc2)) ho1 ?_
     refine notInInts (CG.deep65 _) (S.keep _ _ (kb _ _ hNd3)) hvs ?_
     walk_at "mm"
     by_cases hv : v ∈ nodesOf rows
     · refine ite_no (by simp [hv]) ?_
       walk_at "mm"
       exact CEnd.mk [] S fun G2 k8 _ => ⟨ms, hms, no (by simp [hv])⟩
     refine ite_yes (by simp [hv]) ?_
     walk_at "mm"
     refine CEnd.mk [] S fun G2 k8 _ => ⟨ms ++ [1], ints_snoc hms _ _, ?_⟩
     rw [fstep, show frees [(u, v)] rows = [(u, v)] from by simp only [frees, List.filter_cons, List.filter_nil]; rw [if_pos (decide_eq_true ⟨huv, hu, hv⟩)]]
     simp
   intro D3 acc3 G3 h13 tk13 hal3 hJ3 kG9 S
   refine el_xaa hJ3 fun ms hms hmf => ?_
   try clear hJ3
   rw [List.take_of_length_le (by rw [List.size_toArray, hlE]; exact Nat.le_refl _)] at hmf
   have CG5 := CG4.keeps kG9
   walk_at "mm"
   refine newL S fun D4 h14 S _ hD4 k14 => ?_
   walk_at "mm"
   refine eqInts (r2 := []) (Nat.lt_of_succ_lt (CG.deep65 _)) (S.get (.tail _ (.head _))) hms hD4 .nil ?_
   have h3 := h h14 tk13 (Ext.of_keep fun b o e => S.keep b o (kG9 b o (hsk b o e)))
   rw [dueB, if_neg (by simp [hb, hnd]), if_pos hk1, decide_eq_decide.mpr hmf.symm] at h3
   exact hQ _ _ h3
 refine ite_no (by simp [hk1]) ?_
 walk_at "mm"
 have h3 := fun hh tk => h hh tk
 rw [dueB, if_neg (by simp [hb, hnd]), if_neg hk1] at h3
 refine PyProof.Rows.eq_int ?_
 walk_at "mm"
 by_cases hk0 : kind = 0
 · refine ite_yes (by simp [hk0]) ?_
   have h4 := h3 h9 (tk10 + 1 + 1 + 1 + 1) (Ext.of_keep fun b o e => S.keep b o (hsk b o e))
   rw [decide_eq_true (.inl hk0)] at h4
   rw [show (kind == 0) = true from by simp [hk0]]
   exact hQ _ _ h4
 refine ite_no (by simp [hk0]) ?_
 walk_at "mm"
 refine nmF (by rfl) (hc2G S) ho1 ?_
 walk_at "mm"
 refine call_len_list (items := vs.toArray) ⟨_, hNdG S, rfl, _, rfl⟩ (by simp only [List.size_toArray]; lia) ?_
 walk_at "mm"
 refine PyProof.Rows.eq_int ?_
 have e1 : ((vs.toArray.size : Int) == nn) = decide (kind = 0 ∨ ((nodesOf rows).length : Int) = nn) := by
   rw [hsize]
   by_cases q : ((nodesOf rows).length : Int) = nn
   · simp [q]
   · simp [q, hk0]
 rw [e1]
 exact hQ _ _ (h3 _ _ (Ext.of_keep fun b o e => S.keep b o (hsk b o e)))
end
section
variable {w : World} {A : Around} {outs : List Env} {base : Heap} {n : Nat} {s : Shared} {E : Value → Shared → Prop}
theorem draw_spec {ax : Addr} {vs : List Value} {ns : List Int} {Q : Value → Shared → Prop}
   (C : Cx w A outs base s.heap (n + 1)) (hL : s.heap.IsList ax vs.toArray) (hi : IntsAre vs ns) (hlen : ns.length ≤ 63)
   (h : ∀ h' tk' D P oD oP, Ext [] s.heap h' → s.heap.get? D = none → s.heap.get? P = none → D ≠ P → h'.get? D = some oD → h'.get? P = some oP → Draw P oD oP → Q (.ref D) { s with heap := h', toks := tk' }) :
   wpAny (model prg w) A (call (.ref 319) [.ref ax]) Q E s := by
 refine enterC (binds := [(Str.ofString "script", .ref ax)]) [] (by simp) (by simp) (by simp) C rfl rfl (BindsTo.of_eq rfl) (locs rfl) (fun h₁ L tk Qf Ef hQ S CG => ?_)
 dsimp only [locOf, List.reverse, List.reverseAux, List.map] at S CG
 walk_at "mm"
 have hL' : (hideAll s.heap []).IsList ax vs.toArray := hL
 replace S := St.relist (l' := [("cell", none), ("seed", some (.int 7 _)), ("script", some (.ref ax))]) S (by rfl)
 refine for_src (E' := fun _ _ => False) (fun i l N G => ∃ sd tk oc, 0 ≤ sd ∧ sd < 2147483647 ∧ N = [] ∧ l = ([("cell", oc), ("seed", some (.int sd tk)), ("script", some (.ref ax))] : Loc)) (Src.list C.hand hL') S (in_x3 _ _ _ ⟨?_, ?_, rfl, rfl⟩) ?_ ?_ (fun _ _ x => x.elim)
 case refine_1 => decide
 case refine_2 => decide
 case refine_3 => 
   intro Jq Ji i v l N G h1 tk1 gb Bq hlt hP hJ k1 k2 S HB
   refine el_xxxaaaa hJ fun sd tk oc h0 h1 hsb5 hsb6 => ?_
   try clear hJ
   subst hsb5
   subst hsb6
   refine el_xxaa (ints_at hi hP) fun c tc hsb2 _ => ?_
   subst hsb2
   have CG' := CG.keeps fun b o e => k2 b o (k1 b o e)
   walk_at "mm"
   with_reducible refine mul_int ?_ (IntMulOk.of_right (b := 48271) (intBits_le_64 (by decide) (by decide)))
   walk_at "mm"
   refine call_abs_int fun ua tka => ?_
   walk_at "mm"
   with_reducible refine mod_int' (by decide) ?_
   with_reducible refine add_int ?_
   walk_at "mm"
   with_reducible refine add_int ?_
   walk_at "mm"
   with_reducible refine mod_int' (by decide) ?_
   walk_at "mm"
   replace S := St.relist (l' := [("cell", some (.int c tc)), ("seed", some (.int _ _)), ("script", some (.ref ax))]) S (by rfl)
   refine HB _ _ (BodyEnd.nx [] S fun G2 k3 _ => Ji _ _ _ _ (in_x3 _ _ _ ⟨fmod_lo _ (by decide), fmod_hi _ (by decide), rfl, rfl⟩))
 intro l N G h2 tk2 hJ k1 S
 refine el_xxxaaaa hJ fun sd tk oc h0 h1 hsb5 hsb6 => ?_
 try clear hJ
 subst hsb5
 subst hsb6
 walk_at "mm"
 refine comp_src (fun i acc G => ∃ ms, IntsAre acc ms) (Src.list C.hand (hL.at fun o e => k1 _ _ e)) S ⟨[], .nil⟩ ?_ ?_ ?_
 case refine_1 => simp only [List.size_toArray]; have := hi.length; rw [sizeLine_eq]; lia
 case refine_2 => 
   intro i v acc G C h1 l₁ tk F hlt hal hP hJ k2 k3 S
   refine el_xxaa (ints_at hi hP) fun c tc hsb2 _ => ?_
   subst hsb2
   have CG' := CG.keeps fun b o e => k3 b o (k2 b o (k1 b o e))
   refine el_xa hJ fun ms hms => ?_
   try clear hJ
   walk_at "mm"
   refine call_abs_int fun ua tka => ?_
   refine CEnd.mk [] S fun G2 k3 _ => ⟨_, ints_snoc hms _ _⟩
 intro D acc G h3 tk3 hal hJ k2 S
 walk_at "mm"
 refine slice_up (items := acc) S rfl (News.isList S.nw (by k_mem)) (by decide) (fun P h4 S => ?_) (hsz := ?_)
 case refine_2 =>
   simp only [List.size_toArray] at hal
   have := hi.length
   rw [sizeLine_eq]
   lia
 walk_at "mm"
 refine newL S fun D h5 S _ _ _ => ?_
 refine el_xa hJ fun ms hms => ?_
 try clear hJ
 have hk : ∀ b o, s.heap.get? b = some o → G.get? b = some o := fun b o e => k2 b o (k1 b o e)
 simp only [List.size_toArray] at hal
 have := hi.length
 have := hms.length
 refine hQ _ _ (h _ _ _ P _ _ (Ext.of_keep fun b o e => S.keep b o (hk b o e)) (none_sub hk (S.none (by k_mem))) (none_sub hk (S.none (by k_mem))) (fun e => ?_) (S.get (by k_mem)) (S.get (by k_mem)) ⟨_, _, _, _, _, _, rfl, rfl, hms.take _, h0, h1, by simp; lia⟩)
 have := S.nd
 simp [e] at this
end
structure RowsOk (nn : Int) (rows : List (Int × Int)) : Prop where
 lt : ∀ e ∈ rows, (0 ≤ e.1 ∧ e.1 < nn) ∧ (0 ≤ e.2 ∧ e.2 < nn)
 nd : rows.Nodup
 sw : rows.Pairwise fun a b => (b.2, b.1) ≠ a
 len : rows.length ≤ 16
structure EdgesOk (nn : Int) (edges : List (Int × Int)) : Prop where
 lt : ∀ e ∈ edges, 0 ≤ e.1 ∧ e.1 ≤ e.2 ∧ e.2 < nn
 nd : edges.Nodup
 n6 : nn ≤ 6
noncomputable def nonl (edges : List (Int × Int)) : List (Int × Int) := edges.filter fun e => decide (e.1 ≠ e.2)
theorem nonl_len {nn : Int} {edges : List (Int × Int)} (X : EdgesOk nn edges) : (nonl edges).length ≤ 15 := by
 have h : ∀ e ∈ nonl edges, e ∈ ((List.range 36).map fun k => (((k / 6 : Nat) : Int), ((k % 6 : Nat) : Int))).filter fun e => decide (e.1 < e.2) := fun e he => by
   refine el_aa (List.mem_filter.mp he) fun h1 h2 => ?_
   have h2 := of_decide_eq_true h2
   refine el_aaa (X.lt e h1) fun a b c => ?_
   have n6 := X.n6
   have a2 : 0 ≤ e.2 := Int.le_trans a b
   refine List.mem_filter.mpr ⟨List.mem_map.mpr ⟨e.1.toNat * 6 + e.2.toNat, List.mem_range.mpr (by lia), ?_⟩, decide_eq_true (by lia)⟩
   have e1 : (e.1.toNat * 6 + e.2.toNat) / 6 = e.1.toNat := by lia
   have e2 : (e.1.toNat * 6 + e.2.toNat) % 6 = e.2.toNat := by lia
   rw [e1, e2, Int.toNat_of_nonneg a, Int.toNat_of_nonneg a2]
 have := nodup_len (X.nd.filter _) h
 have h15 : (((List.range 36).map fun k => (((k / 6 : Nat) : Int), ((k % 6 : Nat) : Int))).filter fun e => decide (e.1 < e.2)).length = 15 := by decide +kernel
 unfold nonl
 lia
noncomputable def keepsK (rows : List (Int × Int)) (k : Nat) : Bool := match rows[k]? with
 | some e => decide (e ∉ rows.take k ∧ (e.2, e.1) ∉ rows.take k)
 | none => false
noncomputable def ded (rows : List (Int × Int)) (k : Nat) : List (Int × Int) := (List.range k).filterMap fun i => if keepsK rows i then rows[i]? else none
theorem ded_succ (rows : List (Int × Int)) (k : Nat) {e : Int × Int} (h : rows[k]? = some e) : ded rows (k + 1) = if e ∉ rows.take k ∧ (e.2, e.1) ∉ rows.take k then ded rows k ++ [e] else ded rows k := by
 unfold ded
 rw [List.range_succ, List.filterMap_append]
 have : keepsK rows k = decide (e ∉ rows.take k ∧ (e.2, e.1) ∉ rows.take k) := by unfold keepsK; rw [h]
 by_cases q : e ∉ rows.take k ∧ (e.2, e.1) ∉ rows.take k
 · rw [if_pos q, List.filterMap_cons, List.filterMap_nil, this, decide_eq_true q, if_pos rfl, h]
 · rw [if_neg q, List.filterMap_cons, List.filterMap_nil, this, decide_eq_false q]; simp
theorem ded_ok {rows : List (Int × Int)} : ∀ {k : Nat}, k ≤ rows.length → (∀ e ∈ ded rows k, e ∈ rows.take k) ∧ (ded rows k).Nodup ∧ (ded rows k).Pairwise (fun a b => (b.2, b.1) ≠ a) ∧ (ded rows k).length ≤ k
 | 0, _ => ⟨(fun e he => by simp [ded] at he), by simp [ded], by simp [ded], by simp [ded]⟩
 | k + 1, h => by
   refine el_aaaa (ded_ok (rows := rows) (k := k) (Nat.le_of_succ_le h)) fun h1 h2 h3 h4 => ?_
   have he : rows[k]? = some rows[k] := List.getElem?_eq_getElem (by lia)
   rw [ded_succ rows k he, take_next he]
   split
   · rename_i q
     refine ⟨fun e he => ?_, ?_, ?_, by rw [List.length_append, List.length_singleton]; lia⟩
     · rcases List.mem_append.mp he with he | he
       · exact List.mem_append_left _ (h1 e he)
       · exact List.mem_append_right _ he
     · rw [List.nodup_append]
       refine ⟨h2, by simp, fun a ha b hb z => ?_⟩
       rw [List.mem_singleton.mp hb] at z
       exact q.1 (z ▸ h1 a ha)
     · rw [List.pairwise_append]
       refine ⟨h3, by simp, fun a ha b hb z => ?_⟩
       rw [List.mem_singleton.mp hb] at z
       exact q.2 (z ▸ h1 a ha)
   · exact ⟨fun e he => List.mem_append_left _ (h1 e he), h2, h3, by lia⟩
section
variable {w : World} {A A' : Around} {outs outs₂ : List Env} {base : Heap} {n m : Nat} {s s' : Shared} {E : Value → Shared → Prop} {R : Result → Shared → Prop} {g h : Heap} {L : Addr} {l : Loc} {N : List (Addr × Obj)}
theorem apartE {env : Env} {b : Addr} {o : Obj} (C : Cx w A outs base g n) (S : St g L h l N) (hm : (b, o) ∈ N) (hf : env.frame = some L) : base.get? b = none ∧ ∀ env' ∈ env :: outs, env'.frame ≠ some b := by
 have hn := S.none hm
 refine ⟨?_, fun env' he q => ?_⟩
 · cases e : base.get? b with
   | none => rfl
   | some o' => rw [C.below.stays _ _ e] at hn; cases hn
 · rcases List.mem_cons.mp he with rfl | he
   · rw [hf] at q; exact (S.nw _ hm).2.1 (Option.some.inj q).symm
   · refine el_axaa (C.below.frames.mem (List.mem_filterMap.mpr ⟨env', he, q⟩)) fun o' _ ho' _ => ?_
     rw [ho'] at hn; cases hn
theorem takeF {env : Env} {D P : Addr} {oD oP : Obj} {tk2 : Tok} {many : Int} {Q : Value → Shared → Prop} (C : Cx w A' outs₂ base g m) (S : St g L s.heap l ((D, oD) :: (P, oP) :: N)) (CA : Cx w A (env :: outs₂) base s.heap (n + 1)) (hf : env.frame = some L) (dr : Draw P oD oP) (hm : 0 < many)
   (h : ∀ h' tk' oD' oP' r u, St g L h' l ((D, oD') :: (P, oP') :: N) → Draw P oD' oP' → 0 ≤ r → r < many → Q (.int r u) { s with heap := h', toks := tk' }) : wpAny (model prg w) A (call (.ref 326) [.ref D, .int many tk2]) Q E s := by
 have hDP : D ≠ P := fun q => by
   have := S.nd
   simp [q] at this
 refine take_spec CA (fun a ha => ?_) (S.get (.head _)) (S.get (.tail _ (.head _))) hDP dr hm fun h' tk' oD' oP' r u hx hD' hP' dr' h0 h1 => ?_
 · rcases List.mem_cons.mp ha with rfl | ha
   · exact apartE C S (.head _) hf
   · rw [List.mem_singleton.mp ha]; exact apartE C S (.tail _ (.head _)) hf
 · have T : Turns [(D, oD), (P, oP)] [(D, oD'), (P, oP')] s.heap h' := ⟨hx, fun p hp => by
     rcases List.mem_cons.mp hp with rfl | hp
     · exact hD'
     · rw [List.mem_singleton.mp hp]; exact hP', fun p hp => .inl (by
     rcases List.mem_cons.mp hp with rfl | hp
     · exact .head _
     · rw [List.mem_singleton.mp hp]; exact .tail _ (.head _)), by simp [hDP]⟩
   exact h h' tk' oD' oP' r u (callSt (N := [(D, oD), (P, oP)]) (N' := [(D, oD'), (P, oP')]) (R := N) S T) dr' h0 h1
noncomputable abbrev rangeO (k : Int) (t u v : Tok) : Obj := { cls := .type "range", data := .fields #[.int 0 t, .int k u, .int 1 v] }
theorem rangeF {k : Int} {t : Tok} {Q : Value → Shared → Prop} (S : St g L s.heap l N)
   (h : ∀ r h' u v, St g L h' l ((r, rangeO k u t v) :: N) → Q (.ref r) { s with heap := h', toks := s.toks + 1 + 1 }) : wpAny (model prg w) A (call (.type "range") [.int k t]) Q E s :=
 call_range_1 (h _ _ _ _ (S.add (a := s.heap.objs.size) (o := rangeO k s.toks t (s.toks + 1)) (fun b o e => Heap.get?_push_of_some _ e) (Heap.get?_push_size _ rfl) (get_size _)))
end
theorem Rows2.take {h : Heap} {vs ps} (x : Rows2 h vs ps) : ∀ i, Rows2 h (vs.take i) (ps.take i) := by
 induction x with
 | nil => intro i; rw [List.take_nil, List.take_nil]; exact .nil
 | cons a r ih =>
   intro i
   cases i with
   | zero => exact .nil
   | succ i => exact .cons a (ih i)
theorem nonl_take (edges : List (Int × Int)) (i : Nat) : (nonl (edges.take i)).length ≤ (nonl edges).length := by
 unfold nonl
 exact ((List.take_sublist i edges).filter _).length_le
section
variable {w : World} {A A' : Around} {outs outs₂ : List Env} {base : Heap} {n m : Nat} {s s' : Shared} {E : Value → Shared → Prop} {R : Result → Shared → Prop} {g h : Heap} {L : Addr} {l : Loc} {N : List (Addr × Obj)}
theorem drawn_code {D P ex : Addr} {oD oP : Obj} {nn : Int} {tk1 : Tok} {ev : List Value} {ce : Nat} {edges : List (Int × Int)} (C : Cx w A outs base s.heap (n + 4)) (hS : ∀ a ∈ [D, P], base.get? a = none ∧ ∀ env ∈ outs, env.frame ≠ some a)
   (hD : s.heap.get? D = some oD) (hP : s.heap.get? P = some oP) (hDP : D ≠ P) (dr : Draw P oD oP) (hex : s.heap.get? ex = some (W.listOf ev.toArray ce)) (hE : Rows2 s.heap ev edges) (hexD : ex ≠ D ∧ ex ≠ P) (he : EdgesOk nn edges) (hn1 : 1 ≤ nn) (hl1 : edges.length ≤ 100)
   (hfin : ∀ h' tk' oD' oP' T vs c rows, Ext [D, P] s.heap h' → h'.get? D = some oD' → h'.get? P = some oP' → Draw P oD' oP' → s.heap.get? T = none → h'.get? T = some (W.listOf vs.toArray c) → Rows2 h' vs rows → RowsOk nn rows → R (.ok (.ret (.ref T))) { s with heap := h', toks := tk' }) :
   codeAny (model prg w) A (.call (.ref 343) ⟨[.ref D, .int nn tk1, .ref ex], []⟩) R s := by
 refine enterX (binds := [(Str.ofString "draw", .ref D), (Str.ofString "n", .int nn tk1), (Str.ofString "edges", .ref ex)]) [(D, oD), (P, oP)] (by simp [hD, hP]) (by simp [hDP]) hS C rfl rfl (BindsTo.of_eq rfl) rfl (by decide) [("edges", some (.ref ex)), ("n", some (.int nn tk1)), ("draw", some (.ref D))] (fun L => ?_) (fun h₁ L tk cells Qf Ef hQ hc S CG => ?_)
 case refine_1 =>
   rw [← lk_store, ← lk_store, ← lk_store]
   rfl
 refine el_xaa (CellsAre.one hc) fun oc hsb1 hoc => ?_
 subst hsb1
 have hoc : oc.data = .cell none := hoc
 clear hc
 dsimp only [List.map, List.append] at S CG
 replace S : St (hideAll s.heap [D, P]) L h₁ [("edges", some (.ref ex)), ("n", some (.int nn tk1)), ("draw", some (.ref D))] [(L + 1, oc), (D, oD), (P, oP)] := S
 have hDn : NotTup oD := by obtain ⟨_, _, _, _, _, _, e, _⟩ := dr.is; rw [e]; exact notTup_list _ _
 have hPn : NotTup oP := by obtain ⟨_, _, _, _, _, _, _, e, _⟩ := dr.is; rw [e]; exact notTup_list _ _
 have hEg : Rows2 (hideAll s.heap [D, P]) ev edges := hE.tups fun T vs e => hideAll_get _ e fun m => by
   rcases List.mem_cons.mp m with q | m
   · rw [q, hD] at e; exact hDn vs (Option.some.inj e)
   · rw [List.mem_singleton.mp m, hP] at e; exact hPn vs (Option.some.inj e)
 have hexg : (hideAll s.heap [D, P]).get? ex = some (W.listOf ev.toArray ce) := hideAll_get _ hex fun m => by
   rcases List.mem_cons.mp m with q | m
   · exact hexD.1 q
   · exact hexD.2 (List.mem_singleton.mp m)
 refine el_xa (⟨_, rfl⟩ : ∃ g, g = hideAll s.heap [D, P]) fun g hg => ?_
 have hxg : ∀ {h' : Heap}, (∀ b o, g.get? b = some o → h'.get? b = some o) → Ext [D, P] s.heap h' := fun k => Ext.of_hide fun b o e => k b o (by rw [hg]; exact e)
 rw [← hg] at S CG hEg hexg
 have hlE := hEg.len
 replace S := S.perm (N' := [(D, oD), (P, oP), (L + 1, oc)]) ((List.Perm.swap (L + 1, oc) (D, oD) [(P, oP)]).symm.trans (((List.Perm.swap (L + 1, oc) (P, oP) []).symm).cons (D, oD)) |>.symm)
 walk_at "mm"
 refine newL S fun Rw hh2 S _ _ _ => ?_
 walk_at "mm"
 refine stC S (c := L + 1) (by rfl) (.tail _ (.tail _ (.tail _ (.head _)))) hoc (fun o' => [(Rw, W.listOf ([] : List Value).toArray 0), (D, oD), (P, oP), (L + 1, o')]) (fun o' => .tail (.tail (.tail .head))) fun o1 hh3 ho1 S => ?_
 walk_at "mm"
 refine newL S fun Us hh4 S _ _ _ => ?_
 walk_at "mm"
 refine el_xaaa (S.freeze1) fun g1 S k1 hU0 => ?_
 have CG1 := CG.keeps k1
 replace S := S.perm (N' := [(D, oD), (P, oP), (L + 1, o1), (Rw, W.listOf ([] : List Value).toArray 0)]) (List.perm_append_comm (l₁ := [(D, oD), (P, oP), (L + 1, o1)]) (l₂ := [(Rw, W.listOf ([] : List Value).toArray 0)]))
 replace S := St.relist (l' := [("v", none), ("u", none), ("used", some (.ref Us)), ("edges", some (.ref ex)), ("n", some (.int nn tk1)), ("draw", some (.ref D))]) S (by rfl)
 refine for_src (E' := fun _ _ => False) (fun i l N' G' => ∃ x1 x2 Us us cu uns vs c rows oD oP, l = ([("v", x1), ("u", x2), ("used", some (.ref Us)), ("edges", some (.ref ex)), ("n", some (.int nn tk1)), ("draw", some (.ref D))] : Loc) ∧
   N' = [(D, oD), (P, oP), (L + 1, o1), (Rw, W.listOf (List.toArray vs) c)] ∧ Draw P oD oP ∧ G'.get? Us = some (W.listOf (List.toArray us) cu) ∧ IntsAre us uns ∧ uns.length ≤ 2 * i ∧ Rows2 G' vs rows ∧ (∀ e ∈ rows, (0 ≤ e.1 ∧ e.1 < nn) ∧ (0 ≤ e.2 ∧ e.2 < nn)) ∧ rows.length ≤ (nonl (edges.take i)).length)
   (Src.list CG1.hand ⟨_, k1 _ _ hexg, rfl, _, rfl⟩) S (in_x11 _ _ Us [] _ [] [] _ [] _ _ ⟨rfl, rfl, dr, hU0, .nil, Nat.zero_le _, .nil, (fun _ m => nomatch m), Nat.zero_le _⟩) ?_ ?_ (fun _ _ z => z.elim)
 case refine_1 =>
   intro Jq Ji i v l N' G' h6 tk6 gb Bq hlt hP2 hJ kG k3 S HB
   refine el_xxxxxxxxxxxaaaaaaaaa hJ fun x1 x2 Us us cu uns vs c rows oD oP hsb11 hsb12 dr hUs hus hul hrs hin hrl => ?_
   try clear hJ
   replace S := St.at2 hsb11 hsb12 S
   refine el_xxxxxaaa (hEg.at hP2) fun T u v t1 t2 hsb5 hri hT => ?_
   subst hsb5
   have CG2 := CG1.keeps fun b o e => k3 b o (kG b o e)
   have kb : ∀ b o, g.get? b = some o → gb.get? b = some o := fun b o e => k3 b o (kG b o (k1 b o e))
   refine asg2 CG2.hand S ⟨_, S.keep _ _ (kb _ _ hT), rfl, _, rfl⟩ fun h7 tk7 S => ?_
   have hgen : ∀ s₁ : Shared, (∃ hh tk, s₁ = { s with heap := hh, toks := tk }) → True := fun _ _ => trivial
   replace S := St.relist (l' := [("v", some (.int v t2)), ("u", some (.int u t1)), ("used", some (.ref Us)), ("edges", some (.ref ex)), ("n", some (.int nn tk1)), ("draw", some (.ref D))]) S (by rfl)
   refine wpAny_execs_cons (wpAny_If (wpAny_mono (Q := fun (b : Bool) (s₁ : Shared) => ∃ hh tk oD oP, s₁ = { s with heap := hh, toks := tk } ∧ St gb L hh [("v", some (.int v t2)), ("u", some (.int u t1)), ("used", some (.ref Us)), ("edges", some (.ref ex)), ("n", some (.int nn tk1)), ("draw", some (.ref D))] [(D, oD), (P, oP), (L + 1, o1), (Rw, W.listOf (List.toArray vs) c)] ∧ Draw P oD oP ∧ (b = true → u ≠ v)) ?_ ?_ (fun _ _ z => z)))
   case refine_1 =>
     walk_at "mm"
     refine takeF CG2 S (by exact CG2.pushC S) rfl dr (by decide) fun h8 tk8 oD oP r ur S dr h0 h1 => ?_
     walk_at "mm"
     refine PyProof.Rows.gt_int ?_
     walk_at "mm"
     by_cases hr : r > 0
     case neg =>
       refine ite_no (by simp [hr]) ?_
       walk_at "mm"
       exact in_x4 _ _ _ _ ⟨rfl, S, dr, fun z => nomatch z⟩ -- in131
     refine ite_yes (by simp [hr]) ?_
     walk_at "mm"
     refine ne_int ?_
     walk_at "mm"
     by_cases huv : u = v
     · refine ite_no (by simp [huv]) ?_
       walk_at "mm"
       exact in_x4 _ _ _ _ ⟨rfl, S, dr, fun z => nomatch z⟩ -- in132
     refine ite_yes (by simp [huv]) ?_
     walk_at "mm"
     refine notInInts (CG.deep65 _) (S.keep _ _ (k3 _ _ hUs)) hus ?_
     walk_at "mm"
     by_cases hu : u ∈ uns
     · refine ite_no (by simp [hu]) ?_
       walk_at "mm"
       refine takeF CG2 S (by exact CG2.pushC S) rfl dr (by decide) fun h9 tk9 oD oP r ur S dr h0 h1 => ?_
       walk_at "mm"
       refine PyProof.Rows.eq_int ?_
       walk_at "mm"
       by_cases hr0 : r = 0
       · refine ite_yes (by simp [hr0]) ?_
         walk_at "mm"
         exact in_x4 _ _ _ _ ⟨rfl, S, dr, fun _ => huv⟩ -- in133
       refine ite_no (by simp [hr0]) ?_
       walk_at "mm"
       exact in_x4 _ _ _ _ ⟨rfl, S, dr, fun z => nomatch z⟩ -- in134
     refine ite_yes (by simp [hu]) ?_
     walk_at "mm"
     refine notInInts (CG.deep65 _) (S.keep _ _ (k3 _ _ hUs)) hus ?_
     walk_at "mm"
     by_cases hv : v ∈ uns
     · refine ite_no (by simp [hv]) ?_
       walk_at "mm"
       refine takeF CG2 S (by exact CG2.pushC S) rfl dr (by decide) fun h9 tk9 oD oP r ur S dr h0 h1 => ?_
       walk_at "mm"
       refine PyProof.Rows.eq_int ?_
       walk_at "mm"
       by_cases hr0 : r = 0
       · refine ite_yes (by simp [hr0]) ?_
         walk_at "mm"
         exact in_x4 _ _ _ _ ⟨rfl, S, dr, fun _ => huv⟩ -- in135
       refine ite_no (by simp [hr0]) ?_
       walk_at "mm"
       exact in_x4 _ _ _ _ ⟨rfl, S, dr, fun z => nomatch z⟩ -- in136
     refine ite_yes (by simp [hv]) ?_
     walk_at "mm"
     exact in_x4 _ _ _ _ ⟨rfl, S, dr, fun _ => huv⟩ -- in137
   have hnl : nonl (edges.take (i + 1)) = nonl (edges.take i) ++ nonl [(u, v)] := by rw [take_next hri]; exact List.filter_append ..
   intro b s₁
   refine elc_xxxxaaaa fun hh tk oD oP hsb4 S dr hb => ?_
   subst hsb4
   cases b with
   | false =>
     refine ite_no (by simp) ?_
     walk_at "mm"
     refine HB _ _ (BodyEnd.nx [] S fun G2 k4 _ => Ji _ _ _ _ (in_x11 _ _ Us us _ uns vs _ rows oD oP ⟨rfl, rfl, dr, k4 _ _ hUs, hus, by lia, hrs.mono k4, hin, ?_⟩))
     rw [hnl, List.length_append]; lia
   | true =>
     refine ite_yes rfl ?_
     have huv := hb rfl
     have hnl1 : (nonl [(u, v)]).length = 1 := by simp [nonl, huv]
     have hlt2 : i < edges.length := (List.getElem?_eq_some_iff.mp hri).1
     have huvn := he.lt _ (List.mem_iff_getElem?.mpr ⟨i, hri⟩)
     dsimp only at huvn
     walk_at "mm"
     refine appM S (.tail _ (.tail _ (.tail _ (.head _)))) ?_
     walk_at "mm"
     refine takeF CG2 S (by exact CG2.pushC S) rfl dr (by decide) fun h8 tk8 oD oP r ur S dr h0 h1 => ?_
     walk_at "mm"
     refine PyProof.Rows.eq_int ?_
     walk_at "mm"
     by_cases hr0 : r = 0
     · refine ite_yes (by simp [hr0]) ?_
       walk_at "mm"
       refine newT S fun T2 h9 S _ hT2 _ => ?_
       walk_at "mm"
       refine appL S (N' := [(T2, tupOf [.int u t1, .int v t2]), (D, oD), (P, oP), (L + 1, o1), (Rw, W.listOf (List.toArray (vs ++ [.ref T2])) (c + 1))]) (.tail (.tail (.tail (.tail .head)))) (fun h10 S => ?_) (by rw [hrs.len]; have := nonl_len he; have := nonl_take edges i; lia)
       walk_at "mm"
       refine newL S fun D2 h11 S _ hD2 _ => ?_
       walk_at "mm"
       refine addLF S (S.keep _ _ (k3 _ _ hUs)) hD2 (by have := hus.length; simp; lia) fun Us2 h12 S _ => ?_
       walk_at "mm"
       replace S := St.relist (l' := [("v", some (.int v t2)), ("u", some (.int u t1)), ("used", some (.ref Us2)), ("edges", some (.ref ex)), ("n", some (.int nn tk1)), ("draw", some (.ref D))]) S (by rfl)
       refine HB _ _ (BodyEnd.nx [_, _, _] S fun G2 k4 k5 => Ji _ _ _ _ (in_x11 _ _ Us2 _ _ _ _ _ (rows ++ [(u, v)]) oD oP ⟨rfl, rfl, dr, k5 (Us2, _) (.head _), hus.append (.cons _ _ (.cons _ _ .nil)), by simp; lia, (hrs.mono k4).snoc (k5 (T2, _) (.tail _ (.tail _ (.head _)))), fun e he2 => ?_, ?_⟩))
       · rcases List.mem_append.mp he2 with he2 | he2
         · exact hin e he2
         · rw [List.mem_singleton.mp he2]; dsimp only; lia
       · rw [hnl, List.length_append, List.length_append, hnl1, List.length_singleton]; lia
     · refine ite_no (by simp [hr0]) ?_
       walk_at "mm"
       refine newT S fun T2 h9 S _ hT2 _ => ?_
       walk_at "mm"
       refine appL S (N' := [(T2, tupOf [.int v t2, .int u t1]), (D, oD), (P, oP), (L + 1, o1), (Rw, W.listOf (List.toArray (vs ++ [.ref T2])) (c + 1))]) (.tail (.tail (.tail (.tail .head)))) (fun h10 S => ?_) (by rw [hrs.len]; have := nonl_len he; have := nonl_take edges i; lia)
       walk_at "mm"
       refine newL S fun D2 h11 S _ hD2 _ => ?_
       walk_at "mm"
       refine addLF S (S.keep _ _ (k3 _ _ hUs)) hD2 (by have := hus.length; simp; lia) fun Us2 h12 S _ => ?_
       walk_at "mm"
       replace S := St.relist (l' := [("v", some (.int v t2)), ("u", some (.int u t1)), ("used", some (.ref Us2)), ("edges", some (.ref ex)), ("n", some (.int nn tk1)), ("draw", some (.ref D))]) S (by rfl)
       refine HB _ _ (BodyEnd.nx [_, _, _] S fun G2 k4 k5 => Ji _ _ _ _ (in_x11 _ _ Us2 _ _ _ _ _ (rows ++ [(v, u)]) oD oP ⟨rfl, rfl, dr, k5 (Us2, _) (.head _), hus.append (.cons _ _ (.cons _ _ .nil)), by simp; lia, (hrs.mono k4).snoc (k5 (T2, _) (.tail _ (.tail _ (.head _)))), fun e he2 => ?_, ?_⟩))
       · rcases List.mem_append.mp he2 with he2 | he2
         · exact hin e he2
         · rw [List.mem_singleton.mp he2]; dsimp only; lia
       · rw [hnl, List.length_append, List.length_append, hnl1, List.length_singleton]; lia
 intro l N' G' h6 tk6 hJ kG S
 refine el_xxxxxxxxxxxaaaaaaaaa hJ fun x1 x2 Us us cu uns vs c rows oD oP hsb11 hsb12 dr hUs hus hul hrs hin hrl => ?_
 try clear hJ
 replace S := St.at2 hsb11 hsb12 S
 have CG2 := CG1.keeps kG
 have hrl15 : rows.length ≤ 15 := Nat.le_trans hrl (Nat.le_trans (nonl_take _ _) (nonl_len he))
 refine wpAny_execs_cons (wpAny_mono (Q := fun (f : Flow) (s₁ : Shared) => f = .next ∧ ∃ hh tk oD oP vs c rows Gd, s₁ = { s with heap := hh, toks := tk } ∧ (∀ b o, G'.get? b = some o → Gd.get? b = some o) ∧ St Gd L hh [("v", x1), ("u", x2), ("used", some (.ref Us)), ("edges", some (.ref ex)), ("n", some (.int nn tk1)), ("draw", some (.ref D))] [(D, oD), (P, oP), (L + 1, o1), (Rw, W.listOf (List.toArray vs) c)] ∧ Draw P oD oP ∧ Rows2 Gd vs rows ∧ (∀ e ∈ rows, (0 ≤ e.1 ∧ e.1 < nn) ∧ (0 ≤ e.2 ∧ e.2 < nn)) ∧ rows.length ≤ 16) ?_ ?_ (fun _ _ z => z))
 case refine_1 =>
   walk_at "mm"
   refine takeF CG2 S (by exact CG2.pushC S) rfl dr (by decide) fun h8 tk8 oD oP r ur S dr h0 h1 => ?_
   walk_at "mm"
   refine PyProof.Rows.eq_int ?_
   walk_at "mm"
   by_cases hr0 : r = 0
   case neg =>
     refine ite_no (by simp [hr0]) ?_
     walk_at "mm"
     exact ⟨rfl, _, _, oD, oP, vs, c, rows, G', rfl, fun _ _ e => e, S, dr, hrs, hin, by lia⟩
   refine ite_yes (by simp [hr0]) ?_
   walk_at "mm"
   refine appM S (.tail _ (.tail _ (.tail _ (.head _)))) ?_
   walk_at "mm"
   refine takeF CG2 S (by exact CG2.pushC S) rfl dr (by lia) fun h9 tk9 oD oP r1 ur1 S dr h01 h11 => ?_
   walk_at "mm"
   refine takeF CG2 S (by exact CG2.pushC S) rfl dr (by lia) fun h10 tk10 oD oP r2 ur2 S dr h02 h12 => ?_
   walk_at "mm"
   refine newT S fun T2 h13 S _ hT2 _ => ?_
   walk_at "mm"
   refine appL S (N' := [(T2, tupOf [.int r1 ur1, .int r2 ur2]), (D, oD), (P, oP), (L + 1, o1), (Rw, W.listOf (List.toArray (vs ++ [.ref T2])) (c + 1))]) (.tail (.tail (.tail (.tail .head)))) (fun h14 S => ?_) (by rw [hrs.len]; lia)
   walk_at "mm"
   refine el_xaaa (S.freeze1) fun gd S kd hTd => ?_
   refine ⟨rfl, _, _, oD, oP, _, _, rows ++ [(r1, r2)], gd, rfl, kd, S, dr, (hrs.mono kd).snoc hTd, fun e he2 => ?_, by simp; lia⟩
   rcases List.mem_append.mp he2 with he2 | he2
   · exact hin e he2
   · rw [List.mem_singleton.mp he2]; exact ⟨⟨h01, h11⟩, h02, h12⟩
 clear hrl15 hrl hin hrs S dr
 intro f s₁
 refine elc_axxxxxxxxaaaaaaa fun hh tk oD oP vs c rows Gd hsb0 hsb9 kd S dr hrs hin hrl => ?_
 subst hsb0
 subst hsb9
 dsimp only at S ⊢
 replace S := S.perm (N' := [(L + 1, o1), (Rw, W.listOf (List.toArray vs) c), (D, oD), (P, oP)]) (List.perm_append_comm (l₁ := [(L + 1, o1), (Rw, W.listOf (List.toArray vs) c)]) (l₂ := [(D, oD), (P, oP)]))
 refine el_xaaa (S.freeze1) fun g2 S k2 hc2 => ?_
 refine el_xaaa (S.freeze1) fun g3 S k3 hRw => ?_
 replace hc2 := k3 _ _ hc2
 dsimp only at hc2 hRw
 have k23 : ∀ b o, Gd.get? b = some o → g3.get? b = some o := fun b o e => k3 b o (k2 b o e)
 have CG3 := (CG2.keeps kd).keeps k23
 replace hrs := hrs.mono k23
 have hlr := hrs.len
 have kGg3 : ∀ b o, G'.get? b = some o → g3.get? b = some o := fun b o e => k23 b o (kd b o e)
 walk_at "mm"
 refine nmF (by rfl) (S.keep _ _ hc2) ho1 ?_
 walk_at "mm"
 refine call_len_list (items := vs.toArray) ⟨_, S.keep _ _ hRw, rfl, _, rfl⟩ (by simp only [List.size_toArray]; lia) ?_
 walk_at "mm"
 refine rangeF S fun rg hh5 ru rv S => ?_
 refine el_xaaa (S.freeze1) fun g4 S k4 hrg => ?_
 have CG4 := CG3.keeps k4
 dsimp only at hrg
 rw [List.size_toArray] at hrg
 refine comp_src (fun i acc G' => Rows2 G' acc (ded rows i)) (Src.range (n := vs.length) CG4.hand (by lia) hrg (fun v M Q E s I h => wpAny_pure h)) S .nil (by rw [sizeLine_eq]; lia) ?_ ?_
 case refine_1 =>
   intro i v acc G5 Cm h7 l1 tk7 F hlt hal hP2 hJ kG7 k7 S
   refine el_xa hP2 fun tv hsb1 => ?_
   try clear hP2
   subst hsb1
   refine el_xa (⟨vs.toArray[i], by simp [hlt]⟩ : ∃ x, vs.toArray[i]? = some x) fun xv hvi => ?_
   refine el_xxxxxaaa (hrs.at hvi) fun T u v t1 t2 hsb5 hri hT => ?_
   subst hsb5
   have kb : ∀ b o, g3.get? b = some o → (hideAll h7 [Cm]).get? b = some o := fun b o e => k7 b o (kG7 b o (k4 b o e))
   have CG7 := CG3.keeps kb
   walk_at "mm"
   refine nmF (by rfl) (S.keep _ _ (kb _ _ hc2)) ho1 ?_
   walk_at "mm"
   refine subL (v := .ref T) ⟨_, S.keep _ _ (kb _ _ hRw), rfl, _, rfl⟩ (by lia) (by lia) (by rw [Int.toNat_natCast]; exact hvi) ?_
   walk_at "mm"
   refine nmF (by rfl) (S.keep _ _ (kb _ _ hc2)) ho1 ?_
   walk_at "mm"
   refine slice_up (items := vs) S rfl ⟨_, S.keep _ _ (kb _ _ hRw), rfl, _, rfl⟩ (by lia) (fun P1 h8 S => ?_) (hsz := by rw [sizeLine_eq]; lia)
   rw [Int.toNat_natCast] at S
   walk_at "mm"
   have yes : ((u, v) ∉ rows.take i ∧ (v, u) ∉ rows.take i) → ∀ G2 : Heap, (∀ b o, G5.get? b = some o → G2.get? b = some o) → Rows2 G2 (acc ++ [.ref T]) (ded rows (i + 1)) := fun q G2 k8 => by
     rw [ded_succ rows i hri, if_pos q]
     exact (hJ.mono k8).snoc (k8 _ _ (kG7 _ _ (k4 _ _ hT)))
   have no : ¬ ((u, v) ∉ rows.take i ∧ (v, u) ∉ rows.take i) → ∀ G2 : Heap, (∀ b o, G5.get? b = some o → G2.get? b = some o) → Rows2 G2 acc (ded rows (i + 1)) := fun q G2 k8 => by
     rw [ded_succ rows i hri, if_neg q]
     exact hJ.mono k8
   refine notInRows (CG.deep65 _) (S.get (.head _)) ((hrs.mono fun b o e => S.keep b o (kb b o e)).take i) (pdR (S.keep _ _ (kb _ _ hT))) ?_
   walk_at "mm"
   by_cases m1 : (u, v) ∈ rows.take i
   · refine ite_no (by simp [m1]) ?_
     walk_at "mm"
     exact CEnd.mk [_] S fun G2 k8 _ => no (by simp [m1]) G2 k8
   refine ite_yes (by simp [m1]) ?_
   walk_at "mm"
   refine nmF (by rfl) (S.keep _ _ (kb _ _ hc2)) ho1 ?_
   walk_at "mm"
   refine subL (v := .ref T) ⟨_, S.keep _ _ (kb _ _ hRw), rfl, _, rfl⟩ (by lia) (by lia) (by rw [Int.toNat_natCast]; exact hvi) ?_
   walk_at "mm"
   refine subT ⟨_, S.keep _ _ (kb _ _ hT), rfl, _, rfl⟩ (by decide) (by decide) (j := 1) (by rfl) (by rfl) ?_
   walk_at "mm"
   refine nmF (by rfl) (S.keep _ _ (kb _ _ hc2)) ho1 ?_
   walk_at "mm"
   refine subL (v := .ref T) ⟨_, S.keep _ _ (kb _ _ hRw), rfl, _, rfl⟩ (by lia) (by lia) (by rw [Int.toNat_natCast]; exact hvi) ?_
   walk_at "mm"
   refine subT ⟨_, S.keep _ _ (kb _ _ hT), rfl, _, rfl⟩ (by decide) (by decide) (j := 0) (by rfl) (by rfl) ?_
   walk_at "mm"
   refine newT S fun T2 h9 S _ hT2 _ => ?_
   walk_at "mm"
   refine nmF (by rfl) (S.keep _ _ (kb _ _ hc2)) ho1 ?_
   walk_at "mm"
   refine slice_up (items := vs) S rfl ⟨_, S.keep _ _ (kb _ _ hRw), rfl, _, rfl⟩ (by lia) (fun P2 h8 S => ?_) (hsz := by rw [sizeLine_eq]; lia)
   rw [Int.toNat_natCast] at S
   walk_at "mm"
   refine notInRows (CG.deep65 _) (S.get (.head _)) ((hrs.mono fun b o e => S.keep b o (kb b o e)).take i) (pdR (S.get (.tail _ (.head _)))) ?_
   walk_at "mm"
   by_cases m2 : (v, u) ∈ rows.take i
   · refine ite_no (by simp [m2]) ?_
     walk_at "mm"
     exact CEnd.mk [_, _, _] S fun G2 k8 _ => no (by simp [m2]) G2 k8
   refine ite_yes (by simp [m2]) ?_
   walk_at "mm"
   refine nmF (by rfl) (S.keep _ _ (kb _ _ hc2)) ho1 ?_
   walk_at "mm"
   refine subL (v := .ref T) ⟨_, S.keep _ _ (kb _ _ hRw), rfl, _, rfl⟩ (by lia) (by lia) (by rw [Int.toNat_natCast]; exact hvi) ?_
   walk_at "mm"
   exact CEnd.mk [_, _, _] S fun G2 k8 _ => yes ⟨m1, m2⟩ G2 k8
 intro T acc G5 h7 tk7 hal hJ kG7 S
 have hsk : ∀ b o, g.get? b = some o → G5.get? b = some o := fun b o e => kG7 b o (k4 b o (kGg3 b o (kG b o (k1 b o e))))
 refine el_aaaa (ded_ok (rows := rows) (k := vs.length) (by lia)) fun d1 d2 d3 d4 => ?_
 refine hQ _ _ (hfin _ _ oD oP T acc _ (ded rows vs.length) (hxg fun b o e => S.keep b o (hsk b o e)) (S.get (.tail _ (.head _))) (S.get (.tail _ (.tail _ (.head _)))) dr ?_ (S.get (.head _)) (hJ.mono S.keep) ⟨fun e he2 => hin e (List.mem_of_mem_take (d1 e he2)), d2, d3, by lia⟩)
 cases q : s.heap.get? T with
 | none => rfl
 | some o =>
   have nd := S.nd
   simp only [List.map_cons, List.map_nil, List.nodup_cons] at nd
   have := hsk T o (by rw [hg]; exact hideAll_get _ q nd.1)
   rw [S.none (.head _)] at this
   cases this
end
section
variable {w : World} {A₀ A : Around} {outs : List Env} {base : Heap} {n m : Nat} {s : Shared} {E : Value → Shared → Prop} {g h h' : Heap} {L Lw a1 a2 : Addr} {l : Loc} {N N' : List (Addr × Obj)} {n1 n2 : Str} {sc1 sc2 : Scope} {cd1 cd2 : Value} {ow : Obj}
theorem Cx.push2 (C : Cx w A₀ [] base g (n + 2)) (S : St g L h l N) (hm : (Lw, ow) ∈ N) (hd : ∀ vs, ow.data ≠ .fields vs) (hk1 : sc1.kind = .function := by rfl) (hk2 : sc2.kind = .function := by rfl) :
   Cx w ((A₀.deeper (envOf n1 sc1 Lw a1 cd1)).deeper (envOf n2 sc2 L a2 cd2)) [envOf n2 sc2 L a2 cd2, envOf n1 sc1 Lw a1 cd1] base h n := by
 have h1 := C.deep
 have h2 := C.room
 have bn : ∀ b, g.get? b = none → base.get? b = none := fun b e => by
   cases q : base.get? b with
   | none => rfl
   | some o => have := C.below.stays _ _ q; rw [e] at this; cases this
 refine ⟨C.bs, ⟨Around.frames_deeper (Around.frames_deeper C.below.stack), fun b o e => S.keep b o (C.below.stays b o e), ?_⟩, C.hand, C.guards, ?_, ?_⟩
 · refine .cons (by show sc2.kind ≠ .module; rw [hk2]; decide) rfl S.ns (bn _ S.sep) ?_
   exact ⟨by show sc1.kind ≠ .module; rw [hk1]; decide, ⟨Lw, ow, rfl, bn _ (S.none hm), S.get hm, hd⟩, trivial⟩
 · show A₀.depth + 1 + 1 + 20 * n ≤ 900; lia
 · show A₀.units + 3 + 3 + 50 * n + 50 ≤ 2000; lia
theorem St.caught {outs : List Env} (S : St g L h l ((Lw, ow) :: N)) (c : (∀ b o, h.get? b = some o → b ∉ outs.filterMap (·.frame) → h'.get? b = some o) ∧ h.UpToSlots h') (ho : ∀ b, b ∈ outs.filterMap (·.frame) → b = L ∨ b = Lw) (hd : ∀ vs, ow.data ≠ .fields vs) :
   ∃ sl, St g L h' l ((Lw, { ow with slots := sl }) :: N) := by
 refine el_aa c fun k u => ?_
 try clear c
 have zw := S.nw _ (.head _)
 refine el_xa (u Lw ow zw.1 hd) fun sl hsl => ?_
 have nd := S.nd
 rw [List.map_cons, List.nodup_cons] at nd
 refine ⟨sl, ⟨u.ns S.ns, fun b o e => k b o (S.keep b o e) fun hm => ?_, S.sep, fun p hp => ?_, by rw [List.map_cons, List.nodup_cons]; exact nd⟩⟩
 · rcases ho b hm with q | q
   · rw [q, S.sep] at e; cases e
   · rw [q, zw.2.2] at e; cases e
 · rcases List.mem_cons.mp hp with rfl | hp
   · exact ⟨hsl, zw.2⟩
   · have z := S.nw p (.tail _ hp)
     refine ⟨k _ _ z.1 fun hm => ?_, z.2⟩
     rcases ho _ hm with q | q
     · exact z.2.1 q
     · have hm2 : p.1 ∈ N.map (·.1) := List.mem_map_of_mem hp
       rw [q] at hm2
       exact nd.1 hm2
end
section
variable {w : World} {A A' : Around} {outs : List Env} {base : Heap} {n m : Nat} {s : Shared} {E : Value → Shared → Prop} {g : Heap} {L : Addr} {l : Loc} {N : List (Addr × Obj)}
theorem hint_set {r : Addr} {Q : Bool → Shared → Prop} (hT : s.TypeIs (.ref r) "set") (h : Q false s) : wpAny (model prg w) A (Builtin.List.listLengthHint (.ref r)) Q E s := by
 unfold Builtin.List.listLengthHint
 refine wpAny_bind (wpAny_specialOf hT PySem.F.slot_set_len.lookup ?_)
 generalize hid : ("set.__len__" : String) = id0
 wp_delta
 rw [show splitId id0 = some ("set", "__len__") from by subst hid; decide +kernel]
 subst hid
 refine wpAny_bind (wpAny_isInstance (T := "set") (b := true) hT (by rw [isSubtype_type]; kernel_rfl) ?_)
 refine wpAny_ite_split (fun hab => absurd hab (by decide)) (fun _ => ?_)
 refine wpAny_ite_split (fun _ => ?_) (fun hab => absurd (by decide +kernel) hab)
 refine wpAny_bind (wpAny_typeOf hT ?_)
 exact wpAny_pure h
theorem kdl_set {a : Addr} {C : List (List Int × Addr)} {ep : Nat} {t : SetTable} (T : TabOk t C.length) (hled : t.led = ledOf w) :
   KdlSrc prg w "set" a a (walkOf w a ep (entsOf C)).length (fun i v => (walkOf w a ep (entsOf C))[i]? = some v) (fun h => h.get? a = some (setObj (entsOf C) ep t)) where
 type := fun _ hm => ⟨_, hm, rfl⟩
 there := fun _ hm => ⟨Heap.lt_size hm, Heap.lt_size hm⟩
 keep := fun _ _ hm hk => hk a (.inl rfl) _ hm
 notList := by decide
 notTuple := by decide
 hint := fun _ _ _ _ hm hq => hint_set ⟨_, hm, rfl⟩ hq
 iter := fun A s hh ha => by
   have hf : t.fits (entsOf C).size = true := by rw [ents_size]; exact T.fits
   have hlen : (walkOf w a ep (entsOf C)).length = (entsOf C).size := by rw [(walkOf_perm (w := w) a ep C).length_eq, List.length_map, ents_size]
   have hT : s.TypeIs (.ref a) "set" := ⟨_, ha, rfl⟩
   have hIa : s.heap.objs.size ≠ a := fun e => by rw [← e, get_size] at ha; cases ha
   refine in_x2 (siObj 0 0 a (entsOf C).size ep) (SIter w s.heap.objs.size a (entsOf C) ep t) ⟨fun E Q h => ?_, ?_, ⟨⟨0, Heap.get?_push_size _ rfl, fun _ => below_zero T.rising⟩, Heap.get?_push_of_some _ ha⟩⟩ -- in142
   · refine wpAny_pyIter_slot hT F.slot_set_iter (wpAny_call_entry F.slot_set_iter hT entry_set_iter ?_ (F.args_set_iter_1 _))
     unfold Builtin.«frozenset.__iter__»
     refine wpAny_bind (m := Builtin.Frozenset.slot0 "__iter__" ⟨[.ref a], []⟩) (wpAny_pure ?_)
     unfold Builtin.Frozenset.sizeOf setEntries setDrawn setEpoch
     refine wpAny_bind (wpAny_bind (wpAny_bind (setState_ps ha hf (wpAny_pure (wpAny_pure ?_)))))
     unfold setsByText
     refine wpAny_bind (wpAny_bind (setState_ps ha hf (wpAny_bind (wpAny_bind (wpAny_askSetting (wpAny_pure (wpAny_pure ?_)))))))
     dsimp only
     rw [if_neg (fun h => by
       have h' : (!w.params.followText "set-order" && (!t.plain && decide ((entsOf C).size > 1))) = true := h
       rw [T.plain] at h'; simp at h')]
     refine wpAny_bind (wpAny_pure ?_)
     refine wpAny_bind (wpAny_bind (setState_ps ha hf (wpAny_pure ?_)))
     refine wpAny_bind ?_
     simp only [newFields]
     refine wpAny_newObj_type ?_ (by size_fits)
     exact wpAny_pure ⟨_, rfl, "set_iterator", _, ⟨_, Heap.get?_push_size _ rfl, rfl⟩, slot_si_next.lookup, h⟩
   · exact {
       sub := fun b hb => by simp at hb; simp [hb]
       frame := fun i h h' st k => ⟨by obtain ⟨sl, e, r⟩ := st.1; exact ⟨sl, k _ (by simp) _ e, r⟩, k _ (by simp) _ st.2⟩
       item := fun i s' Q' E' hi st hQ => by
         refine next_set st hf T.plain hled T.rising (by rw [T.size, ents_size]) (List.getElem?_eq_getElem hi) hIa fun h' hs st' => ?_
         exact hQ _ h' s'.toks (List.getElem?_eq_getElem hi) st' fun b o hb e => hs.extBut b o (by simpa using hb) e
       done := fun s' Q' E' st hQ => by
         rw [hlen] at st
         exact next_set_end hh st hf T.plain hled fun h' hs => hQ h' s'.toks fun b o hb e => hs b o (by simpa using hb) e
       self := fun i s' Q' E' st hq => by
         obtain ⟨⟨sl, e, _⟩, _⟩ := st
         have hT : s'.TypeIs (.ref s.heap.objs.size) "set_iterator" := ⟨_, e, rfl⟩
         refine wpAny_pyIter_slot hT slot_si_iter (wpAny_call_entry slot_si_iter hT entry_si_iter ?_ (args_si_iter _))
         show wpAny _ _ (ret _) _ _ _
         exact wpAny_pure ⟨_, rfl, "set_iterator", _, hT, slot_si_next.lookup, hq⟩ }
theorem list_set {a : Addr} {o : Obj} {C : List (List Int × Addr)} {Q : Value → Shared → Prop} (hh : A.handled = none) (S : St g L s.heap l N) (P : PS w s.heap o C) (ho : s.heap.get? a = some o) (hC : C.length ≤ 100)
   (h : ∀ D c h' tk (vs : List Value), St g L h' l ((D, W.listOf vs.toArray c) :: N) → (∀ b o, s.heap.get? b = some o → h'.get? b = some o) → vs.Perm (C.map fun c => .ref c.2) → Q (.ref D) { s with heap := h', toks := tk }) : wpAny (model prg w) A (call (.type "list") [.ref a]) Q E s := by
 refine el_xxaaaaa (P.is) fun ep t hsb2 T hr hsm hled => ?_
 subst hsb2
 have hperm := walkOf_perm (w := w) a ep C
 have hlen : (walkOf w a ep (entsOf C)).length = C.length := by rw [hperm.length_eq, List.length_map]
 refine kdl_call (kdl_set T hled) hh ho (by rw [sizeLine_eq]; lia) fun h' tk acc c hk hD hit => ?_
 have S1 := S.add (a := s.heap.objs.size) (o := W.listOf acc.toList.toArray c) hk (by simpa using hD) (get_size _)
 refine h _ c h' tk acc.toList S1 hk ?_
 have : acc.toList = walkOf w a ep (entsOf C) := by
   apply List.ext_getElem? 
   intro i
   by_cases hi : i < acc.toList.length
   · have e : acc[i]? = some acc.toList[i] := by rw [← Array.getElem?_toList]; exact List.getElem?_eq_getElem hi
     rw [List.getElem?_eq_getElem hi]
     exact (hit.2 i _ e).symm
   · have e1 : acc.toList.length = (walkOf w a ep (entsOf C)).length := by rw [Array.length_toList]; exact hit.1
     rw [List.getElem?_eq_none (by lia), List.getElem?_eq_none (by lia)]
 rw [this]
 exact hperm
end
section
variable {w : World} {A A' : Around} {outs outs₂ : List Env} {base : Heap} {n m : Nat} {s s' : Shared} {E : Value → Shared → Prop} {R : Result → Shared → Prop} {g h : Heap} {L : Addr} {l : Loc} {N : List (Addr × Obj)}
theorem iter_own {x C : Addr} {f : Addr} {ox : Obj} {od : Option Obj} {Q : Value → Shared → Prop} (X : (KF w).In s.heap) (I : W.InstAt s.heap x ox C od) (hs : findIn (KF w) (.ref C) "__iter__" = some (some (.ref f))) (hf : isFn (KF w) (.ref f) = true)
   (h : wpAny (model prg w) A (call (.ref f) [.ref x]) (fun v s' => ∃ a, v = .ref a ∧ s'.TypeIs (.ref a) "dict_keyiterator" ∧ Q v s') E s) : wpAny (model prg w) A (pyIter (.ref x)) Q E s := by
 have hcall : wpAny (model prg w) A (call (.ref f) [.ref x] >>= fun v => pure (some v)) (fun r s' => ∃ a, r = some (.ref a) ∧ s'.TypeIs (.ref a) "dict_keyiterator" ∧ Q (.ref a) s') E s :=
   wpAny_bind (wpAny_mono h (fun v s' ⟨a, e, b, c⟩ => wpAny_pure ⟨a, by rw [e], b, e ▸ c⟩) fun _ _ z => z)
 have hask : ∀ refuse : Sem Value, wpAny (model prg w) A (callSpecialIfBoundUnlessNone? (.ref x) "__iter__" refuse) (fun r s' => ∃ a, r = some (.ref a) ∧ s'.TypeIs (.ref a) "dict_keyiterator" ∧ Q (.ref a) s') E s := by
   intro refuse
   simp only [callSpecialIfBoundUnlessNone?, bindSpecialIfBound?]
   refine wpAny_holding (wpAny_bind (wpAny_bind (wpAny_bind (I.type.here ((looks_findIn X hs).here (wpAny_bind (wpAny_askSetting (wpAny_ite ?_))))))))
   have hgo : wpAny (model prg w) A (if (Value.ref f == Value.none) = true then (refuse >>= fun v => pure (some v)) else (call (.ref f) [.ref x] >>= fun v => pure (some v))) (fun r s' => ∃ a, r = some (.ref a) ∧ s'.TypeIs (.ref a) "dict_keyiterator" ∧ Q (.ref a) s') E s := by
     rw [if_neg (show ¬ ((Value.ref f == Value.none) = true) from Bool.false_ne_true)]; exact hcall
   split
   · exact wpAny_bind ((bind_fn X _ (beq_iff_eq.mp hf)).here (wpAny_pure (by exact hgo)))
   · exact wpAny_tryCatch (wpAny_bind ((bind_fn X _ (beq_iff_eq.mp hf)).here (wpAny_pure (by exact hgo))))
 unfold pyIter
 refine wpAny_bind (wpAny_bind (I.type.here ((looks_findIn X hs).here ?_)))
 show wpAny _ A (callSpecialIfBoundUnlessNone? (.ref x) "__iter__" _ >>= _) Q E s
 refine wpAny_bind (wpAny_mono (hask _) (fun r s' hr => ?_) fun _ _ z => z)
 refine el_xaaa hr fun a hsb1 hg hq => ?_
 try clear hr
 subst hsb1
 refine wpAny_bind (wpAny_specialOf hg PySem.F.slot_dict_keyiterator_next.lookup ?_)
 exact wpAny_pure hq
theorem call_iter_dict {d : Addr} {kvs : List (Int × Value)} {Q : Value → Shared → Prop} (S : St g L s.heap l N) (lo : (d == sysModules) = false) (hd : s.heap.DictOf (ik w) d kvs)
   (h : ∀ I ep h', s.heap.get? I = none → h'.IsKeyIter I d 0 kvs.length ep → h'.DictAt (ik w) d kvs ep → (∀ b o, s.heap.get? b = some o → h'.get? b = some o) → (∃ oI, St g L h' l ((I, oI) :: N)) → Q (.ref I) { s with heap := h' }) :
   wpAny (model prg w) A (call (.builtin "iter") [.ref d]) Q E s := by
 refine el_xa (hd.dictAt) fun ep hat => ?_
 refine call_function_entry (by decide +kernel) (by decide +kernel) kdk_entry_iter (kdk_args_iter _) ?_
 unfold Builtin.«iter»
 refine wpAny_bind (m := someArgs "iter" 1 2 _) (wpAny_of_eq (a := [Value.ref d]) (by first | rfl | kernel_rfl!) ?_)
 show wpAny _ _ (pyIter (.ref d) >>= _) _ _ _
 refine wpAny_bind (wpAny_pyIter_dict lo hat ?_)
 have k : ∀ (o' : Obj) b o, s.heap.get? b = some o → (s.heap.push o').get? b = some o := fun o' b o e => Heap.get?_push_of_some _ e
 exact wpAny_pure ⟨_, rfl, h _ ep _ (get_size _) ⟨_, Heap.get?_push_size _ rfl, rfl, rfl⟩ (hat.push _) (k _) ⟨_, S.add (k _) (Heap.get?_push_size _ rfl) (get_size _)⟩⟩
theorem iter_spec {x : Addr} {ns : List Int} {adj : List (Int × List Int)} {Q : Value → Shared → Prop} (C : Cx w A outs base s.heap (n + 1)) (G : GraphG w s.heap x ns adj)
   (h : ∀ h' tk' I d ep kvs, Ext [] s.heap h' → s.heap.get? I = none → h'.IsKeyIter I d 0 kvs.length ep → h'.DictAt (ik w) d kvs ep → kvs.map (·.1) = ns → Q (.ref I) { s with heap := h', toks := tk' }) : wpAny (model prg w) A (call (.ref 182) [.ref x]) Q E s := by
 refine enterC (binds := [(Str.ofString "self", .ref x)]) [] (by simp) (by simp) (by simp) C rfl rfl (BindsTo.of_eq rfl) (locs rfl) (fun h₁ L tk Qf Ef hQ S CG => ?_)
 dsimp only [locOf, List.reverse, List.reverseAux, List.map] at S CG
 refine el_xxxxxxxa (G.ext (h' := h₁) S.keep).at fun dx gd nd ad od nv nb R => ?_
 refine el_xxxxxxxa (R.od) fun hh1 t1 hh2 t2 hh3 t3 m hsb7 => ?_
 subst hsb7
 have hE : ∀ b o, s.heap.get? b = some o → h₁.get? b = some o := S.keep
 walk_at "mm"
 refine getA S CG R.at_.inst rfl rfl ?_
 walk_at "mm"
 refine call_iter_dict S R.sm.2.1 R.at_.nd fun I ep h2 hI hit hat k _ => ?_
 walk_at "mm"
 refine hQ _ _ (h _ _ I nd ep _ (Ext.of_keep fun b o e => k b o (hE b o e)) ?_ hit hat (by rw [R.ns, List.map_map]; rfl))
 cases q : s.heap.get? I with
 | none => rfl
 | some o => rw [hE _ _ q] at hI; cases hI
theorem hintG {x : Addr} {ns : List Int} {adj : List (Int × List Int)} {Q : Bool → Shared → Prop} (CA : Cx w A.in1 outs base s.heap (n + 1)) (G : GraphG w s.heap x ns adj) (hn : ns.length ≤ 100)
   (h : ∀ h' tk' b, Ext [] s.heap h' → Q b { s with heap := h', toks := tk' }) : wpAny (model prg w) A (Builtin.List.listLengthHint (.ref x)) Q E s := by
 refine el_xxxxxxxa (G.at) fun dx gd nd ad od nv nb R => ?_
 unfold Builtin.List.listLengthHint
 refine wpAny_bind (wpAny_bind (R.at_.inst.type.here ((looks_findIn (CA.bs.kin.keeps CA.below.stays) (show findIn (KF w) (.ref 310) (Str.ofString "__len__") = some (some (.ref 196)) by rfl)).here ?_)))
 refine wpAny_bind (wpAny_rule ?_)
 refine wpAny_bind (wpAny_attempt (lenG CA G hn fun h' tk' u hx => ?_))
 show wpAny _ _ (asInt? (.int ns.length u) >>= _) _ _ _
 refine wpAny_bind (wpAny_pure ?_)
 show wpAny _ _ (if Builtin.List.listTooLong (Int.toNat ns.length) = true then _ else _) _ _ _
 rw [Int.toNat_natCast, if_neg (by unfold Builtin.List.listTooLong; rw [decide_eq_true_eq, sizeLine_eq]; lia)]
 exact wpAny_pure (h h' tk' _ hx)
theorem list_graph {x : Addr} {ns : List Int} {adj : List (Int × List Int)} {Q : Value → Shared → Prop} (S : St g L s.heap l N) (CA : Cx w A outs base s.heap (n + 4)) (G : GraphG w s.heap x ns adj)
   (h : ∀ D c h' tk vs, St g L h' l ((D, W.listOf (List.toArray vs) c) :: N) → (∀ b o, s.heap.get? b = some o → h'.get? b = some o) → IntsAre vs ns → Q (.ref D) { s with heap := h', toks := tk }) : wpAny (model prg w) A (call (.type "list") [.ref x]) Q E s := by
 refine callType_codes (Q₁ := fun obj s₁ => obj = .ref s.heap.objs.size ∧ s₁ = { s with heap := s.heap.push { cls := .type "list", data := .seq #[] } }) PySem.F.called_list (PySem.F.typeCall_list_1 _) PySem.F.entry_list_init
   (code_list_new _ ⟨rfl, rfl⟩) fun obj s₁ h₁ => ?_
 refine el_aa h₁ fun hsb0 hsb1 => ?_
 try clear h₁
 subst hsb0
 subst hsb1
 refine el_xa (⟨_, rfl⟩ : ∃ D, D = s.heap.objs.size) fun D hD => ?_
 have hDn : s.heap.get? D = none := by rw [hD]; exact get_size _
 have hS : (s.heap.push { cls := .type "list", data := .seq #[] }).get? D = some { cls := .type "list", data := .seq #[] } := by rw [hD]; exact Heap.get?_push_size _ rfl
 have k0 : ∀ b o, s.heap.get? b = some o → (s.heap.push { cls := .type "list", data := .seq #[] }).get? b = some o := fun b o e => Heap.get?_push_of_some _ e
 obtain ⟨h0, hh0⟩ : ∃ h0, h0 = s.heap.push { cls := .type "list", data := .seq #[] } := ⟨_, rfl⟩
 rw [← hh0, ← hD] 
 rw [← hh0] at hS k0
 refine ⟨⟨_, hS, rfl⟩, PySem.F.args_list_init_2 _ _, ?_⟩
 show wpAny _ _ (do let old ← Builtin.List.listItems (.ref D); Builtin.List.listUpdate (.ref D) (fun _ => #[]); letGo old.toList.reverse; Builtin.List.listExtendWith (.ref D) (.ref x) .none) _ _ _
 refine wpAny_bind ?_
 unfold Builtin.List.listItems
 refine wpAny_bind (wpAny_seqItems hS rfl (wpAny_pure ?_))
 show wpAny _ _ (updateSeq D (fun _ => #[]) >>= fun _ => letGo (#[] : Array Value).toList.reverse >>= fun _ => Builtin.List.listExtendWith (.ref D) (.ref x) .none) _ _ _
 refine wpAny_bind (wpAny_updateSeq hS rfl ?_)
 have hS₂ := Heap.get?_update_self (Obj.mapSeq (fun _ => (#[] : Array Value))) hS rfl
 have k1 : ∀ b o, s.heap.get? b = some o → (h0.update D (Obj.mapSeq (fun _ => (#[] : Array Value)))).get? b = some o := fun b o e => by
   have hb : b ≠ D := fun q => by rw [q, hDn] at e; cases e
   exact (Heap.get?_update_other _ _ (Ne.symm hb)).trans (k0 b o e)
 refine wpAny_bind (wpAny_letGo ?_)
 refine el_xa (⟨_, rfl⟩ : ∃ h1, h1 = h0.update D (Obj.mapSeq (fun _ => (#[] : Array Value)))) fun h1 hh1 => ?_
 rw [← hh1] at hS₂ k1 ⊢
 have CB : Cx w A.in1.in1 outs base h1 (n + 2) := (CA.in1.in1).keeps k1
 have G1 := G.ext k1
 refine el_xxxxxxxa (G1.at) fun dx gd nd ad od nv nb R => ?_
 have hxD : D ≠ x := fun q => by
   refine el_xxxxxxxa (G.at) fun dx' gd' nd' ad' od' nv' nb' R' => ?_
   have := R'.at_.inst.1
   rw [← q, hDn] at this; cases this
 have hns : ns.length ≤ 100 := by rw [R.ns, List.length_map]; exact Nat.le_trans R.len.1 (by decide)
 unfold Builtin.List.listExtendWith
 refine wpAny_bind (R.at_.inst.type.here ?_)
 have e1 : Builtin.List.listSameRef (.ref D) (.ref x) = false := by simp [Builtin.List.listSameRef, hxD]
 rw [e1]
 show wpAny _ _ (pyIter (.ref x) >>= _) _ _ _
 have Xk : (KF w).In h1 := CB.bs.kin.keeps CB.below.stays
 refine wpAny_bind (iter_own (f := 182) (C := 310) Xk R.at_.inst (by rfl) (by rfl) (iter_spec CB G1 fun h2 tk2 I d ep kvs hx I0 hit hat hks => ⟨I, rfl, hit.typeIs, ?_⟩))
 have G2 := G1.ext hx.keep
 have hID : D ≠ I := fun q => by rw [← q, hS₂] at I0; cases I0
 have hdD : D ≠ d := fun q => by
   refine el_xxaaaa hat fun o es e hc hd _ => ?_
   try clear hat
   have := hx.keep _ _ hS₂
   rw [q, e] at this; cases this
   cases hd
 refine wpAny_bind (wpAny_holding (hintG ((CB.keeps hx.keep).in1) G2 hns fun h3 tk3 b hx3 => ?_))
 have hS₃ := hx3.keep _ _ (hx.keep _ _ hS₂)
 have W := Walks.dictKeys (prog := prg) (w := w) (knd := ik w) (A := A.in1.in1) (show A.in1.in1.handled = none from CB.hand) I d (fun q => by
   refine el_xxaaaa hat fun o es e hc hd _ => ?_
   try clear hat
   refine el_xaaa hit fun oi ei ci di => ?_
   try clear hit
   rw [q, ei] at e; cases e
   rw [di] at hd; cases hd) kvs ep
 have hSf : D ∉ [I, d] := by simp only [List.mem_cons, List.not_mem_nil, or_false, not_or]; exact ⟨hID, hdD⟩
 have key : ∀ (h4 : Heap) (c₁ tk : Nat), (∀ b o, b ≠ D → h3.get? b = some o → h4.get? b = some o) → h4.get? D = some { cls := .type "list", data := .seq #[] c₁ } →
     codeAny (model prg w) A.in1 (.builtin "list.extend.loop" ⟨[.ref D, .ref I, .none], []⟩) (wants (fun r s₂ => r = .none ∧ Q (.ref D) s₂) E) { s with heap := h4, toks := tk } := by
   intro h4 c₁ tk k4 hS₄
   have hst : h4.IsKeyIter I d 0 kvs.length ep ∧ h4.DictAt (ik w) d kvs ep := ⟨hit.at fun o e => k4 _ _ (Ne.symm hID) (hx3.keep _ _ e), hat.at' fun o e => k4 _ _ (Ne.symm hdD) (hx3.keep _ _ e)⟩
   refine codeAny_extend_loopS W.toS (by rw [← List.length_map (f := (·.1)), hks, sizeLine_eq]; lia) D hSf .none kvs.length 0 _ #[] c₁ rfl (Nat.zero_le _) hst hS₄ (ItemsOf.nil _) fun s' acc' c' hm hS' hacc => ?_
   rw [Moved.eq_with hm]
   have kk : ∀ b o, s.heap.get? b = some o → s'.heap.get? b = some o := fun b o e => by
     have hb : b ≠ D := fun q => by rw [q, hDn] at e; cases e
     have hbI : b ≠ I := fun q => by
       have := k1 b o e
       rw [q, I0] at this; cases this
     exact hm.heap b o (by simp [hb, hbI]) (k4 b o hb (hx3.keep _ _ (hx.keep _ _ (k1 b o e))))
   refine ⟨rfl, h D c' s'.heap s'.toks acc'.toList (S.add kk (by simpa using hS') hDn) kk ?_⟩
   rw [← hks]
   have key : ∀ (vs : List Value) (ks : List (Int × Value)), vs.length = ks.length → (∀ (j : Nat) (v : Value), vs[j]? = some v → ∃ (k : Int) (x : Value), ks[j]? = some (k, x) ∧ (ik w).is k v = true) → IntsAre vs (ks.map (·.1)) := by
     intro vs
     induction vs with
     | nil => intro ks hl _; cases ks with
       | nil => exact .nil
       | cons _ _ => cases hl
     | cons v r ih => intro ks hl hp; cases ks with
       | nil => cases hl
       | cons p ks =>
         refine el_xxaa (hp 0 v rfl) fun k x e hk => ?_
         simp at e
         subst e
         refine el_xa (iki_inv hk) fun t hsb1 => ?_
         subst hsb1
         exact .cons k t (ih ks (by simpa using hl) fun j u hu => by simpa using hp (j + 1) u (by simpa using hu))
   exact key _ _ (by rw [Array.length_toList]; exact hacc.1) fun j v e => hacc.2 j v (by rw [← Array.getElem?_toList]; exact e)
 refine wpAny_ite_split (fun _ => ?_) (fun _ => wpAny_pure ⟨plainId_quiet PySem.F.plain_extend_loop _, key _ _ _ (fun b o _ e => e) hS₃⟩)
 refine wpAny_bind (wpAny_rule ?_)
 refine wpAny_bind ?_
 show wpAny _ _ (updateSeq D (·.push .none) >>= fun _ => updateSeq D (·.pop)) _ _ _
 refine wpAny_bind (wpAny_updateSeq hS₃ rfl ?_)
 have hS₄ := Heap.get?_update_self (Obj.mapSeq (·.push Value.none)) hS₃ rfl
 refine wpAny_updateSeq (hz := by seq_fits) hS₄ rfl ?_
 have hS₅ := Heap.get?_update_self (Obj.mapSeq (·.pop)) hS₄ rfl
 refine wpAny_pure ⟨plainId_quiet PySem.F.plain_extend_loop _, key _ _ _ (fun b o hb e => ?_) hS₅⟩
 exact (Heap.get?_update_other _ _ (Ne.symm hb)).trans ((Heap.get?_update_other _ _ (Ne.symm hb)).trans e)
end
noncomputable def comp2E (x y : Str) (p1 p2 p3 p4 : Pos) (iter : PySem.Expr) (scope : Scope) (pos : Pos) : PySem.Expr := .ListComp (.Name y p1) [⟨.Name x p2, iter, [], 0⟩, ⟨.Name y p3, .Name x p4, [], 0⟩] scope pos
section
variable {w : World} {A : Around} {E : Value → Shared → Prop} {s : Shared} {g : Heap} {N N' : List (Addr × Obj)} {l : Loc} {env : Env} {v : Value} {L : Addr} {x y : Str} {p1 p2 p3 p4 pos : Pos} {iter : PySem.Expr} {scope : Scope} {it acc : Value} {R : Result → Shared → Prop}
theorem turn1_eq : compTurn (comp2E x y p1 p2 p3 p4 iter scope pos) 1 it acc env = (standAt p4 >>= fun _ => pyNext it >>= fun r => match r with
     | none => pure (.done .next)
     | some v => letOwnedTupleGo (.Name y p3) it v >>= fun _ => assign (.Name y p3) env v >>= fun _ =>
       (eval (.Name y p1) env >>= fun x => call (.builtin "list.append") [acc, x] >>= fun _ => pure ()) >>= fun _ =>
         again (.compLoop (comp2E x y p1 p2 p3 p4 iter scope pos) 1 it acc env)) := by rfl
theorem turn0_eq : compTurn (comp2E x y p1 p2 p3 p4 iter scope pos) 0 it acc env = (standAt iter.pos >>= fun _ => pyNext it >>= fun r => match r with
     | none => pure (.done .next)
     | some v => letOwnedTupleGo (.Name x p2) it v >>= fun _ => assign (.Name x p2) env v >>= fun _ =>
       eval (.Name x p4) env >>= fun z => standAt p4 >>= fun _ => foldedSetIterable (.Name x p4) env z >>= fun z => holding [z] (pyIter z) >>= fun i2 => runOwn (.compStart (comp2E x y p1 p2 p3 p4 iter scope pos) 1 i2 acc env) env >>= fun _ =>
         again (.compLoop (comp2E x y p1 p2 p3 p4 iter scope pos) 0 it acc env)) := by rfl
theorem start1 {env : Env} (h0 : codeAny (model prg w) A (.compLoop (comp2E x y p1 p2 p3 p4 iter scope pos) 1 it acc env) R s)
   (h : wpAny (model prg w) A (pyIter it) (fun it' s' => codeAny (model prg w) A (.compLoop (comp2E x y p1 p2 p3 p4 iter scope pos) 1 it' acc env) R s') (notedBy (model prg w) A env fun x s' => R (.error x) s') s) :
   codeAny (model prg w) A (.compStart (comp2E x y p1 p2 p3 p4 iter scope pos) 1 it acc env) R s := by
 refine codeAny_of_tree ?_
 show wpAny _ _ ((compStart (comp2E x y p1 p2 p3 p4 iter scope pos) 1 it acc env).onRaise (fun x => do noteFrame x env; standAt theWindowsPlace)) _ _ s
 refine wpAny_notedAt ?_
 unfold compStart
 show wpAny _ _ (ask >>= _) _ _ s
 refine wpAny_bind (wpAny_askSetting (wpAny_ite ?_))
 split
 · first
     | exact wpAny_bind (wpAny_pure (wpAny_pure (And.intro rfl h0)))
     | exact wpAny_pure (And.intro rfl h0)
 · first
     | exact wpAny_bind (wpAny_rule (wpAny_bind (wpAny_standAt (wpAny_bind (wpAny_mono h (fun it' s' h' => wpAny_pure (And.intro rfl h')) fun _ _ x => x)))))
     | (refine wpAny_bind (wpAny_rule ?_); show wpAny _ _ (standAt p4 >>= _) _ _ s; exact wpAny_bind (wpAny_standAt (wpAny_bind (wpAny_mono h (fun it' s' h' => wpAny_pure (And.intro rfl h')) fun _ _ x => x))))
theorem Ext.sameBut {h h' : Heap} {a : Addr} {X : List Addr} (hs : Heap.SameBut a h h') (ha : a ∈ X) : Ext X h h' := fun b o nb e => hs.extBut b o (fun q => nb (q ▸ ha)) e
theorem lk_loc (l : Loc) (z : Str) (v : Value) : (fun y => if y = z then some v else lk l y) = lk ((z, some v) :: l) := lk_store z v l
theorem inner {env : Env} {T D C I : Addr} {a b : Value} {acc : List Value} {l : Loc} (hh : A.handled = none) (hC : env.locals = C) (hk : env.scope.kind = .function) (hly : env.kindOf y = some .local) (hdy : (y == ("__debug__" : Str)) = false)
   (hT : s.heap.get? T = some (tupOf [a, b])) (hD : s.heap.get? D = some (W.listOf acc.toArray acc.length)) (hN : s.heap.Ns C (lk l)) (hI : s.heap.IsTupleIter I T 0) (hCD : C ≠ D) (hIC : I ≠ C) (hID : I ≠ D) (hacc : acc.length ≤ 200)
   (hR : ∀ h' tk' l', Ext [C, D, I] s.heap h' → h'.Ns C (lk l') → (∀ z, z ≠ y → (l'.lookup z).join = (l.lookup z).join) → h'.get? D = some (W.listOf (acc ++ [a, b]).toArray (acc ++ [a, b]).length) → R (.ok .next) { s with heap := h', toks := tk' }) :
   codeAny (model prg w) A (.compStart (comp2E x y p1 p2 p3 p4 iter scope pos) 1 (.ref I) (.ref D) env) R s := by
 have nT : T ∉ [C, D, I] := by
   intro m
   simp only [List.mem_cons, List.not_mem_nil, or_false] at m
   rcases m with rfl | rfl | rfl
   · refine el_xxxaaa hN fun o es ep e hd _ => ?_
     try clear hN
     rw [hT] at e; cases e; cases hd
   · rw [hD] at hT
     have := congrArg (fun o : Option Obj => o.map (·.cls)) hT
     simp [W.listOf] at this
   · refine el_xaaa hI fun o e _ hd => ?_
     try clear hI
     rw [hT] at e; cases e; cases hd
 have loop : codeAny (model prg w) A (.compLoop (comp2E x y p1 p2 p3 p4 iter scope pos) 1 (.ref I) (.ref D) env) R s := by
   refine codeAny_loop rfl (fun n s' => ∃ i h tk l', n = 2 - i ∧ i ≤ 2 ∧ s' = { s with heap := h, toks := tk } ∧ Ext [C, D, I] s.heap h ∧ h.Ns C (lk l') ∧ (∀ z, z ≠ y → (l'.lookup z).join = (l.lookup z).join) ∧ h.IsTupleIter I T i ∧ h.get? D = some (W.listOf (acc ++ [a, b].take i).toArray (acc ++ [a, b].take i).length)) ?_ 2
     ⟨0, s.heap, s.toks, l, rfl, by lia, rfl, Ext.refl _ _, hN, fun _ _ => rfl, hI, by simpa using hD⟩
   intro n s'
   refine elc_xxxxaaaaaaaa fun i h tk l' hsb4 hi hsb6 hx hn hl hit hd => ?_
   subst hsb4
   subst hsb6
   show wpAny _ _ ((compTurn (comp2E x y p1 p2 p3 p4 iter scope pos) 1 (.ref I) (.ref D) env).onRaise (fun x => do noteFrame x env; theTreesLotGoes x)) _ _ _
   refine wpAny_noted ?_
   rw [turn1_eq]
   have hTh := hx T _ nT hT
   refine wpAny_bind (wpAny_standAt (wpAny_bind ?_))
   by_cases h2 : i = 2
   · subst h2
     refine wpAny_pyNext_tuple_end (A := Around.under A _) (by exact hh) hit ⟨_, hTh, rfl, _, rfl⟩ (by rfl) fun h' hs => ?_
     refine wpAny_pure ?_
     exact hR h' tk l' (hx.trans fun b o nb e => hs b o (fun q => nb (by simp [q])) e) (hn.at' fun o e => hs C o (Ne.symm hIC) e) hl (hs D _ (Ne.symm hID) hd)
   · refine el_xa (⟨[a, b][i]'(by simp; lia), List.getElem?_eq_getElem _⟩ : ∃ v, [a, b][i]? = some v) fun v hv => ?_
     refine wpAny_pyNext_tuple_item hit ⟨_, hTh, rfl, _, rfl⟩ (x := v) (by simpa using hv) fun h1 hit1 hs1 => ?_
     dsimp only
     have hn1 : h1.Ns C (lk l') := hn.at' fun o e => hs1.extBut _ _ (Ne.symm hIC) e
     have hd1 := hs1.extBut _ _ (Ne.symm hID) hd
     refine wpAny_bind (wpAny_pure ?_)
     refine wpAny_bind ?_
     subst hC
     refine wpAny_assign_Name (wpAny_storeName_local hly hn1 (fun h2 hn2 hs2 => ?_) (by rw [hk]; rfl))
     rw [lk_loc] at hn2
     refine wpAny_bind (wpAny_bind (wpAny_Name (wpAny_loadName_local hk hly hn2 (v := v) (by unfold lk; rw [List.lookup_cons]; simp) ?_) hdy))
     have hd2 := hs2.extBut _ _ (Ne.symm hCD) hd1
     refine wpAny_bind (append_at (hsz := by show (acc ++ [a, b].take i).toArray.size ≤ sizeLine; rw [List.size_toArray, List.length_append, sizeLine_eq, List.length_take]; lia) hd2 fun h3 hs3 hd3 => ?_)
     refine wpAny_pure (wpAny_pure ⟨rfl, 2 - (i + 1), by lia, i + 1, h3, _, (y, some v) :: l', rfl, by lia, rfl, ?_, hn2.at' fun o e => hs3.extBut _ _ hCD e, fun z hz => ?_, ?_, ?_⟩)
     · exact hx.trans (((Ext.sameBut hs1 (by simp)).trans (Ext.sameBut hs2 (by simp))).trans (Ext.sameBut hs3 (by simp)))
     · rw [List.lookup_cons, show (z == y) = false from beq_eq_false_iff_ne.mpr hz]; exact hl z hz
     · exact (hit1.extBut hs2.extBut hIC).extBut hs3.extBut hID
     · rw [hd3]
       have : [a, b].take (i + 1) = [a, b].take i ++ [v] := by
         rw [List.take_succ, hv]; rfl
       rw [this, ← List.append_assoc]
       exact congrArg some (lo_snoc _ _)
 refine start1 loop ?_
 exact wpAny_pyIter_tupleiter hI loop
theorem ints_append2 {vs : List Value} {ns : List Int} (h : IntsAre vs ns) {a b : Int} {t u : Tok} : IntsAre (vs ++ [.int a t, .int b u]) (ns ++ [a, b]) := h.append (.cons _ _ (.cons _ _ .nil))
theorem comp2R {cl : List (Str × Addr)} {rx : Addr} {c : Nat} {vs : List Value} {rows : List (Int × Int)} {RP : Value → Addr → Result → Shared → Prop} (hh : A.handled = none) (hr : s.heap.get? rx = some (W.listOf vs.toArray c)) (hE : Rows2 s.heap vs rows) (hn : rows.length ≤ 90)
   (fin : ∀ D C acc h tk l', (∀ b o, s.heap.get? b = some o → h.get? b = some o) → s.heap.get? D = none → s.heap.get? C = none → D ≠ C → h.Ns C (lk l') → h.get? D = some (W.listOf (List.toArray acc) acc.length) → IntsAre acc (nodesOf rows) → RP (.ref D) C (.ok .next) { s with heap := h, toks := tk })
   (hxy : x ≠ y) (hcell : ∀ y ∈ scope.names, y.2 ≠ .cell := by decide) (hkind : scope.kind = .function := by rfl)
   (hlx : ∀ C, (compEnvC scope cl C env).kindOf x = some .local := by intro _; rfl) (hly : ∀ C, (compEnvC scope cl C env).kindOf y = some .local := by intro _; rfl) (hdx : (x == ("__debug__" : Str)) = false := by decide) (hdy : (y == ("__debug__" : Str)) = false := by decide) :
   wpAny (model prg w) A (pyIter (.ref rx)) (fun it s₂ => wpAny (model prg w) A (newList []) (fun acc s₃ => wpAny (model prg w) A (newFunctionEnv scope env.globals cl [] env.qual none .none (some env)) (fun cenv s₄ =>
     codeAny (model prg w) A (.compStart (comp2E x y p1 p2 p3 p4 iter scope pos) 0 it acc { cenv with scope := relabel scope env }) (RP acc cenv.locals) s₄) E s₃) E s₂) E s := by
 refine wpAny_pyIter_list ⟨_, hr, rfl, _, rfl⟩ ?_
 refine wpAny_newObj_type (wpAny_newFunctionEnv hcell (by intro y hy; simp at hy) (fun h₁ hns₁ hsb₁ => ?_) hkind)
 dsimp only at hns₁ hsb₁ ⊢
 refine el_xa (⟨_, rfl⟩ : ∃ I, I = s.heap.objs.size) fun I hI => ?_
 generalize hH1 : s.heap.push { cls := .type "list_iterator", data := .fields #[.ref rx, .int 0 0] } = H1 at hns₁ hsb₁ ⊢
 have hD0 : H1.objs.size = s.heap.objs.size + 1 := by rw [← hH1, Heap.size_push]
 generalize hH2 : H1.push { cls := .type "list", dict := none, data := .seq ([] : List Value).toArray } = H2 at hns₁ hsb₁ ⊢
 have hC0 : H2.objs.size = H1.objs.size + 1 := by rw [← hH2, Heap.size_push]
 rw [← hI]
 generalize hD' : H1.objs.size = D at *
 generalize hC' : H2.objs.size = C at *
 have hID : I ≠ D := by rw [hI, hD0]; exact Nat.ne_of_lt (Nat.lt_succ_self _)
 have hDC : D ≠ C := by rw [hC0]; exact Nat.ne_of_lt (Nat.lt_succ_self _)
 have hIC : I ≠ C := by rw [hI, hC0, hD0]; exact Nat.ne_of_lt (Nat.lt_succ_of_lt (Nat.lt_succ_self _))
 have nI : s.heap.get? I = none := by rw [hI]; exact get_size _
 have n1 : ∀ b, H1.get? b = none → s.heap.get? b = none := fun b e => none_sub (fun b o e => hH1 ▸ Heap.get?_push_of_some _ e) e
 have nD : s.heap.get? D = none := n1 D (by rw [← hD']; exact get_size _)
 have nC : s.heap.get? C = none := n1 C (none_sub (fun b o e => hH2 ▸ Heap.get?_push_of_some _ e) (by rw [← hC']; exact get_size _))
 have k0 : ∀ b o, s.heap.get? b = some o → h₁.get? b = some o := fun b o e => hsb₁.extBut b o (fun q => by rw [q, nC] at e; cases e) (Heap.get?_push_of_some _ (hH2 ▸ Heap.get?_push_of_some _ (hH1 ▸ Heap.get?_push_of_some _ e)))
 have hacc : h₁.get? D = some (W.listOf ([] : List Value).toArray ([] : List Value).length) := hsb₁.extBut _ _ hDC (Heap.get?_push_of_some _ (by rw [← hH2, ← hD']; exact Heap.get?_push_size _ rfl))
 have hit0 : h₁.IsListIter I rx 0 := ⟨_, hsb₁.extBut _ _ hIC (Heap.get?_push_of_some _ (hH2 ▸ Heap.get?_push_of_some _ (by rw [← hH1, hI]; exact Heap.get?_push_size _ rfl))), rfl, rfl⟩
 have hlen := hE.len
 have loop : ∀ tk, codeAny (model prg w) A (.compLoop (comp2E x y p1 p2 p3 p4 iter scope pos) 0 (.ref I) (.ref D) (compEnvC scope cl C env)) (RP (.ref D) C) { s with heap := h₁, toks := tk } := by
   intro tk1
   refine codeAny_loop rfl (fun n s' => ∃ i h tk l' acc, n = rows.length - i ∧ i ≤ rows.length ∧ s' = { s with heap := h, toks := tk } ∧ (∀ b o, s.heap.get? b = some o → h.get? b = some o) ∧ h.Ns C (lk l') ∧ h.IsListIter I rx i ∧ h.get? D = some (W.listOf acc.toArray acc.length) ∧ IntsAre acc (nodesOf (rows.take i)) ∧ acc.length = 2 * i) ?_ (rows.length - 0)
     ⟨0, h₁, tk1, [], [], rfl, Nat.zero_le _, rfl, k0, hns₁, hit0, hacc, .nil, rfl⟩
   intro n s'
   refine elc_xxxxxaaaaaaaaa fun i h tk l' acc hsb5 hi hsb7 hk hns hit hd hia hal => ?_
   subst hsb5
   subst hsb7
   show wpAny _ _ ((compTurn (comp2E x y p1 p2 p3 p4 iter scope pos) 0 (.ref I) (.ref D) (compEnvC scope cl C env)).onRaise (fun x => do noteFrame x (compEnvC scope cl C env); theTreesLotGoes x)) _ _ _
   refine wpAny_noted ?_
   rw [turn0_eq]
   refine wpAny_bind (wpAny_standAt (wpAny_bind ?_))
   by_cases hend : i = rows.length
   · refine wpAny_pyNext_list_end (A := Around.under A _) (by exact hh) hit ⟨_, hk _ _ hr, rfl, _, rfl⟩ (by simp [hlen, hend]) fun h' hs => ?_
     refine wpAny_pure ?_
     have kk : ∀ b o, s.heap.get? b = some o → h'.get? b = some o := fun b o e => hs b o (fun q => by rw [q, nI] at e; cases e) (hk b o e)
     rw [hend, List.take_length] at hia
     exact fin D C acc h' tk l' kk nD nC hDC (hns.at' fun o e => hs C o (Ne.symm hIC) e) (hs D _ (Ne.symm hID) hd) hia
   · have hlt : i < rows.length := by lia
     have hlt' : i < vs.length := by lia
     refine el_xxxxxaaa (hE.at (i := i) (x := vs[i]) (by simp [hlt'])) fun T a b t1 t2 hv hri hT => ?_
     refine wpAny_pyNext_list_item hit ⟨_, hk _ _ hr, rfl, _, rfl⟩ (x := .ref T) (by rw [← hv]; simp [hlt']) fun h1 hit1 hs1 => ?_
     dsimp only
     have hns1 : h1.Ns C (lk l') := hns.at' fun o e => hs1.extBut _ _ (Ne.symm hIC) e
     have hd1 := hs1.extBut _ _ (Ne.symm hID) hd
     refine wpAny_bind (wpAny_pure ?_)
     refine wpAny_bind ?_
     refine wpAny_assign_Name (wpAny_storeName_local (hlx C) hns1 (fun h2 hns2 hs2 => ?_) (by show (scope.kind == .class || (scope.kind == .module && _)) = false; rw [hkind]; rfl))
     rw [lk_loc] at hns2
     have hC2 : Heap.SameBut C h1 h2 := hs2
     have hd2 := hC2.extBut _ _ hDC hd1
     have hit2 := hit1.extBut hC2.extBut hIC
     have k2 : ∀ b o, s.heap.get? b = some o → h2.get? b = some o := fun b o e => hC2.extBut b o (fun q => by rw [q, nC] at e; cases e) (hs1.extBut b o (fun q => by rw [q, nI] at e; cases e) (hk b o e))
     refine wpAny_bind (wpAny_Name (wpAny_loadName_local (by exact hkind) (hlx C) hns2 (v := .ref T) (by unfold lk; rw [List.lookup_cons]; simp) ?_) hdx)
     refine wpAny_bind (wpAny_standAt ?_)
     refine wpAny_bind (wpAny_pure ?_)
     have hT2 := k2 _ _ hT
     refine wpAny_bind (wpAny_holding (wpAny_pyIter_tuple ⟨_, hT2, rfl, _, rfl⟩ ?_))
     refine el_xa (⟨_, rfl⟩ : ∃ I2, I2 = h2.objs.size) fun I2 hI2 => ?_
     have nI2 : h2.get? I2 = none := by rw [hI2]; exact get_size _
     have k3 : ∀ b o, h2.get? b = some o → (h2.push { cls := .type "tuple_iterator", data := .fields #[.ref T, .int 0 0] }).get? b = some o := fun b o e => Heap.get?_push_of_some _ e
     have hI2' : (h2.push { cls := .type "tuple_iterator", data := .fields #[.ref T, .int 0 0] }).IsTupleIter I2 T 0 := ⟨_, by rw [hI2]; exact Heap.get?_push_size _ rfl, rfl, rfl⟩
     dsimp only
     rw [← hI2]
     have hns2' : h2.Ns C (lk ((x, some (.ref T)) :: l')) := hns2
     have nC2 : I2 ≠ C := fun q => by obtain ⟨o, _, _, e, _⟩ := hns2'; rw [← q, nI2] at e; cases e
     have nD2 : I2 ≠ D := fun q => by rw [← q, nI2] at hd2; cases hd2
     have nII : I2 ≠ I := fun q => by obtain ⟨o, e, _⟩ := hit2; rw [← q, nI2] at e; cases e
     refine wpAny_bind (wpAny_runOwn (inner (s := { s with heap := h2.push { cls := .type "tuple_iterator", data := .fields #[.ref T, .int 0 0] }, toks := tk + 1 }) (C := C) (by exact hh) rfl (by exact hkind) (hly C) hdy (k3 _ _ hT2) (k3 _ _ hd2) (hns2'.at' fun o e => k3 _ _ e) hI2' (Ne.symm hDC) nC2 nD2 (by lia) fun h4 tk4 l4 hx4 hns4 hl4 hd4 => ?_))
     refine wpAny_pure ⟨rfl, rows.length - (i + 1), by lia, i + 1, h4, tk4, l4, _, rfl, by lia, rfl, fun b o e => ?_, hns4, ?_, hd4, ?_, ?_⟩
     · refine hx4 b o (fun m => ?_) (k3 _ _ (k2 b o e))
       simp only [List.mem_cons, List.not_mem_nil, or_false] at m
       rcases m with q | q | q
       · rw [q, nC] at e; cases e
       · rw [q, nD] at e; cases e
       · have := k2 b o e; rw [q, nI2] at this; cases this
     · refine el_xaa hit2 fun o e r => ?_
       try clear hit2
       exact ⟨o, hx4 I o (by simp [hIC, hID, Ne.symm nII]) (k3 _ _ e), r⟩
     · have : rows.take (i + 1) = rows.take i ++ [(a, b)] := by rw [List.take_succ, hri]; rfl
       rw [this]
       unfold nodesOf
       rw [List.flatMap_append]
       exact ints_append2 hia
     · rw [List.length_append, hal]; simp; lia
 exact codeAny_compStart_list (loop _) (wpAny_pyIter_listiter (by exact hit0) (loop _))
theorem assignComp2 {z : Str} {pz spos : Pos} {cl : List (Str × Addr)} {Q : Flow → Shared → Prop} 
   (h : wpAny (model prg w) A (eval iter env) (fun xv s₁ => ∃ rx c vs rows l, xv = .ref rx ∧ A.handled = none ∧ St g L s₁.heap l N ∧ s₁.heap.get? rx = some (W.listOf (List.toArray vs) c) ∧ Rows2 s₁.heap vs rows ∧ rows.length ≤ 90 ∧
     ∀ D acc h tk, St g L h ((z, some (.ref D)) :: l) ((D, W.listOf acc.toArray acc.length) :: N) → (∀ b o, b ≠ L → s₁.heap.get? b = some o → h.get? b = some o) → IntsAre acc (nodesOf rows) → Q .next { s₁ with heap := h, toks := tk }) E s)
   (hsw : swapsWith (comp2E x y p1 p2 p3 p4 iter scope pos) (some (.Name z pz)) spos.line env = pure true := by rfl)
   (hclos : closureFor scope env = pure cl := by rfl) (hs : ∀ x, foldedSetIterable iter env x = pure x := by intro _; rfl) (hnames : ∀ x ∈ scope.names, x.2 = .local → scope.names.lookup x.1 = some .local := by decide)
   (hz : env.kindOf z = some .local := by rfl) (hp : (env.scope.kind == .class || (env.scope.kind == .module && env.locals != env.globals)) = false := by rfl) (hL : env.locals = L := by rfl)
   (hxy : x ≠ y := by decide) (hcell : ∀ y ∈ scope.names, y.2 ≠ .cell := by decide) (hkind : scope.kind = .function := by rfl)
   (hlx : ∀ C, (compEnvC scope cl C env).kindOf x = some .local := by intro _; rfl) (hly : ∀ C, (compEnvC scope cl C env).kindOf y = some .local := by intro _; rfl) (hdx : (x == ("__debug__" : Str)) = false := by decide) (hdy : (y == ("__debug__" : Str)) = false := by decide) :
   wpAny (model prg w) A (exec (.Assign [.Name z pz] (comp2E x y p1 p2 p3 p4 iter scope pos) spos) env) Q E s := by
 subst hL
 rw [exec_Assign_Name_used _ _ _ _ hsw]
 refine wpAny_bind (wpAny_standAt (wpAny_bind ?_))
 show wpAny _ A (do let _ ← comprehension (comp2E x y p1 p2 p3 p4 iter scope pos) scope env _ (newList []) false (eval iter env) (some (assign (.Name z pz) env))) _ _ s
 refine wpAny_bind (wpAny_mono (wpAny_comprehension_free (use := some (assign (.Name z pz) env)) (Q := fun _ s' => Q .next s') rfl hs hclos hkind hnames
   (wpAny_mono h (fun xv s₁ h₁ => ?_) fun _ _ e => e)) (fun _ s' hq => wpAny_pure (wpAny_pure hq)) fun _ _ e => e)
 refine el_xxxxxaaaaaaa h₁ fun rx c vs rows l hsb5 hh S hr hE hn done => ?_
 try clear h₁
 subst hsb5
 refine comp2R (RP := fun acc C => compPost (model prg w) A E (some (assign (.Name z pz) env)) (fun _ s' => Q .next s') acc C) hh hr hE hn (fun D C acc h tk l' k nD nC hDC hns hd hi => ?_) hxy hcell hkind hlx hly hdx hdy
 show wpAny _ A (assign (.Name z pz) env (.ref D)) _ _ _
 have S1 := S.add k hd nD
 have nCL : C ≠ env.locals := fun q => by obtain ⟨o, _, _, e, _⟩ := S.ns; rw [← q, nC] at e; cases e
 refine wpAny_assign_Name (wpAny_storeName_local hz S1.ns (fun h₂ hn₂ hs₂ => ?_) hp)
 rw [lk_store] at hn₂
 refine ⟨_, hns.sameBut hs₂ nCL, fun h₃ hs₃ => ?_⟩
 have k3 : ∀ b o, b ≠ env.locals → s₁.heap.get? b = some o → h₃.get? b = some o := fun b o hb e => hs₃.extBut b o (fun q => by rw [q, nC] at e; cases e) (hs₂.extBut b o hb (k b o e))
 refine done D acc h₃ _ ⟨hn₂.sameBut hs₃ (Ne.symm nCL), fun b o e => k3 b o (fun q => by rw [q, S.sep] at e; cases e) (S.keep b o e), S.sep, fun p hp => ?_, S1.nd⟩ k3 hi
 have z := S1.nw p hp
 refine ⟨?_, z.2⟩
 rcases List.mem_cons.mp hp with rfl | hp
 · exact hs₃.extBut _ _ hDC (hs₂.extBut _ _ z.2.1 hd)
 · exact k3 _ _ z.2.1 (S.nw p hp).1
end
section
variable {w : World} {A A' : Around} {outs : List Env} {base : Heap} {n m : Nat} {s : Shared} {E : Value → Shared → Prop} {g : Heap} {L : Addr} {l : Loc} {N : List (Addr × Obj)}
theorem setDisp {env : Env} {elts : List PySem.Expr} {k : Nat} {pos : Pos} {Q : Value → Shared → Prop} (S : St g L s.heap l N) (C : Cx w A' outs base g n)
   (h : ∀ D h', St g L h' l ((D, set0 w) :: N) → (∀ b o, s.heap.get? b = some o → h'.get? b = some o) → KdsAll (model prg w) A E env elts (fun vs s' => KdsFill (model prg w) A E false D Q vs s') { s with heap := h' })
   (hc : kdsCode (KF w) env.code = true := by rfl) (hroad : displayRoad k elts = .oneByOne := by rfl) (hp : elts.all kdsPlain = true := by rfl) (hlen : elts.length ≤ 30 := by decide) : wpAny (model prg w) A (eval (.Set elts k pos) env) Q E s := by
 rw [arm_eval_Set]
 refine wpAny_bind (wpAny_standAt ?_)
 refine wpAny_bind (kds_main (C.kinAt S.keep) hc fun b => ?_)
 rw [kds_star elts hp, List.map_map, hroad]
 have ha := h _ _ (S.add (a := s.heap.objs.size) (o := set0 w) (fun b o e => Heap.get?_push_of_some _ e) (Heap.get?_push_size _ rfl) (get_size _)) fun b o e => Heap.get?_push_of_some _ e
 have hs : (((evalEach elts env).map ((fun x : Bool × Sem Value => (x.1, do let v ← x.2; standAt pos; pure v)) ∘ fun t => (false, t)))).findIdx? (·.1) = none := by
   refine List.findIdx?_eq_none_iff.mpr fun x hx => ?_
   refine el_xaa (List.mem_map.mp hx) fun t _ hsb2 => ?_
   subst hsb2
   rfl
 have hl : (((evalEach elts env).map ((fun x : Bool × Sem Value => (x.1, do let v ← x.2; standAt pos; pure v)) ∘ fun t => (false, t)))).length ≤ 30 := by rw [List.length_map, kds_len]; exact hlen
 have hm : (((evalEach elts env).map ((fun x : Bool × Sem Value => (x.1, do let v ← x.2; standAt pos; pure v)) ∘ fun t => (false, t)))).map (·.2) = ((evalEach elts env).map fun t => (do let v ← t; standAt pos; pure v)) := by rw [List.map_map]; rfl
 show wpAny (model prg w) A (setDisplay .oneByOne b ((evalEach elts env).map ((fun x : Bool × Sem Value => (x.1, do let v ← x.2; standAt pos; pure v)) ∘ fun t => (false, t)))) Q E s
 generalize (evalEach elts env).map ((fun x : Bool × Sem Value => (x.1, do let v ← x.2; standAt pos; pure v)) ∘ fun t => (false, t)) = el at hs hl hm ⊢
 have hn : (if el.length > 30 then 0 else (el.findIdx? (·.1)).getD el.length) = el.length := by rw [if_neg (by lia), hs]; rfl
 unfold setDisplay newSet setsByText
 try dsimp only
 rw [if_neg (by decide)]
 refine wpAny_bind ?_
 refine wpAny_bind (wpAny_bind (wpAny_askSetting (wpAny_pure ?_)))
 dsimp only
 refine wpAny_newObj_type ?_ (by size_fits)
 dsimp only
 rw [hn, List.take_length, List.drop_length, hm]
 refine wpAny_bind (wpAny_holding ?_)
 refine wpAny_bind (wpAny_mono (kds_all pos elts _ _ ha) (fun vs s' h' => ?_) fun _ _ x => x)
 refine wpAny_bind (wpAny_holding ?_)
 refine wpAny_bind (wpAny_mono (kds_for (fun x P s hx => ?_) vs s' h') (fun _ s1 h1 => ?_) fun _ _ x => x)
 · refine wpAny_bind (wpAny_mono hx (fun _ s2 h2 => ?_) fun _ _ x => x)
   first | exact wpAny_pure ⟨rfl, h2⟩ | exact wpAny_bind (wpAny_pure (wpAny_pure ⟨rfl, h2⟩))
 · have h2 : Q (.ref s.heap.objs.size) s1 := by simpa [KdsFill] using h1
   rw [if_neg (by decide)]
   refine wpAny_pure ?_
   rw [List.forIn_nil]
   exact wpAny_pure (wpAny_pure h2)
theorem fillF {D T : Addr} {o : Obj} {Cs : List (List Int × Addr)} {ks : List Int} {vs : List Value} {Q : Value → Shared → Prop} (S : St g L s.heap l N) (P : PS w s.heap o Cs) (hm : (D, o) ∈ N) (hu : A.units < cLine) (hx : IsK w s.heap ks T) (hd : ks ∈ dom) (hn : ks ∉ Cs.map (·.1)) (hl : Cs.length ≤ 16) (N' : Obj → List (Addr × Obj)) (U : ∀ o', UpN D o o' N (N' o'))
   (h : ∀ h' tk o' C', St g L h' l (N' o') → PS w h' o' C' → C'.Perm ((ks, T) :: Cs) → KdsFill (model prg w) A E false D Q vs { s with heap := h', toks := tk }) : KdsFill (model prg w) A E false D Q (.ref T :: vs) s :=
 kds_fill_cons (setAdd_new P (S.get hm) hu hx hd hn hl fun h' tk o' C' hs ho P' hp => h h' tk o' C' (S.turn (U o') hs ho) P' hp)
theorem quietT {T : Addr} {ks : List Int} {Q : Bool → Shared → Prop} (hx : IsK w s.heap ks T) (h : Q false s) : wpAny (model prg w) A (Builtin.Frozenset.quietEq (.ref T)) Q E s := by
 refine el_xxxaaaa hx fun o items n ho hc hd hi => ?_
 try clear hx
 have hT : s.TypeIs (.ref T) "tuple" := ⟨o, ho, hc⟩
 unfold Builtin.Frozenset.quietEq
 dsimp only
 refine wpAny_bind (wpAny_specialOf hT PySem.F.slot_tuple_eq.lookup ?_)
 exact wpAny_pure h
theorem walk_ps {a : Addr} {o : Obj} {C : List (List Int × Addr)} {Q : List (Int × Value) → Shared → Prop} (P : PS w s.heap o C) (ho : s.heap.get? a = some o) (h : ∀ V : List (Int × Value), V.Perm (entsOf C).toList → Q V s) : wpAny (model prg w) A (Builtin.Frozenset.walk a) Q E s := by
 refine el_xxaaaaa (P.is) fun ep t hsb2 T hr hsm hled => ?_
 subst hsb2
 have hf : t.fits (entsOf C).size = true := by rw [ents_size]; exact T.fits
 unfold Builtin.Frozenset.walk setWalk
 refine wpAny_bind (wpAny_bind (setState_ps ho hf ?_))
 dsimp only
 unfold setsByText
 refine wpAny_bind (wpAny_bind (wpAny_askSetting (wpAny_pure ?_)))
 show wpAny _ _ (if w.params.followText "set-order" = true then _ else _) _ _ _
 cases hft : w.params.followText "set-order" with
 | true =>
   rw [if_pos rfl]
   refine wpAny_bind (wpAny_askSetting (wpAny_pure (wpAny_pure (h _ (pick_perm _ _)))))
 | false =>
   rw [if_neg Bool.false_ne_true]
   rw [if_neg (fun h => by have h' : (!t.plain && decide ((entsOf C).size > 1)) = true := h; rw [T.plain] at h'; cases h')]
   have hL : (!t.led) = false := by rw [hled]; unfold ledOf; rw [hft]; rfl
   refine wpAny_bind ?_
   show wpAny _ _ (if (!t.led && decide ((entsOf C).size > 1)) = true then _ else _) _ _ _
   rw [hL, if_neg (by simp)]
   exact wpAny_pure (wpAny_pure (wpAny_pure (h _ (List.Perm.refl _))))
theorem ents_list (C : List (List Int × Addr)) : (entsOf C).toList = C.map fun c => (hk c.1, Value.ref c.2) := by simp
theorem entries_ps {a : Addr} {o : Obj} {C : List (List Int × Addr)} {Q : Array (Int × Value) → Shared → Prop} (P : PS w s.heap o C) (ho : s.heap.get? a = some o) (h : Q (entsOf C) s) : wpAny (model prg w) A (setEntries a) Q E s := by
 refine el_xxaaaaa (P.is) fun ep t hsb2 T hr hsm hled => ?_
 subst hsb2
 have hf : t.fits (entsOf C).size = true := by rw [ents_size]; exact T.fits
 exact wpAny_bind (setState_ps ho hf (wpAny_pure h))
theorem epoch_ps {a : Addr} {o : Obj} {C : List (List Int × Addr)} {Q : Nat → Shared → Prop} (P : PS w s.heap o C) (ho : s.heap.get? a = some o) (h : ∀ ep t, o = setObj (entsOf C) ep t → Q ep s) : wpAny (model prg w) A (setEpoch a) Q E s := by
 refine el_xxaaaaa (P.is) fun ep t hsb2 T hr hsm hled => ?_
 subst hsb2
 have hf : t.fits (entsOf C).size = true := by rw [ents_size]; exact T.fits
 exact wpAny_bind (setState_ps ho hf (wpAny_pure (h ep t rfl)))
theorem unseen_ps {a b : Addr} {o o2 : Obj} {C C2 : List (List Int × Addr)} {Q : List (Int × Value) → Shared → Prop} (P : PS w s.heap o C) (ho : s.heap.get? a = some o) (P2 : PS w s.heap o2 C2) (ho2 : s.heap.get? b = some o2) (h : ∀ V : List (Int × Value), V.Perm (entsOf C).toList → Q V s) : wpAny (model prg w) A (Builtin.Frozenset.walkUnseen a b) Q E s := by
 unfold Builtin.Frozenset.walkUnseen
 refine wpAny_bind (entries_ps P ho ?_)
 refine wpAny_bind (entries_ps P2 ho2 ?_)
 have key : ∀ l : List (Int × Value), (∀ p ∈ l, ∃ T ks, p.2 = .ref T ∧ IsK w s.heap ks T) → (entsOf C).toList ++ (entsOf C2).toList = l →
     wpAny (model prg w) A (do
       for (_, x) in l do
         if !(← Builtin.Frozenset.quietEq x) then return ← Builtin.Frozenset.walk a
       return (entsOf C).toList) Q E s := by
   intro l hl _
   cases l with
   | nil =>
     simp only [List.forIn_nil, pure_bind]
     exact wpAny_pure (h _ (List.Perm.refl _))
   | cons p r =>
     refine el_xxaa (hl p (.head _)) fun T ks e hx => ?_
     obtain ⟨p1, p2⟩ := p
     dsimp only at e
     subst e
     rw [List.forIn_cons]
     refine wpAny_bind (wpAny_bind (wpAny_bind (quietT hx ?_)))
     simp only [Bool.not_false, if_true]
     refine wpAny_bind (walk_ps P ho fun V hV => ?_)
     refine wpAny_pure (wpAny_pure ?_)
     exact wpAny_pure (h V hV)
 refine key _ (fun p hp => ?_) rfl
 rcases List.mem_append.mp hp with hp | hp
 · rw [ents_list] at hp
   refine el_xaa (List.mem_map.mp hp) fun c hc hsb2 => ?_
   subst hsb2
   exact in_x2 c.2 c.1 ⟨rfl, P.keys c hc⟩ -- in146
 · rw [ents_list] at hp
   refine el_xaa (List.mem_map.mp hp) fun c hc hsb2 => ?_
   subst hsb2
   exact in_x2 c.2 c.1 ⟨rfl, P2.keys c hc⟩ -- in147
theorem sizeOf_ps {a : Addr} {o : Obj} {C : List (List Int × Addr)} {Q : Nat → Shared → Prop} (P : PS w s.heap o C) (ho : s.heap.get? a = some o) (h : Q C.length s) : wpAny (model prg w) A (Builtin.Frozenset.sizeOf a) Q E s := by
 refine wpAny_bind (entries_ps P ho (wpAny_pure ?_))
 rw [ents_size]; exact h
theorem unchanged_ps {a : Addr} {o : Obj} {C : List (List Int × Addr)} {id : String} {ep : Nat} {t : SetTable} {Q : Unit → Shared → Prop} (P : PS w s.heap o C) (ho : s.heap.get? a = some o) (e : o = setObj (entsOf C) ep t) (h : Q () s) : wpAny (model prg w) A (Builtin.Frozenset.unchanged id a ep) Q E s := by
 unfold Builtin.Frozenset.unchanged
 refine wpAny_bind (epoch_ps P ho fun ep' t' e' => ?_)
 have : ep' = ep := by rw [e] at e'; injection e' with _ _ h3 _; injection h3 with _ h4 _; exact h4.symm
 subst this
 rw [if_neg (by simp)]
 exact wpAny_pure h
theorem subset_ps {a b : Addr} {o o2 : Obj} {C C2 : List (List Int × Addr)} {id : String} {Q : Bool → Shared → Prop} (hu : A.units < cLine) (P : PS w s.heap o C) (ho : s.heap.get? a = some o) (P2 : PS w s.heap o2 C2) (ho2 : s.heap.get? b = some o2)
   (h4 : C2.length ≤ 4) (hl : C.length ≤ C2.length) (hs : ∀ c ∈ C, c.1 ∈ C2.map (·.1)) (h : Q true s) : wpAny (model prg w) A (Builtin.Frozenset.subsetOf id a b) Q E s := by
 unfold Builtin.Frozenset.subsetOf
 refine wpAny_bind (sizeOf_ps P ho ?_)
 refine wpAny_bind (sizeOf_ps P2 ho2 ?_)
 rw [if_neg (by lia)]
 refine wpAny_bind (epoch_ps P ho fun ep t e => ?_)
 refine wpAny_bind (unseen_ps P ho P2 ho2 fun V hV => ?_)
 have key : ∀ l : List (Int × Value), (∀ p ∈ l, ∃ c ∈ C, p = (hk c.1, .ref c.2)) →
     wpAny (model prg w) A (do
       for (h, x) in l do
         if (← holding [x] (setFind b x h)).isNone then return false
         Builtin.Frozenset.unchanged id a ep
       return true) Q E s := by
   intro l
   induction l with
   | nil =>
     intro _
     simp only [List.forIn_nil, pure_bind]
     exact wpAny_pure h
   | cons p r ih =>
     intro hp
     refine el_xaa (hp p (.head _)) fun c hc hsb2 => ?_
     subst hsb2
     simp only [List.forIn_cons, bind_assoc]
     refine wpAny_bind (wpAny_holding (setFind_ps P2 ho2 hu (P.keys c hc) (P.dm c hc) fun r1 _ hr => ?_))
     have e1 : r1.isNone = false := by
       have := hr h4
       rw [decide_eq_true (hs c hc)] at this
       cases r1 with
       | none => cases this
       | some _ => rfl
     rw [e1]
     simp only [Bool.false_eq_true, if_false, bind_assoc]
     refine wpAny_bind (unchanged_ps P ho e ?_)
     simp only [pure_bind]
     exact ih fun p hp' => hp p (.tail _ hp')
 refine key V fun p hp => ?_
 have := hV.mem_iff.mp hp
 rw [ents_list] at this
 refine el_xaa (List.mem_map.mp this) fun c hc hsb2 => ?_
 subst hsb2
 exact ⟨c, hc, rfl⟩
theorem eqSets {a b : Addr} {o o2 : Obj} {C C2 : List (List Int × Addr)} {Q : Value → Shared → Prop} (hu : A.units + 64 < cLine) (P : PS w s.heap o C) (ho : s.heap.get? a = some o) (P2 : PS w s.heap o2 C2) (ho2 : s.heap.get? b = some o2)
   (h4 : C2.length ≤ 4) (hl : C.length = C2.length) (hs : ∀ c ∈ C, c.1 ∈ C2.map (·.1)) (h : Q (.bool true) s) : wpAny (model prg w) A (richCompare .Eq (.ref a) (.ref b)) Q E s := by
 have hT := P.typeIs ho
 have hT2 := P2.typeIs ho2
 refine wpAny_richCompare_same_room hT hT2 F.slot_set_eq (wpAny_call_entry F.slot_set_eq hT (entryFor_alias (id' := "frozenset.__eq__") (by kernel_rfl) rfl (by decide +kernel) (by kernel_rfl) : entryFor table "set.__eq__" = some Builtin.«frozenset.__eq__») ?_ (F.args_set_eq_2 _ _)) (by lia)
 show wpAny _ _ (Builtin.Frozenset.slot1 "__eq__" ⟨[.ref a, .ref b], []⟩ >>= _) _ _ _
 refine wpAny_bind (wpAny_of_eq (a := (Value.ref a, Value.ref b)) rfl ?_)
 have i1 : ∀ {c : Addr} {A : Around} {E : Value → Shared → Prop} {Q : Bool → Shared → Prop}, s.TypeIs (.ref c) "set" → Q true s → wpAny (model prg w) A (isInstance (.ref c) (.type "set")) Q E s := fun hT hq => wpAny_isInstance (T := "set") (b := true) hT (by rw [isSubtype_type]; kernel_rfl) hq
 have i2 : ∀ {c : Addr} {A : Around} {E : Value → Shared → Prop} {Q : Bool → Shared → Prop}, s.TypeIs (.ref c) "set" → Q false s → wpAny (model prg w) A (isInstance (.ref c) (.type "frozenset")) Q E s := fun hT hq => wpAny_isInstance (T := "set") (b := false) hT (by rw [isSubtype_type]; kernel_rfl) hq
 dsimp only
 unfold Builtin.Frozenset.isAnySet
 refine wpAny_bind (wpAny_bind (i1 hT2 (wpAny_pure ?_)))
 rw [if_neg (by simp)]
 refine wpAny_bind (wpAny_pure (wpAny_bind (wpAny_pure ?_)))
 refine wpAny_bind (sizeOf_ps P ho ?_)
 refine wpAny_bind (sizeOf_ps P2 ho2 ?_)
 refine wpAny_bind ?_
 rw [if_neg (by simp [hl])]
 refine wpAny_bind (wpAny_bind (i2 hT (wpAny_pure ?_)))
 rw [if_neg Bool.false_ne_true]
 refine subset_ps (by show A.units + 1 < cLine; lia) P ho P2 ho2 h4 (by lia) hs ?_
 exact wpAny_pure ⟨_, rfl, (fun x => nomatch x), h⟩
theorem compareEqSets {a b : Addr} {o o2 : Obj} {C C2 : List (List Int × Addr)} {Q : Value → Shared → Prop} (hu : A.units + 64 < cLine) (P : PS w s.heap o C) (ho : s.heap.get? a = some o) (P2 : PS w s.heap o2 C2) (ho2 : s.heap.get? b = some o2)
   (h4 : C2.length ≤ 4) (hl : C.length = C2.length) (hs : ∀ c ∈ C, c.1 ∈ C2.map (·.1)) (h : Q (.bool true) s) : wpAny (model prg w) A (compareOp .Eq (.ref a) (.ref b)) Q E s := eqSets hu P ho P2 ho2 h4 hl hs h
theorem eqBoolSets {a b : Addr} {o o2 : Obj} {C C2 : List (List Int × Addr)} {Q : Bool → Shared → Prop} (hu : A.units + 64 < cLine) (P : PS w s.heap o C) (ho : s.heap.get? a = some o) (P2 : PS w s.heap o2 C2) (ho2 : s.heap.get? b = some o2)
   (h4 : C2.length ≤ 4) (hl : C.length = C2.length) (hs : ∀ c ∈ C, c.1 ∈ C2.map (·.1)) (h : Q true s) : wpAny (model prg w) A (eqBool (.ref a) (.ref b)) Q E s := by
 unfold eqBool
 refine wpAny_holding ?_
 refine wpAny_ite_split (fun _ => ?_) (fun _ => ?_)
 · exact wpAny_bind (wpAny_rule (wpAny_pure h))
 · exact wpAny_bind (eqSets hu P ho P2 ho2 h4 hl hs (wpAny_truthy_bool h))
theorem inOne {x y D : Addr} {c : Nat} {o o2 : Obj} {C C2 : List (List Int × Addr)} {Q : Value → Shared → Prop} (hu : A.units + 70 < cLine) (hD : s.heap.get? D = some (W.listOf [Value.ref y].toArray c)) (P : PS w s.heap o C) (ho : s.heap.get? y = some o) (P2 : PS w s.heap o2 C2) (ho2 : s.heap.get? x = some o2)
   (h4 : C2.length ≤ 4) (hl : C.length = C2.length) (hs : ∀ c ∈ C, c.1 ∈ C2.map (·.1)) (h : Q (.bool true) s) : wpAny (model prg w) A (compareOp .In (.ref x) (.ref D)) Q E s := by
 have hT : s.TypeIs (.ref D) "list" := ⟨_, hD, rfl⟩
 show wpAny _ A (do return .bool (← contains (.ref D) (.ref x))) Q E s
 refine wpAny_bind (wpAny_contains_slot hT F.slot_list_contains (wpAny_call (codeAny_call_builtin F.slot_list_contains.plain F.entry_list_contains (F.slot_list_contains.check _ _ _ _ _ _ _ _ hT (F.args_list_contains_2 _ _) ?_))))
 unfold Builtin.«list.__contains__»
 refine wpAny_bind (m := slotArgs "__contains__" 1 ⟨[.ref D, .ref x], []⟩) (wpAny_of_eq (a := (Value.ref D, [Value.ref x])) rfl ?_)
 refine wpAny_pure ⟨plainId_quiet MeetsSeq.plain_contains_loop _, codeAny_builtin MeetsSeq.entry_contains_loop ?_⟩
 rw [Around.under_plainId MeetsSeq.plain_contains_loop _]
 unfold Builtin.«list.__contains__.loop»
 dsimp only
 refine wpAny_bind (listItems_at hD rfl ?_)
 show wpAny _ _ (eqBool (.ref y) (.ref x) >>= _) _ _ _
 refine wpAny_bind (eqBoolSets (by simp; lia) P ho P2 ho2 h4 hl hs ?_)
 rw [if_pos rfl]
 show wpAny _ _ (ret (Value.bool true)) _ _ _
 exact wpAny_pure (wpAny_truthy_bool (wpAny_pure h))
theorem list_range {r : Addr} {nn : Nat} {t u v : Tok} {Q : Value → Shared → Prop} (hh : A.handled = none) (S : St g L s.heap l N) (hr : IsRange s.heap r 0 nn 1 t u v) (hn : nn ≤ 6)
   (h : ∀ D c h' tk vs, St g L h' l ((D, W.listOf (List.toArray vs) c) :: N) → (∀ b o, s.heap.get? b = some o → h'.get? b = some o) → IntsAre vs (uto nn) → Q (.ref D) { s with heap := h', toks := tk }) :
   wpAny (model prg w) A (call (.type "list") [.ref r]) Q E s := by
 refine call_list_range (n := nn) hh hr ?_ ?_ (by lia) fun h' tk acc c hk hD hit => ?_
 · have key : ∀ k : Nat, k < 7 → Builtin.Range.small 0 k 1 = true := by decide
   exact key nn (Nat.lt_succ_of_le hn)
 · have key : ∀ k : Nat, k < 7 → Builtin.Range.rangeSize 0 k 1 = (k : Int) := by decide
   exact key nn (Nat.lt_succ_of_le hn)
 · refine h _ c h' tk acc.toList (S.add (a := s.heap.objs.size) (o := W.listOf acc.toList.toArray c) hk (by simpa using hD) (get_size _)) hk ?_
   have key : ∀ (vs : List Value) (k : Nat), (∀ j v, vs[j]? = some v → ∃ t, v = Value.int (k + j : Nat) t) → IntsAre vs ((List.range' k vs.length).map fun i : Nat => (i : Int)) := by
     intro vs
     induction vs with
     | nil => intro k _; exact .nil
     | cons v r ih =>
       intro k hp
       refine el_xa (hp 0 v rfl) fun t e => ?_
       rw [List.length_cons, List.range'_succ, List.map_cons, e]
       refine .cons _ t (ih (k + 1) fun j v e => ?_)
       refine el_xa (hp (j + 1) v (by simpa using e)) fun t' e' => ?_
       exact ⟨t', by rw [e']; congr 1; lia⟩
   have hlen : acc.toList.length = nn := by rw [Array.length_toList]; exact hit.1
   have := key acc.toList 0 fun j v e => by
     refine el_xa (hit.2 j v (by rw [← Array.getElem?_toList]; exact e)) fun t e => ?_
     exact ⟨t, by rw [e]; congr 1; simp⟩
   rw [hlen] at this
   unfold uto
   rw [List.range_eq_range']
   exact this
end
theorem mem_uto {n : Nat} {a : Int} : a ∈ uto n ↔ 0 ≤ a ∧ a < n := by
 unfold uto
 rw [List.mem_map]
 constructor
 · refine elc_xaa fun i hi hsb2 => ?_
   subst hsb2
   have := List.mem_range.mp hi
   lia
 · refine elc_aa fun h1 h2 => ?_
   exact ⟨a.toNat, List.mem_range.mpr (by lia), by lia⟩
theorem uto_nodup (n : Nat) : (uto n).Nodup := by
 unfold uto
 exact List.Pairwise.map _ (fun a b h e => h (by exact Int.ofNat.inj e)) List.nodup_range
theorem uto_up (n : Nat) : (uto n).Pairwise (· < ·) := by
 unfold uto
 refine List.Pairwise.map _ (fun a b h => ?_) List.pairwise_lt_range
 lia
structure AdjIs (n : Nat) (adj : List (Int × List Int)) (es : List (Int × Int)) : Prop where
 keys : adj.map (·.1) = uto n
 mem : ∀ a b, a ∈ uto n → (b ∈ adjOf adj a ↔ (a, b) ∈ es ∨ (b, a) ∈ es)
 nd : ∀ p ∈ adj, p.2.Nodup
theorem lookup_some {α : Type} {adj : List (Int × α)} {a : Int} (h : a ∈ adj.map (·.1)) : ∃ x, adj.lookup a = some x ∧ (a, x) ∈ adj := by
 induction adj with
 | nil => simp at h
 | cons p r ih =>
   obtain ⟨k, x⟩ := p
   rw [List.lookup_cons]
   by_cases e : a = k
   · subst e
     exact ⟨x, by simp, .head _⟩
   · rw [show (a == k) = false from beq_eq_false_iff_ne.mpr e]
     rw [List.map_cons, List.mem_cons] at h
     refine el_xaa (ih (h.resolve_left e)) fun y h1 h2 => ?_
     exact ⟨y, h1, .tail _ h2⟩
theorem mem_adjOf {adj : List (Int × List Int)} (nd : (adj.map (·.1)).Nodup) {a : Int} {l : List Int} (h : (a, l) ∈ adj) : adjOf adj a = l := by
 unfold adjOf
 induction adj with
 | nil => cases h
 | cons p r ih =>
   obtain ⟨k, x⟩ := p
   rw [List.map_cons, List.nodup_cons] at nd
   rw [List.lookup_cons]
   rcases List.mem_cons.mp h with e | h
   · cases e; simp
   · have hak : a ≠ k := fun q => nd.1 (q ▸ List.mem_map_of_mem (f := (·.1)) h)
     rw [show (a == k) = false from beq_eq_false_iff_ne.mpr hak]
     exact ih nd.2 h
theorem AdjIs.nodup {n : Nat} {adj : List (Int × List Int)} {es : List (Int × Int)} (A : AdjIs n adj es) : (adj.map (·.1)).Nodup := by rw [A.keys]; exact uto_nodup n
theorem AdjIs.zero (n : Nat) : AdjIs n ((uto n).map fun k => (k, [])) [] := by
 refine ⟨by rw [List.map_map]; simp [Function.comp_def], fun a b ha => ?_, fun p hp => ?_⟩
 · have : (a, ([] : List Int)) ∈ (uto n).map fun k => (k, ([] : List Int)) := List.mem_map.mpr ⟨a, ha, rfl⟩
   rw [mem_adjOf (by rw [List.map_map]; simpa [Function.comp_def] using uto_nodup n) this]
   simp
 · refine el_xaa (List.mem_map.mp hp) fun k _ hsb2 => ?_
   subst hsb2
   exact List.nodup_nil
theorem putE_keys (adj : List (Int × List Int)) (u v : Int) : (putE adj u v).map (·.1) = adj.map (·.1) := by
 unfold putE
 rw [List.map_map]
 refine List.map_congr_left fun p _ => ?_
 simp only [Function.comp]
 split <;> rfl
theorem putE_adjOf {adj : List (Int × List Int)} (nd : (adj.map (·.1)).Nodup) {u v a : Int} (ha : a ∈ adj.map (·.1)) : adjOf (putE adj u v) a = if a = u then addK (adjOf adj a) v else adjOf adj a := by
 refine el_xaa (lookup_some ha) fun x h1 h2 => ?_
 have h3 : (a, if a = u then addK x v else x) ∈ putE adj u v := by
   unfold putE
   refine List.mem_map.mpr ⟨(a, x), h2, ?_⟩
   by_cases e : a = u
   · rw [if_pos e, if_pos e]
   · rw [if_neg e, if_neg e]
 rw [mem_adjOf (by rw [putE_keys]; exact nd) h3, mem_adjOf nd h2]
theorem addK_nd {l : List Int} {k : Int} (h : l.Nodup) : (addK l k).Nodup := by
 unfold addK
 split
 · exact h
 · rename_i q
   rw [List.nodup_append]
   exact ⟨h, by simp, fun a ha b hb e => q (by rw [List.mem_singleton.mp hb] at e; exact e ▸ ha)⟩
theorem putE_nd {adj : List (Int × List Int)} (h : ∀ p ∈ adj, p.2.Nodup) (u v : Int) : ∀ p ∈ putE adj u v, p.2.Nodup := fun p hp => by
 unfold putE at hp
 refine el_xaa (List.mem_map.mp hp) fun q hq hsb2 => ?_
 subst hsb2
 split
 · exact addK_nd (h q hq)
 · exact h q hq
theorem AdjIs.step {n : Nat} {adj : List (Int × List Int)} {es : List (Int × Int)} (A : AdjIs n adj es) {u v : Int} (hu : u ∈ uto n) (hv : v ∈ uto n) :
   AdjIs n (putE (putE (addN (addN adj u) v) u v) v u) (es ++ [(u, v)]) ∧ addK (addK (uto n) u) v = uto n := by
 have e1 : addN adj u = adj := by unfold addN; rw [if_pos (by rw [A.keys]; exact hu)]
 have e2 : addN adj v = adj := by unfold addN; rw [if_pos (by rw [A.keys]; exact hv)]
 have e3 : addK (uto n) u = uto n := by unfold addK; rw [if_pos hu]
 have e4 : addK (uto n) v = uto n := by unfold addK; rw [if_pos hv]
 rw [e1, e2, e3, e4]
 refine ⟨⟨by rw [putE_keys, putE_keys, A.keys], fun a b ha => ?_, putE_nd (putE_nd A.nd u v) v u⟩, rfl⟩
 have ha' : a ∈ adj.map (·.1) := by rw [A.keys]; exact ha
 rw [putE_adjOf (by rw [putE_keys]; exact A.nodup) (by rw [putE_keys]; exact ha'), putE_adjOf A.nodup ha']
 have m := A.mem a b ha
 have m1 : ((a, b) ∈ es ++ [(u, v)] ∨ (b, a) ∈ es ++ [(u, v)]) ↔ ((a, b) ∈ es ∨ (b, a) ∈ es) ∨ (a = u ∧ b = v) ∨ (b = u ∧ a = v) := by
   simp only [List.mem_append, List.mem_singleton, Prod.mk.injEq]
   constructor
   · rintro ((h | h) | (h | h))
     · exact .inl (.inl h)
     · exact .inr (.inl h)
     · exact .inl (.inr h)
     · exact .inr (.inr h)
   · rintro ((h | h) | (h | h))
     · exact .inl (.inl h)
     · exact .inr (.inl h)
     · exact .inl (.inr h)
     · exact .inr (.inr h)
 rw [m1]
 by_cases h1 : a = v <;> by_cases h2 : a = u
 · rw [if_pos h1, if_pos h2, mem_addK, mem_addK, m]; constructor
   · rintro ((h | h) | h)
     · exact .inl h
     · exact .inr (.inl ⟨h2, h⟩)
     · exact .inr (.inr ⟨h, h1⟩)
   · rintro (h | ⟨_, h⟩ | ⟨h, _⟩)
     · exact .inl (.inl h)
     · exact .inl (.inr h)
     · exact .inr h
 · rw [if_pos h1, if_neg h2, mem_addK, m]; constructor
   · rintro (h | h)
     · exact .inl h
     · exact .inr (.inr ⟨h, h1⟩)
   · rintro (h | ⟨h, _⟩ | ⟨h, _⟩)
     · exact .inl h
     · exact absurd h h2
     · exact .inr h
 · rw [if_neg h1, if_pos h2, mem_addK, m]; constructor
   · rintro (h | h)
     · exact .inl h
     · exact .inr (.inl ⟨h2, h⟩)
   · rintro (h | ⟨_, h⟩ | ⟨_, h⟩)
     · exact .inl h
     · exact .inr h
     · exact absurd h h1
 · rw [if_neg h1, if_neg h2, m]; constructor
   · exact .inl
   · rintro (h | ⟨h, _⟩ | ⟨_, h⟩)
     · exact h
     · exact absurd h h2
     · exact absurd h h1
noncomputable def EdgesIn (n : Nat) (es : List (Int × Int)) : Prop := ∀ e ∈ es, 0 ≤ e.1 ∧ e.1 ≤ e.2 ∧ e.2 < n
theorem adj_range {n : Nat} {adj : List (Int × List Int)} {es : List (Int × Int)} (A : AdjIs n adj es) (hes : EdgesIn n es) {a b : Int} (ha : a ∈ uto n) (hb : b ∈ adjOf adj a) : b ∈ uto n := by
 rw [mem_uto]
 rcases (A.mem a b ha).mp hb with h | h
 · have := hes _ h; dsimp only at this; lia
 · have := hes _ h; dsimp only at this; lia
theorem adj_deg {n : Nat} {adj : List (Int × List Int)} {es : List (Int × Int)} (A : AdjIs n adj es) (hes : EdgesIn n es) : ∀ p ∈ adj, p.2.length ≤ n := fun p hp => by
 have hk : p.1 ∈ uto n := by rw [← A.keys]; exact List.mem_map_of_mem hp
 have e := mem_adjOf A.nodup (a := p.1) (l := p.2) hp
 have := nodup_len (A.nd p hp) (m := uto n) fun b hb => adj_range A hes hk (by rw [e]; exact hb)
 rw [uto_len] at this; exact this
theorem mem_rowsGo : ∀ {adj : List (Int × List Int)} {seen : List Int}, (adj.map (·.1)).Pairwise (· < ·) → (∀ s ∈ seen, ∀ k ∈ adj.map (·.1), s < k) → ∀ {a b : Int},
   ((a, b) ∈ rowsGo seen adj ↔ ∃ vs, (a, vs) ∈ adj ∧ b ∈ vs ∧ b ∉ seen ∧ ¬ (b ∈ adj.map (·.1) ∧ b < a))
 | [], seen, _, _, a, b => by simp [rowsGo]
 | (u, us) :: r, seen, up, hs, a, b => by
   rw [List.map_cons, List.pairwise_cons] at up
   have ih := mem_rowsGo (adj := r) (seen := seen ++ [u]) up.2 (fun s hs' k hk => by
     rcases List.mem_append.mp hs' with h | h
     · exact hs s h k (by rw [List.map_cons]; exact .tail _ hk)
     · rw [List.mem_singleton.mp h]; exact up.1 k hk) (a := a) (b := b)
   rw [rowsGo, List.mem_append, ih]
   constructor
   · rintro (h | ⟨vs, h1, h2, h3, h4⟩)
     · refine el_xaa (List.mem_map.mp h) fun v hv e => ?_
       refine el_aa (List.mem_filter.mp hv) fun hv1 hv2 => ?_
       cases e
       refine ⟨us, .head _, hv1, of_decide_eq_true hv2, fun q => ?_⟩
       rw [List.map_cons, List.mem_cons] at q
       rcases q.1 with e | m
       · lia
       · have := up.1 _ m; lia
     · refine ⟨vs, .tail _ h1, h2, fun m => h3 (List.mem_append_left _ m), fun q => ?_⟩
       rw [List.map_cons, List.mem_cons] at q
       rcases q.1 with e | m
       · exact h3 (List.mem_append_right _ (by simp [e]))
       · exact h4 ⟨m, q.2⟩
   · refine elc_xaaaa fun vs h1 h2 h3 h4 => ?_
     rcases List.mem_cons.mp h1 with e | h1
     · cases e
       exact .inl (List.mem_map.mpr ⟨b, List.mem_filter.mpr ⟨h2, decide_eq_true h3⟩, rfl⟩)
     · refine .inr ⟨vs, h1, h2, fun m => ?_, fun q => h4 ⟨by rw [List.map_cons]; exact .tail _ q.1, q.2⟩⟩
       rcases List.mem_append.mp m with m | m
       · exact h3 m
       · have e := List.mem_singleton.mp m
         exact h4 ⟨by rw [List.map_cons, e]; exact .head _, by rw [e]; exact up.1 a (List.mem_map_of_mem (f := (·.1)) h1)⟩
theorem rowsGo_nd : ∀ {adj : List (Int × List Int)} {seen : List Int}, (adj.map (·.1)).Nodup → (∀ p ∈ adj, p.2.Nodup) → (rowsGo seen adj).Nodup ∧ ∀ e ∈ rowsGo seen adj, e.1 ∈ adj.map (·.1)
 | [], seen, _, _ => ⟨List.nodup_nil, fun e he => by simp [rowsGo] at he⟩
 | (u, us) :: r, seen, nd, h => by
   rw [List.map_cons, List.nodup_cons] at nd
   refine el_aa (rowsGo_nd (adj := r) (seen := seen ++ [u]) nd.2 fun p hp => h p (.tail _ hp)) fun h1 h2 => ?_
   rw [rowsGo]
   refine ⟨?_, fun e he => ?_⟩
   · rw [List.nodup_append]
     refine ⟨List.Pairwise.map _ (fun a b hab e => hab (by injection e)) ((h (u, us) (.head _)).filter _), h1, fun a ha b hb e => ?_⟩
     refine el_xaa (List.mem_map.mp ha) fun v _ hsb2 => ?_
     subst hsb2
     subst e
     exact nd.1 (h2 _ hb)
   · rw [List.map_cons]
     rcases List.mem_append.mp he with he | he
     · refine el_xaa (List.mem_map.mp he) fun v _ hsb2 => ?_
       subst hsb2
       exact .head _
     · exact .tail _ (h2 e he)
theorem mem_rows {n : Nat} {adj : List (Int × List Int)} {es : List (Int × Int)} (A : AdjIs n adj es) (hes : EdgesIn n es) {a b : Int} : (a, b) ∈ rowsOf adj ↔ (a, b) ∈ es := by
 unfold rowsOf
 rw [mem_rowsGo (by rw [A.keys]; exact uto_up n) (fun s m => absurd m List.not_mem_nil)]
 constructor
 · refine elc_xaaaa fun vs h1 h2 _ h4 => ?_
   have ha : a ∈ uto n := by rw [← A.keys]; exact List.mem_map_of_mem (f := (·.1)) h1
   have e := mem_adjOf A.nodup h1
   have hb : b ∈ adjOf adj a := by rw [e]; exact h2
   have hbn := adj_range A hes ha hb
   rcases (A.mem a b ha).mp hb with h | h
   · exact h
   · have := hes _ h
     dsimp only at this
     have hab : ¬ b < a := fun q => h4 ⟨by rw [A.keys]; exact hbn, q⟩
     have : a = b := by lia
     subst this; exact h
 · intro h
   have q := hes _ h
   dsimp only at q
   have ha : a ∈ uto n := mem_uto.mpr (by lia)
   refine el_xaa (lookup_some (adj := adj) (a := a) (by rw [A.keys]; exact ha)) fun x h1 h2 => ?_
   refine ⟨x, h2, ?_, List.not_mem_nil, fun m => by lia⟩
   rw [← mem_adjOf A.nodup h2]
   exact (A.mem a b ha).mpr (.inl h)
theorem rows_perm {n : Nat} {adj : List (Int × List Int)} {es : List (Int × Int)} (A : AdjIs n adj es) (hes : EdgesIn n es) (nd : es.Nodup) : (rowsOf adj).Perm es :=
 (List.perm_ext_iff_of_nodup (rowsGo_nd A.nodup A.nd).1 nd).mpr fun e => by obtain ⟨a, b⟩ := e; exact mem_rows A hes
theorem rows_in6 {n : Nat} {adj : List (Int × List Int)} {es : List (Int × Int)} (A : AdjIs n adj es) (hes : EdgesIn n es) (h6 : n ≤ 6) : In6 (rowsOf adj) := fun e he => by
 obtain ⟨a, b⟩ := e
 have := hes _ ((mem_rows A hes).mp he)
 dsimp only at this ⊢
 lia
/-! what the three say is what is due -/
theorem isM_due {n : Nat} {adj : List (Int × List Int)} {es rows : List (Int × Int)} (A : AdjIs n adj es) (hr : ∀ e ∈ rows, e.1 ∈ uto n ∧ e.2 ∈ uto n) : isM adj rows = decide (bads es rows = [] ∧ (nodesOf rows).Nodup) := by
 unfold isM
 rw [decide_eq_decide]
 have : (∀ e ∈ rows, e.1 ≠ e.2 ∧ e.2 ∈ adjOf adj e.1) ↔ bads es rows = [] := by
   unfold bads
   rw [List.filter_eq_nil_iff]
   constructor
   · intro h e he q
     have q := of_decide_eq_true q
     refine el_aa (h e he) fun h1 h2 => ?_
     have h2 := (A.mem e.1 e.2 (hr e he).1).mp h2
     rcases q with q | ⟨q1, q2⟩
     · exact h1 q
     · rcases h2 with h2 | h2
       · exact q1 h2
       · exact q2 h2
   · intro h e he
     have q := h e he
     rw [decide_eq_true_eq, not_or] at q
     refine ⟨q.1, (A.mem e.1 e.2 (hr e he).1).mpr ?_⟩
     by_cases h1 : e ∈ es
     · exact .inl h1
     · by_cases h2 : (e.2, e.1) ∈ es
       · exact .inr h2
       · exact absurd ⟨h1, h2⟩ q.2
 rw [this]
theorem nodes_len (rows : List (Int × Int)) : (nodesOf rows).length = 2 * rows.length := by
 induction rows with
 | nil => rfl
 | cons e r ih =>
   unfold nodesOf at ih ⊢
   rw [List.flatMap_cons, List.length_append, ih]; simp; lia
theorem said_due {n : Nat} {adj : List (Int × List Int)} {es rows : List (Int × Int)} {kind : Int} (A : AdjIs n adj es) (hes : EdgesIn n es) (hr : ∀ e ∈ rows, e.1 ∈ uto n ∧ e.2 ∈ uto n) (hk : kind = 0 ∨ kind = 1 ∨ kind = 2) :
   saidB kind adj (uto n) rows = dueB kind n es rows := by
 have hM := isM_due A hr
 unfold saidB dueB
 by_cases hb : bads es rows ≠ [] ∨ ¬ (nodesOf rows).Nodup
 · rw [if_pos hb]
   have : isM adj rows = false := by
     rw [hM, decide_eq_false_iff_not]
     refine elc_aa fun h1 h2 => ?_
     rcases hb with hb | hb
     · exact hb h1
     · exact hb h2
   unfold isMx isP
   rw [this]
   simp
 · rw [if_neg hb]
   have hb' : bads es rows = [] ∧ (nodesOf rows).Nodup := by
     refine ⟨?_, ?_⟩
     · exact Classical.byContradiction fun q => hb (.inl q)
     · exact Classical.byContradiction fun q => hb (.inr q)
   have hM1 : isM adj rows = true := by rw [hM]; exact decide_eq_true hb'
   rcases hk with rfl | rfl | rfl
   · rw [if_pos rfl, hM1, if_neg (by decide)]; simp
   · rw [if_neg (by decide), if_pos rfl, if_pos rfl]
     unfold isMx
     rw [hM1, Bool.true_and]
     rw [Bool.eq_iff_iff, List.all_eq_true, decide_eq_true_eq]
     unfold frees
     rw [List.filter_eq_nil_iff]
     constructor
     · intro h e he q
       have q := of_decide_eq_true q
       have h1 := of_decide_eq_true (h e (by obtain ⟨a, b⟩ := e; exact (mem_rows A hes).mpr he))
       rcases h1 with h1 | h1 | h1
       · exact q.2.1 h1
       · exact q.2.2 h1
       · exact q.1 h1
     · intro h e he
       refine decide_eq_true ?_
       have q := h e (by obtain ⟨a, b⟩ := e; exact (mem_rows A hes).mp he)
       rw [decide_eq_true_eq] at q
       by_cases h1 : e.1 ∈ nodesOf rows
       · exact .inl h1
       · by_cases h2 : e.2 ∈ nodesOf rows
         · exact .inr (.inl h2)
         · by_cases h3 : e.1 = e.2
           · exact .inr (.inr h3)
           · exact absurd ⟨h3, h1, h2⟩ q
   · rw [if_neg (by decide), if_neg (by decide), if_neg (by decide)]
     unfold isP
     rw [hM1, Bool.true_and, uto_len, decide_eq_decide, nodes_len]
     lia
section
variable {n : Nat} {f : Nat → Int} {cmp : Nat → Nat → (Bool → Shared → Prop) → Shared → Prop} {I : Shared → Prop} {p : Array Nat}
noncomputable def Ans (n : Nat) (f : Nat → Int) (cmp : Nat → Nat → (Bool → Shared → Prop) → Shared → Prop) (I : Shared → Prop) : Prop :=
 ∀ i j (C : Bool → Shared → Prop) s, i < n → j < n → I s → (∀ s', I s' → C (decide (f i < f j)) s') → cmp i j C s
noncomputable def Inj (n : Nat) (f : Nat → Int) : Prop := ∀ i j, i < n → j < n → f i = f j → i = j
noncomputable def Arr (n : Nat) (p : Array Nat) : Prop := p.Perm (List.range n).toArray
noncomputable def gk (f : Nat → Int) (p : Array Nat) (k : Nat) : Int := f (p.getD k 0)
theorem Arr.size (h : Arr n p) : p.size = n := by have := h.size_eq; simpa using this
theorem Arr.list (h : Arr n p) : p.toList.Perm (List.range n) := by have := Array.perm_iff_toList_perm.mp h; simpa using this
theorem getD_at {k : Nat} (hk : k < p.size) : p.getD k 0 = p[k] := by simp [Array.getD, hk]
theorem Arr.lt (h : Arr n p) {k : Nat} (hk : k < n) : p.getD k 0 < n := by
 have hk' : k < p.size := by rw [h.size]; exact hk
 rw [getD_at hk']
 exact List.mem_range.mp (h.list.mem_iff.mp (by simp))
theorem Arr.inj (h : Arr n p) {k l : Nat} (hk : k < n) (hl : l < n) (e : p.getD k 0 = p.getD l 0) : k = l := by
 have hk' : k < p.toList.length := by rw [Array.length_toList, h.size]; exact hk
 have hl' : l < p.toList.length := by rw [Array.length_toList, h.size]; exact hl
 have nd : p.toList.Nodup := h.list.nodup_iff.mpr List.nodup_range
 rw [getD_at (by simpa using hk'), getD_at (by simpa using hl')] at e
 exact (List.getElem_inj (h₀ := hk') (h₁ := hl') nd).mp (by simpa using e)
theorem Arr.gne (h : Arr n p) (hf : Inj n f) {k l : Nat} (hk : k < n) (hl : l < n) (e : gk f p k = gk f p l) : k = l := h.inj hk hl (hf _ _ (h.lt hk) (h.lt hl) e)
noncomputable def Up (f : Nat → Int) (p : Array Nat) (m : Nat) : Prop := ∀ i j, i < j → j < m → gk f p i < gk f p j
noncomputable def Down (f : Nat → Int) (p : Array Nat) (m : Nat) : Prop := ∀ i j, i < j → j < m → gk f p j < gk f p i
theorem Up.one : Up f p 1 := fun i j h1 h2 => by lia
theorem Down.one : Down f p 1 := fun i j h1 h2 => by lia
theorem Up.step {m : Nat} (h : Up f p m) (h1 : 1 ≤ m) (hg : gk f p (m - 1) < gk f p m) : Up f p (m + 1) := fun i j hij hj => by
 by_cases e : j < m
 · exact h i j hij e
 · obtain rfl : j = m := by lia
   by_cases e2 : i = j - 1
   · rw [e2]; exact hg
   · exact Int.lt_trans (h i (j - 1) (by lia) (by lia)) hg
theorem Down.step {m : Nat} (h : Down f p m) (h1 : 1 ≤ m) (hg : gk f p m < gk f p (m - 1)) : Down f p (m + 1) := fun i j hij hj => by
 by_cases e : j < m
 · exact h i j hij e
 · obtain rfl : j = m := by lia
   by_cases e2 : i = j - 1
   · rw [e2]; exact hg
   · exact Int.lt_trans hg (h i (j - 1) (by lia) (by lia))
theorem ask {α : Type} {i j : Nat} {k : Bool → KasT α} {Q : α → Shared → Prop} {s : Shared} (X : Ans n f cmp I) (hp : Arr n p) (hi : i < n) (hj : j < n) (hI : I s) (hf : Inj n f) (hij : i ≠ j)
   (h1 : gk f p i < gk f p j → ∀ s', I s' → (k true).kasWp cmp Q s') (h2 : gk f p j < gk f p i → ∀ s', I s' → (k false).kasWp cmp Q s') :
   (KasT.ask (p.getD i 0) (p.getD j 0) k).kasWp cmp Q s := by
 refine X _ _ _ s (hp.lt hi) (hp.lt hj) hI fun s' hI' => ?_
 by_cases hc : gk f p i < gk f p j
 · have e : decide (f (p.getD i 0) < f (p.getD j 0)) = true := decide_eq_true hc
   rw [e]; exact h1 hc s' hI'
 · have e : decide (f (p.getD i 0) < f (p.getD j 0)) = false := decide_eq_false hc
   rw [e]
   refine h2 ?_ s' hI'
   have : gk f p i ≠ gk f p j := fun q => hij (hp.gne hf hi hj q)
   lia
theorem kAsc (X : Ans n f cmp I) (hf : Inj n f) (hp : Arr n p) {Q : Nat → Shared → Prop} : ∀ (fl m : Nat) (s : Shared), I s → 1 ≤ m → m + fl ≤ n → Up f p m →
   (∀ m' s', I s' → m ≤ m' → m' ≤ m + fl → Up f p m' → (m' = m + fl ∨ gk f p m' < gk f p (m' - 1)) → Q m' s') → (kas_asc p fl m).kasWp cmp Q s
 | 0, m, s, hI, _, _, hu, h => h m s hI (Nat.le_refl _) (Nat.le_refl _) hu (.inl rfl)
 | fl + 1, m, s, hI, h1, hm, hu, h => by
   refine ask X hp (by lia) (by lia) hI hf (by lia) (fun hc s' hI' => ?_) fun hc s' hI' => ?_
   · rw [if_pos rfl]
     exact h m s' hI' (Nat.le_refl _) (by lia) hu (.inr hc)
   · rw [if_neg (by simp)]
     refine kAsc X hf hp fl (m + 1) s' hI' (by lia) (by lia) (hu.step h1 hc) fun m' s2 h2 h3 h4 h5 h6 => h m' s2 h2 (by lia) (by lia) h5 ?_
     rcases h6 with h6 | h6
     · exact .inl (by lia)
     · exact .inr h6
theorem kDesc (X : Ans n f cmp I) (hf : Inj n f) (hp : Arr n p) {Q : Array Nat × Nat × Nat → Shared → Prop} : ∀ (fl m : Nat) (s : Shared), I s → 1 ≤ m → m + fl ≤ n → Down f p m →
   (∀ m' s', I s' → m ≤ m' → m' ≤ m + fl → Down f p m' → Q (p, m', 0) s') → (kas_desc fl p m 0).kasWp cmp Q s
 | 0, m, s, hI, _, _, hu, h => h m s hI (Nat.le_refl _) (Nat.le_refl _) hu
 | fl + 1, m, s, hI, h1, hm, hu, h => by
   refine ask X hp (by lia) (by lia) hI hf (by lia) (fun hc s' hI' => ?_) fun hc s' hI' => ?_
   · rw [if_pos rfl, if_neg (by lia)]
     exact kDesc X hf hp fl (m + 1) s' hI' (by lia) (by lia) (hu.step h1 hc) fun m' s2 h2 h3 h4 h5 => h m' s2 h2 (by lia) (by lia) h5
   · rw [if_neg (by simp)]
     refine ask X hp (by lia) (by lia) hI' hf (by lia) (fun hc2 s2 hI2 => ?_) fun hc2 s2 hI2 => absurd hc (by lia)
     rw [if_pos rfl]
     exact h m s2 hI2 (Nat.le_refl _) (by lia) hu
theorem gk_rev {m k : Nat} (hm : m ≤ p.size) : gk f (kas_rev p 0 m) k = if k < m then gk f p (m - 1 - k) else gk f p k := by
 have e := getElem?_mirror_all (xs := p) (i := 0) (j := m) hm k
 have g : ∀ (x y : Array Nat) (a b : Nat), x[a]? = y[b]? → x.getD a 0 = y.getD b 0 := fun x y a b h => by
   rw [Array.getD_eq_getD_getElem?, Array.getD_eq_getD_getElem?, h]
 show f ((mirror p 0 m ((m - 0) / 2)).getD k 0) = _
 by_cases hk : k < m
 · rw [if_pos ⟨Nat.zero_le _, hk⟩] at e
   rw [if_pos hk]
   rw [g _ _ _ _ e, Nat.zero_add]; rfl
 · rw [if_neg (by lia)] at e
   rw [if_neg hk, g _ _ _ _ e]; rfl
theorem Arr.rev (hp : Arr n p) (i j : Nat) : Arr n (kas_rev p i j) := (mirror_perm _ _ _ _).trans hp
theorem Down.rev {m : Nat} (h : Down f p m) (hm : m ≤ p.size) : Up f (kas_rev p 0 m) m := fun i j hij hj => by
 rw [gk_rev hm, gk_rev hm, if_pos (by lia), if_pos hj]
 exact h _ _ (by lia) (by lia)
theorem kTail (X : Ans n f cmp I) (hf : Inj n f) (hp : Arr n p) {Q : Nat × Array Nat → Shared → Prop} {m : Nat} {s : Shared} (hI : I s) (h1 : 1 ≤ m) (hm : m ≤ n) (hd : Down f p m)
   (h : ∀ m' p' s', I s' → Arr n p' → 1 ≤ m' → m' ≤ n → Up f p' m' → Q (m', p') s') : (kas_tail3 m n p).kasWp cmp Q s := by
 unfold kas_tail3
 rw [KasT.kasWp_bind]
 exact kAsc X hf (hp.rev 0 m) _ m s hI h1 (by lia) (hd.rev (by rw [hp.size]; exact hm)) fun m' s' a b c d _ => h m' _ s' a (hp.rev 0 m) (by lia) (by lia) d
theorem kDescPart (X : Ans n f cmp I) (hf : Inj n f) (hp : Arr n p) {Q : Nat × Array Nat → Shared → Prop} {s : Shared} (hI : I s) (h2 : 2 ≤ n) (hd : Down f p 2)
   (h : ∀ m' p' s', I s' → Arr n p' → 1 ≤ m' → m' ≤ n → Up f p' m' → Q (m', p') s') : (kas_descPart 1 n p).kasWp cmp Q s := by
 unfold kas_descPart
 rw [KasT.kasWp_bind]
 refine kDesc X hf hp _ 2 s hI (by lia) (by lia) hd fun m' s' a b c d => ?_
 rw [if_neg (by simp)]
 dsimp only
 exact kTail X hf hp a (by lia) (by lia) d h
theorem kCount (X : Ans n f cmp I) (hf : Inj n f) (hp : Arr n p) {Q : Nat × Array Nat → Shared → Prop} {s : Shared} (hI : I s) (h2 : 2 ≤ n)
   (h : ∀ m' p' s', I s' → Arr n p' → 1 ≤ m' → m' ≤ n → Up f p' m' → Q (m', p') s') : (kas_count n p).kasWp cmp Q s := by
 unfold kas_count
 rw [KasT.kasWp_bind]
 refine kAsc X hf hp _ 1 s hI (Nat.le_refl _) (by lia) Up.one fun m s' a b c d e => ?_
 by_cases e1 : m = n
 · rw [if_pos (by simp [e1])]
   exact h m p s' a hp b (by lia) d
 · rw [if_neg (by simp [e1])]
   have hlt : gk f p m < gk f p (m - 1) := e.resolve_left (by lia)
   by_cases e2 : m > 1
   · rw [if_pos e2]
     refine ask X hp (by lia) (by lia) a hf (by lia) (fun hc s2 a2 => ?_) fun hc s2 a2 => absurd (d 0 (m - 1) (by lia) (by lia)) (by lia)
     rw [if_pos rfl]
     exact h m p s2 a2 hp b (by lia) d
   · rw [if_neg e2]
     obtain rfl : m = 1 := by lia
     exact kDescPart X hf hp a h2 (Down.one.step (Nat.le_refl _) hlt) h
theorem kPlace (X : Ans n f cmp I) (hf : Inj n f) (hp : Arr n p) {Q : Nat → Shared → Prop} {k : Nat} (hk : k < n) (hu : Up f p k) : ∀ (fl l r : Nat) (s : Shared), I s → l ≤ r → r ≤ k → r - l ≤ fl →
   (∀ i, i < l → gk f p i < gk f p k) → (∀ i, r ≤ i → i < k → gk f p k < gk f p i) →
   (∀ l' s', I s' → l' ≤ k → (∀ i, i < l' → gk f p i < gk f p k) → (∀ i, l' ≤ i → i < k → gk f p k < gk f p i) → Q l' s') → (kas_place p k fl l r).kasWp cmp Q s
 | 0, l, r, s, hI, h1, h2, h3, h4, h5, h => by
   obtain rfl : l = r := by lia
   exact h l s hI h2 h4 h5
 | fl + 1, l, r, s, hI, h1, h2, h3, h4, h5, h => by
   unfold kas_place
   by_cases hlr : l ≥ r
   · rw [if_pos hlr]
     obtain rfl : l = r := by lia
     exact h l s hI h2 h4 h5
   · rw [if_neg hlr]
     refine ask X hp hk (by lia) hI hf (by lia) (fun hc s' hI' => ?_) fun hc s' hI' => ?_
     · rw [if_pos rfl]
       refine kPlace X hf hp hk hu fl l ((l + r) / 2) s' hI' (by lia) (by lia) (by lia) h4 (fun i hi1 hi2 => ?_) h
       by_cases e : i = (l + r) / 2
       · rw [e]; exact hc
       · exact Int.lt_trans hc (hu _ i (by lia) hi2)
     · rw [if_neg (by simp)]
       refine kPlace X hf hp hk hu fl ((l + r) / 2 + 1) r s' hI' (by lia) h2 (by lia) (fun i hi => ?_) h5 h
       by_cases e : i = (l + r) / 2
       · rw [e]; exact hc
       · exact Int.lt_trans (hu i ((l + r) / 2) (by lia) (by lia)) hc
theorem gk_bubble {k l i : Nat} (hk : k < p.size) (hl : l ≤ k) : gk f (bubble p k (k - l)) i = if i = l then gk f p k else if l < i ∧ i ≤ k then gk f p (i - 1) else gk f p i := by
 have e := getElem?_bubble (xs := p) hk (k - l) (by lia) i
 have g : ∀ (x y : Array Nat) (a b : Nat), x[a]? = y[b]? → x.getD a 0 = y.getD b 0 := fun x y a b h => by
   rw [Array.getD_eq_getD_getElem?, Array.getD_eq_getD_getElem?, h]
 rw [show k - (k - l) = l by lia] at e
 unfold gk
 by_cases h1 : i = l
 · rw [if_pos h1] at e ⊢; rw [g _ _ _ _ e]
 · rw [if_neg h1] at e ⊢
   by_cases h2 : l < i ∧ i ≤ k
   · rw [if_pos h2] at e ⊢; rw [g _ _ _ _ e]
   · rw [if_neg h2] at e ⊢; rw [g _ _ _ _ e]
theorem Up.insert {k l : Nat} (hu : Up f p k) (hk : k < p.size) (hl : l ≤ k) (h4 : ∀ i, i < l → gk f p i < gk f p k) (h5 : ∀ i, l ≤ i → i < k → gk f p k < gk f p i) : Up f (bubble p k (k - l)) (k + 1) := fun i j hij hj => by
 rw [gk_bubble hk hl, gk_bubble hk hl]
 by_cases a : i = l
 · rw [if_pos a, if_neg (by lia), if_pos (by lia)]
   exact h5 _ (by lia) (by lia)
 · rw [if_neg a]
   by_cases b : j = l
   · rw [if_pos b, if_neg (by lia)]
     exact h4 _ (by lia)
   · rw [if_neg b]
     by_cases c : l < i
     · rw [if_pos (by lia), if_pos (by lia)]
       exact hu _ _ (by lia) (by lia)
     · rw [if_neg (by lia)]
       by_cases d : l < j
       · rw [if_pos (by lia)]
         by_cases e : i < j - 1
         · exact hu _ _ e (by lia)
         · lia
       · rw [if_neg (by lia)]
         exact hu _ _ hij (by lia)
theorem kBin (X : Ans n f cmp I) (hf : Inj n f) {Q : Array Nat → Shared → Prop} : ∀ (fl : Nat) (p : Array Nat) (k : Nat) (s : Shared), Arr n p → I s → k + fl = n → Up f p k →
   (∀ p' s', I s' → Arr n p' → Up f p' n → Q p' s') → (kas_bin fl p k).kasWp cmp Q s
 | 0, p, k, s, hp, hI, hk, hu, h => by
   obtain rfl : k = n := by lia
   exact h p s hI hp hu
 | fl + 1, p, k, s, hp, hI, hk, hu, h => by
   rw [show kas_bin (fl + 1) p k = (kas_place p k k 0 k).bind fun l => kas_bin fl (bubble p k (k - l)) (k + 1) from rfl, KasT.kasWp_bind]
   refine kPlace X hf hp (by lia) hu k 0 k s hI (by lia) (by lia) (by lia) (fun i hi => by lia) (fun i h1 h2 => by lia) fun l s' hI' h1 h2 h3 => ?_
   exact kBin X hf fl _ (k + 1) s' ((bubble_perm _ _ _).trans hp) hI' (by lia) (hu.insert (by rw [hp.size]; lia) h1 h2 h3) h
theorem kSort (X : Ans n f cmp I) (hf : Inj n f) {Q : Array Nat → Shared → Prop} {s : Shared} (hI : I s) (h2 : 2 ≤ n) (h : ∀ p' s', I s' → Arr n p' → Up f p' n → Q p' s') : (kas_sort n).kasWp cmp Q s := by
 unfold kas_sort
 rw [KasT.kasWp_bind]
 refine kCount X hf (Array.Perm.refl _) hI h2 fun m p s' a b c d e => ?_
 by_cases hm : m < n
 · rw [if_pos hm]
   rw [show max m 1 = m by lia]
   exact kBin X hf _ p m s' b a (by lia) e h
 · rw [if_neg hm]
   obtain rfl : m = n := by lia
   exact h p s' a b e
theorem sort_out {α : Type} {ps : List α} {d : α} {key : α → Int} (hp : Arr ps.length p) (hu : Up (fun i => key (ps.getD i d)) p ps.length) :
   (p.toList.map fun i => ps.getD i d).Perm ps ∧ (p.toList.map fun i => ps.getD i d).Pairwise (fun a b => key a < key b) := by
 constructor
 · have h1 := hp.list.map fun i => ps.getD i d
   have e : ((List.range ps.length).map fun i => ps.getD i d) = ps := by
     apply List.ext_getElem (by simp)
     intro i h1 h2
     simp [List.getElem?_eq_getElem h2]
   rwa [e] at h1
 · rw [List.pairwise_iff_getElem]
   intro i j hi hj hij
   have hi' : i < p.size := by simpa using hi
   have hj' : j < p.size := by simpa using hj
   have := hu i j hij (by rw [← hp.size]; exact hj')
   unfold gk at this
   rw [getD_at hi', getD_at hj'] at this
   simpa using this
end
noncomputable def keyP (e : Int × Int) : Int := 100 * e.1 + e.2
theorem Rows2.get {h : Heap} {vs ps} (x : Rows2 h vs ps) : ∀ {i : Nat}, i < ps.length → ∃ T t1 t2, vs.getD i Value.none = .ref T ∧ h.get? T = some (tupOf [.int (ps.getD i (0, 0)).1 t1, .int (ps.getD i (0, 0)).2 t2]) := by
 induction x with
 | nil => exact fun h => nomatch h
 | cons a r ih =>
   intro i h
   cases i with
   | zero => exact in_x3 _ _ _ ⟨rfl, a⟩
   | succ i =>
     refine el_xxxaa (ih (i := i) (by simpa using h)) fun T t1 t2 e1 e2 => ?_
     exact in_x3 T t1 t2 ⟨by simpa using e1, by simpa using e2⟩
theorem Rows2.map {h : Heap} {vs ps} (r : Rows2 h vs ps) : ∀ {is : List Nat}, (∀ i ∈ is, i < ps.length) → Rows2 h (is.map fun i => vs.getD i Value.none) (is.map fun i => ps.getD i (0, 0))
 | [], _ => .nil
 | i :: is, hi => by
   refine el_xxxaa (r.get (hi i (.head _))) fun T t1 t2 e1 e2 => ?_
   rw [List.map_cons, List.map_cons, e1]
   exact .cons e2 (r.map fun j hj => hi j (.tail _ hj))
theorem Rows2.kats {h : Heap} : ∀ {vs ps}, Rows2 h vs ps → ∃ fs, KatTups h vs fs ∧ fs.length = ps.length ∧ ∀ v ∈ fs, ∃ k t, v = .int k t
 | _, _, .nil => ⟨[], .nil, rfl, fun _ m => nomatch m⟩
 | _, _, .cons a r => by
   refine el_xaaa (r.kats) fun fs h1 h2 h3 => ?_
   exact ⟨_ :: fs, .cons a rfl rfl rfl h1, by rw [List.length_cons, List.length_cons, h2], fun v hv => (List.mem_cons.mp hv).elim (fun e => ⟨_, _, e⟩) (h3 v)⟩
section
variable {w : World} {A : Around} {s : Shared} {E : Value → Shared → Prop} {g : Heap} {L : Addr} {l : Loc} {N : List (Addr × Obj)}
theorem lt_pair {x y : Addr} {a b c d : Int} {t1 t2 t3 t4 : Tok} {Q : Bool → Shared → Prop} (hx : s.heap.get? x = some (tupOf [.int a t1, .int b t2])) (hy : s.heap.get? y = some (tupOf [.int c t3, .int d t4]))
   (h : Q (decide (a < c ∨ (a = c ∧ b < d))) s) : wpAny (model prg w) A (keyLt' (tuples' true) (.ref x) (.ref y)) Q E s := by
 refine kat_lt hx rfl hy rfl (kat_cons (wpAny_eqBool_int ?_))
 by_cases e : a = c
 · subst e
   rw [beq_self_eq_true]
   refine kat_yes (kat_cons (wpAny_eqBool_int ?_))
   by_cases e2 : b = d
   · subst e2
     rw [beq_self_eq_true]
     refine kat_yes (kat_nil ?_)
     have : decide (a < a ∨ (a = a ∧ b < b)) = false := by simp
     rw [this] at h
     exact h
   · rw [beq_eq_false_iff_ne.mpr e2]
     refine kat_no (kat_one _ _ (PyProof.Rows.lt_int ?_))
     have : decide (a < a ∨ (a = a ∧ b < d)) = decide (b < d) := by simp
     rw [this] at h
     exact h
 · rw [beq_eq_false_iff_ne.mpr e]
   refine kat_no (oneLt_int ?_)
   have : decide (a < c ∨ (a = c ∧ b < d)) = decide (a < c) := by simp [e]
   rw [this] at h
   exact h
noncomputable def allBut (h : Heap) (L : Addr) : List (Addr × Obj) := (List.range h.objs.size).filterMap fun a => if a = L then none else (h.get? a).map fun o => (a, o)
theorem mem_allBut {h : Heap} {L : Addr} {p : Addr × Obj} : p ∈ allBut h L ↔ p.1 ≠ L ∧ h.get? p.1 = some p.2 := by
 unfold allBut
 rw [List.mem_filterMap]
 constructor
 · refine elc_xaa fun a _ e => ?_
   by_cases q : a = L
   · rw [if_pos q] at e; cases e
   · rw [if_neg q] at e
     refine el_xaa (Option.map_eq_some_iff.mp e) fun o ho e => ?_
     subst e
     exact ⟨q, ho⟩
 · refine elc_aa fun h1 h2 => ?_
   refine ⟨p.1, List.mem_range.mpr (Heap.lt_size h2), ?_⟩
   rw [if_neg h1, h2]; rfl
theorem empty_none (a : Addr) : ({} : Heap).get? a = none := Heap.get?_none_of_le (Nat.zero_le _)
theorem St.all (S : St g L h l N) : Fr {} L h (lk l) ∧ News {} L h (allBut h L) :=
 ⟨⟨S.ns, fun b o e => (by rw [empty_none] at e; cases e), Nat.zero_le _⟩, fun p hp => ⟨(mem_allBut.mp hp).2, (mem_allBut.mp hp).1, empty_none _⟩⟩
theorem St.ofAll {h h' : Heap} {D : Addr} {o : Obj} (S : St g L h l N) (F : Fr {} L h' (lk l)) (X : News {} L h' ((D, o) :: allBut h L)) (hD : h.get? D = Option.none) : St g L h' l ((D, o) :: N) ∧ ∀ b o, b ≠ L → h.get? b = some o → h'.get? b = some o := by
 have k : ∀ b o, b ≠ L → h.get? b = some o → h'.get? b = some o := fun b o hb e => (X (b, o) (.tail _ (mem_allBut.mpr ⟨hb, e⟩))).1
 refine el_aaa (S.new hD) fun n1 n2 n3 => ?_
 refine ⟨⟨F.ns, fun b o e => k b o (fun q => by rw [q, S.sep] at e; cases e) (S.keep b o e), S.sep, fun p hp => ?_, ?_⟩, k⟩
 · rcases List.mem_cons.mp hp with rfl | hp
   · exact ⟨(X _ (.head _)).1, n1, n2⟩
   · exact ⟨k _ _ (S.nw p hp).2.1 (S.nw p hp).1, (S.nw p hp).2⟩
 · rw [List.map_cons, List.nodup_cons]
   exact ⟨n3, S.nd⟩
theorem sorted_short {ex : Addr} {vs : List Value} {c : Nat} {Q : Value → Shared → Prop} (S : St g L s.heap l N) (hex : s.heap.get? ex = some (W.listOf vs.toArray c)) (h2 : vs.length < 2)
   (h : ∀ D c' h', St g L h' l ((D, W.listOf vs.toArray c') :: N) → (∀ b o, s.heap.get? b = some o → h'.get? b = some o) → Q (.ref D) { s with heap := h' }) :
   wpAny (model prg w) A (call (.builtin "sorted") [.ref ex]) Q E s := by
 refine Calls.call_function_entry kind_sorted plain_sorted entry_sorted (args_sorted1 _) ?_
 unfold Builtin.«sorted»
 refine wpAny_bind (m := checkCount "sorted" 1 1 _) (wpAny_pure ?_)
 refine wpAny_bind (collect_list ⟨_, hex, rfl, _, rfl⟩ ?_ (by rw [sizeLine_eq]; first | lia | (simp only [List.size_toArray]; lia)))
 refine wpAny_bind (wpAny_newList ?_ (by rw [sizeLine_eq]; first | lia | (simp only [List.size_toArray]; lia)))
 have hsz : ((s.heap.push (seqObj "list" #[] 0)).update s.heap.objs.size (Obj.mapSeq (· ++ vs.toArray))).objs.size = s.heap.objs.size + 1 := by
   rw [Heap.size_update, size_push']
 have hoL : (((s.heap.push (seqObj "list" #[] 0)).update s.heap.objs.size (Obj.mapSeq (· ++ vs.toArray))).push (seqObj "list" vs.toArray 0)).get? (s.heap.objs.size + 1) = some (seqObj "list" vs.toArray 0) := by
   rw [← hsz]; exact Heap.get?_push_size _ rfl
 have kp : ∀ b o, s.heap.get? b = some o → (((s.heap.push (seqObj "list" #[] 0)).update s.heap.objs.size (Obj.mapSeq (· ++ vs.toArray))).push (seqObj "list" vs.toArray 0)).get? b = some o := fun b o e => by
   have hb : b < s.heap.objs.size := Heap.lt_size e
   rw [Heap.get?_push_ne _ _ _ (by rw [hsz]; exact Nat.ne_of_lt (Nat.lt_succ_of_lt hb)), Heap.get?_update_ne _ _ _ _ (Nat.ne_of_lt hb), Heap.get?_push_ne _ _ _ (Nat.ne_of_lt hb)]
   exact e
 show wpAny _ _ _ _ _ { s with heap := ((s.heap.push (seqObj "list" #[] 0)).update s.heap.objs.size (Obj.mapSeq (· ++ vs.toArray))).push (seqObj "list" vs.toArray 0) }
 rw [hsz]
 refine el_xa (⟨_, rfl⟩ : ∃ h1, h1 = ((s.heap.push (seqObj "list" #[] 0)).update s.heap.objs.size (Obj.mapSeq (· ++ vs.toArray))).push (seqObj "list" vs.toArray 0)) fun h1 hh1 => ?_
 rw [← hh1] at hoL kp ⊢
 refine el_xa (⟨_, rfl⟩ : ∃ D, D = s.heap.objs.size + 1) fun D hD => ?_
 have hDn : s.heap.get? D = none := Heap.get?_none_of_le (by lia)
 rw [← hD] at hoL ⊢
 have ha : D < h1.objs.size := Heap.lt_size hoL
 refine wpAny_bind (wpAny_holding (wpAny_call_entry slot_list_sort ⟨_, hoL, rfl⟩ entry_list_sort ?_ (args_list_sort _)))
 rw [list_sort_plain]
 refine wpAny_bind (listItems_at hoL rfl ?_)
 refine wpAny_bind (listUpdate_at hoL rfl ?_ (by rw [sizeLine_eq]; first | lia | (simp only [List.size_toArray]; lia)) (Nat.zero_le _))
 refine el_xa (⟨_, get?_update_seq hoL (fun _ => #[])⟩ : ∃ e1, (h1.update D (Obj.mapSeq fun _ => #[])).get? D = some (seqObj "list" #[] e1)) fun e1 ho1 => ?_
 refine wpAny_bind (seqEpoch_at ho1 rfl ?_)
 refine wpAny_bind (wpAny_newTuple ?_ (by show vs.length ≤ _; rw [sizeLine_eq]; lia))
 refine wpAny_bind (wpAny_newList ?_ (Nat.zero_le _))
 refine wpAny_holding ?_
 have ho6 : (((h1.update D (Obj.mapSeq fun _ => #[])).push (seqObj "tuple" vs.toArray 0)).push (seqObj "list" #[] 0)).get? D = some (seqObj "list" #[] e1) := by
   rw [Heap.get?_push_ne _ _ _ (by rw [size_push', Heap.size_update]; exact Nat.ne_of_lt (Nat.lt_succ_of_lt ha)), Heap.get?_push_ne _ _ _ (by rw [Heap.size_update]; exact Nat.ne_of_lt ha)]
   exact ho1
 show wpAny (model prg w) _ _ _ _ { s with heap := ((h1.update D (Obj.mapSeq fun _ => #[])).push (seqObj "tuple" vs.toArray 0)).push (seqObj "list" #[] 0) }
 have hsz2 : vs.toArray.size < 2 := by simpa using h2
 dsimp only
 rw [if_pos hsz2, if_pos hsz2]
 refine wpAny_bind (wpAny_pure ?_)
 rw [StateT.run_pure]
 refine wpAny_bind (wpAny_pure ?_)
 dsimp only
 refine wpAny_bind (seqEpoch_at ho6 rfl ?_)
 have eout : (arrOf (SortSt.mk' general' (vs.toArray.zip vs.toArray) #[] 7 none)).map (·.2) = vs.toArray := by
   show (vs.toArray.zip vs.toArray).map (·.2) = vs.toArray
   apply Array.toList_inj.mp
   rw [Array.toList_map, Array.toList_zip]
   exact List.map_snd_zip (Nat.le_refl _)
 rw [eout]
 refine wpAny_bind (listUpdate_at ho6 rfl ?_ (Nat.zero_le _) (by rw [sizeLine_eq]; first | lia | (simp only [List.size_toArray]; lia)))
 simp only [bne_self_eq_false, Bool.false_eq_true, if_false]
 refine el_xa (⟨_, get?_update_seq ho6 (fun _ => vs.toArray)⟩ : ∃ c2, ((((h1.update D (Obj.mapSeq fun _ => #[])).push (seqObj "tuple" vs.toArray 0)).push (seqObj "list" #[] 0)).update D (Obj.mapSeq fun _ => vs.toArray)).get? D = some (seqObj "list" vs.toArray c2)) fun c2 hc2 => ?_
 refine wpAny_pure ⟨_, rfl, wpAny_pure ⟨_, rfl, ?_⟩⟩
 have kq : ∀ b o, s.heap.get? b = some o → ((((h1.update D (Obj.mapSeq fun _ => #[])).push (seqObj "tuple" vs.toArray 0)).push (seqObj "list" #[] 0)).update D (Obj.mapSeq fun _ => vs.toArray)).get? b = some o := fun b o e => by
   have hb : b < s.heap.objs.size := Heap.lt_size e
   have hbD : b ≠ D := fun q => by rw [q, hDn] at e; cases e
   have hb1 : b < h1.objs.size := Heap.lt_size (kp b o e)
   rw [Heap.get?_update_ne _ _ _ _ hbD, Heap.get?_push_ne _ _ _ (by rw [size_push', Heap.size_update]; exact Nat.ne_of_lt (Nat.lt_succ_of_lt hb1)), Heap.get?_push_ne _ _ _ (by rw [Heap.size_update]; exact Nat.ne_of_lt hb1), Heap.get?_update_ne _ _ _ _ hbD]
   exact kp b o e
 exact h D c2 _ (S.add kq hc2 hDn) kq
theorem sortedF {ex : Addr} {vs : List Value} {c : Nat} {ps : List (Int × Int)} {Q : Value → Shared → Prop} (S : St g L s.heap l N) (hex : s.heap.get? ex = some (W.listOf vs.toArray c)) (hE : Rows2 s.heap vs ps)
   (nd : ps.Nodup) (hb : ∀ e ∈ ps, 0 ≤ e.2 ∧ e.2 < 100) (h64 : ps.length < 64)
   (h : ∀ D vs' c' ps' h' tk', St g L h' l ((D, W.listOf vs'.toArray c') :: N) → (∀ b o, b ≠ L → s.heap.get? b = some o → h'.get? b = some o) → Rows2 h' vs' ps' → ps'.Perm ps → ps'.Pairwise (fun a b => keyP a < keyP b) → Q (.ref D) { s with heap := h', toks := tk' }) :
   wpAny (model prg w) A (call (.builtin "sorted") [.ref ex]) Q E s := by
 have hl := hE.len
 have hTL : ∀ {T : Addr} {a b : Value}, s.heap.get? T = some (tupOf [a, b]) → T ≠ L := fun {T a b} e q => by
   refine el_xxxaaa (S.ns) fun o es ep hL hd _ => ?_
   rw [q, hL] at e; cases e
   cases hd
 by_cases h2 : vs.length < 2
 · refine sorted_short S hex h2 fun D c' h' S' k => h D vs c' ps h' s.toks S' (fun b o _ e => k b o e) (hE.mono k) (List.Perm.refl _) ?_
   clear hb nd h64 h hTL hE
   have q : ps.length < 2 := by lia
   clear hl
   match ps, q with
   | [], _ => exact .nil
   | [_], _ => simp
   | _ :: _ :: r, q => exfalso; simp at q; lia
 · refine el_aa (S.all) fun F X => ?_
   have hE1 : ∀ h' : Heap, (∀ b o, b ≠ L → s.heap.get? b = some o → h'.get? b = some o) → Rows2 h' vs ps := fun h' k => hE.tups fun T vs' e => k _ _ (fun q => by
     refine el_xxxaaa (S.ns) fun o es ep hL hd _ => ?_
     rw [q, hL] at e; cases e
     cases hd) e
   refine kat_sorted F X ⟨_, hex, rfl, _, rfl⟩ (by lia) (by lia) fun D e1 h' F' X' hD => ?_
   have hDn : s.heap.get? D = none := by
     cases q : s.heap.get? D with
     | none => rfl
     | some o =>
       by_cases hDL : D = L
       · exact absurd hDL (X' _ (.head _)).2.1
       · exact absurd (hD (D, o) (mem_allBut.mpr ⟨hDL, q⟩)) (Nat.lt_irrefl _)
   refine el_aa (S.ofAll F' X' hDn) fun S' k' => ?_
   have hE' := hE1 h' k'
   refine el_xaaa (hE'.kats) fun fs hf1 hf2 hf3 => ?_
   refine PySem.W.kat_kind (s := { s with heap := h' }) (T := .type "int") hf1 (by rw [hf2]; lia) (fun v hv => ?_) rfl ?_
   · refine el_xxa (hf3 v hv) fun k t hsb2 => ?_
     subst hsb2
     exact Looks.of_pure rfl
   rw [hl]
   refine kSort (I := fun s' => ∃ tk, s' = { s with heap := h', toks := tk }) (f := fun i => keyP (ps.getD i (0, 0))) (fun i j C s' hi hj hI hC => ?_) (fun i j hi hj e => ?_) ⟨s.toks, rfl⟩ (by lia) fun p s' hI hp hu => ?_
   · refine el_xa hI fun tk hsb1 => ?_
     try clear hI
     subst hsb1
     refine el_xxxaa (hE'.get hi) fun T1 t1 t2 q1 q2 => ?_
     refine el_xxxaa (hE'.get hj) fun T2 t3 t4 q3 q4 => ?_
     show wpAny (model prg w) _ (keyLt' (tuples' true) (vs.getD i Value.none) (vs.getD j Value.none)) _ _ _
     rw [q1, q3]
     refine lt_pair (s := { s with heap := h', toks := tk }) q2 q4 ?_
     have b1 := hb (ps.getD i (0, 0)) (by rw [List.getD_eq_getElem?_getD, List.getElem?_eq_getElem hi]; exact List.getElem_mem hi)
     have b2 := hb (ps.getD j (0, 0)) (by rw [List.getD_eq_getElem?_getD, List.getElem?_eq_getElem hj]; exact List.getElem_mem hj)
     have e : decide ((ps.getD i (0, 0)).1 < (ps.getD j (0, 0)).1 ∨ ((ps.getD i (0, 0)).1 = (ps.getD j (0, 0)).1 ∧ (ps.getD i (0, 0)).2 < (ps.getD j (0, 0)).2)) = decide (keyP (ps.getD i (0, 0)) < keyP (ps.getD j (0, 0))) := by
       apply decide_eq_decide.mpr
       unfold keyP
       lia
     rw [e]
     exact hC _ ⟨tk, rfl⟩
   · have hi' : ps.getD i (0, 0) = ps[i] := by rw [List.getD_eq_getElem?_getD, List.getElem?_eq_getElem hi]; rfl
     have hj' : ps.getD j (0, 0) = ps[j] := by rw [List.getD_eq_getElem?_getD, List.getElem?_eq_getElem hj]; rfl
     dsimp only at e
     rw [hi', hj'] at e
     have b1 := hb ps[i] (List.getElem_mem hi)
     have b2 := hb ps[j] (List.getElem_mem hj)
     unfold keyP at e
     have : ps[i] = ps[j] := Prod.ext (by lia) (by lia)
     exact (List.getElem_inj nd).mp this
   · refine el_xa hI fun tk hsb1 => ?_
     try clear hI
     subst hsb1
     refine el_aa (sort_out (d := ((0 : Int), (0 : Int))) (key := keyP) hp hu) fun o1 o2 => ?_
     refine KasFin.intro (s := { s with heap := h', toks := tk }) F' X' (.head fun q hq => Nat.ne_of_lt (hD q hq)) fun h2 c2 F2 X2 => ?_
     refine el_aa (S.ofAll F2 X2 hDn) fun S2 k2 => ?_
     exact h D _ c2 _ h2 tk S2 k2 ((hE1 h2 k2).map fun i hi => by
       have := hp.list.mem_iff.mp hi
       exact List.mem_range.mp this) o1 o2
end
inductive Tab : List (Int × Int) → List (Int × Int) → Prop
 | nil : Tab [] []
 | one {r p e} : Tab r p → Tab (r ++ [e]) (p ++ [e])
 | two {r p e} : Tab r p → Tab (r ++ [e]) (p ++ [e] ++ [(e.2, e.1)])
theorem mem_nodes {M : List (Int × Int)} {e : Int × Int} (h : e ∈ M) : e.1 ∈ nodesOf M ∧ e.2 ∈ nodesOf M :=
 ⟨List.mem_flatMap.mpr ⟨e, h, by simp⟩, List.mem_flatMap.mpr ⟨e, h, by simp⟩⟩
theorem nodes_inv {M : List (Int × Int)} {x : Int} (h : x ∈ nodesOf M) : ∃ e ∈ M, x = e.1 ∨ x = e.2 := by
 refine el_xaa (List.mem_flatMap.mp h) fun e he hx => ?_
 exact ⟨e, he, by simpa using hx⟩
theorem nodes_snoc_nd {r : List (Int × Int)} {e : Int × Int} (h : (nodesOf (r ++ [e])).Nodup) : (nodesOf r).Nodup ∧ e.1 ∉ nodesOf r ∧ e.2 ∉ nodesOf r ∧ e.1 ≠ e.2 := by
 rw [nodesOf_snoc, List.nodup_append] at h
 refine el_aaa h fun h1 h2 h3 => ?_
 try clear h
 exact ⟨h1, fun m => h3 _ m _ (by simp) rfl, fun m => h3 _ m _ (by simp) rfl, by simpa using h2⟩
theorem Tab.mds {r p : List (Int × Int)} (x : Tab r p) : (nodesOf r).Nodup → mds p = r ∧ (∀ e ∈ p, e.1 ≠ e.2 ∧ e.1 ∈ nodesOf r ∧ e.2 ∈ nodesOf r) := by
 induction x with
 | nil => exact fun _ => ⟨rfl, fun _ m => nomatch m⟩
 | @one r p e t ih =>
   intro nd
   refine el_aaaa (nodes_snoc_nd nd) fun h1 h2 h3 h4 => ?_
   refine el_aa (ih h1) fun i1 i2 => ?_
   have s1 : mdStep r e = r ++ [e] := by
     unfold mdStep
     rw [if_neg]
     rintro (q | q)
     · exact h3 (mem_nodes q).1
     · exact h2 (mem_nodes q).1
   refine ⟨?_, fun x hx => ?_⟩
   · show (p ++ [e]).foldl mdStep [] = _
     rw [List.foldl_append]
     show mdStep (p.foldl mdStep []) e = _
     rw [show p.foldl mdStep [] = r from i1, s1]
   · rw [nodesOf_snoc]
     rcases List.mem_append.mp hx with hx | hx
     · refine el_aaa (i2 x hx) fun a b c => ?_
       exact ⟨a, List.mem_append_left _ b, List.mem_append_left _ c⟩
     · rw [List.mem_singleton.mp hx]
       exact ⟨h4, by simp, by simp⟩
 | @two r p e t ih =>
   intro nd
   refine el_aaaa (nodes_snoc_nd nd) fun h1 h2 h3 h4 => ?_
   refine el_aa (ih h1) fun i1 i2 => ?_
   have s1 : mdStep r e = r ++ [e] := by
     unfold mdStep
     rw [if_neg]
     rintro (q | q)
     · exact h3 (mem_nodes q).1
     · exact h2 (mem_nodes q).1
   have s2 : mdStep (r ++ [e]) (e.2, e.1) = r ++ [e] := by
     unfold mdStep
     rw [if_pos (.inl (by simp))]
   refine ⟨?_, fun x hx => ?_⟩
   · show (p ++ [e] ++ [(e.2, e.1)]).foldl mdStep [] = _
     rw [List.foldl_append, List.foldl_append]
     show mdStep (mdStep (p.foldl mdStep []) e) (e.2, e.1) = _
     rw [show p.foldl mdStep [] = r from i1, s1, s2]
   · rw [nodesOf_snoc]
     rcases List.mem_append.mp hx with hx | hx
     · rcases List.mem_append.mp hx with hx | hx
       · refine el_aaa (i2 x hx) fun a b c => ?_
         exact ⟨a, List.mem_append_left _ b, List.mem_append_left _ c⟩
       · rw [List.mem_singleton.mp hx]
         exact ⟨h4, by simp, by simp⟩
     · rw [List.mem_singleton.mp hx]
       exact ⟨Ne.symm h4, by simp, by simp⟩
theorem len3 {n : Nat} {rows : List (Int × Int)} (h6 : n ≤ 6) (hr : ∀ e ∈ rows, e.1 ∈ uto n ∧ e.2 ∈ uto n) (nd : (nodesOf rows).Nodup) : rows.length ≤ 3 := by
 have : (nodesOf rows).length ≤ (uto n).length := nodup_len nd fun x hx => by
   refine el_xaa (nodes_inv hx) fun e he q => ?_
   rcases q with rfl | rfl
   · exact (hr e he).1
   · exact (hr e he).2
 rw [nodesOf_len, uto_len] at this
 lia
theorem tab_dictK {n : Nat} {rows ps : List (Int × Int)} (t : Tab rows ps) (nd : (nodesOf rows).Nodup) (hr : ∀ e ∈ rows, e.1 ∈ uto n ∧ e.2 ∈ uto n) : DictK (uto n) ps (some rows) := by
 refine el_aa (t.mds nd) fun h1 h2 => ?_
 refine .inr ⟨fun p hp => (h2 p hp).1, .inl ⟨by rw [h1], ?_⟩⟩
 rw [h1]
 exact hr
theorem greedy_ok (rows : List (Int × Int)) : (∀ e ∈ greedy rows, e ∈ rows ∧ e.1 ≠ e.2) ∧ (nodesOf (greedy rows)).Nodup ∧ ∀ e ∈ rows, e.1 ≠ e.2 → e.1 ∈ nodesOf (greedy rows) ∨ e.2 ∈ nodesOf (greedy rows) := by
 have key : ∀ (rs pre M : List (Int × Int)), ((∀ e ∈ M, e ∈ pre ∧ e.1 ≠ e.2) ∧ (nodesOf M).Nodup ∧ ∀ e ∈ pre, e.1 ≠ e.2 → e.1 ∈ nodesOf M ∨ e.2 ∈ nodesOf M) →
     ((∀ e ∈ rs.foldl grStep M, e ∈ pre ++ rs ∧ e.1 ≠ e.2) ∧ (nodesOf (rs.foldl grStep M)).Nodup ∧ ∀ e ∈ pre ++ rs, e.1 ≠ e.2 → e.1 ∈ nodesOf (rs.foldl grStep M) ∨ e.2 ∈ nodesOf (rs.foldl grStep M)) := by
   intro rs
   induction rs with
   | nil => intro pre M h; rw [List.append_nil]; exact h
   | cons x r ih =>
     intro pre M
     refine elc_aaa fun h1 h2 h3 => ?_
     have := ih (pre ++ [x]) (grStep M x) ?_
     · rw [List.append_assoc] at this; exact this
     unfold grStep
     by_cases q : x.1 ∉ nodesOf M ∧ x.2 ∉ nodesOf M ∧ x.1 ≠ x.2
     · rw [if_pos q]
       refine ⟨fun e he => ?_, nodup_snoc2 (u := x.1) (v := x.2) h2 q.1 q.2.1 q.2.2, fun e he hne => ?_⟩
       · rcases List.mem_append.mp he with he | he
         · exact ⟨List.mem_append_left _ (h1 e he).1, (h1 e he).2⟩
         · rw [List.mem_singleton.mp he]; exact ⟨by simp, q.2.2⟩
       · rw [nodesOf_snoc]
         rcases List.mem_append.mp he with he | he
         · rcases h3 e he hne with z | z
           · exact .inl (List.mem_append_left _ z)
           · exact .inr (List.mem_append_left _ z)
         · rw [List.mem_singleton.mp he]; exact .inl (by simp)
     · rw [if_neg q]
       refine ⟨fun e he => ⟨List.mem_append_left _ (h1 e he).1, (h1 e he).2⟩, h2, fun e he hne => ?_⟩
       rcases List.mem_append.mp he with he | he
       · exact h3 e he hne
       · rw [List.mem_singleton.mp he] at hne ⊢
         by_cases a : x.1 ∈ nodesOf M
         · exact .inl a
         · by_cases b : x.2 ∈ nodesOf M
           · exact .inr b
           · exact absurd ⟨a, b, hne⟩ q
 have := key rows [] [] ⟨(fun e m => nomatch m), List.nodup_nil, fun e m => nomatch m⟩
 simpa [greedy] using this
theorem greedy_due {n : Nat} {adj : List (Int × List Int)} {es T : List (Int × Int)} {nn : Int} (A : AdjIs n adj es) (hes : EdgesIn n es) (hT : T.Perm (greedy (rowsOf adj))) : dueB 1 nn es T = true := by
 refine el_aaa (greedy_ok (rowsOf adj)) fun h1 h2 h3 => ?_
 have hn : ∀ x, x ∈ nodesOf T ↔ x ∈ nodesOf (greedy (rowsOf adj)) := fun x => (nodesOf_perm hT).mem_iff
 have hb : bads es T = [] := by
   unfold bads
   rw [List.filter_eq_nil_iff]
   intro e he q
   have q := of_decide_eq_true q
   refine el_aa (h1 e (hT.mem_iff.mp he)) fun a b => ?_
   rcases q with q | ⟨q, _⟩
   · exact b q
   · exact q ((mem_rows A hes (a := e.1) (b := e.2)).mp a)
 have hf : frees es T = [] := by
   unfold frees
   rw [List.filter_eq_nil_iff]
   intro e he q
   have q := of_decide_eq_true q
   rcases h3 e ((mem_rows A hes (a := e.1) (b := e.2)).mpr he) q.1 with z | z
   · exact q.2.1 ((hn _).mpr z)
   · exact q.2.2 ((hn _).mpr z)
 unfold dueB
 rw [if_neg, if_pos rfl, hf]
 · simp
 · rintro (q | q)
   · exact q hb
   · exact q ((nodesOf_perm hT).nodup_iff.mpr h2)
theorem rows_of_set {h : Heap} {Cs : List (List Int × Addr)} {vs : List Value} {rows : List (Int × Int)} (hp : vs.Perm (Cs.map fun c => .ref c.2)) (hk : (Cs.map (·.1)).Perm (rows.map ks2)) (t : TP h Cs) : ∃ T, Rows2 h vs T ∧ T.Perm rows := by
 refine el_xaa (perm_map_inv hp.symm Cs rfl) fun C' h1 h2 => ?_
 refine ⟨prs C', ?_, (List.Perm.map _ h1).trans (prs_perm hk)⟩
 rw [← h2]
 have t' : ∀ c ∈ C', ∃ u v t1 t2, c.1 = [u, v] ∧ h.get? c.2 = some (tupOf [.int u t1, .int v t2]) := fun c hc => t c (h1.mem_iff.mp hc)
 clear h1 h2 hp hk t
 induction C' with
 | nil => exact .nil
 | cons c r ih =>
   refine el_xxxxaa (t' c (.head _)) fun u v t1 t2 e1 e2 => ?_
   have := ih fun c hc => t' c (.tail _ hc)
   unfold prs at this ⊢
   rw [List.map_cons, List.map_cons, e1]
   exact .cons e2 this
theorem keys_same {a b : List (Int × Int)} (hp : a.Perm b) (ha : a.Pairwise fun x y => keyP x < keyP y) (hb : b.Pairwise fun x y => keyP x < keyP y) : a = b := by
 refine hp.eq_of_pairwise (fun x y _ _ h1 h2 => ?_) ha hb
 lia
noncomputable def bodyOf : Stmt → List Stmt
 | .FunctionDef (body := b) .. => b
 | _ => []
noncomputable def scOf : Stmt → Scope
 | .FunctionDef (scope := s) .. => s
 | _ => default
noncomputable abbrev fineB : List Stmt := bodyOf (st 20)
noncomputable abbrev fineE (L : Addr) : Env := envOf (Str.ofString "_law_fine") (scOf (st 20)) L 355 (.ref 354)
noncomputable abbrev lawE (L : Addr) : Env := envOf (Str.ofString "law") (scOf (st 21)) L 362 (.ref 361)
noncomputable abbrev lawA (A : Around) (Lw : Addr) : Around := A.deeper (lawE Lw)
noncomputable abbrev fineA (A : Around) (Lw L : Addr) : Around := (lawA A Lw).deeper (fineE L)
section
variable {w : World} {A A₀ A' : Around} {outs outs₂ : List Env} {base : Heap} {n m : Nat} {s s' : Shared} {E : Value → Shared → Prop} {R : Result → Shared → Prop} {g h : Heap} {L Lw : Addr} {l : Loc} {N : List (Addr × Obj)}
theorem Cx.apart2 {R : List (Addr × Obj)} {oL : Obj} (C : Cx w A₀ [] base g n) (S : St g L h l (N ++ R)) (hm : (Lw, oL) ∈ R) : ∀ b ∈ N.map (·.1), base.get? b = none ∧ ∀ env ∈ [fineE L, lawE Lw], env.frame ≠ some b := fun b hb => by
 refine el_xaa (List.mem_map.mp hb) fun p hp hsb2 => ?_
 subst hsb2
 have z := S.nw p (List.mem_append_left _ hp)
 refine ⟨?_, fun env he q => ?_⟩
 · cases e : base.get? p.1 with
   | none => rfl
   | some o' => have := C.below.stays _ _ e; rw [z.2.2] at this; cases this
 · rcases List.mem_cons.mp he with rfl | he
   · exact z.2.1 (Option.some.inj q).symm
   · rw [List.mem_singleton.mp he] at q
     have nd := S.nd
     rw [List.map_append, List.nodup_append] at nd
     exact nd.2.2 _ (List.mem_map_of_mem hp) _ (List.mem_map_of_mem hm) (Option.some.inj q).symm
theorem deepF (C : Cx w A₀ [] base g (n + 1)) : (fineA A₀ Lw L).units + 70 < cLine := by
 have h2 := C.room
 show A₀.units + 3 + 3 + 70 < 9900
 lia
theorem take2 {R : List (Addr × Obj)} {D P : Addr} {oD oP oL : Obj} {tk2 : Tok} {many : Int} {Q : Value → Shared → Prop} (C : Cx w A₀ [] base g (n + 3)) (S : St g L s.heap l ((D, oD) :: (P, oP) :: R)) (hm : (Lw, oL) ∈ R) (hL : ∀ vs, oL.data ≠ .fields vs) (dr : Draw P oD oP) (hm0 : 0 < many)
   (h : ∀ h' tk' oD' oP' r u, St g L h' l ((D, oD') :: (P, oP') :: R) → Draw P oD' oP' → 0 ≤ r → r < many → Q (.int r u) { s with heap := h', toks := tk' }) : wpAny (model prg w) (fineA A₀ Lw L) (call (.ref 326) [.ref D, .int many tk2]) Q E s := by
 have hDP : D ≠ P := fun q => by
   have := S.nd
   simp [q] at this
 refine take_spec (n := n) (C.push2 S (.tail _ (.tail _ hm)) hL) (C.apart2 (N := [(D, oD), (P, oP)]) (R := R) S hm) (S.get (.head _)) (S.get (.tail _ (.head _))) hDP dr hm0 fun h' tk' oD' oP' r u hx hD' hP' dr' h0 h1 => ?_
 have T : Turns [(D, oD), (P, oP)] [(D, oD'), (P, oP')] s.heap h' := ⟨hx, fun p hp => by
   rcases List.mem_cons.mp hp with rfl | hp
   · exact hD'
   · rw [List.mem_singleton.mp hp]; exact hP', fun p hp => .inl (by
   rcases List.mem_cons.mp hp with rfl | hp
   · exact .head _
   · rw [List.mem_singleton.mp hp]; exact .tail _ (.head _)), by simp [hDP]⟩
 exact h h' tk' oD' oP' r u (callSt (N := [(D, oD), (P, oP)]) (N' := [(D, oD'), (P, oP')]) (R := R) S T) dr' h0 h1
theorem fine_graph {D P ex : Addr} {oL oD oP : Obj} {nn : Nat} {tk1 : Tok} {ev : List Value} {ce : Nat} {edges : List (Int × Int)} {Q : Flow → Shared → Prop} (C : Cx w A₀ [] base g (n + 12)) (hL : ∀ vs, oL.data ≠ .fields vs)
   (S : St g L s.heap [("edges", some (.ref ex)), ("n", some (.int nn tk1)), ("draw", some (.ref D))] [(Lw, oL), (D, oD), (P, oP)]) (hex : g.get? ex = some (W.listOf ev.toArray ce)) (hE : Rows2 g ev edges) (h6 : nn ≤ 6) (hes : EdgesIn nn edges) (hnd : edges.Nodup)
   (h : ∀ g' x h' tk' u v adj, (∀ b o, g.get? b = some o → g'.get? b = some o) → St g' L h' [("v", v), ("u", u), ("graph", some (.ref x)), ("edges", some (.ref ex)), ("n", some (.int nn tk1)), ("draw", some (.ref D))] [(Lw, oL), (D, oD), (P, oP)] → GraphG w g' x (uto nn) adj → AdjIs nn adj edges →
     wpAny (model prg w) (fineA A₀ Lw L) (execs (fineB.drop 3) (fineE L)) Q E { s with heap := h', toks := tk' }) :
   wpAny (model prg w) (fineA A₀ Lw L) (execs fineB (fineE L)) Q E s := by
 conv => arg 3; arg 1; whnf
 walk_at "mm"
 refine wpAny_call (mkI S C fun x dx h2 S x0 dx0 => ?_)
 have hne : x ≠ dx := fun e => by
   have := S.nd
   simp [e] at this
 refine graph_init (n := n + 1) (C.less (by lia) |>.push2 S (Lw := Lw) (ow := oL) (.tail _ (.tail _ (.head _))) hL).under (C.apart2 (N := [(x, instObj 310 dx), (dx, emptyDict)]) (R := [(Lw, oL), (D, oD), (P, oP)]) S (.head _)) (S.get (.head _)) (S.get (.tail _ (.head _))) hne fun h3 tk3 N3 T _ G3 => ?_
 replace S := callSt (N := [(x, instObj 310 dx), (dx, emptyDict)]) (R := [(Lw, oL), (D, oD), (P, oP)]) S T
 dsimp only [InitBack]
 refine ⟨rfl, ?_⟩
 walk_at "mm"
 have GG : GraphG w h1 x [] [] := ⟨N3, G3, fun p hp => S.get (List.mem_append_left _ hp)⟩
 refine el_xxxxxxxa (GG.at) fun dx' gd nd ad od nv nb R' => ?_
 refine el_xxxxxxxa (R'.od) fun hq1 tq1 hq2 tq2 hq3 tq3 mq hsb7 => ?_
 subst hsb7
 refine methA S C R'.at_.inst rfl ?_
 walk_at "mm"
 refine rangeF S fun r h4 ru rv S => ?_
 refine el_xaaa (S.freeze1) fun g4 S k4 hrg => ?_
 dsimp only at hrg
 have C4 := C.keeps k4
 walk_at "mm"
 refine wpAny_call (add_nodes_code (n := n + 1) ((C4.less (by lia)).push2 S (Lw := Lw) (ow := oL) (List.mem_append_right _ (.head _)) hL) (C4.apart2 (N := N3) (R := [(Lw, oL), (D, oD), (P, oP)]) S (.head _)) (fun p hp => S.get (List.mem_append_left _ hp)) ?_ G3 (nn := nn) (S.keep _ _ hrg) ?_ h6 fun h5 tk5 N5 T _ G5 => ?_)
 · have nd := S.nd
   rw [List.map_append, List.nodup_append] at nd
   exact nd.1
 · intro m
   refine el_xaa (List.mem_map.mp m) fun p hp e => ?_
   have := (S.nw p (List.mem_append_left _ hp)).2.2
   rw [e, hrg] at this; cases this
 replace S := callSt (N := N3) (R := [(Lw, oL), (D, oD), (P, oP)]) S T
 walk_at "mm"
 have hlE := hE.len
 replace S := St.relist (l' := [("v", none), ("u", none), ("graph", some (.ref x)), ("edges", some (.ref ex)), ("n", some (.int nn tk1)), ("draw", some (.ref D))]) S (by rfl)
 refine for_src (E' := fun _ _ => False) (fun i l N' G' => ∃ v1 v2 N6 adj, l = ([("v", v1), ("u", v2), ("graph", some (.ref x)), ("edges", some (.ref ex)), ("n", some (.int nn tk1)), ("draw", some (.ref D))] : Loc) ∧
   N' = N6 ++ [(Lw, oL), (D, oD), (P, oP)] ∧ Graph w x N6 (uto nn) adj ∧ AdjIs nn adj (edges.take i)) (Src.list C4.hand ⟨_, k4 _ _ hex, rfl, _, rfl⟩) S (in_x4 _ _ N5 _ ⟨rfl, rfl, G5, AdjIs.zero nn⟩) ?_ ?_ (fun _ _ z => z.elim)
 case refine_1 =>
   intro Jq Ji i v l N' G' h6' tk6 gb Bq hlt hP2 hJ kG k3 S HB
   refine el_xxxxaaaa hJ fun v1 v2 N6 adj hsb4 hsb5 G6 A6 => ?_
   try clear hJ
   replace S := St.at2 hsb4 hsb5 S
   obtain ⟨T, u, v, t1, t2, rfl, hri, hT⟩ := (hE.mono k4).at hP2
   have CG2 := C4.keeps fun b o e => k3 b o (kG b o e)
   refine asg2 CG2.hand S ⟨_, S.keep _ _ (k3 _ _ (kG _ _ hT)), rfl, _, rfl⟩ fun h7 tk7 S => ?_
   replace S := St.relist (l' := [("v", some (.int v t2)), ("u", some (.int u t1)), ("graph", some (.ref x)), ("edges", some (.ref ex)), ("n", some (.int nn tk1)), ("draw", some (.ref D))]) S (by rfl)
   walk_at "mm"
   have GG : GraphG w h7 x (uto nn) adj := ⟨N6, G6, fun p hp => S.get (List.mem_append_left _ hp)⟩
   refine el_xxxxxxxa (GG.at) fun dx' gd nd ad od nv nb R' => ?_
   refine el_xxxxxxxa (R'.od) fun hq1 tq1 hq2 tq2 hq3 tq3 mq hsb7 => ?_
   subst hsb7
   refine methA S CG2 R'.at_.inst rfl ?_
   walk_at "mm"
   have huv := hes _ (List.mem_iff_getElem?.mpr ⟨i, hri⟩)
   dsimp only at huv
   have hu : u ∈ uto nn := mem_uto.mpr (by lia)
   have hv : v ∈ uto nn := mem_uto.mpr (by lia)
   have het : EdgesIn nn (edges.take i) := fun e he => hes e (List.mem_of_mem_take he)
   have hnin : (u, v) ∉ edges.take i := fun m => by
     have e1 : edges = edges.take i ++ ((u, v) :: edges.drop (i + 1)) := by
       refine el_xa (List.getElem?_eq_some_iff.mp hri) fun hi q => ?_
       rw [← q, ← List.drop_eq_getElem_cons hi, List.take_append_drop]
     rw [e1, List.nodup_append] at hnd
     exact hnd.2.2 _ m _ (.head _) rfl
   refine wpAny_call (add_edge_code (n := n + 1) ((CG2.less (by lia)).push2 S (Lw := Lw) (ow := oL) (List.mem_append_right _ (.head _)) hL) (CG2.apart2 (N := N6) (R := [(Lw, oL), (D, oD), (P, oP)]) S (.head _)) (fun p hp => S.get (List.mem_append_left _ hp)) ?_ G6 (by rw [uto_len]; lia) (fun m => ?_) (fun p hp => by have := adj_deg A6 het p hp; lia) fun h8 tk8 N8 T _ G8 => ?_)
   · have nd := S.nd
     rw [List.map_append, List.nodup_append] at nd
     exact nd.1
   · rcases (A6.mem u v hu).mp m with q | q
     · exact hnin q
     · have := het _ q
       dsimp only at this
       obtain rfl : u = v := by lia
       exact hnin q
   replace S := callSt (N := N6) (R := [(Lw, oL), (D, oD), (P, oP)]) S T
   refine el_aa (A6.step hu hv) fun A7 hK => ?_
   rw [hK] at G8
   walk_at "mm"
   exact HB _ _ (BodyEnd.nx [] S fun G2 k4 _ => Ji _ _ _ _ (in_x4 _ _ N8 _ ⟨rfl, rfl, G8, by rw [take_next hri]; exact A7⟩))
 intro l N' G' h6' tk6 hJ kG S
 refine el_xxxxaaaa hJ fun v1 v2 N6 adj hsb4 hsb5 G6 A6 => ?_
 try clear hJ
 replace S := St.at2 hsb4 hsb5 S
 refine el_aaa (S.freeze) fun S kf hf => ?_
 have : List.take ev.toArray.size edges = edges := by rw [List.size_toArray, hlE, List.take_length]
 rw [this] at A6
 exact h _ x _ _ _ _ adj (fun b o e => kf b o (kG b o (k4 b o e))) S ⟨N6, G6, hf⟩ A6
end
noncomputable def forB : Stmt → List Stmt
 | .For (body := b) .. => b
 | _ => []
noncomputable abbrev turnB : List Stmt := forB (nthS fineB 3)
noncomputable abbrev tl (D ex x : Addr) (nn : Nat) (tk1 : Tok) (told due kind nodes v u table rows turn : Option Value) : Loc :=
 [("told", told), ("due", due), ("kind", kind), ("nodes", nodes), ("v", v), ("u", u), ("table", table), ("rows", rows), ("turn", turn), ("graph", some (.ref x)), ("edges", some (.ref ex)), ("n", some (.int nn tk1)), ("draw", some (.ref D))]
theorem IntVals.keys {kvs : List (Int × Value)} {ps : List (Int × Int)} (h : IntVals kvs ps) : kvs.map (·.1) = ps.map (·.1) := by
 apply List.ext_getElem (by simp [h.1])
 intro i h1 h2
 rw [List.length_map] at h1 h2
 refine el_xxaa (h.2 i kvs[i].1 kvs[i].2 (by rw [List.getElem?_eq_getElem h1])) fun v t e1 e2 => ?_
 rw [List.getElem_map, List.getElem_map]
 rw [List.getElem?_eq_getElem h2] at e2
 rw [Option.some.inj e2]
theorem IntVals.snoc {kvs : List (Int × Value)} {ps : List (Int × Int)} (h : IntVals kvs ps) (k v : Int) (t : Tok) : IntVals (kvs ++ [(k, .int v t)]) (ps ++ [(k, v)]) := by
 refine ⟨by simp [h.1], fun i k' x e => ?_⟩
 rcases Nat.lt_trichotomy i kvs.length with q | q | q
 · rw [List.getElem?_append_left q] at e
   refine el_xxaa (h.2 i k' x e) fun v' t' e1 e2 => ?_
   exact in_x2 v' t' ⟨e1, by rw [List.getElem?_append_left (by rw [← h.1]; exact q)]; exact e2⟩ -- in172
 · subst q
   rw [List.getElem?_append_right (Nat.le_refl _)] at e
   simp at e
   refine el_aa e fun hsb0 hsb1 => ?_
   try clear e
   subst hsb0
   subst hsb1
   exact in_x2 v t ⟨rfl, by rw [h.1, List.getElem?_append_right (Nat.le_refl _)]; simp⟩ -- in173
 · rw [List.getElem?_eq_none (by simp; lia)] at e; cases e
theorem tab_keys {r p : List (Int × Int)} (x : Tab r p) : ∀ k ∈ p.map (·.1), k ∈ nodesOf r := by
 induction x with
 | nil => intro k h; simp at h
 | one t ih =>
   intro k h
   rw [nodesOf_snoc, List.mem_append]
   rw [List.map_append, List.mem_append] at h
   rcases h with h | h
   · exact .inl (ih k h)
   · exact .inr (by simp at h; simp [h])
 | two t ih =>
   intro k h
   rw [nodesOf_snoc, List.mem_append]
   rw [List.map_append, List.map_append, List.mem_append, List.mem_append] at h
   rcases h with (h | h) | h
   · exact .inl (ih k h)
   · exact .inr (by simp at h; simp [h])
   · exact .inr (by simp at h; simp [h])
theorem nodes_take {rows : List (Int × Int)} {i : Nat} {e : Int × Int} (h : rows[i]? = some e) (nd : (nodesOf rows).Nodup) : (nodesOf (rows.take i ++ [e])).Nodup := by
 have e1 : rows = (rows.take i ++ [e]) ++ rows.drop (i + 1) := by
   refine el_xa (List.getElem?_eq_some_iff.mp h) fun hi q => ?_
   rw [← q, List.append_assoc, List.singleton_append, ← List.drop_eq_getElem_cons hi, List.take_append_drop]
 rw [e1] at nd
 unfold nodesOf at nd ⊢
 rw [List.flatMap_append, List.nodup_append] at nd
 exact nd.1
section
variable {w : World} {A A₀ A' : Around} {outs outs₂ : List Env} {base : Heap} {n m : Nat} {s s' : Shared} {E : Value → Shared → Prop} {R : Result → Shared → Prop} {g h : Heap} {L Lw : Addr} {l : Loc} {N : List (Addr × Obj)}
theorem fine_table {D P ex x Tb rx : Addr} {oL oD oP oT : Obj} {nn : Nat} {tk1 : Tok} {rv : List Value} {cr : Nat} {rows : List (Int × Int)} {Q : Flow → Shared → Prop} {v1 v2 nd1 kd du td tu : Option Value} (C : Cx w A₀ [] base g (n + 12)) (hL : ∀ vs, oL.data ≠ .fields vs)
   (S : St g L s.heap (tl D ex x nn tk1 td du kd nd1 v1 v2 (some (.ref Tb)) (some (.ref rx)) tu) [(D, oD), (P, oP), (Tb, oT), (Lw, oL)]) (dr : Draw P oD oP) (hT : oT.IsDictOf (ik w) []) (lo : (Tb == sysModules) = false)
   (hrx : g.get? rx = some (W.listOf rv.toArray cr)) (hR : Rows2 g rv rows) (hlen : rows.length ≤ 16)
   (h : ∀ g' h' tk' oD oP oT v1 v2 kvs, (∀ b o, g.get? b = some o → g'.get? b = some o) → St g' L h' (tl D ex x nn tk1 td du kd nd1 v1 v2 (some (.ref Tb)) (some (.ref rx)) tu) [(D, oD), (P, oP), (Tb, oT), (Lw, oL)] → Draw P oD oP → oT.IsDictOf (ik w) kvs → ((nodesOf rows).Nodup → ∃ ps, IntVals kvs ps ∧ Tab rows ps) →
     Q .next { s with heap := h', toks := tk' }) :
   wpAny (model prg w) (fineA A₀ Lw L) (exec (nthS turnB 2) (fineE L)) Q E s := by
 conv => arg 3; arg 1; whnf
 walk_at "mm"
 have hlR := hR.len
 refine for_src (E' := fun _ _ => False) (fun i l N' G' => ∃ v1 v2 oD oP oT kvs, l = tl D ex x nn tk1 td du kd nd1 v1 v2 (some (.ref Tb)) (some (.ref rx)) tu ∧
   N' = [(D, oD), (P, oP), (Tb, oT), (Lw, oL)] ∧ Draw P oD oP ∧ oT.IsDictOf (ik w) kvs ∧ kvs.length ≤ 2 * i ∧ ((nodesOf rows).Nodup → ∃ ps, IntVals kvs ps ∧ Tab (rows.take i) ps)) (Src.list C.hand ⟨_, hrx, rfl, _, rfl⟩) S
   ⟨_, _, oD, oP, oT, [], rfl, rfl, dr, hT, Nat.zero_le _, fun _ => ⟨[], ⟨rfl, fun i k x e => by simp at e⟩, .nil⟩⟩ ?_ ?_ (fun _ _ z => z.elim)
 case refine_1 =>
   intro Jq Ji i v l N' G' h6' tk6 gb Bq hlt hP2 hJ kG k3 S HB
   refine el_xxxxxxaaaaaa hJ fun v1 v2 oD oP oT kvs hsb6 hsb7 dr hT hkl htab => ?_
   try clear hJ
   replace S := St.at2 hsb6 hsb7 S
   refine el_xxxxxaaa (hR.at hP2) fun T u v t1 t2 hsb5 hri hTT => ?_
   subst hsb5
   have CG2 := C.keeps fun b o e => k3 b o (kG b o e)
   rw [List.size_toArray] at hlt
   refine asg2 CG2.hand S ⟨_, S.keep _ _ (k3 _ _ (kG _ _ hTT)), rfl, _, rfl⟩ fun h7 tk7 S => ?_
   replace S := St.relist (l' := (tl D ex x nn tk1 td du kd nd1 (some (.int v t2)) (some (.int u t1)) (some (.ref Tb)) (some (.ref rx)) tu)) S (by rfl)
   walk_at "mm"
   refine dSet S (fun o' => .tail (.tail .head)) hT (by lia) fun h8 oT' hT' S => ?_
   walk_at "mm"
   refine take2 (n := n) (CG2.less (by lia)) S (Lw := Lw) (oL := oL) (.tail _ (.head _)) hL dr (by decide) fun h9 tk9 oD oP r ur S dr h0 h1 => ?_
   walk_at "mm"
   refine PyProof.Rows.eq_int ?_
   walk_at "mm"
   have hst := stored_length_le kvs u (.int v t2)
   have ht1 : (nodesOf rows).Nodup → ∃ ps, IntVals (stored kvs u (.int v t2)) (ps ++ [(u, v)]) ∧ Tab (rows.take i) ps ∧ IntVals kvs ps ∧ v ∉ (ps ++ [(u, v)]).map (·.1) := fun nd => by
     refine el_xaa (htab nd) fun ps p1 p2 => ?_
     refine el_aaaa (nodes_snoc_nd (nodes_take hri nd)) fun q1 q2 q3 q4 => ?_
     refine ⟨ps, ?_, p2, p1, fun m => ?_⟩
     · rw [stored_off (by rw [p1.keys]; exact fun m => q2 (tab_keys p2 _ m))]
       exact p1.snoc u v t2
     · rw [List.map_append, List.mem_append] at m
       rcases m with m | m
       · exact q3 (tab_keys p2 _ m)
       · simp at m; exact q4 m.symm
   have no : ∀ G2 : Heap, ∃ v1 v2 oD' oP' oT'' kvs', tl D ex x nn tk1 td du kd nd1 (some (.int v t2)) (some (.int u t1)) (some (.ref Tb)) (some (.ref rx)) tu = tl D ex x nn tk1 td du kd nd1 v1 v2 (some (.ref Tb)) (some (.ref rx)) tu ∧
       [(D, oD), (P, oP), (Tb, oT'), (Lw, oL)] = [(D, oD'), (P, oP'), (Tb, oT''), (Lw, oL)] ∧ Draw P oD' oP' ∧ oT''.IsDictOf (ik w) kvs' ∧ kvs'.length ≤ 2 * (i + 1) ∧ ((nodesOf rows).Nodup → ∃ ps, IntVals kvs' ps ∧ Tab (rows.take (i + 1)) ps) := fun _ =>
     ⟨_, _, oD, oP, oT', _, rfl, rfl, dr, hT', by lia, fun nd => by
       refine el_xaaaa (ht1 nd) fun ps p1 p2 p3 p4 => ?_
       exact ⟨_, p1, by rw [take_next hri]; exact .one p2⟩⟩
   by_cases hr0 : r = 0
   case neg =>
     refine ite_no (by simp [hr0]) ?_
     walk_at "mm"
     exact HB _ _ (BodyEnd.nx [] S fun G2 _ _ => Ji _ _ _ _ (no G2))
   refine ite_yes (by simp [hr0]) ?_
   walk_at "mm"
   refine dNotIn (dOf S (.tail _ (.tail _ (.head _))) hT') lo ?_
   walk_at "mm"
   by_cases hv : v ∈ (stored kvs u (.int v t2)).map (·.1)
   · refine el_xaa (valueAt_in hv) fun y hy _ => ?_
     rw [hy]
     walk_at "mm"
     first | refine ite_tt ?_ | refine ite_ff ?_
     walk_at "mm"
     exact HB _ _ (BodyEnd.nx [] S fun G2 _ _ => Ji _ _ _ _ (no G2))
   · rw [valueAt_off hv]
     walk_at "mm"
     first | refine ite_tt ?_ | refine ite_ff ?_
     walk_at "mm"
     refine dSet S (fun o' => .tail (.tail .head)) hT' (by lia) fun h10 oT2 hT2 S => ?_
     walk_at "mm"
     have hst2 := stored_length_le (stored kvs u (.int v t2)) v (.int u t1)
     refine HB _ _ (BodyEnd.nx [] S fun G2 _ _ => Ji _ _ _ _ (in_x6 _ _ oD oP oT2 _ ⟨rfl, rfl, dr, hT2, by lia, fun nd => ?_⟩))
     refine el_xaaaa (ht1 nd) fun ps p1 p2 p3 p4 => ?_
     rw [stored_off hv]
     exact ⟨_, p1.snoc v u t1, by rw [take_next hri]; exact .two p2⟩
 intro l N' G' h6' tk6 hJ kG S
 refine el_xxxxxxaaaaaa hJ fun v1 v2 oD oP oT kvs hsb6 hsb7 dr hT hkl htab => ?_
 try clear hJ
 replace S := St.at2 hsb6 hsb7 S
 rw [List.size_toArray, hlR, List.take_length] at htab
 exact h _ _ _ _ _ _ _ _ kvs kG S dr hT htab
end
section
variable {w : World} {A A' : Around} {outs : List Env} {base : Heap} {n m : Nat} {s : Shared} {E : Value → Shared → Prop} {g : Heap} {L : Addr} {l : Loc} {N : List (Addr × Obj)}
theorem setRows {rx : Addr} {cr : Nat} {rv : List Value} {rows : List (Int × Int)} {Q : Value → Shared → Prop} (hh : A.handled = none) (hu : A.units + 20 < cLine) (S : St g L s.heap l N) (hl : s.heap.get? rx = some (W.listOf rv.toArray cr)) (hR : Rows2 s.heap rv rows)
   (hd : ∀ e ∈ rows, ks2 e ∈ dom) (nd : rows.Nodup) (h16 : rows.length ≤ 16)
   (h : ∀ T h' tk o Cs, St g L h' l ((T, o) :: N) → (∀ b o, s.heap.get? b = some o → h'.get? b = some o) → PS w h' o Cs → (Cs.map (·.1)).Perm (rows.map ks2) → Q (.ref T) { s with heap := h', toks := tk }) :
   wpAny (model prg w) A (call (.type "set") [.ref rx]) Q E s := by
 have hlen := hR.len
 have nS : ∀ {T : Addr} {o : Obj}, s.heap.get? T = some o → T ≠ s.heap.objs.size ∧ T ≠ s.heap.objs.size + 1 := fun e => ⟨Nat.ne_of_lt (Heap.lt_size e), Nat.ne_of_lt (Nat.lt_succ_of_lt (Heap.lt_size e))⟩
 refine call_setL hh ⟨_, hl, rfl, _, rfl⟩ (fun i hp => (∀ b o, s.heap.get? b = some o → hp.get? b = some o) ∧ ∃ o C, hp.get? s.heap.objs.size = some o ∧ PS w hp o C ∧ (C.map (·.1)).Perm ((rows.take i).map ks2) ∧ ∀ c ∈ C, IsK w s.heap c.1 c.2)
   ?_ ?_ ?_ ?_
 · rintro i h1 h2 ⟨k, o, C, ho, P, hp, hK⟩ hk
   have k2 : ∀ b o, s.heap.get? b = some o → h2.get? b = some o := fun b o e => hk b o (by simpa using (nS e).2) (k b o e)
   exact ⟨k2, o, C, hk _ o (by simp) ho, P.re fun c hc => (hK c hc).keeps k2, hp, hK⟩
 · intro h1 k e
   exact ⟨k, _, [], e, ps_empty, by simp, fun c hc => nomatch hc⟩
 · rintro i v s₁ Q₁ E₁ A₁ hu1 hi hv ⟨k, o, C, ho, P, hp, hK⟩ hQ
   refine el_xxxxxaaa (hR.at hv) fun T a b t1 t2 hsb5 hri hT => ?_
   subst hsb5
   have hx : IsK w s₁.heap [a, b] T := isK2 (k _ _ hT)
   have hm := List.mem_iff_getElem?.mpr ⟨i, hri⟩
   have hn : [a, b] ∉ C.map (·.1) := fun m => by
     have := hp.mem_iff.mp m
     refine el_xaa (List.mem_map.mp this) fun e he q => ?_
     have e1 : rows = rows.take i ++ ((a, b) :: rows.drop (i + 1)) := by
       refine el_xa (List.getElem?_eq_some_iff.mp hri) fun hi q => ?_
       rw [← q, ← List.drop_eq_getElem_cons hi, List.take_append_drop]
     rw [e1, List.nodup_append] at nd
     refine nd.2.2 e he (a, b) (.head _) ?_
     simp only [ks2, List.cons.injEq, and_true] at q
     exact Prod.ext q.1 q.2
   have hCl : C.length ≤ 16 := by
     have := hp.length_eq
     rw [List.length_map, List.length_map, List.length_take] at this
     lia
   refine setAdd_new P ho (by lia) hx (hd _ hm) hn hCl fun h' tk o' C' hs ho' P' hp' => ?_
   refine hQ _ h' tk hs ⟨fun b o e => hs.extBut b o (nS e).1 (k b o e), o', C', ho', P', ?_, fun c hc => ?_⟩
   · refine (hp'.map (·.1)).trans ?_
     rw [List.map_cons, take_next hri, List.map_append]
     exact (hp.cons [a, b]).trans (List.perm_append_comm (l₁ := [[a, b]]))
   · rcases List.mem_cons.mp (hp'.mem_iff.mp hc) with rfl | hc
     · exact isK2 hT
     · exact hK c hc
 · intro h' tk k
   refine elc_axxaaaa fun o C _ ho P hp hK => ?_
   rw [List.size_toArray, hlen, List.take_length] at hp
   exact h _ h' tk o C (S.add k ho (get_size _)) k P hp
end
section
variable {w : World} {A A₀ A' : Around} {outs outs₂ : List Env} {base : Heap} {n m : Nat} {s s' : Shared} {E : Value → Shared → Prop} {R : Result → Shared → Prop} {g h : Heap} {L Lw : Addr} {l : Loc} {N : List (Addr × Obj)}
theorem said_good {x : Addr} {oL : Obj} {nn : Nat} {kind : Int} {tk0 : Tok} {mv : Value} {adj : List (Int × List Int)} {es rows : List (Int × Int)} {Q : Value → Shared → Prop} (C : Cx w A₀ [] base g (n + 12)) (S : St g L s.heap l N) (hm : (Lw, oL) ∈ N) (hL : ∀ vs, oL.data ≠ .fields vs)
   (G : GraphG w g x (uto nn) adj) (AI : AdjIs nn adj es) (hes : EdgesIn nn es) (h6 : nn ≤ 6) (hM : MArg w s.heap mv (uto nn) (some rows)) (hr : ∀ e ∈ rows, e.1 ∈ uto nn ∧ e.2 ∈ uto nn) (hk : kind = 0 ∨ kind = 1 ∨ kind = 2)
   (h : ∀ h' tk' gs, St g L h' l N → (∀ b o, s.heap.get? b = some o → h'.get? b = some o) → Bare s gs → Q (.bool (dueB kind nn es rows)) { s with heap := h', toks := tk', gens := gs }) :
   wpAny (model prg w) (fineA A₀ Lw L) (call (.ref 333) [.int kind tk0, .ref x, mv]) Q E s := by
 refine wpAny_call (said_code (n := n + 2) (C.push2 S hm hL) (G.ext S.keep) (by rw [uto_len]; exact h6) (fun y hy => by have := mem_uto.mp hy; lia) (rows_in6 AI hes h6) hM (fun rows' e h' tk' gs hx hgs => ?_) fun e => nomatch e)
 cases e
 rw [said_due AI hes hr hk]
 exact h h' tk' gs (S.grow hx.keep) hx.keep hgs
theorem said_bad {x : Addr} {oL : Obj} {nn : Nat} {kind : Int} {tk0 : Tok} {mv : Value} {adj : List (Int × List Int)} {es : List (Int × Int)} {Q : Value → Shared → Prop} (C : Cx w A₀ [] base g (n + 12)) (S : St g L s.heap l ((Lw, oL) :: N)) (hL : ∀ vs, oL.data ≠ .fields vs)
   (G : GraphG w g x (uto nn) adj) (AI : AdjIs nn adj es) (hes : EdgesIn nn es) (h6 : nn ≤ 6) (hM : MArg w s.heap mv (uto nn) none)
   (h : ∀ h' tk' t sl, St g L h' l ((Lw, { oL with slots := sl }) :: N) → Q (.str (Str.ofString "refused") t) { s with heap := h', toks := tk' }) :
   wpAny (model prg w) (fineA A₀ Lw L) (call (.ref 333) [.int kind tk0, .ref x, mv]) Q E s := by
 refine wpAny_call (said_code (n := n + 2) (C.push2 S (.head _) hL) (G.ext S.keep) (by rw [uto_len]; exact h6) (fun y hy => by have := mem_uto.mp hy; lia) (rows_in6 AI hes h6) hM (fun rows' e => nomatch e) fun _ h' tk' t hc => ?_)
 refine el_xa (S.caught hc (fun b hb => by simpa [envOf, eq_comm] using hb) hL) fun sl S' => ?_
 exact h h' tk' t sl S'
theorem due2 {ex rx : Addr} {oL : Obj} {kind nn : Int} {tk0 tk1 : Tok} {ev rv : List Value} {ce cr : Nat} {edges rows : List (Int × Int)} {Q : Value → Shared → Prop} (C : Cx w A₀ [] base g (n + 12)) (S : St g L s.heap l N) (hm : (Lw, oL) ∈ N) (hL : ∀ vs, oL.data ≠ .fields vs)
   (hex : s.heap.get? ex = some (W.listOf ev.toArray ce)) (hE : Rows2 s.heap ev edges) (hrx : s.heap.get? rx = some (W.listOf rv.toArray cr)) (hR : Rows2 s.heap rv rows) (hl1 : edges.length ≤ 100) (hl2 : rows.length ≤ 100)
   (h : ∀ h' tk', St g L h' l N → (∀ b o, s.heap.get? b = some o → h'.get? b = some o) → Q (.bool (dueB kind nn edges rows)) { s with heap := h', toks := tk' }) :
   wpAny (model prg w) (fineA A₀ Lw L) (call (.ref 338) [.int kind tk0, .int nn tk1, .ref ex, .ref rx]) Q E s :=
 wpAny_call (due_code (n := n + 2) (C.push2 S hm hL) hex hE hrx hR hl1 hl2 fun h' tk' hx => h h' tk' (S.grow hx.keep) hx.keep)
theorem ne_bool {a b : Bool} {Q : Value → Shared → Prop} (hu : A.units + 70 < cLine) (h : Q (.bool !(a == b)) s) : wpAny (model prg w) A (compareOp .NotEq (.bool a) (.bool b)) Q E s :=
 ne_dataH (da := .bool a) (db := .bool b) (.bool a) (.bool b) rfl rfl (by show A.units + 64 < cLine; lia) (by
   have : PyData.eqv (.bool a) (.bool b) = (a == b) := by cases a <;> cases b <;> rfl
   rw [this]; exact h)
theorem fine_kinds {D P ex x Tb rx nx : Addr} {oL oD oP : Obj} {nn : Nat} {tk1 : Tok} {ev rv nv : List Value} {ce cr cn : Nat} {adj : List (Int × List Int)} {edges rows : List (Int × Int)} {kvs : List (Int × Value)} {Q : Flow → Shared → Prop} {v1 v2 kd du td tu : Option Value} (C : Cx w A₀ [] base g (n + 12)) (hL : ∀ vs, oL.data ≠ .fields vs)
   (S : St g L s.heap (tl D ex x nn tk1 td du kd (some (.ref nx)) v1 v2 (some (.ref Tb)) (some (.ref rx)) tu) [(Lw, oL), (D, oD), (P, oP)])
   (hex : g.get? ex = some (W.listOf ev.toArray ce)) (hE : Rows2 g ev edges) (hrx : g.get? rx = some (W.listOf rv.toArray cr)) (hR : Rows2 g rv rows) (hnx : g.get? nx = some (W.listOf nv.toArray cn)) (hN : IntsAre nv (nodesOf rows))
   (hTb : g.DictOf (ik w) Tb kvs) (lo : (Tb == sysModules) = false) (htab : (nodesOf rows).Nodup → ∃ ps, IntVals kvs ps ∧ Tab rows ps)
   (G : GraphG w g x (uto nn) adj) (AI : AdjIs nn adj edges) (hes : EdgesIn nn edges) (hle : edges.length ≤ 100) (h6 : nn ≤ 6) (ok : RowsOk nn rows)
   (h : ∀ g' h' tk' gs td du kd, (∀ b o, g.get? b = some o → g'.get? b = some o) → St g' L h' (tl D ex x nn tk1 td du kd (some (.ref nx)) v1 v2 (some (.ref Tb)) (some (.ref rx)) tu) [(Lw, oL), (D, oD), (P, oP)] → Bare s gs →
     Q .next { s with heap := h', toks := tk', gens := gs }) :
   wpAny (model prg w) (fineA A₀ Lw L) (exec (nthS turnB 4) (fineE L)) Q E s := by
 conv => arg 3; arg 1; whnf
 walk_at "mm"
 refine rangeF S fun rg hh5 ru rv' S => ?_
 refine el_xaaa (S.freeze1) fun g4 S k4 hrg => ?_
 have C4 := C.keeps k4
 dsimp only at hrg
 walk_at "mm"
 have hrn : ∀ e ∈ rows, e.1 ∈ uto nn ∧ e.2 ∈ uto nn := fun e he => by
   have := ok.lt e he
   exact ⟨mem_uto.mpr this.1, mem_uto.mpr this.2⟩
 have hlR := ok.len
 refine for_srcG (E' := fun _ _ => False) (fun i l N' G' => ∃ td du kd, l = tl D ex x nn tk1 td du kd (some (.ref nx)) v1 v2 (some (.ref Tb)) (some (.ref rx)) tu ∧ N' = [(Lw, oL), (D, oD), (P, oP)])
   (SrcG.range (n := 3) Bare BareTo bare_ok (fun _ x => x) C4.hand (by decide) hrg (fun v M Q E s I h => wpAny_pure h)) S (in_x3 _ _ _ ⟨rfl, rfl⟩) ?_ ?_ (fun _ _ z => z.elim)
 case refine_1 =>
   intro Jq Ji i v l N' G' h6' tk6 gs6 gb Bq hlt hP2 hgs6 hJ kG k3 S HB
   refine el_xxxaa hJ fun td du kd hsb3 hsb4 => ?_
   try clear hJ
   replace S := St.at2 hsb3 hsb4 S
   refine el_xa hP2 fun tv hsb1 => ?_
   try clear hP2
   subst hsb1
   have kb : ∀ b o, g.get? b = some o → gb.get? b = some o := fun b o e => k3 b o (kG b o (k4 b o e))
   have CG2 := C.keeps kb
   have hki : (i : Int) = 0 ∨ (i : Int) = 1 ∨ (i : Int) = 2 := by lia
   walk_at "mm"
   replace S := St.relist (l' := (tl D ex x nn tk1 td du (some (.int i tv)) (some (.ref nx)) v1 v2 (some (.ref Tb)) (some (.ref rx)) tu)) S (by rfl)
   refine due2 (n := n) CG2 S (Lw := Lw) (.head _) hL (S.keep _ _ (kb _ _ hex)) ((hE.mono kb).mono S.keep) (S.keep _ _ (kb _ _ hrx)) ((hR.mono kb).mono S.keep) hle (by lia) fun h7 tk7 S k7 => ?_
   walk_at "mm"
   refine setRows CG2.hand (by have := deepF (L := L) (Lw := Lw) (CG2.less (k := 1) (by lia)); lia) S (S.keep _ _ (kb _ _ hrx)) ((hR.mono kb).mono S.keep) (fun e he => by
     have := ok.lt e he
     exact mem_dom (by lia) (by lia)) ok.nd hlR fun T h8 tk8 oT Cs S k8 PT hpT => ?_
   walk_at "mm"
   refine said_good (n := n) CG2 S (Lw := Lw) (.tail _ (.head _)) hL (G.ext kb) AI hes h6 (.inl ⟨T, oT, Cs, rfl, S.get (.head _), PT, .inl ⟨rows, rfl, hrn, hpT, by lia⟩⟩) hrn hki fun h9 tk9 gs9 S k9 hg9 => ?_
   replace S := S.sub (List.sublist_cons_self _ _)
   walk_at "mm"
   refine IsiPair.bool_bool ?_
   walk_at "mm"
   refine ne_bool (deepF (CG2.less (k := 1) (by lia))) ?_
   rw [beq_self_eq_true]
   walk_at "mm"
   refine call_set_list (prog := prg) (w := w) CG2.hand (items := nv.toArray) (ns := nodesOf rows) ⟨_, S.keep _ _ (kb _ _ hnx), rfl, _, rfl⟩ hN ?_ fun h10 tk10 hso hk10 => ?_
   · have : 1000 < scanBound := by decide
     have := hN.length
     rw [nodesOf_len] at this
     simp only [List.size_toArray]; lia
   refine el_xaa (IS.of hso) fun os hos his => ?_
   replace S := S.add (fun b o e => hk10 b o (Heap.lt_size e) e) hos (get_size _)
   have hnl := hN.length
   rw [nodesOf_len] at hnl
   have hsize : nv.toArray.size = (nodesOf rows).length := by rw [List.size_toArray, hN.length]
   refine el_xa (⟨_, rfl⟩ : ∃ k, k = (firstMet (fun i => (nodesOf rows).getD i 0) nv.toArray.size).length) fun kk hkk => ?_
   rw [← hkk] at his
   rw [hsize] at hkk
   walk_at "mm"
   refine lenI S (.head _) his fun u1 tk11 => ?_
   walk_at "mm"
   refine call_len_list (items := nv.toArray) ⟨_, S.keep _ _ (kb _ _ hnx), rfl, _, rfl⟩ (by simp only [List.size_toArray]; lia) ?_
   walk_at "mm"
   refine PyProof.Rows.eq_int ?_
   walk_at "mm"
   rw [hsize]
   replace S := S.sub (List.sublist_cons_self _ _)
   by_cases hnd : (nodesOf rows).Nodup
   case neg =>
     refine ite_no ?_ ?_
     · have := _root_.mt (firstMet_nd (nodesOf rows)).mp hnd
       rw [← hkk] at this
       simp; lia
     walk_at "mm"
     replace S := St.relist (l' := (tl D ex x nn tk1 (some (.bool (dueB i nn edges rows))) (some (.bool (dueB i nn edges rows))) (some (.int i tv)) (some (.ref nx)) v1 v2 (some (.ref Tb)) (some (.ref rx)) tu)) S (by rfl)
     exact HB _ _ (BodyEndG.nw S hg9 fun G2 _ _ => Ji _ _ _ _ (in_x3 _ _ _ ⟨rfl, rfl⟩))
   refine ite_yes ?_ ?_
   · have := (firstMet_nd (nodesOf rows)).mpr hnd
     rw [← hkk] at this
     simp [this]
   walk_at "mm"
   refine el_xaa (htab hnd) fun ps p1 p2 => ?_
   refine el_aa (p2.mds hnd) fun q1 q2 => ?_
   refine said_good (n := n) CG2 S (Lw := Lw) (.head _) hL (G.ext kb) AI hes h6 (.inr ⟨Tb, kvs, ps, rfl, lo, (hTb.keep kb).keep S.keep, p1, fun p hp => ?_, by rw [q1]; have := len3 h6 hrn hnd; lia, tab_dictK p2 hnd hrn⟩) hrn hki fun h11 tk12 gs11 S k11 hg11 => ?_
   · refine el_aaa (q2 p hp) fun z1 z2 z3 => ?_
     have b : ∀ y ∈ nodesOf rows, 0 ≤ y ∧ y < 6 := fun y hy => by
       refine el_xaa (nodes_inv hy) fun e he q => ?_
       have := ok.lt e he
       rcases q with rfl | rfl <;> lia
     exact ⟨mem_dom (b _ z2) (b _ z3), mem_dom (b _ z3) (b _ z2)⟩
   walk_at "mm"
   refine ne_bool (deepF (CG2.less (k := 1) (by lia))) ?_
   rw [beq_self_eq_true]
   walk_at "mm"
   replace S := St.relist (l' := (tl D ex x nn tk1 (some (.bool (dueB i nn edges rows))) (some (.bool (dueB i nn edges rows))) (some (.int i tv)) (some (.ref nx)) v1 v2 (some (.ref Tb)) (some (.ref rx)) tu)) S (by rfl)
   exact HB _ _ (BodyEndG.nw S (fun z => hg11 (hg9 z)) fun G2 _ _ => Ji _ _ _ _ (in_x3 _ _ _ ⟨rfl, rfl⟩))
 intro l N' G' h6' tk6 gs6 hgs6 hJ kG S
 refine el_xxxaa hJ fun td du kd hsb3 hsb4 => ?_
 try clear hJ
 replace S := St.at2 hsb3 hsb4 S
 exact h _ _ _ gs6 _ _ _ (fun b o e => kG b o (k4 b o e)) S hgs6
end
section
variable {w : World} {A A₀ A' : Around} {outs outs₂ : List Env} {base : Heap} {n m : Nat} {s s' : Shared} {E : Value → Shared → Prop} {R : Result → Shared → Prop} {g h : Heap} {L Lw : Addr} {l : Loc} {N : List (Addr × Obj)}
theorem Draw.notTup {P : Addr} {oD oP : Obj} (dr : Draw P oD oP) : NotTup oD ∧ NotTup oP := by
 refine el_xxxxxxaaa (dr.is) fun _ _ _ _ _ _ e1 e2 _ => ?_
 exact ⟨by rw [e1]; exact notTup_list _ _, by rw [e2]; exact notTup_list _ _⟩
theorem drawn2 {D P ex : Addr} {oL oD oP : Obj} {nn : Nat} {tk1 : Tok} {ev : List Value} {ce : Nat} {edges : List (Int × Int)} {Q : Value → Shared → Prop} (C : Cx w A₀ [] base g (n + 12)) (S : St g L s.heap l [(Lw, oL), (D, oD), (P, oP)]) (hL : ∀ vs, oL.data ≠ .fields vs) (hLt : NotTup oL) (dr : Draw P oD oP)
   (hex : g.get? ex = some (W.listOf ev.toArray ce)) (hE : Rows2 g ev edges) (he : EdgesOk nn edges) (hn1 : 1 ≤ nn) (hl1 : edges.length ≤ 100)
   (h : ∀ g' h' tk' oD oP T vs c rows, (∀ b o, g.get? b = some o → g'.get? b = some o) → St g' L h' l [(Lw, oL), (D, oD), (P, oP)] → Draw P oD oP → g'.get? T = some (W.listOf vs.toArray c) → Rows2 g' vs rows → RowsOk nn rows → Q (.ref T) { s with heap := h', toks := tk' }) :
   wpAny (model prg w) (fineA A₀ Lw L) (call (.ref 343) [.ref D, .int nn tk1, .ref ex]) Q E s := by
 have S0 := S.perm (N' := [(D, oD), (P, oP), (Lw, oL)]) (List.perm_append_comm (l₁ := [(D, oD), (P, oP)]) (l₂ := [(Lw, oL)]))
 have hDP : D ≠ P := fun q => by
   have := S.nd
   simp [q] at this
 have hexD : ex ≠ D ∧ ex ≠ P := ⟨fun q => (by have := S.none (a := D) (.tail _ (.head _)); rw [← q, hex] at this; cases this), fun q => (by have := S.none (a := P) (.tail _ (.tail _ (.head _))); rw [← q, hex] at this; cases this)⟩
 refine wpAny_call (drawn_code (n := n + 6) (C.push2 S (.head _) hL) (C.apart2 (N := [(D, oD), (P, oP)]) (R := [(Lw, oL)]) S0 (.head _)) (S0.get (.head _)) (S0.get (.tail _ (.head _))) hDP dr (S.keep _ _ hex) (hE.mono S.keep) hexD he (by lia) hl1 fun h' tk' oD' oP' T vs c rows hx hD' hP' dr' T0 hT hR ok => ?_)
 have nTD : T ≠ D := fun q => by have := S.get (a := D) (.tail _ (.head _)); rw [← q, T0] at this; cases this
 have nTP : T ≠ P := fun q => by have := S.get (a := P) (.tail _ (.tail _ (.head _))); rw [← q, T0] at this; cases this
 have X : Turns [(D, oD), (P, oP)] [(T, W.listOf vs.toArray c), (D, oD'), (P, oP')] s.heap h' := ⟨hx, fun p hp => by
   simp only [List.mem_cons, List.not_mem_nil, or_false] at hp
   rcases hp with rfl | rfl | rfl
   · exact hT
   · exact hD'
   · exact hP', fun p hp => by
   simp only [List.mem_cons, List.not_mem_nil, or_false] at hp
   rcases hp with rfl | rfl | rfl
   · exact .inr T0
   · exact .inl (.head _)
   · exact .inl (.tail _ (.head _)), by simp [nTD, nTP, hDP]⟩
 have S1 : St g L h' l [(T, W.listOf vs.toArray c), (D, oD'), (P, oP'), (Lw, oL)] := callSt (N := [(D, oD), (P, oP)]) (R := [(Lw, oL)]) S0 X
 refine el_aa (dr'.notTup) fun z1 z2 => ?_
 obtain ⟨g1, S2, k1, hT1, kT⟩ := S1.freezeT (fun p hp => by
   simp only [List.mem_cons, List.not_mem_nil, or_false] at hp
   rcases hp with rfl | rfl | rfl
   · exact z1
   · exact z2
   · exact hLt)
 exact h g1 h' tk' oD' oP' T vs c rows k1 (S2.perm (N' := [(Lw, oL), (D, oD'), (P, oP')]) (List.perm_append_comm (l₁ := [(Lw, oL)]) (l₂ := [(D, oD'), (P, oP')]))) dr' hT1 (hR.tups kT) ok
theorem fine_turns {D P ex x : Addr} {oL oD oP : Obj} {nn : Nat} {tk1 : Tok} {ev : List Value} {ce : Nat} {adj : List (Int × List Int)} {edges : List (Int × Int)} {Q : Flow → Shared → Prop} {v1 v2 : Option Value} (C : Cx w A₀ [] base g (n + 12)) (hL : ∀ vs, oL.data ≠ .fields vs) (hLt : NotTup oL) (dr : Draw P oD oP)
   (S : St g L s.heap [("v", v1), ("u", v2), ("graph", some (.ref x)), ("edges", some (.ref ex)), ("n", some (.int nn tk1)), ("draw", some (.ref D))] [(Lw, oL), (D, oD), (P, oP)])
   (hex : g.get? ex = some (W.listOf ev.toArray ce)) (hE : Rows2 g ev edges) 
   (G : GraphG w g x (uto nn) adj) (AI : AdjIs nn adj edges) (hes : EdgesIn nn edges) (hnd : edges.Nodup) (hle : edges.length ≤ 100) (h6 : nn ≤ 6) (hn1 : 1 ≤ nn)
   (h : ∀ g' h' tk' gs oD oP td du kd nd v1 v2 tb rw tu, (∀ b o, g.get? b = some o → g'.get? b = some o) → St g' L h' (tl D ex x nn tk1 td du kd nd v1 v2 tb rw tu) [(Lw, oL), (D, oD), (P, oP)] → Draw P oD oP → Bare s gs →
     Q .next { s with heap := h', toks := tk', gens := gs }) :
   wpAny (model prg w) (fineA A₀ Lw L) (exec (nthS fineB 3) (fineE L)) Q E s := by
 conv => arg 3; arg 1; whnf
 walk_at "mm"
 refine rangeF S fun rg hh5 ru rv' S => ?_
 refine el_xaaa (S.freeze1) fun g4 S k4 hrg => ?_
 have C4 := C.keeps k4
 dsimp only at hrg
 walk_at "mm"
 replace S := St.relist (l' := (tl D ex x nn tk1 none none none none v1 v2 none none none)) S (by rfl)
 refine for_srcG (E' := fun _ _ => False) (fun i l N' G' => ∃ td du kd nd v1 v2 tb rw tu oD oP, l = tl D ex x nn tk1 td du kd nd v1 v2 tb rw tu ∧ N' = [(Lw, oL), (D, oD), (P, oP)] ∧ Draw P oD oP)
   (SrcG.range (n := 3) Bare BareTo bare_ok (fun _ x => x) C4.hand (by decide) hrg (fun v M Q E s I h => wpAny_pure h)) S (in_x11 _ _ _ _ _ _ _ _ _ oD oP ⟨rfl, rfl, dr⟩) ?_ ?_ (fun _ _ z => z.elim)
 case refine_1 =>
   intro Jq Ji i v l N' G' h6' tk6 gs6 gb Bq hlt hP2 hgs6 hJ kG k3 S HB
   refine el_xxxxxxxxxxxaaa hJ fun td du kd nd v1 v2 tb rw tu oD oP hsb11 hsb12 dr => ?_
   try clear hJ
   replace S := St.at2 hsb11 hsb12 S
   refine el_xa hP2 fun tv hsb1 => ?_
   try clear hP2
   subst hsb1
   have kb : ∀ b o, g.get? b = some o → gb.get? b = some o := fun b o e => k3 b o (kG b o (k4 b o e))
   have CG2 := C.keeps kb
   walk_at "mm"
   refine drawn2 (n := n) CG2 S hL hLt dr (kb _ _ hex) (hE.mono kb) ⟨hes, hnd, by lia⟩ hn1 hle fun g7 h7 tk7 oD oP T vs c rows k7 S dr hT hR ok => ?_
   have CG3 := CG2.keeps k7
   walk_at "mm"
   refine newDi S CG3 fun Tb h8 S Tb0 _ lo => ?_
   walk_at "m"
   walk_at "m"
   replace S := S.perm (N' := [(D, oD), (P, oP), (Tb, emptyDict), (Lw, oL)]) (List.perm_append_comm (l₁ := [(D, oD), (P, oP)]) (l₂ := [(Tb, emptyDict), (Lw, oL)]))
   replace S := St.relist (l' := (tl D ex x nn tk1 td du kd nd v1 v2 (some (.ref Tb)) (some (.ref T)) (some (.int i tv)))) S (by rfl)
   refine fine_table (n := n) CG3 hL S dr emptyIs lo hT hR ok.len fun g9 h9 tk9 oD oP oT v1 v2 kvs k9 S dr hTd htab => ?_
   dsimp only
   replace S := S.perm (N' := [(Tb, oT), (Lw, oL), (D, oD), (P, oP)]) (List.perm_append_comm (l₁ := [(Tb, oT), (Lw, oL)]) (l₂ := [(D, oD), (P, oP)]))
   refine el_xaaa (S.freeze1) fun g10 S k10 hTbg => ?_
   dsimp only at hTbg
   have CG4 := (CG3.keeps k9).keeps k10
   walk_at "mm"
   have hT10 := k10 _ _ (k9 _ _ hT)
   have hR10 := (hR.mono k9).mono k10
   have hrl := ok.len
   refine assignComp2 (x := "row") (y := "u") (L := L) (g := g10) (N := [(Lw, oL), (D, oD), (P, oP)]) ?_
   walk_at "mm"
   refine in_x5 T c vs rows _ ⟨rfl, CG4.hand, S, S.keep _ _ hT10, hR10.mono S.keep, by lia, fun Nx acc h11 tk11 S k11 hI => ?_⟩ -- in178
   refine el_xaaa (S.freeze1) fun g12 S k12 hNx => ?_
   dsimp only at hNx
   have CG5 := CG4.keeps k12
   walk_at "m"
   replace S := St.relist (l' := (tl D ex x nn tk1 td du kd (some (.ref Nx)) v1 v2 (some (.ref Tb)) (some (.ref T)) (some (.int i tv)))) S (by rfl)
   have kall : ∀ b o, g.get? b = some o → g12.get? b = some o := fun b o e => k12 b o (k10 b o (k9 b o (k7 b o (kb b o e))))
   refine fine_kinds (n := n) CG5 hL S (kall _ _ hex) (hE.mono kall) (k12 _ _ hT10) (hR10.mono k12) hNx hI (Heap.dictOf_iff.mpr ⟨oT, k12 _ _ hTbg, hTd⟩) lo htab (G.ext kall) AI hes hle h6 ok fun g13 h13 tk13 gs13 td du kd k13 S hg13 => ?_
   dsimp only
   walk_at "mm"
   exact HB _ _ (BodyEndG.nw (S.weak fun b o e => k13 b o (k12 b o (k10 b o (k9 b o (k7 b o e))))) hg13 fun G2 _ _ => Ji _ _ _ _ (in_x11 _ _ _ _ _ _ _ _ _ oD oP ⟨rfl, rfl, dr⟩))
 intro l N' G' h6' tk6 gs6 hgs6 hJ kG S
 refine el_xxxxxxxxxxxaaa hJ fun td du kd nd v1 v2 tb rw tu oD oP hsb11 hsb12 dr => ?_
 try clear hJ
 replace S := St.at2 hsb11 hsb12 S
 exact h _ _ _ gs6 _ _ _ _ _ _ _ _ _ _ _ (fun b o e => kG b o (k4 b o e)) S dr hgs6
end
noncomputable abbrev bl (D ex x : Addr) (nn : Nat) (tk1 : Tok) (td du kd nd v u tb rw tu bd : Option Value) : Loc := ("bad", bd) :: tl D ex x nn tk1 td du kd nd v u tb rw tu
theorem dom_bad0 : (List.range 7).all (fun k => k == 0 || (dom.contains [0, (k : Int)] && dom.contains [(k : Int) + 3, 0])) = true := by decide +kernel
theorem dom_bad {k : Nat} (h1 : 1 ≤ k) (h6 : k ≤ 6) : ([0, (k : Int)] : List Int) ∈ dom ∧ ([(k : Int) + 3, 0] : List Int) ∈ dom := by
 have := List.all_eq_true.mp dom_bad0 k (List.mem_range.mpr (by lia))
 have hk : (k == 0) = false := beq_eq_false_iff_ne.mpr (by lia)
 rw [hk, Bool.false_or, Bool.and_eq_true] at this
 exact ⟨List.contains_iff_mem.mp this.1, List.contains_iff_mem.mp this.2⟩
theorem dom_one : [(0 : Int)] ∈ dom ∧ [(0 : Int), 1, 0] ∈ dom := by decide +kernel
noncomputable def BadRow (w : World) (h : Heap) (ns : List Int) (v : Value) : Prop := ∃ T ks, v = .ref T ∧ IsK w h ks T ∧ ks ∈ dom ∧ (ks.length ≠ 2 ∨ ∃ a b, ks = [a, b] ∧ (a ∉ ns ∨ b ∉ ns))
section
variable {w : World} {A A₀ A' : Around} {outs outs₂ : List Env} {base : Heap} {n m : Nat} {s s' : Shared} {E : Value → Shared → Prop} {R : Result → Shared → Prop} {g h : Heap} {L Lw : Addr} {l : Loc} {N : List (Addr × Obj)}
theorem ne_refused {t u : Tok} {Q : Value → Shared → Prop} (hu : A.units + 70 < cLine) (h : Q (.bool false) s) : wpAny (model prg w) A (compareOp .NotEq (.str (Str.ofString "refused") t) (.str (Str.ofString "refused") u)) Q E s :=
 ne_dataH (da := .str (Str.ofString "refused")) (db := .str (Str.ofString "refused")) (.str _ _) (.str _ _) (by decide +kernel) (by decide +kernel) (by show A.units + 64 < cLine; lia) (by
   have : PyData.eqv (.str (Str.ofString "refused")) (.str (Str.ofString "refused")) = true := by decide +kernel
   rw [this]; exact h)
theorem fine_bads {D P ex x : Addr} {oL oD oP : Obj} {nn : Nat} {tk1 : Tok} {adj : List (Int × List Int)} {edges : List (Int × Int)} {Q : Flow → Shared → Prop} {td du kd nd v1 v2 tb rw tu : Option Value} (C : Cx w A₀ [] base g (n + 12)) (hL : ∀ vs, oL.data ≠ .fields vs)
   (S : St g L s.heap (tl D ex x nn tk1 td du kd nd v1 v2 tb rw tu) [(Lw, oL), (D, oD), (P, oP)])
   (G : GraphG w g x (uto nn) adj) (AI : AdjIs nn adj edges) (hes : EdgesIn nn edges) (h6 : nn ≤ 6) (hn1 : 1 ≤ nn)
   (h : ∀ g' h' tk' kd bd sl, (∀ b o, g.get? b = some o → g'.get? b = some o) → St g' L h' (bl D ex x nn tk1 td du kd nd v1 v2 tb rw tu bd) [(Lw, { oL with slots := sl }), (D, oD), (P, oP)] → 
     Q .next { s with heap := h', toks := tk' }) :
   wpAny (model prg w) (fineA A₀ Lw L) (exec (nthS fineB 4) (fineE L)) Q E s := by
 conv => arg 3; arg 1; whnf
 walk_at "mm"
 refine newT S fun T1 h1 S k1 hT1 _ => ?_
 walk_at "mm"
 with_reducible refine add_int ?_
 walk_at "mm"
 refine newT S fun T2 h2 S k2 hT2 _ => ?_
 walk_at "mm"
 refine newT S fun T3 h3 S k3 hT3 _ => ?_
 walk_at "mm"
 refine newT S fun T4 h4 S k4 hT4 _ => ?_
 walk_at "mm"
 refine newL S fun Lb h5 S k5 hLb _ => ?_
 walk_at "mm"
 refine el_aaa (St.freeze (K := [_, _, _, _, _]) S) fun Sg kg hf => ?_
 replace S := Sg
 clear Sg
 have hLbg := hf _ (.head _)
 have hT4g := hf _ (.tail _ (.head _))
 have hT3g := hf _ (.tail _ (.tail _ (.head _)))
 have hT2g := hf _ (.tail _ (.tail _ (.tail _ (.head _))))
 have hT1g := hf _ (.tail _ (.tail _ (.tail _ (.tail _ (.head _)))))
 dsimp only at hLbg hT4g hT3g hT2g hT1g
 clear hf
 refine el_xa (⟨_, rfl⟩ : ∃ g5, g5 = hideAll h5 (L :: [(Lw, oL), (D, oD), (P, oP)].map (·.1))) fun g5 hg5 => ?_
 rw [← hg5] at S kg hLbg hT4g hT3g hT2g hT1g
 have C5 := C.keeps kg
 have hn0 : ((nn : Int)) ∉ uto nn := fun m => by have := mem_uto.mp m; lia
 have hn3 : ((nn : Int) + 3) ∉ uto nn := fun m => by have := mem_uto.mp m; lia
 have hd1 := dom_bad hn1 h6
 have items : ∀ (i : Nat) (v : Value), [Value.ref T1, .ref T2, .ref T3, .ref T4].toArray[i]? = some v → BadRow w g5 (uto nn) v := by
   intro i v e
   rcases i with _ | _ | _ | _ | i
   · simp at e; subst e; exact ⟨T1, _, rfl, isK2 hT1g, hd1.1, .inr ⟨_, _, rfl, .inr hn0⟩⟩
   · simp at e; subst e; exact ⟨T2, _, rfl, isK2 hT2g, hd1.2, .inr ⟨_, _, rfl, .inl hn3⟩⟩
   · simp at e; subst e; exact ⟨T3, _, rfl, isK1 hT3g, dom_one.1, .inl (by decide)⟩
   · simp at e; subst e; exact ⟨T4, _, rfl, isK3 hT4g, dom_one.2, .inl (by decide)⟩
   · simp at e
 replace S := St.relist (l' := (bl D ex x nn tk1 td du kd nd v1 v2 tb rw tu none)) S (by rfl)
 refine for_src (E' := fun _ _ => False) (fun i l N' G' => ∃ kd bd sl, l = bl D ex x nn tk1 td du kd nd v1 v2 tb rw tu bd ∧ N' = [(Lw, { oL with slots := sl }), (D, oD), (P, oP)])
   (Src.list C5.hand ⟨_, hLbg, rfl, _, rfl⟩) S (in_x3 _ _ oL.slots ⟨rfl, rfl⟩) ?_ ?_ (fun _ _ z => z.elim)
 case refine_1 =>
   intro Jq Ji i v l N' G' h6' tk6 gb Bq hlt hP2 hJ kG k3 S HB
   refine el_xxxaa hJ fun kd bd sl hsb3 hsb4 => ?_
   try clear hJ
   replace S := St.at2 hsb3 hsb4 S
   refine el_xxaaaa (items i v hP2) fun T ks hsb2 hKs hdm hbad => ?_
   subst hsb2
   have kb : ∀ b o, g.get? b = some o → gb.get? b = some o := fun b o e => k3 b o (kG b o (kg b o e))
   have CG2 := C.keeps kb
   have hKs2 := hKs.keeps fun b o e => k3 b o (kG b o e)
   walk_at "mm"
   refine rangeF S fun rg hh5 ru rv' S => ?_
   refine el_xaaa (S.freeze1) fun g8 S k8 hrg => ?_
   have C8 := CG2.keeps k8
   dsimp only at hrg
   walk_at "mm"
   replace S := St.relist (l' := (bl D ex x nn tk1 td du kd nd v1 v2 tb rw tu (some (.ref T)))) S (by rfl)
   refine for_src (E' := fun _ _ => False) (fun i l N' G' => ∃ kd sl, l = bl D ex x nn tk1 td du kd nd v1 v2 tb rw tu (some (.ref T)) ∧ N' = [(Lw, { oL with slots := sl }), (D, oD), (P, oP)])
     (Src.range (n := 3) C8.hand (by decide) hrg (fun v M Q E s I h => wpAny_pure h)) S (in_x2 _ sl ⟨rfl, rfl⟩) ?_ ?_ (fun _ _ z => z.elim)
   case refine_1 =>
     intro Jq Ji j v l N' G'' h9 tk9 gc Bq hlt2 hP3 hJ kG2 k9 S HB2
     refine el_xxaa hJ fun kd sl hsb2 hsb3 => ?_
     try clear hJ
     replace S := St.at2 hsb2 hsb3 S
     refine el_xa hP3 fun tv hsb1 => ?_
     try clear hP3
     subst hsb1
     have kc : ∀ b o, gb.get? b = some o → gc.get? b = some o := fun b o e => k9 b o (kG2 b o (k8 b o e))
     have CG3 := CG2.keeps kc
     have hKs3 := hKs2.keeps kc
     walk_at "mm"
     refine setDisp S CG3 fun Dst h10 S k10 => ?_
     unfold KdsAll
     walk_at "mm"
     unfold KdsAll
     refine fillF S ps_empty (.head _) (by have := deepF (L := L) (Lw := Lw) (CG3.less (k := 1) (by lia)); lia) (hKs3.keeps S.keep) hdm (by simp) (by simp) (fun o' => [(Dst, o'), (Lw, { oL with slots := sl }), (D, oD), (P, oP)]) (fun o' => .head) fun h11 tk11 o' C' S PT hpT => kds_fill_nil rfl ?_
     walk_at "mm"
     refine el_xaaa (S.freeze1) fun g11 S k11 hDg => ?_
     dsimp only at hDg
     have CG4 := CG3.keeps k11
     refine said_bad (n := n) CG4 S hL (G.ext fun b o e => k11 b o (kc b o (kb b o e))) AI hes h6 (.inl ⟨Dst, o', C', rfl, S.keep _ _ hDg, PT, .inr ⟨rfl, ks, T, List.perm_singleton.mp hpT, hbad⟩⟩) fun h12 tk12 t sl2 S => ?_
     walk_at "mm"
     refine ne_refused (deepF (CG4.less (k := 1) (by lia))) ?_
     walk_at "mm"
     replace S := St.relist (l' := (bl D ex x nn tk1 td du (some (.int j tv)) nd v1 v2 tb rw tu (some (.ref T)))) S (by rfl)
     exact HB2 _ _ (BodyEnd.nx [] (S.weak k11) fun G2 _ _ => Ji _ _ _ _ (in_x2 _ sl2 ⟨rfl, rfl⟩))
   intro l N' G'' h9 tk9 hJ kG2 S
   refine el_xxaa hJ fun kd sl hsb2 hsb3 => ?_
   try clear hJ
   replace S := St.at2 hsb2 hsb3 S
   dsimp only
   walk_at "mm"
   exact HB _ _ (BodyEnd.nx [] (S.weak fun b o e => kG2 b o (k8 b o e)) fun G2 _ _ => Ji _ _ _ _ (in_x3 _ _ sl ⟨rfl, rfl⟩))
 intro l N' G' h6' tk6 hJ kG S
 refine el_xxxaa hJ fun kd bd sl hsb3 hsb4 => ?_
 try clear hJ
 replace S := St.at2 hsb3 hsb4 S
 exact h _ _ _ _ _ sl (fun b o e => kG b o (kg b o e)) S
end
noncomputable def DispEnd (w : World) (D : Addr) (Q : Value → Shared → Prop) (vs : List (Value × Value)) (s₁ : Shared) : Prop :=
 ∃ kvs, Carries (ik w) vs kvs ∧ s₁.heap.DictOf (ik w) D [] ∧ ∀ h', h'.DictOf (ik w) D (merged [] kvs) → Heap.SameBut D s₁.heap h' → Q (.ref D) { s₁ with heap := h', toks := s₁.toks + vs.length }
theorem ivNil : IntVals [] [] := ⟨rfl, fun i k x e => by simp at e⟩
section
variable {w : World} {A A₀ A' : Around} {outs outs₂ : List Env} {base : Heap} {n m : Nat} {s s' : Shared} {E : Value → Shared → Prop} {R : Result → Shared → Prop} {g h : Heap} {L Lw : Addr} {l : Loc} {N : List (Addr × Obj)}
theorem dictDisp {env : Env} {keys : List (Option PySem.Expr)} {values : List PySem.Expr} {pos : Pos} {Q : Value → Shared → Prop} (S : St g L s.heap l N) (C : Cx w A' outs base g n)
   (h : ∀ D h', St g L h' l ((D, emptyDict) :: N) → (D == sysModules) = false → (∀ b o, s.heap.get? b = some o → h'.get? b = some o) → wpAny (model prg w) A (evalPairs (pairTrees keys values env pos)) (fun vs s₁ => DispEnd w D Q vs s₁) E { s with heap := h' })
   (hall : keys.all (·.isSome) = true := by rfl) (hl : keys.length = values.length := by rfl) (h0 : keys ≠ [] := by exact List.cons_ne_nil _ _) (hlen : keys.length ≤ 15 := by decide) :
   wpAny (model prg w) A (eval (.Dict keys values pos) env) Q E s :=
 wpAny_Dict_walk (knd := ik w) hall hl h0 hlen (h _ _ (S.add (a := s.heap.objs.size) (o := emptyDict) (fun b o e => Heap.get?_push_of_some _ e) (Heap.get?_push_size _ rfl) (get_size _)) (notMods S C) fun b o e => Heap.get?_push_of_some _ e)
theorem dispEnd {D : Addr} {vs : List (Value × Value)} {Q : Value → Shared → Prop} (S : St g L s.heap l ((D, emptyDict) :: N)) (hk : allIntKeys vs = true) (hn : ((intKeyPairs vs).map (·.1)).Nodup)
   (h : ∀ h' o' tk', St g L h' l ((D, o') :: N) → o'.IsDictOf (ik w) (intKeyPairs vs) → Q (.ref D) { s with heap := h', toks := tk' }) : DispEnd w D Q vs s :=
 display_done_int hk hn (dOf S (.head _) emptyIs) fun h' hd hs => by
   refine el_xaa (Heap.dictOf_iff.mp hd) fun o' ho' hd' => ?_
   exact h h' o' _ (S.turn .head hs ho') hd'
theorem fine_loops {D P ex x : Addr} {oL oD oP : Obj} {nn : Nat} {tk1 : Tok} {adj : List (Int × List Int)} {edges : List (Int × Int)} {Q : Flow → Shared → Prop} {td du kd nd v1 v2 tb rw tu bd : Option Value} (C : Cx w A₀ [] base g (n + 12)) (hL : ∀ vs, oL.data ≠ .fields vs)
   (S : St g L s.heap (bl D ex x nn tk1 td du kd nd v1 v2 tb rw tu bd) [(Lw, oL), (D, oD), (P, oP)])
   (G : GraphG w g x (uto nn) adj) (AI : AdjIs nn adj edges) (hes : EdgesIn nn edges) (h6 : nn ≤ 6) (hn1 : 1 ≤ nn)
   (h : ∀ g' h' tk' kd sl, (∀ b o, g.get? b = some o → g'.get? b = some o) → St g' L h' (bl D ex x nn tk1 td du kd nd v1 v2 tb rw tu bd) [(Lw, { oL with slots := sl }), (D, oD), (P, oP)] → 
     Q .next { s with heap := h', toks := tk' }) :
   wpAny (model prg w) (fineA A₀ Lw L) (exec (nthS fineB 5) (fineE L)) Q E s := by
 conv => arg 3; arg 1; whnf
 walk_at "mm"
 refine rangeF S fun rg hh5 ru rv' S => ?_
 refine el_xaaa (S.freeze1) fun g4 S k4 hrg => ?_
 have C4 := C.keeps k4
 dsimp only at hrg
 walk_at "mm"
 have hn0 : ((nn : Int)) ∉ uto nn := fun m => by have := mem_uto.mp m; lia
 have hd1 := dom_bad hn1 h6
 have hd2 : [(nn : Int), 0] ∈ dom := by
   by_cases e : nn = 6
   · subst e; exact List.contains_iff_mem.mp (by decide +kernel)
   · exact mem_dom (by lia) (by lia)
 refine for_src (E' := fun _ _ => False) (fun i l N' G' => ∃ kd sl, l = bl D ex x nn tk1 td du kd nd v1 v2 tb rw tu bd ∧ N' = [(Lw, { oL with slots := sl }), (D, oD), (P, oP)])
   (Src.range (n := 3) C4.hand (by decide) hrg (fun v M Q E s I h => wpAny_pure h)) S (in_x2 _ oL.slots ⟨rfl, rfl⟩) ?_ ?_ (fun _ _ z => z.elim)
 case refine_1 =>
   intro Jq Ji j v l N' G'' h9 tk9 gc Bq hlt2 hP3 hJ kG2 k9 S HB
   refine el_xxaa hJ fun kd sl hsb2 hsb3 => ?_
   try clear hJ
   replace S := St.at2 hsb2 hsb3 S
   refine el_xa hP3 fun tv hsb1 => ?_
   try clear hP3
   subst hsb1
   have kc : ∀ b o, g.get? b = some o → gc.get? b = some o := fun b o e => k9 b o (kG2 b o (k4 b o e))
   have CG3 := C.keeps kc
   walk_at "mm"
   replace S := St.relist (l' := (bl D ex x nn tk1 td du (some (.int j tv)) nd v1 v2 tb rw tu bd)) S (by rfl)
   refine dictDisp S CG3 fun Dd h10 S lo k10 => ?_
   refine pairTrees_cons_walk ?_
   walk_at "mm"
   refine pairTrees_nil_walk ?_
   refine dispEnd S rfl (by simp [intKeyPairs]) fun h11 o' tk11 S hd => ?_
   refine el_xaaa (S.freeze1) fun g11 S k11 hDg => ?_
   dsimp only at hDg
   have CG4 := CG3.keeps k11
   walk_at "mm"
   refine said_bad (n := n) CG4 S hL (G.ext fun b o e => k11 b o (kc b o e)) AI hes h6 (.inr ⟨Dd, _, [(0, 0)], rfl, lo, Heap.dictOf_iff.mpr ⟨o', S.keep _ _ hDg, hd⟩, ivNil.snoc 0 0 _, fun p hp => ?_, by decide, .inl ⟨0, rfl, rfl⟩⟩) fun h12 tk12 t sl2 S => ?_
   · rw [List.mem_singleton.mp hp]; exact ⟨mem_dom (by decide) (by decide), mem_dom (by decide) (by decide)⟩
   walk_at "mm"
   refine ne_refused (deepF (CG4.less (k := 1) (by lia))) ?_
   walk_at "mm"
   refine dictDisp S CG4 fun De h13 S lo2 k13 => ?_
   refine pairTrees_cons_walk ?_
   walk_at "mm"
   refine pairTrees_nil_walk ?_
   refine dispEnd S rfl (by simp [intKeyPairs]) fun h14 o2 tk14 S hd2' => ?_
   refine el_xaaa (S.freeze1) fun g14 S k14 hDe => ?_
   dsimp only at hDe
   have CG5 := CG4.keeps k14
   walk_at "mm"
   refine said_bad (n := n) CG5 S (fun vs => hL vs) (G.ext fun b o e => k14 b o (k11 b o (kc b o e))) AI hes h6 (.inr ⟨De, _, [(0, (nn : Int))], rfl, lo2, Heap.dictOf_iff.mpr ⟨o2, S.keep _ _ hDe, hd2'⟩, ivNil.snoc 0 nn _, fun p hp => ?_, by show ([] ++ [(0, (nn : Int))] : List (Int × Int)).length ≤ 4; simp, .inr ⟨fun p hp => ?_, .inr ⟨rfl, 0, nn, rfl, .inr hn0⟩⟩⟩) fun h15 tk15 t sl3 S => ?_
   · rw [List.mem_singleton.mp hp]; exact ⟨hd1.1, hd2⟩
   · rw [List.mem_singleton.mp hp]; show (0 : Int) ≠ nn; lia
   walk_at "mm"
   refine ne_refused (deepF (CG5.less (k := 1) (by lia))) ?_
   walk_at "mm"
   replace S := St.relist (l' := (bl D ex x nn tk1 td du (some (.int j tv)) nd v1 v2 tb rw tu bd)) S (by rfl)
   exact HB _ _ (BodyEnd.nx [] (S.weak fun b o e => k14 b o (k11 b o e)) fun G2 _ _ => Ji _ _ _ _ (in_x2 _ sl3 ⟨rfl, rfl⟩))
 intro l N' G'' h9 tk9 hJ kG2 S
 refine el_xxaa hJ fun kd sl hsb2 hsb3 => ?_
 try clear hJ
 replace S := St.at2 hsb2 hsb3 S
 exact h _ _ _ _ sl (fun b o e => kG2 b o (k4 b o e)) S
end
section
variable {w : World} {A A₀ A' : Around} {outs outs₂ : List Env} {base : Heap} {n m : Nat} {s s' : Shared} {E : Value → Shared → Prop} {R : Result → Shared → Prop} {g h : Heap} {L Lw : Addr} {l : Loc} {N : List (Addr × Obj)}
theorem notTup_data {o : Obj} (h : ∀ xs n, o.data ≠ .seq xs n) : NotTup o := fun vs e => h vs.toArray 0 (by rw [e])
theorem TP.tups {h h' : Heap} {C : List (List Int × Addr)} (t : TP h C) (k : ∀ T vs, h.get? T = some (tupOf vs) → h'.get? T = some (tupOf vs)) : TP h' C := fun c hc => by
 refine el_xxxxaa (t c hc) fun u v t1 t2 e1 e2 => ?_
 exact in_x4 u v t1 t2 ⟨e1, k _ _ e2⟩ -- in179
theorem fine_max {D P ex x : Addr} {oL oD oP : Obj} {nn : Nat} {tk1 : Tok} {ev : List Value} {ce : Nat} {adj : List (Int × List Int)} {edges : List (Int × Int)} {Q : Flow → Shared → Prop} {td du kd nd v1 v2 tb rw tu bd : Option Value} (C : Cx w A₀ [] base g (n + 12)) (hL : ∀ vs, oL.data ≠ .fields vs) (hLq : ∀ xs n, oL.data ≠ .seq xs n) (dr : Draw P oD oP)
   (S : St g L s.heap (bl D ex x nn tk1 td du kd nd v1 v2 tb rw tu bd) [(Lw, oL), (D, oD), (P, oP)])
   (hex : g.get? ex = some (W.listOf ev.toArray ce)) (hE : Rows2 g ev edges)
   (G : GraphG w g x (uto nn) adj) (AI : AdjIs nn adj edges) (hes : EdgesIn nn edges) (hnd : edges.Nodup) (hle : edges.length ≤ 60) (h6 : nn ≤ 6)
   (h : ∀ g' h' tk' td, (∀ b o, g.get? b = some o → g'.get? b = some o) → St g' L h' (bl D ex x nn tk1 td du kd nd v1 v2 tb rw tu bd) [(Lw, oL), (D, oD), (P, oP)] → 
     wpAny (model prg w) (fineA A₀ Lw L) (execs (fineB.drop 9) (fineE L)) Q E { s with heap := h', toks := tk' }) :
   wpAny (model prg w) (fineA A₀ Lw L) (execs (fineB.drop 6) (fineE L)) Q E s := by
 conv => arg 3; arg 1; whnf
 walk_at "mm"
 have hrp := rows_perm AI hes hnd
 refine wpAny_call (mm_code (n := n + 3) (C.push2 S (.head _) hL) (G.ext S.keep) (by rw [hrp.length_eq]; lia) (rows_in6 AI hes h6) fun h2 tk2 T o Cs hx T0 hT PT hp hTP => ?_)
 have S1 := S.add hx.keep hT T0
 refine el_aa (dr.notTup) fun z1 z2 => ?_
 obtain ⟨g1, S, k1, hTg, kT⟩ := S1.freezeT (fun p hp => by
   simp only [List.mem_cons, List.not_mem_nil, or_false] at hp
   rcases hp with rfl | rfl | rfl
   · exact notTup_data hLq
   · exact z1
   · exact z2)
 dsimp only at hTg
 have C1 := C.keeps k1
 have hTPg : TP g1 Cs := hTP.tups kT
 have PTg : PS w g1 o Cs := PT.re hTPg.isK
 walk_at "mm"
 refine IsiPair.set_set (S.keep _ _ hTg) (by obtain ⟨ep, t, rfl, _⟩ := PTg.is; rfl) ?_
 walk_at "mm"
 have hgr := greedy_ok (rowsOf adj)
 have hgm : ∀ e ∈ greedy (rowsOf adj), e.1 ∈ uto nn ∧ e.2 ∈ uto nn := fun e he => by
   have := hes e (by obtain ⟨a, b⟩ := e; exact (mem_rows AI hes).mp (hgr.1 _ he).1)
   exact ⟨mem_uto.mpr (by lia), mem_uto.mpr (by lia)⟩
 have hgl := len3 h6 hgm hgr.2.1
 have hCl : Cs.length ≤ 3 := by
   have := hp.length_eq
   rw [List.length_map, List.length_map] at this
   lia
 refine list_set C1.hand S (PTg.grow S.keep) (S.keep _ _ hTg) (by lia) fun Dl c h4 tk4 vs S k4 hvs => ?_
 refine el_xaaa (S.freeze1) fun g5 S k5 hDl => ?_
 dsimp only at hDl
 have C5 := C1.keeps k5
 refine el_xaa (rows_of_set (h := g5) hvs hp (hTPg.tups fun T vs e => k5 _ _ e)) fun rowsT hRT hpT => ?_
 have kg : ∀ b o, g.get? b = some o → g5.get? b = some o := fun b o e => k5 b o (k1 b o e)
 walk_at "mm"
 refine due2 (n := n) C5 S (Lw := Lw) (.head _) hL (S.keep _ _ (kg _ _ hex)) ((hE.mono kg).mono S.keep) (S.keep _ _ hDl) (hRT.mono S.keep) (by lia) (by rw [hpT.length_eq]; lia) fun h7 tk7 S k7 => ?_
 rw [greedy_due AI hes hpT]
 walk_at "mm"
 replace S := St.relist (l' := (bl D ex x nn tk1 (some (.ref T)) du kd nd v1 v2 tb rw tu bd)) S (by rfl)
 have Gg5 := G.ext kg
 refine list_graph (n := n) S (C5.less (k := n + 6) (by lia) |>.push2 S (.head _) hL) (Gg5.ext S.keep) fun La c8 h8 tk8 vs8 S k8 hI8 => ?_
 refine el_xaaa (S.freeze1) fun g8 S kg8 hLa => ?_
 dsimp only at hLa
 have C8 := C5.keeps kg8
 walk_at "mm"
 refine rangeF S fun rg hh5 ru rv' S => ?_
 refine el_xaaa (S.freeze1) fun g9 S kg9 hrg => ?_
 dsimp only at hrg
 have C9 := C8.keeps kg9
 walk_at "mm"
 refine list_range C9.hand S (S.keep _ _ hrg) h6 fun Lr c10 h10 tk10 vs10 S k10 hI10 => ?_
 refine el_xaaa (S.freeze1) fun g10 S kg10 hLr => ?_
 dsimp only at hLr
 have C10 := C9.keeps kg10
 walk_at "mm"
 refine neInts (by have := deepF (L := L) (Lw := Lw) (C10.less (k := 1) (by lia)); lia) (S.keep _ _ (kg10 _ _ (kg9 _ _ hLa))) hI8 (S.keep _ _ hLr) hI10 ?_
 rw [decide_eq_true rfl]
 walk_at "mm"
 have kg' : ∀ b o, g.get? b = some o → g10.get? b = some o := fun b o e => kg10 b o (kg9 b o (kg8 b o (kg b o e)))
 have Gg10 := G.ext kg'
 refine edgesM (m := n + 3) S C10 (C10.less (k := n + 10) (by lia) |>.push2 S (.head _) hL) (Gg10.ext S.keep) fun ev2 h11 tk11 S V k11 _ => ?_
 walk_at "mm"
 refine callEv (m := n + 3) S C10 (C10.less (k := n + 7) (by lia) |>.push2 S (.head _) hL) V (Gg10.ext S.keep) (by rw [hrp.length_eq]; lia) fun Dv vs12 c12 h12 tk12 S hrs k12 => ?_
 obtain ⟨g12, S, kg12, hDv, kT12⟩ := S.freezeT (fun p hp => by
   simp only [List.mem_cons, List.not_mem_nil, or_false] at hp
   rcases hp with rfl | rfl | rfl
   · exact notTup_data hLq
   · exact z1
   · exact z2)
 dsimp only at hDv
 have C12 := C10.keeps kg12
 have hrg := hrs.tups kT12
 have hrl := hrg.len
 walk_at "mm"
 refine comp_src (fun i acc G' => Rows2 G' acc ((rowsOf adj).take i)) (Src.list C12.hand ⟨_, hDv, rfl, _, rfl⟩) S .nil (by rw [List.size_toArray, hrl, hrp.length_eq, sizeLine_eq]; lia) ?_ ?_
 case refine_1 =>
   intro i v acc G' Cm h13 l1 tk13 F hlt hal hP hJ kG k13 S
   refine el_xxxxxaaa (hrg.at hP) fun T u v t1 t2 hsb5 hri hT => ?_
   subst hsb5
   have CG2 := C12.keeps fun b o e => k13 b o (kG b o e)
   have huv := hes _ ((mem_rows AI hes (a := u) (b := v)).mp (List.mem_iff_getElem?.mpr ⟨i, hri⟩))
   dsimp only at huv
   refine asg2 CG2.hand S ⟨_, S.keep _ _ (k13 _ _ (kG _ _ hT)), rfl, _, rfl⟩ fun h14 tk14 S => ?_
   walk_at "mm"
   refine min_two_ints CG2.hand fun h15 tk15 k15 => ?_
   replace S := S.grow k15
   rw [if_neg (by lia)]
   walk_at "mm"
   refine max_two_ints CG2.hand fun h16 tk16 k16 => ?_
   replace S := S.grow k16
   have hmx : (if v > u then Value.int v t2 else Value.int u t1) = .int v (if v > u then t2 else t1) := by
     by_cases q : v > u
     · rw [if_pos q, if_pos q]
     · rw [if_neg q, if_neg q]
       have : u = v := by lia
       rw [this]
   rw [hmx]
   walk_at "mm"
   refine newT S fun T2 h17 S _ hT2 _ => ?_
   refine CEnd.mk [_] S fun G2 k18 hK => ?_
   rw [take_next hri]
   exact (hJ.mono k18).snoc (hK _ (.head _))
 intro Dc acc G' h13 tk13 hal hJ kG S
 have C13 := C12.keeps kG
 walk_at "mm"
 rw [List.size_toArray, hrl, List.take_length] at hJ
 have hNt : ∀ p ∈ ([(Lw, oL), (D, oD), (P, oP)] : List (Addr × Obj)), NotTup p.2 := fun p hp => by
   simp only [List.mem_cons, List.not_mem_nil, or_false] at hp
   rcases hp with rfl | rfl | rfl
   · exact notTup_data hLq
   · exact z1
   · exact z2
 have hb1 : ∀ e ∈ edges, 0 ≤ e.2 ∧ e.2 < 100 := fun e he => by have := hes e he; lia
 have hb2 : ∀ e ∈ rowsOf adj, 0 ≤ e.2 ∧ e.2 < 100 := fun e he => hb1 e (hrp.mem_iff.mp he)
 refine sortedF S (S.get (.head _)) (hJ.mono S.keep) (hrp.nodup_iff.mpr hnd) hb2 (by rw [hrp.length_eq]; lia) fun Ds vs14 c14 ps14 h14 tk14 S k14 hR14 hp14 hu14 => ?_
 replace S := S.sub (N' := [(Ds, W.listOf vs14.toArray c14), (Lw, oL), (D, oD), (P, oP)]) (List.Sublist.cons₂ _ (List.sublist_cons_self _ _))
 refine el_xaaaa (S.freezeT hNt) fun g14 S kg14 hDs kT14 => ?_
 dsimp only at hDs
 have C14 := C13.keeps kg14
 have hR14g := hR14.tups kT14
 walk_at "mm"
 have kg2 : ∀ b o, g.get? b = some o → g14.get? b = some o := fun b o e => kg14 b o (kG b o (kg12 b o (kg' b o e)))
 refine sortedF S (S.keep _ _ (kg2 _ _ hex)) ((hE.mono kg2).mono S.keep) hnd hb1 (by lia) fun Dt vs15 c15 ps15 h15 tk15 S k15 hR15 hp15 hu15 => ?_
 walk_at "mm"
 have heq : ps14 = ps15 := keys_same ((hp14.trans hrp).trans hp15.symm) hu14 hu15
 refine neRows (by have := deepF (L := L) (Lw := Lw) (C14.less (k := 1) (by lia)); lia) (S.keep _ _ hDs) (hR14g.mono S.keep) (S.get (.head _)) hR15 ?_
 rw [decide_eq_true heq]
 replace S := S.sub (N' := [(Lw, oL), (D, oD), (P, oP)]) (List.sublist_cons_self _ _)
 walk_at "m"
 walk_at "m"
 walk_at "m"
 walk_at "m"
 walk_at "m"
 exact h _ _ _ _ kg2 S
end
theorem starP {e : PySem.Expr} {rest : List PySem.Expr} {env : Env} (h : kdsPlain e = true) : starEach (e :: rest) env = (false, eval e env) :: starEach rest env := by
 cases e <;> first | rfl | exact absurd h (by simp [kdsPlain])
local macro_rules | `(tactic| walk_at "m7") => `(tactic| repeat (first
 | ((with_reducible show wpAny _ _ (callWith _ (Value.ref _) _ (backTo _ (starEach (_ :: _) _)) []) _ _ _); (with_reducible refine cwF (by assumption) ?k7 ?g7 ?h7 ?i7); (case k7 => rfl); (case h7 => exact starP rfl); (case i7 => rfl))
 | walk_at "m"))
theorem mds3 : mds [((0 : Int), (1 : Int)), (1, 0), (2, 3)] = [(0, 1), (2, 3)] := by decide +kernel
theorem tab3_ne : ∀ p ∈ [((0 : Int), (1 : Int)), (1, 0), (2, 3)], p.1 ≠ p.2 := by decide +kernel
theorem tab3_dom : ∀ p ∈ [((0 : Int), (1 : Int)), (1, 0), (2, 3)], [p.1, p.2] ∈ dom ∧ [p.2, p.1] ∈ dom := by decide +kernel
section
variable {w : World} {A A₀ A' : Around} {outs outs₂ : List Env} {base : Heap} {n m : Nat} {s s' : Shared} {E : Value → Shared → Prop} {R : Result → Shared → Prop} {g h : Heap} {L Lw : Addr} {l : Loc} {N : List (Addr × Obj)}
theorem setof_good {d : Addr} {oL : Obj} {kvs : List (Int × Value)} {ps : List (Int × Int)} {Q : Value → Shared → Prop} (C : Cx w A₀ [] base g (n + 12)) (S : St g L s.heap l N) (hm : (Lw, oL) ∈ N) (hL : ∀ vs, oL.data ≠ .fields vs)
   (hd : s.heap.DictOf (ik w) d kvs) (lo : (d == sysModules) = false) (iv : IntVals kvs ps) (dm : ∀ p ∈ ps, [p.1, p.2] ∈ dom ∧ [p.2, p.1] ∈ dom) (h4 : (mds ps).length ≤ 4) (hk : ∀ p ∈ ps, p.1 ≠ p.2)
   (h : ∀ h' tk' T o Cs, St g L h' l ((T, o) :: N) → (∀ b o, s.heap.get? b = some o → h'.get? b = some o) → PS w h' o Cs → (Cs.map (·.1)).Perm ((mds ps).map ks2) → TP h' Cs → Q (.ref T) { s with heap := h', toks := tk' }) :
   wpAny (model prg w) (fineA A₀ Lw L) (call (.ref 350) [.ref d]) Q E s :=
 wpAny_call (setof_code (n := n + 8) (C.push2 S hm hL) hd lo iv dm h4 (.inl hk) (fun _ h' tk' T o Cs hx T0 hT P hp hTP => h h' tk' T o Cs (S.add hx.keep hT T0) hx.keep P hp hTP) fun ⟨k, e⟩ => absurd rfl (hk (k, k) (by rw [e]; exact .head _)))
theorem setof_bad {d : Addr} {oL : Obj} {kvs : List (Int × Value)} {k : Int} {Q : Value → Shared → Prop} (C : Cx w A₀ [] base g (n + 12)) (S : St g L s.heap l ((Lw, oL) :: N)) (hL : ∀ vs, oL.data ≠ .fields vs)
   (hd : s.heap.DictOf (ik w) d kvs) (lo : (d == sysModules) = false) (iv : IntVals kvs [(k, k)]) (dm : [k, k] ∈ dom)
   (h : ∀ h' tk' sl, St g L h' l ((Lw, { oL with slots := sl }) :: N) → Q .none { s with heap := h', toks := tk' }) :
   wpAny (model prg w) (fineA A₀ Lw L) (call (.ref 350) [.ref d]) Q E s := by
 refine wpAny_call (setof_code (n := n + 8) (C.push2 S (.head _) hL) hd lo iv (fun p hp => by rw [List.mem_singleton.mp hp]; exact ⟨dm, dm⟩) ?_ (.inr ⟨k, rfl⟩) (fun hk => absurd rfl (hk (k, k) (.head _))) fun _ h' tk' hc => ?_)
 · have : (mds [(k, k)]) = [(k, k)] := rfl
   rw [this]; simp
 refine el_xa (S.caught hc (fun b hb => by simpa [envOf, eq_comm] using hb) hL) fun sl S' => ?_
 exact h h' tk' sl S'
theorem fine_last {D P ex x : Addr} {oL oD oP : Obj} {nn : Nat} {tk1 : Tok} {Q : Flow → Shared → Prop} {td du kd nd v1 v2 tb rw tu bd : Option Value} (C : Cx w A₀ [] base g (n + 12)) (hL : ∀ vs, oL.data ≠ .fields vs) (hLq : ∀ xs n, oL.data ≠ .seq xs n) (dr : Draw P oD oP)
   (S : St g L s.heap (bl D ex x nn tk1 td du kd nd v1 v2 tb rw tu bd) [(Lw, oL), (D, oD), (P, oP)])
   (h : ∀ h' tk' sl, St g L h' (bl D ex x nn tk1 td du kd nd v1 v2 tb rw tu bd) [(Lw, { oL with slots := sl }), (D, oD), (P, oP)] → Q (.ret (.bool true)) { s with heap := h', toks := tk' }) :
   wpAny (model prg w) (fineA A₀ Lw L) (execs (fineB.drop 9) (fineE L)) Q E s := by
 refine el_aa (dr.notTup) fun z1 z2 => ?_
 have hNt : ∀ p ∈ ([(Lw, oL), (D, oD), (P, oP)] : List (Addr × Obj)), NotTup p.2 := fun p hp => by
   simp only [List.mem_cons, List.not_mem_nil, or_false] at hp
   rcases hp with rfl | rfl | rfl
   · exact notTup_data hLq
   · exact z1
   · exact z2
 conv => arg 3; arg 1; whnf
 walk_at "m7"
 refine dictDisp S C fun Dd h10 S lo k10 => ?_
 refine pairTrees_cons_walk ?_
 walk_at "m7"
 refine pairTrees_cons_walk ?_
 walk_at "m7"
 refine pairTrees_cons_walk ?_
 walk_at "m7"
 refine pairTrees_nil_walk ?_
 refine dispEnd S rfl (by simp [intKeyPairs]) fun h11 o' tk11 S hd => ?_
 refine el_xaaa (S.freeze1) fun g11 S k11 hDg => ?_
 dsimp only at hDg
 have C11 := C.keeps k11
 walk_at "m7"
 refine setof_good (n := n) C11 S (Lw := Lw) (oL := oL) (.head _) hL (kvs := _) (ps := [(0, 1), (1, 0), (2, 3)]) (Heap.dictOf_iff.mpr ⟨o', S.keep _ _ hDg, hd⟩) lo (((ivNil.snoc 0 1 _).snoc 1 0 _).snoc 2 3 _) tab3_dom (by rw [mds3]; simp) tab3_ne fun h12 tk12 T1 o1 Cs1 S k12 P1 hp1 hTP1 => ?_
 refine el_xaaaa (S.freezeT hNt) fun g12 S kg12 hT1 kT12 => ?_
 dsimp only at hT1
 have C12 := C11.keeps kg12
 have hTP1g : TP g12 Cs1 := hTP1.tups kT12
 have P1g : PS w g12 o1 Cs1 := P1.re hTP1g.isK
 walk_at "m7"
 refine setDisp S C12 fun Ds h13 S k13 => ?_
 unfold KdsAll
 walk_at "m7"
 refine newT S fun Ta h14 S k14 hTa _ => ?_
 unfold KdsAll
 walk_at "m7"
 refine newT S fun Tb2 h15 S k15 hTb _ => ?_
 unfold KdsAll
 have hu7 : ∀ {g' : Heap}, Cx w A₀ [] base g' (n + 12) → (fineA A₀ Lw L).units + 70 < cLine := fun C' => deepF (C'.less (k := 1) (by lia))
 refine fillF (ks := [0, 1]) S ps_empty (.tail _ (.tail _ (.head _))) (by have := hu7 C12; lia) (isK2 (S.get (.tail _ (.head _)))) (mem_dom (by decide) (by decide)) (by simp) (by simp) (fun o' => [(Tb2, _), (Ta, _), (Ds, o'), (Lw, oL), (D, oD), (P, oP)]) (fun o' => .tail (.tail .head)) fun h16 tk16 oa Ca S Pa hpa => ?_
 refine fillF (ks := [2, 3]) S Pa (.tail _ (.tail _ (.head _))) (by have := hu7 C12; lia) (isK2 (S.get (.head _))) (mem_dom (by decide) (by decide)) (fun m => ?_) (by rw [hpa.length_eq]; simp) (fun o' => [(Tb2, _), (Ta, _), (Ds, o'), (Lw, oL), (D, oD), (P, oP)]) (fun o' => .tail (.tail .head)) fun h17 tk17 ob Cb S Pb hpb => kds_fill_nil rfl ?_
 · have := (hpa.map (·.1)).mem_iff.mp m
   simp at this
 walk_at "m7"
 refine newL S fun Ll h18 S _ hLl k18 => ?_
 walk_at "m7"
 have hCb : (Cb.map (·.1)).Perm [[2, 3], [0, 1]] := (List.Perm.map Prod.fst hpb).trans (List.Perm.cons [2, 3] (List.Perm.map Prod.fst hpa))
 have hC1 : (Cs1.map (·.1)).Perm [[0, 1], [2, 3]] := by rw [mds3] at hp1; exact hp1
 have l1 : Cs1.length = 2 := by have := hC1.length_eq; simpa using this
 have l2 : Cb.length = 2 := by have := hCb.length_eq; simpa using this
 refine inOne (hu7 C12) (S.get (.head _)) (Pb.grow k18) (S.get (.tail _ (.tail _ (.tail _ (.head _))))) (P1g.grow S.keep) (S.keep _ _ hT1) (by lia) (by lia) (fun c hc => ?_) ?_
 · have := hCb.mem_iff.mp (List.mem_map_of_mem (f := (·.1)) hc)
   refine hC1.mem_iff.mpr ?_
   simp only [List.mem_cons, List.not_mem_nil, or_false] at this ⊢
   exact this.symm
 refine el_aaa (St.freeze (K := [_, _, _, _]) S) fun S2 kg18 hcl2 => ?_
 clear hcl2
 replace S := S2
 clear S2
 refine el_xa (⟨_, rfl⟩ : ∃ g18, g18 = hideAll h18 (L :: [(Lw, oL), (D, oD), (P, oP)].map (·.1))) fun g18 hg18 => ?_
 rw [← hg18] at S kg18
 have C18 := C12.keeps kg18
 walk_at "m7"
 refine dictDisp S C18 fun De h20 S lo2 k20 => ?_
 refine pairTrees_cons_walk ?_
 walk_at "m7"
 refine pairTrees_nil_walk ?_
 refine dispEnd S rfl (by simp [intKeyPairs]) fun h21 o2 tk21 S hd2 => ?_
 refine el_xaaa (S.freeze1) fun g21 S kg21 hDe => ?_
 dsimp only at hDe
 have C21 := C18.keeps kg21
 walk_at "m7"
 refine setof_bad (n := n) C21 S hL (k := 0) (Heap.dictOf_iff.mpr ⟨o2, S.keep _ _ hDe, hd2⟩) lo2 (ivNil.snoc 0 0 _) (mem_dom (by decide) (by decide)) fun h22 tk22 sl S => ?_
 walk_at "m7"
 refine wpAny_is_plain rfl ?_
 rw [beq_self_eq_true]
 walk_at "m7"
 refine newDi S C21 fun Df h23 S Df0 hDf lo3 => ?_
 refine el_xaaa (S.freeze1) fun g23 S kg23 hDfg => ?_
 dsimp only at hDfg
 have C23 := C21.keeps kg23
 walk_at "m7"
 refine setof_good (n := n) C23 S (Lw := Lw) (oL := { oL with slots := sl }) (.head _) (fun vs => hL vs) (ps := []) (Heap.dictOf_iff.mpr ⟨_, S.keep _ _ hDfg, emptyIs⟩) lo3 ivNil (fun p hp => nomatch hp) (by show ([] : List (Int × Int)).length ≤ 4; simp) (fun p hp => nomatch hp) fun h24 tk24 T2 o2 Cs2 S k24 P2 hp2 hTP2 => ?_
 walk_at "m7"
 refine set0F S fun Te h25 S _ k25 => ?_
 walk_at "m7"
 have l3 : Cs2.length = 0 := by have := hp2.length_eq; simpa [mds] using this
 refine compareEqSets (by have := hu7 C23; lia) (P2.grow k25) (S.get (.tail _ (.head _))) ps_empty (S.get (.head _)) (by simp) (by simpa using l3) (fun c hc => ?_) ?_
 · rw [List.length_eq_zero_iff.mp l3] at hc; exact nomatch hc
 walk_at "m7"
 exact h _ _ sl ((S.sub (.cons _ (List.sublist_cons_self _ _))).weak fun b o e => kg23 b o (kg21 b o (kg18 b o (kg12 b o (k11 b o e)))))
end
section
variable {w : World} {A A₀ A' : Around} {outs outs₂ : List Env} {base : Heap} {n m : Nat} {s s' : Shared} {E : Value → Shared → Prop} {R : Result → Shared → Prop} {g h : Heap} {L Lw : Addr} {l : Loc} {N : List (Addr × Obj)}
theorem enterF {k0 : Nat} {name qual : Str} {params : Arguments} {body : List Stmt} {scope : Scope} {dV kV doc pm cdv ct oc : Value} {an od : Option Addr} {osl : Array (Option Value)} {f : Addr} {args : Args} {binds : List (Str × Value)}
   (N : List (Addr × Obj)) (hN : ∀ p ∈ N, s.heap.get? p.1 = some p.2) (hd : (N.map (·.1)).Nodup) (hS : ∀ a ∈ N.map (·.1), base.get? a = none) (C : Cx w (lawA A₀ Lw) [lawE Lw] base s.heap (n + 1)) (C0 : Cx w A₀ [] base g k0)
   (ho : (KF w).lookup f = some ⟨oc, od, .func (fnOf name qual params body scope dV kV doc pm an cdv ct), osl⟩) (hcd : codeIn (KF w) cdv qual = true)
   (hbind : BindsTo s (fnOf name qual params body scope dV kV doc pm an cdv ct) args binds) (hloc : ∀ y ∈ binds, scope.names.lookup y.1 = some .local)
   (h : ∀ h₁ L tk (Qf : Flow → Shared → Prop) Ef, (∀ fl s', R (.ok (.ret (retOf fl))) s' → Qf fl s') → St (hideAll s.heap (N.map (·.1))) L h₁ (locOf binds.reverse) N → 
     Cx w A₀ [] base (hideAll s.heap (N.map (·.1))) k0 →
     wpAny (model prg w) ((lawA A₀ Lw).deeper (envOf qual scope L f cdv)) (execs body (envOf qual scope L f cdv)) Qf Ef { s with heap := h₁, toks := tk })
   (hco : scope.isCoroutine = false := by rfl) (hgen : scope.isGenerator = false := by rfl) (hk : scope.kind = .function := by rfl)
   (hcell : ∀ x ∈ scope.names, x.2 ≠ .cell := by decide) : codeAny (model prg w) (lawA A₀ Lw) (.call (.ref f) args) R s := by
 have X : (KF w).In s.heap := C.bs.kin.keeps C.below.stays
 refine el_xxxa (C.bs.top) fun mean mg mb T => ?_
 have hd1 := C.deep
 refine codeAny_call_def (fd := fnOf name qual params body scope dV kV doc pm an cdv ct) (body := body) (binds := binds) (by unfold recursionLimit; lia) (X _ _ ho) rfl (T.nolimit.keeps C.below.stays)
   (codeRec_of X hcd) rfl hbind hcell hloc (fun h₁ hns hk₁ => ?_) hco hgen hk
 have hsep : (hideAll s.heap (N.map (·.1))).get? s.heap.objs.size = none := by
   cases q : (hideAll s.heap (N.map (·.1))).get? s.heap.objs.size with
   | none => rfl
   | some o => exact absurd (Heap.lt_size (of_hideAll _ q)) (Nat.lt_irrefl _)
 exact h h₁ _ _ _ _ (fun fl _ x => by cases fl <;> exact x) ⟨by rw [lk_locOf]; exact hns, fun b o e => hk₁ b o (of_hideAll _ e), hsep, fun p hp => ⟨hk₁ _ _ (hN p hp), Nat.ne_of_lt (Heap.lt_size (hN p hp)), hideAll_none _ (List.mem_map_of_mem hp)⟩, hd⟩
   ⟨C0.bs, ⟨C0.below.stack, fun b o e => hideAll_get _ (C.below.stays b o e) (fun m => by rw [hS b m] at e; cases e), trivial⟩, C0.hand, C0.guards, C0.deep, C0.room⟩
theorem fine_code {D P ex : Addr} {oD oP : Obj} {nn : Nat} {tk1 : Tok} {ev : List Value} {ce : Nat} {edges : List (Int × Int)} (C0 : Cx w A₀ [] base g (n + 13)) (S : St g Lw s.heap l [(D, oD), (P, oP)]) (dr : Draw P oD oP)
   (hex : g.get? ex = some (W.listOf ev.toArray ce)) (hE : Rows2 g ev edges) (hes : EdgesIn nn edges) (hnd : edges.Nodup) (hle : edges.length ≤ 60) (h6 : nn ≤ 6) (hn1 : 1 ≤ nn)
   (h : ∀ h' tk' gs oD oP, St g Lw h' l [(D, oD), (P, oP)] → Draw P oD oP → Bare s gs → R (.ok (.ret (.bool true))) { s with heap := h', toks := tk', gens := gs }) :
   codeAny (model prg w) (lawA A₀ Lw) (.call (.ref 355) ⟨[.ref D, .int nn tk1, .ref ex], []⟩) R s := by
 refine el_xxxaaa (id S.ns) fun oL es ep eL hdL hrL => ?_
 have hL : ∀ vs, oL.data ≠ .fields vs := fun vs q => by rw [hdL] at q; cases q
 have hLq : ∀ xs k, oL.data ≠ .seq xs k := fun xs k q => by rw [hdL] at q; cases q
 have nLD : Lw ≠ D := Ne.symm (S.nw _ (.head _)).2.1
 have nLP : Lw ≠ P := Ne.symm (S.nw _ (.tail _ (.head _))).2.1
 have hDP : D ≠ P := fun q => by
   have := S.nd
   simp [q] at this
 have bn : ∀ b, g.get? b = none → base.get? b = none := fun b e => by
   cases q : base.get? b with
   | none => rfl
   | some o => have := C0.below.stays _ _ q; rw [e] at this; cases this
 refine enterF (binds := [(Str.ofString "draw", .ref D), (Str.ofString "n", .int nn tk1), (Str.ofString "edges", .ref ex)]) [(Lw, oL), (D, oD), (P, oP)] (by simp [eL, S.get (a := D) (.head _), S.get (a := P) (.tail _ (.head _))]) (by simp [nLD, nLP, hDP])
   (fun a ha => bn a ?_) (C0.push S) C0 rfl rfl (BindsTo.of_eq rfl) (locs rfl) (fun h₁ L tk Qf Ef hQ S1 C1 => ?_)
 · simp only [List.map_cons, List.map_nil, List.mem_cons, List.not_mem_nil, or_false] at ha
   rcases ha with rfl | rfl | rfl
   · exact S.sep
   · exact S.none (.head _)
   · exact S.none (.tail _ (.head _))
 dsimp only [List.map, List.reverse, List.reverseAux, locOf] at S1 C1
 refine el_xa (⟨_, rfl⟩ : ∃ g0, g0 = hideAll s.heap [Lw, D, P]) fun g0 hg0 => ?_
 rw [← hg0] at S1 C1
 have kg0 : ∀ b o, g.get? b = some o → g0.get? b = some o := fun b o e => by
   rw [hg0]
   refine hideAll_get _ (S.keep b o e) fun m => ?_
   simp only [List.mem_cons, List.not_mem_nil, or_false] at m
   rcases m with q | q | q
   · rw [q, S.sep] at e; cases e
   · rw [q, S.none (a := D) (.head _)] at e; cases e
   · rw [q, S.none (a := P) (.tail _ (.head _))] at e; cases e
 have C2 := C1.less (k := n + 12) (by lia)
 refine fine_graph (n := n) C2 hL S1 (kg0 _ _ hex) (hE.mono kg0) h6 hes hnd fun g2 x h2 tk2 u2 v2 adj k2 S2 G2 A2 => ?_
 have C3 := C2.keeps k2
 have k2' : ∀ b o, g.get? b = some o → g2.get? b = some o := fun b o e => k2 b o (kg0 b o e)
 show wpAny _ _ (execs (nthS fineB 3 :: fineB.drop 4) _) _ _ _
 refine wpAny_execs_cons (fine_turns (n := n) C3 hL (notTup_data hLq) dr S2 (k2' _ _ hex) (hE.mono k2') G2 A2 hes hnd (by lia) h6 hn1 fun g3 h3 tk3 gs3 oD3 oP3 td du kd nd v1 v2 tb rw tu k3 S3 dr3 hg3 => ?_)
 dsimp only
 have C4 := C3.keeps k3
 show wpAny _ _ (execs (nthS fineB 4 :: fineB.drop 5) _) _ _ _
 refine wpAny_execs_cons (fine_bads (n := n) C4 hL S3 (G2.ext k3) A2 hes h6 hn1 fun g4 h4 tk4 kd bd sl4 k4 S4 => ?_)
 dsimp only
 have C5 := C4.keeps k4
 show wpAny _ _ (execs (nthS fineB 5 :: fineB.drop 6) _) _ _ _
 refine wpAny_execs_cons (fine_loops (n := n) (oL := { oL with slots := sl4 }) C5 (fun vs => hL vs) S4 ((G2.ext k3).ext k4) A2 hes h6 hn1 fun g5 h5 tk5 kd sl5 k5 S5 => ?_)
 dsimp only
 have C6 := C5.keeps k5
 have k5' : ∀ b o, g.get? b = some o → g5.get? b = some o := fun b o e => k5 b o (k4 b o (k3 b o (k2' b o e)))
 refine fine_max (n := n) (oL := { oL with slots := sl5 }) C6 (fun vs => hL vs) (fun xs k => hLq xs k) dr3 S5 (k5' _ _ hex) (hE.mono k5') (((G2.ext k3).ext k4).ext k5) A2 hes hnd hle h6 fun g6 h6' tk6 td k6 S6 => ?_
 have C7 := C6.keeps k6
 refine fine_last (n := n) (oL := { oL with slots := sl5 }) C7 (fun vs => hL vs) (fun xs k => hLq xs k) dr3 S6 fun h7 tk7 sl7 S7 => ?_
 refine hQ _ _ (h h7 tk7 gs3 oD3 oP3 ⟨?_, fun b o e => ?_, S.sep, fun p hp => ?_, ?_⟩ dr3 hg3)
 · exact in_x3 _ es ep ⟨S7.get (.head _), hdL, hrL⟩ -- in180
 · exact S7.keep b o (k6 b o (k5' b o e))
 · simp only [List.mem_cons, List.not_mem_nil, or_false] at hp
   rcases hp with rfl | rfl
   · exact ⟨S7.get (.tail _ (.head _)), Ne.symm nLD, S.none (a := D) (.head _)⟩
   · exact ⟨S7.get (.tail _ (.tail _ (.head _))), Ne.symm nLP, S.none (a := P) (.tail _ (.head _))⟩
 · simp [hDP]
end
noncomputable def insAt {α : Type} (l : List α) (k : Nat) (x : α) : List α := l.take k ++ x :: l.drop k
theorem insAt_perm {α : Type} (l : List α) (k : Nat) (x : α) : (insAt l k x).Perm (x :: l) := by
 unfold insAt
 refine List.perm_middle.trans ?_
 rw [List.take_append_drop]
theorem Rows2.append {h : Heap} {vs ps ws qs} (x : Rows2 h vs ps) (y : Rows2 h ws qs) : Rows2 h (vs ++ ws) (ps ++ qs) := by
 induction x with
 | nil => exact y
 | cons a r ih => exact .cons a ih
theorem Rows2.drop {h : Heap} : ∀ {vs ps}, Rows2 h vs ps → ∀ i, Rows2 h (vs.drop i) (ps.drop i)
 | _, _, r, 0 => r
 | _, _, .nil, i + 1 => by rw [List.drop_nil, List.drop_nil]; exact .nil
 | _, _, .cons a r, i + 1 => r.drop i
theorem Rows2.ins {h : Heap} {vs ps} (r : Rows2 h vs ps) {T : Addr} {u v : Int} {t1 t2 : Tok} (e : h.get? T = some (tupOf [.int u t1, .int v t2])) (k : Nat) : Rows2 h (insAt vs k (.ref T)) (insAt ps k (u, v)) :=
 (r.take k).append (.cons e (r.drop k))
section
variable {w : World} {A : Around} {s : Shared} {E : Value → Shared → Prop} {g : Heap} {L : Addr} {l : Loc} {N : List (Addr × Obj)}
theorem insL {D : Addr} {vs : List Value} {c k : Nat} {u : Tok} {x : Value} {Q : Value → Shared → Prop} (S : St g L s.heap l N) (hm : (D, W.listOf vs.toArray c) ∈ N) (hk : k ≤ 100) (Nf : Obj → List (Addr × Obj)) (U : ∀ o', UpN D (W.listOf vs.toArray c) o' N (Nf o'))
   (h : ∀ h' tk' c', St g L h' l (Nf (W.listOf (insAt vs k x).toArray c')) → Q .none { s with heap := h', toks := tk' }) (hsz : vs.length ≤ 1000) : wpAny (model prg w) A (call (.builtin "list.insert") [.ref D, .int k u, x]) Q E s := by
 have ho := S.get hm
 refine el_xa (⟨_, rfl⟩ : ∃ K : Int, K = (k : Int)) fun K hK => ?_
 rw [← hK]
 have hc0 : ¬ (!Builtin.List.listFitsIndex K) = true := by
   unfold Builtin.List.listFitsIndex
   have h1 : decide (-(2 ^ 63 : Int) ≤ K) = true := decide_eq_true (by lia)
   have h2 : decide (K < 2 ^ 63) = true := decide_eq_true (by lia)
   rw [h1, h2]; simp
 have hz : vs.toArray.size ≤ sizeLine := by rw [sizeLine_eq, List.size_toArray]; lia
 have gm := AutoListH.list_insert_list_int_val_1 D vs.toArray c K u x hc0 hz
 have hT : s.TypeIs (.ref D) "list" := ⟨_, ho, rfl⟩
 refine call_meets PySem.F.slot_list_insert hT PySem.F.entry_list_insert (PySem.F.args_list_insert_3 _ _ _) gm ⟨ho, ?_⟩
 obtain ⟨f, hf⟩ : ∃ f : Array Value → Array Value, f = fun xs => have k := if K < 0 then (K + ((xs.size : Nat) : Int)).toNat else min K.toNat xs.size; (xs.extract 0 k).push x ++ xs.extract k := ⟨_, rfl⟩
 rw [← hf]
 have e1 : f vs.toArray = (insAt vs k x).toArray := by
   rw [hf, hK]
   dsimp only
   rw [if_neg (by lia), Int.toNat_natCast]
   apply Array.toList_inj.mp
   unfold insAt
   simp only [List.size_toArray, Array.toList_append, Array.toList_push, Array.toList_extract, List.extract_eq_take_drop]
   by_cases q : k ≤ vs.length
   · rw [Nat.min_eq_left q]; simp [List.take_of_length_le]
   · rw [Nat.min_eq_right (by lia)]
     simp [List.take_of_length_le (show vs.length ≤ k by lia), List.drop_of_length_le (show vs.length ≤ k by lia)]
 refine el_xa (⟨_, get?_update_seq ho f⟩ : ∃ c2, (s.heap.update D (Obj.mapSeq f)).get? D = some (seqObj "list" (f vs.toArray) c2)) fun c2 hc2 => ?_
 rw [e1] at hc2
 exact h _ _ c2 (S.turn (U _) (Heap.SameBut.update ..) hc2)
end
noncomputable abbrev lawB : List Stmt := bodyOf (st 21)
noncomputable abbrev ll (D Ex ax : Addr) (nn : Nat) (tk1 : Tok) (v u : Option Value) : Loc := [("v", v), ("u", u), ("edges", some (.ref Ex)), ("n", some (.int nn tk1)), ("draw", some (.ref D)), ("script", some (.ref ax))]
theorem edges_len {nn : Nat} {es : List (Int × Int)} (h : EdgesIn nn es) (nd : es.Nodup) (h6 : nn ≤ 6) : es.length ≤ 36 := by
 have : ∀ e ∈ es, e ∈ (List.range 36).map fun k => (((k / 6 : Nat) : Int), ((k % 6 : Nat) : Int)) := fun e he => by
   have := h e he
   refine List.mem_map.mpr ⟨e.1.toNat * 6 + e.2.toNat, List.mem_range.mpr (by lia), ?_⟩
   have e1 : (e.1.toNat * 6 + e.2.toNat) / 6 = e.1.toNat := by lia
   have e2 : (e.1.toNat * 6 + e.2.toNat) % 6 = e.2.toNat := by lia
   rw [e1, e2, Int.toNat_of_nonneg (by lia), Int.toNat_of_nonneg (by lia)]
 have := nodup_len nd this
 simpa using this
structure DrawnTo (nn : Nat) (i j : Nat) (es : List (Int × Int)) : Prop where
 ein : EdgesIn nn es
 nd : es.Nodup
 lt : ∀ e ∈ es, e.2 < i ∨ (e.2 = i ∧ e.1 < j)
theorem DrawnTo.ins {nn i j : Nat} {es : List (Int × Int)} (x : DrawnTo nn i j es) (hi : i < nn) (hj : j ≤ i) (k : Nat) : DrawnTo nn i (j + 1) (insAt es k ((j : Int), (i : Int))) := by
 have hp := insAt_perm es k ((j : Int), (i : Int))
 have hn : ((j : Int), (i : Int)) ∉ es := fun m => by
   have := x.lt _ m
   dsimp only at this
   lia
 refine ⟨fun e he => ?_, hp.nodup_iff.mpr (List.nodup_cons.mpr ⟨hn, x.nd⟩), fun e he => ?_⟩
 · rcases List.mem_cons.mp (hp.mem_iff.mp he) with rfl | he
   · dsimp only; lia
   · exact x.ein e he
 · rcases List.mem_cons.mp (hp.mem_iff.mp he) with rfl | he
   · dsimp only; lia
   · have := x.lt e he; lia
theorem DrawnTo.skip {nn i j : Nat} {es : List (Int × Int)} (x : DrawnTo nn i j es) : DrawnTo nn i (j + 1) es := ⟨x.ein, x.nd, fun e he => by have := x.lt e he; lia⟩
theorem DrawnTo.next {nn i j : Nat} {es : List (Int × Int)} (x : DrawnTo nn i j es) (hj : j ≤ i + 1) : DrawnTo nn (i + 1) 0 es := ⟨x.ein, x.nd, fun e he => by have := x.lt e he; lia⟩
theorem DrawnTo.zero (nn : Nat) : DrawnTo nn 0 0 [] := ⟨(fun _ m => nomatch m), List.nodup_nil, fun _ m => nomatch m⟩
theorem Rows2.mono' {h h' : Heap} {vs ps} (x : Rows2 h vs ps) : (∀ T, Value.ref T ∈ vs → ∀ o, h.get? T = some o → h'.get? T = some o) → Rows2 h' vs ps := by
 induction x with
 | nil => exact fun _ => .nil
 | cons a r ih => exact fun k => .cons (k _ (.head _) _ a) (ih fun T m => k T (.tail _ m))
theorem Rows2.refs {h : Heap} {vs ps} (x : Rows2 h vs ps) : ∀ v ∈ vs, ∃ T o, v = .ref T ∧ h.get? T = some o := by
 induction x with
 | nil => exact fun v m => nomatch m
 | cons a r ih => exact fun v m => (List.mem_cons.mp m).elim (fun e => in_x2 _ _ ⟨e, a⟩) (ih v)
section
variable {w : World} {A A₀ A' : Around} {outs outs₂ : List Env} {base : Heap} {n m : Nat} {s s' : Shared} {E : Value → Shared → Prop} {R : Result → Shared → Prop} {g h : Heap} {L Lw : Addr} {l : Loc} {N N' : List (Addr × Obj)}
theorem law_edges {ax : Addr} {vs : List Value} {ns : List Int} {Q : Flow → Shared → Prop} (C : Cx w A₀ [] base g (n + 20)) (S : St g L s.heap [("script", some (.ref ax))] []) (hL : g.IsList ax vs.toArray) (hi : IntsAre vs ns) (hlen : ns.length ≤ 63)
   (h : ∀ g' h' tk' D P oD oP Ex ev ce nn tk1 v u edges, (∀ b o, g.get? b = some o → g'.get? b = some o) → St g' L h' (ll D Ex ax nn tk1 v u) [(D, oD), (P, oP)] → Draw P oD oP → g'.get? Ex = some (W.listOf (List.toArray ev) ce) → Rows2 g' ev edges → EdgesIn nn edges → edges.Nodup → nn ≤ 6 → 1 ≤ nn →
     wpAny (model prg w) (lawA A₀ L) (execs (lawB.drop 4) (lawE L)) Q E { s with heap := h', toks := tk' }) :
   wpAny (model prg w) (lawA A₀ L) (execs lawB (lawE L)) Q E s := by
 conv => arg 3; arg 1; whnf
 walk_at "mm"
 refine draw_spec (n := n + 18) (C.push S) (by obtain ⟨o, e, r⟩ := hL; exact ⟨o, S.keep _ _ e, r⟩) hi hlen fun h1 tk1 D P oD oP hx D0 P0 hDP hD hP dr => ?_
 replace S : St g L h1 [("script", some (.ref ax))] [(D, oD), (P, oP)] := by
   have S1 := S.add hx.keep hP P0
   refine ⟨S1.ns, S1.keep, S1.sep, fun p hp => ?_, ?_⟩
   · rcases List.mem_cons.mp hp with rfl | hp
     · have z := S.new D0
       exact ⟨hD, z.1, z.2.1⟩
     · exact S1.nw p hp
   · simp [hDP]
 walk_at "mm"
 refine takeF (n := n + 17) (env := lawE L) C S (by exact C.less (by lia) |>.push S) rfl dr (by decide) fun h2 tk2 oD oP r ur S dr h0 h1 => ?_
 walk_at "mm"
 with_reducible refine add_int ?_
 walk_at "mm"
 refine el_xa (⟨(1 + r).toNat, by lia⟩ : ∃ nn : Nat, 1 + r = (nn : Int)) fun nn hnn => ?_
 rw [hnn] at S
 have h6 : nn ≤ 6 := by lia
 have hn1 : 1 ≤ nn := by lia
 refine newL S fun Ex h3 S _ _ _ => ?_
 walk_at "mm"
 refine rangeF S fun rg hh5 ru rv' S => ?_
 refine el_xaaa (S.freeze1) fun g4 S k4 hrg => ?_
 dsimp only at hrg
 have C4 := C.keeps k4
 walk_at "mm"
 replace S := S.perm (N' := [(D, oD), (P, oP), (Ex, W.listOf ([] : List Value).toArray 0)]) (List.perm_append_comm (l₁ := [(D, oD), (P, oP)]) (l₂ := [(Ex, W.listOf ([] : List Value).toArray 0)]))
 refine el_xa (⟨_, rfl⟩ : ∃ t : Tok, t = tk2) fun tkn htkn => ?_
 replace S := St.relist (l' := (ll D Ex ax nn tk2 none none)) S (by rfl)
 rw [← htkn] at S
 refine for_src (E' := fun _ _ => False) (fun i l N' G' => ∃ v u oD oP ev ce edges j, l = ll D Ex ax nn tkn v u ∧ N' = [(D, oD), (P, oP), (Ex, W.listOf (List.toArray ev) ce)] ∧ Draw P oD oP ∧ Rows2 G' ev edges ∧ DrawnTo nn i j edges ∧ j ≤ 0)
   (Src.range (n := nn) C4.hand (by lia) hrg (fun v M Q E s I h => wpAny_pure h)) S (in_x8 _ _ oD oP [] _ [] 0 ⟨rfl, rfl, dr, .nil, DrawnTo.zero nn, Nat.le_refl _⟩) ?_ ?_ (fun _ _ z => z.elim)
 case refine_1 =>
   intro Jq Ji i v l N' G' h6' tk6 gb Bq hlt hP2 hJ kG k3 S HB
   refine el_xxxxxxxxaaaaaa hJ fun v0 u0 oD oP ev ce edges j0 hsb8 hsb9 dr hE dto hj0 => ?_
   try clear hJ
   replace S := St.at2 hsb8 hsb9 S
   refine el_xa hP2 fun tv hsb1 => ?_
   try clear hP2
   subst hsb1
   obtain rfl : j0 = 0 := by lia
   have CG2 := C4.keeps fun b o e => k3 b o (kG b o e)
   walk_at "mm"
   with_reducible refine add_int ?_
   walk_at "mm"
   have ei : (i : Int) + 1 = ((i + 1 : Nat) : Int) := by lia
   rw [ei]
   refine rangeF S fun rg2 hh6 ru2 rv2 S => ?_
   refine el_xaaa (S.freeze1) fun g7 S k7 hrg2 => ?_
   dsimp only at hrg2
   have C7 := CG2.keeps k7
   walk_at "mm"
   replace S := St.relist (l' := (ll D Ex ax nn tkn v0 (some (.int i tv)))) S (by rfl)
   refine for_src (E' := fun _ _ => False) (fun j l N' G'' => ∃ v oD oP ev ce edges, l = ll D Ex ax nn tkn v (some (.int i tv)) ∧ N' = [(D, oD), (P, oP), (Ex, W.listOf (List.toArray ev) ce)] ∧ Draw P oD oP ∧ Rows2 G'' ev edges ∧ DrawnTo nn i j edges ∧ ∀ T, Value.ref T ∈ ev → (∃ o, G'.get? T = some o) ∨ gb.get? T = none)
     (Src.range (n := i + 1) C7.hand (by lia) hrg2 (fun v M Q E s I h => wpAny_pure h)) S ⟨_, oD, oP, ev, ce, edges, rfl, rfl, dr, hE.mono fun b o e => k7 b o (k3 b o e), dto, fun T m => by
       refine el_xxaa (hE.refs _ m) fun T' o e q => ?_
       cases e; exact .inl ⟨o, q⟩⟩ ?_ ?_ (fun _ _ z => z.elim)
   case refine_1 =>
     intro Jq Ji j v l N' G'' h8 tk8 gc Bq hlt2 hP3 hJ kG2 k8 S HB2
     refine el_xxxxxxaaaaaa hJ fun v1 oD oP ev ce edges hsb6 hsb7 dr hE dto hO => ?_
     try clear hJ
     replace S := St.at2 hsb6 hsb7 S
     refine el_xa hP3 fun tv2 hsb1 => ?_
     try clear hP3
     subst hsb1
     have CG3 := CG2.keeps fun b o e => k8 b o (kG2 b o (k7 b o e))
     have hel := edges_len dto.ein dto.nd h6
     have hvl := hE.len
     refine asg1 S fun h9 S => ?_
     replace S := St.relist (l' := (ll D Ex ax nn tkn (some (.int j tv2)) (some (.int i tv)))) S (by rfl)
     refine wpAny_execs_cons (wpAny_If (wpAny_mono (Q := fun (b : Bool) (s₁ : Shared) => ∃ hh tk oD oP, s₁ = { s with heap := hh, toks := tk } ∧ St gc L hh (ll D Ex ax nn tkn (some (.int j tv2)) (some (.int i tv))) [(D, oD), (P, oP), (Ex, W.listOf (List.toArray ev) ce)] ∧ Draw P oD oP) ?_ ?_ (fun _ _ z => z)))
     case refine_1 =>
       walk_at "mm"
       refine ne_int ?_
       walk_at "mm"
       by_cases hij : (i : Int) = j
       · refine ite_no (by simp [hij]) ?_
         walk_at "mm"
         refine takeF (n := n + 17) (env := lawE L) CG3 S (by exact CG3.less (by lia) |>.push S) rfl dr (by decide) fun h10 tk10 oD oP r ur S dr h0 h1 => ?_
         walk_at "mm"
         refine PyProof.Rows.eq_int ?_
         walk_at "mm"
         exact in_x4 _ _ _ _ ⟨rfl, S, dr⟩ -- in187
       · refine ite_yes (by simp [hij]) ?_
         walk_at "mm"
         refine takeF (n := n + 17) (env := lawE L) CG3 S (by exact CG3.less (by lia) |>.push S) rfl dr (by decide) fun h10 tk10 oD oP r ur S dr h0 h1 => ?_
         walk_at "mm"
         refine PyProof.Rows.eq_int ?_
         walk_at "mm"
         exact in_x4 _ _ _ _ ⟨rfl, S, dr⟩ -- in188
     intro b s₁
     refine elc_xxxxaaa fun hh tk oD oP hsb4 S dr => ?_
     subst hsb4
     cases b with
     | false =>
       refine ite_no (by simp) ?_
       walk_at "mm"
       exact HB2 _ _ (BodyEnd.nx [] S fun G2 k9 _ => Ji _ _ _ _ (in_x6 _ oD oP ev ce edges ⟨rfl, rfl, dr, hE.mono k9, dto.skip, hO⟩))
     | true =>
       refine ite_yes rfl ?_
       walk_at "mm"
       refine getMethod_builtin ⟨_, S.get (.tail _ (.tail _ (.head _))), rfl⟩ PySem.F.plainAttrs_list PySem.F.slot_list_insert PySem.F.type_list_insert (fun a e => by cases e; exact ⟨_, S.get (.tail _ (.tail _ (.head _))), rfl⟩) ?_
       walk_at "mm"
       refine call_len_list (items := ev.toArray) (News.isList S.nw (by k_mem)) (by simp only [List.size_toArray]; lia) ?_
       walk_at "mm"
       with_reducible refine add_int ?_
       walk_at "mm"
       refine takeF (n := n + 17) (env := lawE L) CG3 S (by exact CG3.less (by lia) |>.push S) rfl dr (by lia) fun h10 tk10 oD oP r ur S dr h0 h1 => ?_
       walk_at "mm"
       refine newT S fun T2 h11 S _ hT2 _ => ?_
       walk_at "mm"
       refine el_xa (⟨r.toNat, by lia⟩ : ∃ rn : Nat, r = (rn : Int)) fun rn hrn => ?_
       subst hrn
       rw [List.size_toArray] at h1
       refine insL S (.tail _ (.tail _ (.tail _ (.head _)))) (by lia) (fun o' => [(T2, tupOf [.int j tv2, .int i tv]), (D, oD), (P, oP), (Ex, o')]) (fun o' => .tail (.tail (.tail .head))) (fun h12 tk12 c' S => ?_) (by lia)
       walk_at "mm"
       refine HB2 _ _ (BodyEnd.nx [_] S fun G2 k9 hK => Ji _ _ _ _ (in_x6 _ oD oP _ c' _ ⟨rfl, rfl, dr, (hE.mono k9).ins (hK _ (.head _)) rn, dto.ins hlt (by lia) rn, fun T m => ?_⟩))
       rcases List.mem_cons.mp ((insAt_perm _ _ _).mem_iff.mp m) with e | m
       · cases e
         refine .inr ?_
         have := S.none (a := T2) (.head _)
         exact none_sub (fun b o e => k8 b o (kG2 b o (k7 b o e))) this
       · exact hO T m
   intro l N' G'' h8 tk8 hJ kG2 S
   refine el_xxxxxxaaaaaa hJ fun v1 oD oP ev ce edges hsb6 hsb7 dr hE dto hO => ?_
   try clear hJ
   replace S := St.at2 hsb6 hsb7 S
   dsimp only
   walk_at "mm"
   refine HB _ _ (BodyEnd.nw (S.weak fun b o e => kG2 b o (k7 b o e)) fun G2 k9 k10 => Ji _ _ _ _ (in_x8 _ _ oD oP ev ce edges 0 ⟨rfl, rfl, dr, hE.mono' fun T m o e => ?_, dto.next (Nat.le_refl _), Nat.le_refl _⟩))
   rcases hO T m with ⟨o', q⟩ | q
   · have := kG2 T o' (k7 T o' (k3 T o' q))
     rw [e] at this; cases this
     exact k9 T o q
   · refine k10 T o (S.keep _ _ e) q (fun z => by rw [z, S.sep] at e; cases e) fun z => ?_
     refine el_xaa (List.mem_map.mp z) fun p hp z => ?_
     have := (S.nw p hp).2.2
     rw [z, e] at this; cases this
 intro l N' G' h6' tk6 hJ kG S
 refine el_xxxxxxxxaaaaaa hJ fun v0 u0 oD oP ev ce edges j0 hsb8 hsb9 dr hE dto hj0 => ?_
 try clear hJ
 replace S := St.at2 hsb8 hsb9 S
 dsimp only
 replace S := S.perm (N' := [(Ex, W.listOf (List.toArray ev) ce), (D, oD), (P, oP)]) (List.perm_append_comm (l₁ := [(Ex, W.listOf (List.toArray ev) ce)]) (l₂ := [(D, oD), (P, oP)]))
 refine el_xaaa (S.freeze1) fun g9 S k9 hEx => ?_
 dsimp only at hEx
 exact h g9 _ _ D P oD oP Ex ev ce nn tkn _ _ edges (fun b o e => k9 b o (kG b o (k4 b o e))) S dr hEx (hE.mono k9) dto.ein dto.nd h6 hn1
end
noncomputable abbrev lm (D Ex ax : Addr) (nn : Nat) (tk1 : Tok) (v u gr : Option Value) : Loc := ("graph", gr) :: ll D Ex ax nn tk1 v u
noncomputable def stepG (p : List Int × List (Int × List Int)) (e : Int × Int) : List Int × List (Int × List Int) := (addK (addK p.1 e.1) e.2, putE (putE (addN (addN p.2 e.1) e.2) e.1 e.2) e.2 e.1)
noncomputable def es3 : List (Int × Int) := [(0, 1), (2, 2), (1, 3)]
noncomputable def grN (i : Nat) : List Int := ((es3.take i).foldl stepG ([], [])).1
noncomputable def grA (i : Nat) : List (Int × List Int) := ((es3.take i).foldl stepG ([], [])).2
theorem gr_next {i : Nat} {e : Int × Int} (h : es3[i]? = some e) : grN (i + 1) = addK (addK (grN i) e.1) e.2 ∧ grA (i + 1) = putE (putE (addN (addN (grA i) e.1) e.2) e.1 e.2) e.2 e.1 := by
 unfold grN grA
 rw [take_next h, List.foldl_append]
 exact ⟨rfl, rfl⟩
theorem gr_ok : (List.range 3).all (fun i => decide ((grN i).length < 9) && decide ((es3.getD i (0, 0)).2 ∉ adjOf (grA i) (es3.getD i (0, 0)).1) && (grA i).all fun p => decide (p.2.length < 9)) = true := by decide +kernel
theorem gr_end : grN 3 = [0, 1, 2, 3] ∧ grA 3 = [(0, [1]), (1, [0, 3]), (2, [2]), (3, [1])] := by decide +kernel
theorem gr_in6 : In6 (rowsOf (grA 3)) := by
 unfold In6
 rw [gr_end.2]
 decide
theorem gr_is : isM (grA 3) [(0, 1), (3, 1)] = false ∧ isMx (grA 3) [(0, 1)] = true ∧ isP (grA 3) (grN 3) [(1, 0)] = false ∧ isMx (grA 3) [] = false := by
 rw [gr_end.1, gr_end.2]
 decide +kernel
section
variable {w : World} {A A₀ A' : Around} {outs outs₂ : List Env} {base : Heap} {n m : Nat} {s s' : Shared} {E : Value → Shared → Prop} {R : Result → Shared → Prop} {g h : Heap} {L Lw : Addr} {l : Loc} {N N' : List (Addr × Obj)}
theorem pushL (C : Cx w A₀ [] base g (n + 1)) (S : St g L h l N) : Cx w (lawA A₀ L) [lawE L] base h n := C.push S
theorem law_fine {D P Ex ax : Addr} {oD oP : Obj} {nn : Nat} {tk1 : Tok} {ev : List Value} {ce : Nat} {edges : List (Int × Int)} {v u : Option Value} {Q : Flow → Shared → Prop} (C : Cx w A₀ [] base g (n + 20)) (S : St g L s.heap (ll D Ex ax nn tk1 v u) [(D, oD), (P, oP)]) (dr : Draw P oD oP)
   (hex : g.get? Ex = some (W.listOf ev.toArray ce)) (hE : Rows2 g ev edges) (hes : EdgesIn nn edges) (hnd : edges.Nodup) (h6 : nn ≤ 6) (hn1 : 1 ≤ nn)
   (h : ∀ g' h' tk' gs x v u, (∀ b o, g.get? b = some o → g'.get? b = some o) → St g' L h' (lm D Ex ax nn tk1 v u (some (.ref x))) [] → Bare s gs → GraphG w g' x (grN 3) (grA 3) →
     wpAny (model prg w) (lawA A₀ L) (execs (lawB.drop 7) (lawE L)) Q E { s with heap := h', toks := tk', gens := gs }) :
   wpAny (model prg w) (lawA A₀ L) (execs (lawB.drop 4) (lawE L)) Q E s := by
 conv => arg 3; arg 1; whnf
 walk_at "mm"
 have hel := edges_len hes hnd h6
 refine wpAny_call (fine_code (n := n + 7) (C.less (by lia)) S dr hex hE hes hnd (by lia) h6 hn1 fun h2 tk2 gs2 oD oP S dr hg2 => ?_)
 walk_at "mm"
 replace S := S.sub (N' := []) (List.nil_sublist _)
 refine wpAny_call (mkI S C fun x dx h2 S x0 dx0 => ?_)
 have hne : x ≠ dx := fun e => by
   have := S.nd
   simp [e] at this
 refine graph_init (n := n + 1) (pushL (C.less (k := n + 4) (by lia)) S).under (C.apartN (N := [(x, instObj 310 dx), (dx, emptyDict)]) (R := []) S) (S.get (.head _)) (S.get (.tail _ (.head _))) hne fun h3 tk3 N3 T _ G3 => ?_
 replace S := callSt (N := [(x, instObj 310 dx), (dx, emptyDict)]) (R := []) S T
 rw [List.append_nil] at S
 dsimp only [InitBack]
 refine ⟨rfl, ?_⟩
 walk_at "mm"
 refine newT S fun T1 h5 S k5 hT1 _ => ?_
 walk_at "mm"
 refine newT S fun T2 h6 S k6 hT2 _ => ?_
 walk_at "mm"
 refine newT S fun T3 h7 S k7 hT3 _ => ?_
 walk_at "mm"
 refine newL S fun Lb h8 S k8 hLb _ => ?_
 walk_at "mm"
 refine el_aaa (St.freeze (K := [_, _, _, _]) S) fun Sg kg hf => ?_
 replace S := Sg
 clear Sg
 have hLbg := hf _ (.head _)
 have hT3g := hf _ (.tail _ (.head _))
 have hT2g := hf _ (.tail _ (.tail _ (.head _)))
 have hT1g := hf _ (.tail _ (.tail _ (.tail _ (.head _))))
 dsimp only at hLbg hT3g hT2g hT1g
 clear hf
 refine el_xa (⟨_, rfl⟩ : ∃ g5, g5 = hideAll h8 (L :: N3.map (·.1))) fun g5 hg5 => ?_
 rw [← hg5] at S kg hLbg hT3g hT2g hT1g
 have C5 := C.keeps kg
 have items : Rows2 g5 [Value.ref T1, .ref T2, .ref T3] es3 := .cons hT1g (.cons hT2g (.cons hT3g .nil))
 replace S := St.relist (l' := (lm D Ex ax nn tk1 v u (some (.ref x)))) S (by rfl)
 refine for_src (E' := fun _ _ => False) (fun i l N' G' => ∃ v u N6, l = lm D Ex ax nn tk1 v u (some (.ref x)) ∧ N' = N6 ∧ Graph w x N6 (grN i) (grA i))
   (Src.list C5.hand ⟨_, hLbg, rfl, _, rfl⟩) S (in_x3 _ _ N3 ⟨rfl, rfl, G3⟩) ?_ ?_ (fun _ _ z => z.elim)
 case refine_1 =>
   intro Jq Ji i v' l N' G' h6' tk6 gb Bq hlt hP2 hJ kG k3 S HB
   refine el_xxxar2a hJ fun v0 u0 hsb3 G6 => ?_
   try clear hJ
   subst hsb3
   refine el_xxxxxaaa (items.at hP2) fun T a b t1 t2 hsb5 hri hT => ?_
   subst hsb5
   have CG2 := C5.keeps fun b o e => k3 b o (kG b o e)
   have hi3 : i < 3 := by simpa using hlt
   have hok := List.all_eq_true.mp gr_ok i (List.mem_range.mpr hi3)
   have hgd : es3.getD i (0, 0) = (a, b) := by rw [List.getD_eq_getElem?_getD, hri]; rfl
   rw [hgd] at hok
   simp only [Bool.and_eq_true, decide_eq_true_eq, List.all_eq_true] at hok
   obtain ⟨⟨q1, q2⟩, q3⟩ := hok
   refine el_aa (gr_next hri) fun e1 e2 => ?_
   refine asg2 CG2.hand S ⟨_, S.keep _ _ (k3 _ _ (kG _ _ hT)), rfl, _, rfl⟩ fun h9 tk9 S => ?_
   replace S := St.relist (l' := (lm D Ex ax nn tk1 (some (.int b t2)) (some (.int a t1)) (some (.ref x)))) S (by rfl)
   walk_at "mm"
   have GG : GraphG w h9 x (grN i) (grA i) := ⟨N', G6, fun p hp => S.get hp⟩
   refine el_xxxxxxxa (GG.at) fun dx' gd nd ad od nv nb R' => ?_
   refine el_xxxxxxxa (R'.od) fun hq1 tq1 hq2 tq2 hq3 tq3 mq hsb7 => ?_
   subst hsb7
   refine methA S CG2 R'.at_.inst rfl ?_
   walk_at "mm"
   refine wpAny_call (add_edge_code (n := n + 1) (pushL (CG2.less (k := n + 4) (by lia)) S) (CG2.apartN (N := N') (R := []) (by rw [List.append_nil]; exact S)) (fun p hp => S.get hp) S.nd G6 q1 q2 q3 fun h10 tk10 N8 T _ G8 => ?_)
   replace S := callSt (N := N') (R := []) (by rw [List.append_nil]; exact S) T
   rw [List.append_nil] at S
   rw [← e1, ← e2] at G8
   walk_at "mm"
   exact HB _ _ (BodyEnd.nx [] S fun G2 _ _ => Ji _ _ _ _ (in_x3 _ _ N8 ⟨rfl, rfl, G8⟩))
 intro l N' G' h6' tk6 hJ kG S
 refine el_xxxar2a hJ fun v0 u0 hsb3 G6 => ?_
 try clear hJ
 subst hsb3
 refine el_aaa (St.freeze (K := N') (N := []) (by rw [List.append_nil]; exact S)) fun S kf hf => ?_
 exact h _ _ _ gs2 x _ _ (fun b o e => kf b o (kG b o (kg b o e))) S hg2 ⟨N', G6, hf⟩
end
theorem mds2 : mds [((0 : Int), (1 : Int)), (3, 1)] = [(0, 1), (3, 1)] := by decide +kernel
theorem tab2_ne : ∀ p ∈ [((0 : Int), (1 : Int)), (3, 1)], p.1 ≠ p.2 := by decide +kernel
theorem tab2_dom : ∀ p ∈ [((0 : Int), (1 : Int)), (3, 1)], [p.1, p.2] ∈ dom ∧ [p.2, p.1] ∈ dom := by decide +kernel
theorem in4 : InN (grN 3) [(0, 1), (3, 1)] ∧ InN (grN 3) [(0, 1)] ∧ InN (grN 3) [(1, 0)] ∧ InN (grN 3) [] := by
 unfold InN
 rw [gr_end.1]
 decide
theorem gr_ns : (grN 3).length ≤ 6 ∧ ∀ x ∈ grN 3, 0 ≤ x ∧ x < 6 := by
 rw [gr_end.1]
 decide
section
variable {w : World} {A A₀ A' : Around} {outs outs₂ : List Env} {base : Heap} {n m : Nat} {s s' : Shared} {E : Value → Shared → Prop} {R : Result → Shared → Prop} {g h : Heap} {L Lw : Addr} {l : Loc} {N N' : List (Addr × Obj)}
theorem law_last {D Ex ax x : Addr} {nn : Nat} {tk1 : Tok} {v u : Option Value} {Q : Flow → Shared → Prop} (C : Cx w A₀ [] base g (n + 20)) (S : St g L s.heap (lm D Ex ax nn tk1 v u (some (.ref x))) []) (G : GraphG w g x (grN 3) (grA 3))
   (h : ∀ h' tk' gs, (∀ b o, g.get? b = some o → h'.get? b = some o) → Bare s gs → Q (.ret (.bool true)) { s with heap := h', toks := tk', gens := gs }) :
   wpAny (model prg w) (lawA A₀ L) (execs (lawB.drop 7) (lawE L)) Q E s := by
 conv => arg 3; arg 1; whnf
 walk_at "mm"
 refine dictDisp S C fun Dd h1 S lo k1 => ?_
 refine pairTrees_cons_walk ?_
 walk_at "mm"
 refine pairTrees_cons_walk ?_
 walk_at "mm"
 refine pairTrees_nil_walk ?_
 refine dispEnd S rfl (by simp [intKeyPairs]) fun h2 o2 tk2 S hd => ?_
 refine el_xaaa (S.freeze1) fun g2 S kg2 hDd => ?_
 dsimp only at hDd
 have C2 := C.keeps kg2
 walk_at "mm"
 refine wpAny_call (ism_code (n := n + 10) (out := some (mds [((0 : Int), (1 : Int)), (3, 1)])) (pushL (C2.less (k := n + 15) (by lia)) S) ((G.ext kg2).ext S.keep)
   (.inr ⟨Dd, _, [(0, 1), (3, 1)], rfl, lo, Heap.dictOf_iff.mpr ⟨o2, S.keep _ _ hDd, hd⟩, (ivNil.snoc 0 1 _).snoc 3 1 _, tab2_dom, by rw [mds2]; simp, .inr ⟨tab2_ne, .inl ⟨rfl, by rw [mds2]; exact in4.1⟩⟩⟩) (fun rows e h3 tk3 hx => ?_) fun e => nomatch e)
 cases e
 rw [mds2, gr_is.1]
 replace S := S.grow hx.keep
 walk_at "mm"
 have hu7 : ∀ {g' : Heap}, Cx w A₀ [] base g' (n + 20) → (lawA A₀ L).units + 70 < cLine := fun C' => by
   have h2 := C'.room
   show A₀.units + 3 + 70 < 9900
   lia
 refine setDisp S C2 fun Ds h4 S k4 => ?_
 unfold KdsAll
 walk_at "mm"
 refine newT S fun Ta h5 S k5 hTa _ => ?_
 unfold KdsAll
 refine fillF (ks := [0, 1]) S ps_empty (.tail _ (.head _)) (by have := hu7 C2; lia) (isK2 (S.get (.head _))) (mem_dom (by decide) (by decide)) (by simp) (by simp) (fun o' => [(Ta, _), (Ds, o')]) (fun o' => .tail .head) fun h6 tk6 oa Ca S Pa hpa => kds_fill_nil rfl ?_
 walk_at "mm"
 refine el_aaa (St.freeze (K := [_, _]) (N := []) S) fun S2 kg6 hf => ?_
 have hDs := hf _ (.tail _ (.head _))
 dsimp only at hDs
 replace S := S2
 clear S2 hf
 refine el_xa (⟨_, rfl⟩ : ∃ g6, g6 = hideAll h6 (L :: ([] : List (Addr × Obj)).map (·.1))) fun g6 hg6 => ?_
 rw [← hg6] at S kg6 hDs
 have C6 := C2.keeps kg6
 have kk6 : ∀ b o, g.get? b = some o → g6.get? b = some o := fun b o e => kg6 b o (kg2 b o e)
 refine wpAny_call (isx_code (n := n + 8) (out := some [(0, 1)]) (pushL (C6.less (k := n + 16) (by lia)) S) ((G.ext kk6).ext S.keep) gr_ns.1 gr_ns.2 gr_in6
   (.inl ⟨Ds, oa, Ca, rfl, by exact S.keep _ _ hDs, by exact Pa, .inl ⟨_, rfl, in4.2.1, List.Perm.map Prod.fst hpa, by decide⟩⟩) (fun rows e h7 tk7 gs7 hx7 hg7 => ?_) fun e => nomatch e)
 cases e
 rw [gr_is.2.1]
 replace S := S.grow hx7.keep
 walk_at "mm"
 refine setDisp S C6 fun Dt h8 S k8 => ?_
 unfold KdsAll
 walk_at "mm"
 refine newT S fun Tb h9 S k9 hTb _ => ?_
 unfold KdsAll
 refine fillF (ks := [1, 0]) S ps_empty (.tail _ (.head _)) (by have := hu7 C2; lia) (isK2 (S.get (.head _))) (mem_dom (by decide) (by decide)) (by simp) (by simp) (fun o' => [(Tb, _), (Dt, o')]) (fun o' => .tail .head) fun h10 tk10 ob Cb S Pb hpb => kds_fill_nil rfl ?_
 walk_at "mm"
 refine el_aaa (St.freeze (K := [_, _]) (N := []) S) fun S2 kg10 hf => ?_
 have hDt := hf _ (.tail _ (.head _))
 dsimp only at hDt
 replace S := S2
 clear S2 hf
 refine el_xa (⟨_, rfl⟩ : ∃ g10, g10 = hideAll h10 (L :: ([] : List (Addr × Obj)).map (·.1))) fun g10 hg10 => ?_
 rw [← hg10] at S kg10 hDt
 have C10 := C6.keeps kg10
 have kk10 : ∀ b o, g.get? b = some o → g10.get? b = some o := fun b o e => kg10 b o (kk6 b o e)
 refine wpAny_call (isp_code (n := n + 8) (out := some [(1, 0)]) (pushL (C10.less (k := n + 13) (by lia)) S) ((G.ext kk10).ext S.keep) (by have := gr_ns.1; lia)
   (.inl ⟨Dt, ob, Cb, rfl, by exact S.keep _ _ hDt, by exact Pb, .inl ⟨_, rfl, in4.2.2.1, List.Perm.map Prod.fst hpb, by decide⟩⟩) (fun rows e h11 tk11 hx11 => ?_) fun e => nomatch e)
 cases e
 rw [gr_is.2.2.1]
 replace S := S.grow hx11.keep
 walk_at "mm"
 refine set0F S fun Du h12 S _ k12 => ?_
 walk_at "mm"
 refine el_xaaa (S.freeze1) fun g12 S kg12 hDu => ?_
 dsimp only at hDu
 have C12 := C10.keeps kg12
 refine wpAny_call (isx_code (n := n + 8) (out := some []) (pushL (C12.less (k := n + 16) (by lia)) S) ((G.ext fun b o e => kg12 b o (kk10 b o e)).ext S.keep) gr_ns.1 gr_ns.2 gr_in6
   (.inl ⟨Du, _, [], rfl, by exact S.keep _ _ hDu, by exact ps_empty, .inl ⟨[], rfl, in4.2.2.2, .nil, by decide⟩⟩) (fun rows e h13 tk13 gs13 hx13 hg13 => ?_) fun e => nomatch e)
 cases e
 rw [gr_is.2.2.2]
 replace S := S.grow hx13.keep
 walk_at "mm"
 exact h _ _ gs13 (fun b o e => S.keep b o (kg12 b o (kk10 b o e))) fun z => hg13 (hg7 z)
end
section
variable {w : World} {A A₀ A' : Around} {outs outs₂ : List Env} {base : Heap} {n m : Nat} {s s' : Shared} {E : Value → Shared → Prop} {R : Result → Shared → Prop} {g h : Heap} {L Lw : Addr} {l : Loc} {N N' : List (Addr × Obj)}
theorem law_code {ax : Addr} {vs : List Value} {ns : List Int} (C : Cx w A₀ [] base s.heap (n + 20)) (hL : s.heap.IsList ax vs.toArray) (hi : IntsAre vs ns) (hlen : ns.length ≤ 63)
   (h : ∀ h' tk' gs, (∀ b o, s.heap.get? b = some o → h'.get? b = some o) → Bare s gs → R (.ok (.ret (.bool true))) { s with heap := h', toks := tk', gens := gs }) :
   codeAny (model prg w) A₀ (.call (.ref 362) ⟨[.ref ax], []⟩) R s := by
 refine enter (binds := [(Str.ofString "script", .ref ax)]) [] (by simp) (by simp) (by simp) C rfl rfl (BindsTo.of_eq rfl) (locs rfl) (fun h₁ L tk Qf Ef hQ S CG => ?_)
 dsimp only [List.map, List.reverse, List.reverseAux, locOf] at S CG
 replace hL : (hideAll s.heap []).IsList ax vs.toArray := hL
 refine el_xa (⟨_, rfl⟩ : ∃ g, g = hideAll s.heap []) fun g hg => ?_
 rw [← hg] at S CG hL
 have hsg : ∀ b o, s.heap.get? b = some o → g.get? b = some o := fun b o e => by rw [hg]; exact hide_nil b o e
 refine law_edges (n := n) CG S hL hi hlen fun g2 h2 tk2 D P oD oP Ex ev ce nn tk1 v u edges k2 S2 dr hEx hE hes hnd h6 hn1 => ?_
 have C2 := CG.keeps k2
 refine law_fine (n := n) C2 S2 dr hEx hE hes hnd h6 hn1 fun g3 h3 tk3 gs3 x v u k3 S3 hg3 G3 => ?_
 have C3 := C2.keeps k3
 refine law_last (n := n) C3 S3 G3 fun h4 tk4 gs4 k4 hg4 => ?_
 exact hQ _ _ (h h4 tk4 gs4 (fun b o e => k4 b o (k3 b o (k2 b o (hsg b o e)))) fun z => hg4 (hg3 z))
end
end Mine
theorem PySem.Challenge.cw_bd0021_01_holds : PySem.Challenge.rw_bd0021_01.Holds := by
 refine holds_law (by decide +kernel) fun said => ?_
 refine holds_open (q := Mine.view) (loose := Mine.loose) (Xt := fun s => xlAt Mine.view [] s && recOk (RowW.records (PySem.Challenge.rw_bd0021_01.row.toRowW)) s) (XP := XL Mine.view []) (Yf := Hook.obs Mine.hook) (Ya := Hook.val Mine.hook) (YP := Hook.says Mine.hook) (N := 4872)
   Mine.left (Hook.of Mine.hook) (Hook.keeps Mine.hook) (fun s e => xl_of s (Bool.and_eq_true_iff.mp e).1) XL.keeps (by rfl) (by rfl) (by rfl) (fun s e => recFacts_of (Bool.and_eq_true_iff.mp e).2) (by rfl) (by first | assumption | decide +kernel) (by decide +kernel) ⟨rfl, rfl, rfl, rfl, rfl, by decide +kernel⟩ ?hw ?hc
 case hw => w_witness2
 case hc =>
   intro w s₀ s₁ mg mb G Y a o pm cd doc dV kV h1 h2 h3 h4 h5 hg args vals as hpre hlay hrd hwell hlow
   obtain rfl : a = 362 := by
     have := mg_of (K := Mine.KF w) (kIn_of Y) G.T.g (n := Str.ofString "law") (v := .ref 362) (by rfl)
     have h6 : mg (Str.ofString "law") = some (.ref a) := h5
     rw [this] at h6
     cases h6; rfl
   clear h1 h2 h3 h4 h5
   wrow_args hpre hlay hrd hwell hlow
   rename_i xs _ _ _ _ _ _ _ ax vs _ hL _ _ _ hI _ hlen _
   have C : Mine.Cx w callerA [] s₁.heap s₁.heap (0 + 20) := ⟨⟨kIn_of Y, _, mg, mb, G.T⟩, below_caller _, rfl, rfl, by decide, by decide⟩
   refine wpAny_call (Mine.law_code C hL hI (by lia) fun h' tk' gs k hb => ?_)
   refine ⟨.inl ⟨_, .bool true, [], rfl, fun _ => rfl, .bool true, ?_, fun _ => ⟨List.nodup_nil, fun _ m => nomatch m⟩⟩, .of_keep k, rfl, hb ?_⟩
   · exact postW_of (by wrow_shape) (by wtm_val) (by w_fin)
   · rw [hg]; exact AllBare.empty

