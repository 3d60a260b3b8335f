import PyProof.Rows.All
import Wide.All
import OpenK.AllK
import Wide.FinOn
import Lean
import PySem.Challenge.RW_rx0085_03
open PySem PySem.Calls PyProof.Rows PySem.W
set_option Elab.async false
set_option linter.unusedVariables false
set_option maxRecDepth 100000
set_option maxHeartbeats 64000000
noncomputable section
set_option genSizeOf false
set_option genInjectivity false
namespace Mine
theorem Zal {α : Type} {A B : α → Prop} {P : Prop} (h : ∃ a, A a ∧ B a) (k : ∀ a, A a → B a → P) : P := h.elim fun a c => k a c.1 c.2
theorem Zb4 {α β : Type} {A B : α → β → Prop} {P : Prop} (h : ∃ a b, A a b ∧ B a b) (k : ∀ a b, A a b → B a b → P) : P := h.elim fun a h => h.elim fun b c => k a b c.1 c.2
set_option genInjectivity true in
inductive V where
 | none | bool (b : Bool) | int (i : Int) | str (s : Str) | bytes (b : List Nat)
 | ty (n : String) | bi (n : String) | ref (a : Addr) | tup (l : List V)
noncomputable abbrev P3 : Program := PySem.Challenge.pw_rx0085_03
structure Fd where
 name : Str
 params : Arguments
 body : List Stmt
 scope : Scope
deriving Inhabited
noncomputable def fdOf : Stmt → Fd
 | .FunctionDef n a b _ _ _ s _ _ _ => ⟨n, a, b, s⟩
 | _ => default
noncomputable def clOf : Stmt → List Stmt
 | .ClassDef _ _ _ b _ _ _ _ _ _ _ => b
 | _ => []
noncomputable def fd3 (i : Nat) : Fd := fdOf (P3.main.body.getD i default)
noncomputable def md3 (i j : Nat) : Fd := fdOf ((clOf (P3.main.body.getD i default)).getD j default)
noncomputable def Zig (d : Fd) (m : String) (t : Tok) (c : Addr) : FuncData := { name := d.name, qualname := d.name, params := d.params, body := .stmts d.body, scope := d.scope, globals := 3, closure := [], defaults := .none, kwdefaults := .none, doc := .none, pyModule := .str m t, code := .ref c, builtins := 0 }
noncomputable def Zf1 (d : Fd) (m : String) (t : Tok) (c : Addr) : Obj := { cls := .type "function", data := .func (Zig d m t c) }
noncomputable def Zsy (d : Fd) (q m : String) (t : Tok) (c : Addr) (dfl : Value) : FuncData := { name := d.name, qualname := q, params := d.params, body := .stmts d.body, scope := d.scope, globals := 3, closure := [], defaults := dfl, kwdefaults := .none, doc := .none, pyModule := .str m t, code := .ref c, builtins := 0 }
noncomputable def Zbt (d : Fd) (q m : String) (t : Tok) (c : Addr) (dfl : Value) : Obj := { cls := .type "function", data := .func (Zsy d q m t c dfl) }
noncomputable def K3 (P : Params) : Frag := [
 (45, Zf1 (fd3 3) "cpy313.wave" 289 44),
 (44, { cls := .type "code", data := .fields #[.str "_byteswap" 291, .str "_byteswap" 292, .str "/claim/cut.py" 293, .int (6) 0, .int (2) 0, .int (0) 0, .int (0) 0, .int (3) 0, .ref 39, .bool true, .int (276) 0, .ref 40, .none, .ref 41, .ref 42, .ref 43, .int (299) 0, .int (6) 0, .str "/claim/cut.py" 300] }),
 (57, Zf1 (fd3 6) "cpy313.fnmatch" 302 56),
 (56, { cls := .type "code", data := .fields #[.str "translate" 342, .str "translate" 343, .str "/claim/cut.py" 344, .int (14) 0, .int (1) 0, .int (0) 0, .int (0) 0, .int (3) 0, .ref 51, .bool true, .int (276) 0, .ref 52, .none, .ref 53, .ref 54, .ref 55, .int (348) 0, .int (14) 0, .str "/claim/cut.py" 349] }),
 (69, Zf1 (fd3 9) "re" 351 68),
 (68, { cls := .type "code", data := .fields #[.str "escape" 499, .str "escape" 500, .str "/claim/cut.py" 501, .int (20) 0, .int (1) 0, .int (0) 0, .int (0) 0, .int (3) 0, .ref 63, .bool true, .int (276) 0, .ref 64, .none, .ref 65, .ref 66, .ref 67, .int (503) 0, .int (20) 0, .str "/claim/cut.py" 504] }),
 (76, Zf1 (fd3 11) "cpy313.fnmatch" 506 75),
 (75, { cls := .type "code", data := .fields #[.str "_translate" 508, .str "_translate" 509, .str "/claim/cut.py" 510, .int (27) 0, .int (3) 0, .int (0) 0, .int (0) 0, .int (3) 0, .ref 70, .bool true, .int (276) 0, .ref 71, .none, .ref 72, .ref 73, .ref 74, .int (524) 0, .int (27) 0, .str "/claim/cut.py" 525] }),
 (83, Zf1 (fd3 12) "cpy313.fnmatch" 506 82),
 (82, { cls := .type "code", data := .fields #[.str "_join_translated_parts" 527, .str "_join_translated_parts" 528, .str "/claim/cut.py" 529, .int (89) 0, .int (2) 0, .int (0) 0, .int (0) 0, .int (3) 0, .ref 77, .bool true, .int (276) 0, .ref 78, .none, .ref 79, .ref 80, .ref 81, .int (537) 0, .int (89) 0, .str "/claim/cut.py" 538] }),
 (210, Zf1 (fd3 20) "law_rx0085_03" 722 209),
 (209, { cls := .type "code", data := .fields #[.str "_law_signs" 724, .str "_law_signs" 725, .str "/claim/cut.py" 726, .int (235) 0, .int (1) 0, .int (0) 0, .int (0) 0, .int (3) 0, .ref 204, .bool true, .int (276) 0, .ref 205, .none, .ref 206, .ref 207, .ref 208, .int (731) 0, .int (235) 0, .str "/claim/cut.py" 732] }),
 (217, Zf1 (fd3 21) "law_rx0085_03" 722 216),
 (216, { cls := .type "code", data := .fields #[.str "_law_ranks" 734, .str "_law_ranks" 735, .str "/claim/cut.py" 736, .int (241) 0, .int (1) 0, .int (0) 0, .int (0) 0, .int (3) 0, .ref 211, .bool true, .int (276) 0, .ref 212, .none, .ref 213, .ref 214, .ref 215, .int (740) 0, .int (241) 0, .str "/claim/cut.py" 741] }),
 (224, Zf1 (fd3 22) "law_rx0085_03" 722 223),
 (223, { cls := .type "code", data := .fields #[.str "_law_sign" 743, .str "_law_sign" 744, .str "/claim/cut.py" 745, .int (246) 0, .int (1) 0, .int (0) 0, .int (0) 0, .int (3) 0, .ref 218, .bool true, .int (276) 0, .ref 219, .none, .ref 220, .ref 221, .ref 222, .int (750) 0, .int (246) 0, .str "/claim/cut.py" 751] }),
 (229, Zf1 (fd3 23) "law_rx0085_03" 722 228),
 (228, { cls := .type "code", data := .fields #[.str "_law_pair" 753, .str "_law_pair" 754, .str "/claim/cut.py" 755, .int (253) 0, .int (1) 0, .int (0) 0, .int (0) 0, .int (3) 0, .ref 225, .bool true, .int (276) 0, .ref 226, .none, .none, .none, .ref 227, .int (756) 0, .int (253) 0, .str "/claim/cut.py" 757] }),
 (234, Zf1 (fd3 24) "law_rx0085_03" 722 233),
 (233, { cls := .type "code", data := .fields #[.str "_law_pairs" 759, .str "_law_pairs" 760, .str "/claim/cut.py" 761, .int (259) 0, .int (2) 0, .int (0) 0, .int (0) 0, .int (3) 0, .ref 230, .bool true, .int (276) 0, .ref 231, .none, .none, .none, .ref 232, .int (762) 0, .int (259) 0, .str "/claim/cut.py" 763] }),
 (241, Zf1 (fd3 25) "law_rx0085_03" 722 240),
 (240, { cls := .type "code", data := .fields #[.str "_law_takes" 765, .str "_law_takes" 766, .str "/claim/cut.py" 767, .int (266) 0, .int (2) 0, .int (0) 0, .int (0) 0, .int (3) 0, .ref 235, .bool true, .int (276) 0, .ref 236, .none, .ref 237, .ref 238, .ref 239, .int (771) 0, .int (266) 0, .str "/claim/cut.py" 772] }),
 (246, Zf1 (fd3 26) "law_rx0085_03" 722 245),
 (245, { cls := .type "code", data := .fields #[.str "_law_exchanged" 774, .str "_law_exchanged" 775, .str "/claim/cut.py" 776, .int (269) 0, .int (2) 0, .int (0) 0, .int (0) 0, .int (3) 0, .ref 242, .bool true, .int (276) 0, .ref 243, .none, .none, .none, .ref 244, .int (777) 0, .int (269) 0, .str "/claim/cut.py" 778] }),
 (251, Zf1 (fd3 27) "law_rx0085_03" 722 250),
 (250, { cls := .type "code", data := .fields #[.str "_law_turned" 780, .str "_law_turned" 781, .str "/claim/cut.py" 782, .int (278) 0, .int (2) 0, .int (0) 0, .int (0) 0, .int (3) 0, .ref 247, .bool true, .int (276) 0, .ref 248, .none, .none, .none, .ref 249, .int (783) 0, .int (278) 0, .str "/claim/cut.py" 784] }),
 (256, Zf1 (fd3 28) "law_rx0085_03" 722 255),
 (255, { cls := .type "code", data := .fields #[.str "_law_greatest" 786, .str "_law_greatest" 787, .str "/claim/cut.py" 788, .int (286) 0, .int (3) 0, .int (0) 0, .int (0) 0, .int (3) 0, .ref 252, .bool true, .int (276) 0, .ref 253, .none, .none, .none, .ref 254, .int (789) 0, .int (286) 0, .str "/claim/cut.py" 790] }),
 (261, Zf1 (fd3 29) "law_rx0085_03" 722 260),
 (260, { cls := .type "code", data := .fields #[.str "law" 792, .str "law" 793, .str "/claim/cut.py" 794, .int (303) 0, .int (1) 0, .int (0) 0, .int (0) 0, .int (3) 0, .ref 257, .bool true, .int (276) 0, .ref 258, .none, .none, .none, .ref 259, .int (795) 0, .int (303) 0, .str "/claim/cut.py" 796] }),
 (135, Zbt (md3 18 0) "TopologicalSorter.__init__" "cpy313.graphlib" 540 134 (.ref 128)),
 (134, { cls := .type "code", data := .fields #[.str "__init__" 615, .str "TopologicalSorter.__init__" 616, .str "/claim/cut.py" 617, .int (130) 0, .int (2) 0, .int (0) 0, .int (0) 0, .int (3) 0, .ref 129, .bool true, .int (276) 0, .ref 130, .none, .ref 131, .ref 132, .ref 133, .int (622) 0, .int (130) 0, .str "/claim/cut.py" 623] }),
 (142, Zbt (md3 18 1) "TopologicalSorter._get_nodeinfo" "cpy313.graphlib" 540 141 (.none)),
 (141, { cls := .type "code", data := .fields #[.str "_get_nodeinfo" 625, .str "TopologicalSorter._get_nodeinfo" 626, .str "/claim/cut.py" 627, .int (139) 0, .int (2) 0, .int (0) 0, .int (0) 0, .int (3) 0, .ref 136, .bool true, .int (276) 0, .ref 137, .none, .ref 138, .ref 139, .ref 140, .int (631) 0, .int (139) 0, .str "/claim/cut.py" 632] }),
 (149, Zbt (md3 18 2) "TopologicalSorter.add" "cpy313.graphlib" 540 148 (.none)),
 (148, { cls := .type "code", data := .fields #[.str "add" 634, .str "TopologicalSorter.add" 635, .str "/claim/cut.py" 636, .int (144) 0, .int (2) 0, .int (0) 0, .int (0) 0, .int (7) 0, .ref 143, .bool true, .int (276) 0, .ref 144, .none, .ref 145, .ref 146, .ref 147, .int (643) 0, .int (144) 0, .str "/claim/cut.py" 644] }),
 (154, Zbt (md3 18 3) "TopologicalSorter.prepare" "cpy313.graphlib" 540 153 (.none)),
 (153, { cls := .type "code", data := .fields #[.str "prepare" 646, .str "TopologicalSorter.prepare" 647, .str "/claim/cut.py" 648, .int (153) 0, .int (1) 0, .int (0) 0, .int (0) 0, .int (3) 0, .ref 150, .bool true, .int (276) 0, .ref 151, .none, .none, .none, .ref 152, .int (649) 0, .int (153) 0, .str "/claim/cut.py" 650] }),
 (161, Zbt (md3 18 4) "TopologicalSorter.get_ready" "cpy313.graphlib" 540 160 (.none)),
 (160, { cls := .type "code", data := .fields #[.str "get_ready" 652, .str "TopologicalSorter.get_ready" 653, .str "/claim/cut.py" 654, .int (161) 0, .int (1) 0, .int (0) 0, .int (0) 0, .int (3) 0, .ref 155, .bool true, .int (276) 0, .ref 156, .none, .ref 157, .ref 158, .ref 159, .int (659) 0, .int (161) 0, .str "/claim/cut.py" 660] }),
 (168, Zbt (md3 18 5) "TopologicalSorter.is_active" "cpy313.graphlib" 540 167 (.none)),
 (167, { cls := .type "code", data := .fields #[.str "is_active" 662, .str "TopologicalSorter.is_active" 663, .str "/claim/cut.py" 664, .int (172) 0, .int (1) 0, .int (0) 0, .int (0) 0, .int (3) 0, .ref 162, .bool true, .int (276) 0, .ref 163, .none, .ref 164, .ref 165, .ref 166, .int (666) 0, .int (172) 0, .str "/claim/cut.py" 667] }),
 (175, Zbt (md3 18 6) "TopologicalSorter.__bool__" "cpy313.graphlib" 540 174 (.none)),
 (174, { cls := .type "code", data := .fields #[.str "__bool__" 669, .str "TopologicalSorter.__bool__" 670, .str "/claim/cut.py" 671, .int (177) 0, .int (1) 0, .int (0) 0, .int (0) 0, .int (3) 0, .ref 169, .bool true, .int (276) 0, .ref 170, .none, .ref 171, .ref 172, .ref 173, .int (673) 0, .int (177) 0, .str "/claim/cut.py" 674] }),
 (182, Zbt (md3 18 7) "TopologicalSorter.done" "cpy313.graphlib" 540 181 (.none)),
 (181, { cls := .type "code", data := .fields #[.str "done" 676, .str "TopologicalSorter.done" 677, .str "/claim/cut.py" 678, .int (180) 0, .int (1) 0, .int (0) 0, .int (0) 0, .int (7) 0, .ref 176, .bool true, .int (276) 0, .ref 177, .none, .ref 178, .ref 179, .ref 180, .int (687) 0, .int (180) 0, .str "/claim/cut.py" 688] }),
 (189, Zbt (md3 18 8) "TopologicalSorter._find_cycle" "cpy313.graphlib" 540 188 (.none)),
 (188, { cls := .type "code", data := .fields #[.str "_find_cycle" 690, .str "TopologicalSorter._find_cycle" 691, .str "/claim/cut.py" 692, .int (203) 0, .int (1) 0, .int (0) 0, .int (0) 0, .int (3) 0, .ref 183, .bool true, .int (276) 0, .ref 184, .none, .ref 185, .ref 186, .ref 187, .int (700) 0, .int (203) 0, .str "/claim/cut.py" 701] }),
 (98, Zbt (md3 16 1) "_NodeInfo.__init__" "cpy313.graphlib" 540 97 (.none)),
 (97, { cls := .type "code", data := .fields #[.str "__init__" 564, .str "_NodeInfo.__init__" 565, .str "/claim/cut.py" 566, .int (122) 0, .int (2) 0, .int (0) 0, .int (0) 0, .int (3) 0, .ref 92, .bool true, .int (276) 0, .ref 93, .none, .ref 94, .ref 95, .ref 96, .int (569) 0, .int (122) 0, .str "/claim/cut.py" 570] }),
 (102, { cls := .type "type", data := .cls { name := "_NodeInfo", bases := [.type "object"], mro := [.ref 102, .type "object"], ns := 101, qualname := "_NodeInfo", hasDict := false, slotNames := ["node", "npredecessors", "successors"], subclasses := [], abstract := false, hasDel := false }, slots := #[none, none, some (.str "_NodeInfo" 548), some (.str "_NodeInfo" 556), some (.builtin "object.__new__"), some (.bool false)] }),
 (101, { cls := .type "dict", data := .dict #[⟨PyData.keyHash P "__module__", .str "__module__" 555, .str "cpy313.graphlib" 540⟩, ⟨PyData.keyHash P "__firstlineno__", .str "__firstlineno__" 559, .int (119) 558⟩, ⟨PyData.keyHash P "__slots__", .str "__slots__" 563, .ref 91⟩, ⟨PyData.keyHash P "__init__", .str "__init__" 571, .ref 98⟩, ⟨PyData.keyHash P "__static_attributes__", .str "__static_attributes__" 575, .ref 99⟩, ⟨PyData.keyHash P "node", .str "node" 577, .ref 103⟩, ⟨PyData.keyHash P "npredecessors", .str "npredecessors" 579, .ref 104⟩, ⟨PyData.keyHash P "successors", .str "successors" 581, .ref 105⟩, ⟨PyData.keyHash P "__doc__", .str "__doc__" 582, .none⟩] 5 }),
 (103, { cls := .type "member_descriptor", data := .fields #[.str "node" 576, .ref 102, .builtin "proto.slot", .builtin "proto.slot#set", .int (2) 0] }),
 (104, { cls := .type "member_descriptor", data := .fields #[.str "npredecessors" 578, .ref 102, .builtin "proto.slot", .builtin "proto.slot#set", .int (1) 0] }),
 (105, { cls := .type "member_descriptor", data := .fields #[.str "successors" 580, .ref 102, .builtin "proto.slot", .builtin "proto.slot#set", .int (0) 0] }),
 (117, { cls := .type "type", data := .cls { name := "CycleError", bases := [.type "ValueError"], mro := [.ref 117, .type "ValueError", .type "Exception", .type "BaseException", .type "object"], ns := 116, qualname := "CycleError", hasDict := true, slotNames := [], subclasses := [], abstract := false, hasDel := false }, slots := #[some (.ref 108), none, some (.str "CycleError" 585), some (.str "CycleError" 593), some (.builtin "ValueError.__new__"), some (.bool true)] }),
 (116, { cls := .type "dict", data := .dict #[⟨PyData.keyHash P "__module__", .str "__module__" 592, .str "cpy313.graphlib" 540⟩, ⟨PyData.keyHash P "__firstlineno__", .str "__firstlineno__" 596, .int (126) 595⟩, ⟨PyData.keyHash P "__static_attributes__", .str "__static_attributes__" 597, .ref 115⟩, ⟨PyData.keyHash P "__weakref__", .str "__weakref__" 599, .ref 118⟩, ⟨PyData.keyHash P "__doc__", .str "__doc__" 600, .none⟩] 3 }),
 (199, { cls := .type "type", data := .cls { name := "TopologicalSorter", bases := [.type "object"], mro := [.ref 199, .type "object"], ns := 198, qualname := "TopologicalSorter", hasDict := true, slotNames := [], subclasses := [], abstract := false, hasDel := false }, slots := #[none, none, some (.str "TopologicalSorter" 603), some (.str "TopologicalSorter" 611), some (.builtin "object.__new__"), some (.bool true)] }),
 (198, { cls := .type "dict", data := .dict #[⟨PyData.keyHash P "__module__", .str "__module__" 610, .str "cpy313.graphlib" 540⟩, ⟨PyData.keyHash P "__firstlineno__", .str "__firstlineno__" 614, .int (128) 613⟩, ⟨PyData.keyHash P "__init__", .str "__init__" 624, .ref 135⟩, ⟨PyData.keyHash P "_get_nodeinfo", .str "_get_nodeinfo" 633, .ref 142⟩, ⟨PyData.keyHash P "add", .str "add" 645, .ref 149⟩, ⟨PyData.keyHash P "prepare", .str "prepare" 651, .ref 154⟩, ⟨PyData.keyHash P "get_ready", .str "get_ready" 661, .ref 161⟩, ⟨PyData.keyHash P "is_active", .str "is_active" 668, .ref 168⟩, ⟨PyData.keyHash P "__bool__", .str "__bool__" 675, .ref 175⟩, ⟨PyData.keyHash P "done", .str "done" 689, .ref 182⟩, ⟨PyData.keyHash P "_find_cycle", .str "_find_cycle" 702, .ref 189⟩, ⟨PyData.keyHash P "static_order", .str "static_order" 709, .ref 196⟩, ⟨PyData.keyHash P "__static_attributes__", .str "__static_attributes__" 714, .ref 197⟩, ⟨PyData.keyHash P "__dict__", .str "__dict__" 716, .ref 200⟩, ⟨PyData.keyHash P "__weakref__", .str "__weakref__" 718, .ref 201⟩, ⟨PyData.keyHash P "__doc__", .str "__doc__" 719, .none⟩] 4 }),
 (200, { cls := .type "getset_descriptor", data := .fields #[.str "__dict__" 715, .ref 199, .builtin "function.__dict__", .builtin "function.__dict__#set"] }),
 (201, { cls := .type "getset_descriptor", data := .fields #[.str "__weakref__" 717, .ref 199, .builtin "ExceptionGroup.__weakref__", .none] }),
 (50, { cls := .type "re.Pattern", data := .fields #[.str "([&~|])" 305, .int (32) 340, .int (1) 0, .none, .none, .ref 49, .int (0) 0] }),
 (49, { cls := .type "tuple", data := .seq #[.int (14) 0, .int (14) 0, .int (4) 0, .int (1) 0, .int (1) 0, .int (9) 0, .int (0) 0, .int (64) 0, .int (0) 0, .int (1342177280) 0, .int (0) 0, .int (0) 0, .int (0) 0, .int (0) 0, .int (0) 0, .int (17) 0, .int (0) 0, .int (13) 0, .int (11) 0, .int (9) 0, .int (0) 0, .int (64) 0, .int (0) 0, .int (1342177280) 0, .int (0) 0, .int (0) 0, .int (0) 0, .int (0) 0, .int (0) 0, .int (17) 0, .int (1) 0, .int (1) 0] 0 }),
 (48, { cls := .type "tuple", data := .seq #[.none, .none] 0 }),
 (47, { cls := .type "dict", data := .dict #[] 0 }),
 (46, { cls := .type "list", data := .seq #[.int (14) 307, .int (14) 308, .int (4) 309, .int (1) 310, .int (1) 311, .int (9) 312, .int (0) 313, .int (64) 314, .int (0) 315, .int (1342177280) 316, .int (0) 317, .int (0) 318, .int (0) 319, .int (0) 320, .int (0) 321, .int (17) 322, .int (0) 323, .int (13) 324, .int (11) 325, .int (9) 326, .int (0) 327, .int (64) 328, .int (0) 329, .int (1342177280) 330, .int (0) 331, .int (0) 332, .int (0) 333, .int (0) 334, .int (0) 335, .int (17) 336, .int (1) 337, .int (1) 338] 0 }),
 (128, { cls := .type "tuple", data := .seq #[.none] 0 }),
 (59, { cls := .type "dict", data := .dict #[⟨40, .int (40) 354, .str "\\(" 358⟩, ⟨41, .int (41) 360, .str "\\)" 364⟩, ⟨91, .int (91) 366, .str "\\[" 370⟩, ⟨93, .int (93) 372, .str "\\]" 376⟩, ⟨123, .int (123) 378, .str "\\{" 382⟩, ⟨125, .int (125) 384, .str "\\}" 388⟩, ⟨63, .int (63) 390, .str "\\?" 394⟩, ⟨42, .int (42) 396, .str "\\*" 400⟩, ⟨43, .int (43) 402, .str "\\+" 406⟩, ⟨45, .int (45) 408, .str "\\-" 412⟩, ⟨124, .int (124) 414, .str "\\|" 418⟩, ⟨94, .int (94) 420, .str "\\^" 424⟩, ⟨36, .int (36) 426, .str "\\$" 430⟩, ⟨92, .int (92) 432, .str "\\\\" 436⟩, ⟨46, .int (46) 438, .str "\\." 442⟩, ⟨38, .int (38) 444, .str "\\&" 448⟩, ⟨126, .int (126) 450, .str "\\~" 454⟩, ⟨35, .int (35) 456, .str "\\#" 460⟩, ⟨32, .int (32) 462, .str "\\ " 466⟩, ⟨9, .int (9) 468, .str "\\\t" 472⟩, ⟨10, .int (10) 474, .str "\\\n" 478⟩, ⟨13, .int (13) 480, .str "\\\x0d" 484⟩, ⟨11, .int (11) 486, .str "\\\x0b" 490⟩, ⟨12, .int (12) 492, .str "\\\x0c" 496⟩] 24 }),
 (4, { cls := .type "module", dict := some 0, data := .plain })]
noncomputable abbrev gl3 : List (Str × V) := [("_byteswap", .ref 45), ("_twin_re_1", .ref 50), ("translate", .ref 57), ("_special_chars_map", .ref 59), ("escape", .ref 69), ("_translate", .ref 76), ("_join_translated_parts", .ref 83), ("_NODE_OUT", .int (-1)), ("_NODE_DONE", .int (-2)),
 ("_NodeInfo", .ref 102), ("CycleError", .ref 117), ("TopologicalSorter", .ref 199), ("_law_signs", .ref 210), ("_law_ranks", .ref 217), ("_law_sign", .ref 224), ("_law_pair", .ref 229), ("_law_pairs", .ref 234), ("_law_takes", .ref 241),
 ("_law_exchanged", .ref 246), ("_law_turned", .ref 251), ("_law_greatest", .ref 256), ("law", .ref 261), ("__builtins__", .ref 4)]
noncomputable abbrev bl3 : List (Str × V) := [("bytearray", .ty "bytearray"), ("len", .bi "len"), ("range", .ty "range"), ("bytes", .ty "bytes"), ("list", .ty "list"), ("enumerate", .ty "enumerate"), ("isinstance", .bi "isinstance"), ("str", .ty "str"), ("object", .ty "object"), ("set", .ty "set"),
 ("tuple", .ty "tuple"), ("iter", .bi "iter"), ("StopIteration", .ty "StopIteration"), ("bool", .ty "bool"), ("max", .bi "max"), ("chr", .bi "chr"), ("ord", .bi "ord"), ("sum", .bi "sum"), ("int", .ty "int"), ("ValueError", .ty "ValueError")]
noncomputable def vOf : V → Value
 | .ref a => .ref a
 | .ty n => .type n
 | .bi n => .builtin n
 | .int i => .int i 0
 | _ => .none
noncomputable def Zoc : Value → Value
 | .int i _ => .int i 0
 | v => v
noncomputable def keys3 : List Addr := [45, 44, 57, 56, 69, 68, 76, 75, 83, 82, 210, 209, 217, 216, 224, 223, 229, 228, 234, 233, 241, 240, 246, 245, 251, 250, 256, 255, 261, 260, 135, 134, 142, 141, 149, 148, 154, 153, 161, 160, 168, 167, 175, 174, 182, 181, 189, 188, 98, 97, 102, 101, 103, 104, 105, 117, 116, 199, 198, 200, 201, 50, 49, 48, 47, 46, 128, 59, 4]
noncomputable def Zzw (s : Shared) := (keys3.map s.heap.get?, s.heap.get? 71, gl3.map (fun p => (s.heap.nsMap mainGlobals p.1).map Zoc), bl3.map (fun p => s.heap.nsMap mainGlobals p.1), bl3.map (fun p => (s.heap.nsMap builtinsNs p.1).map Zoc), decide (1 ≤ s.toks), (s.heap.get? sysModules).isSome)
noncomputable def Zzz (w : World) := ((K3 w.params).map (fun p => some p.2), some (tabObj #[]), gl3.map (fun p => some (vOf p.2)), bl3.map (fun _ => (none : Option Value)), bl3.map (fun p => some (vOf p.2)), true, true)
section
set_option maxHeartbeats 0
noncomputable def q3 : Program := view PySem.Challenge.pw_rx0085_03 [0,1,3,5,6,8,9,11,12,14,15,16,17,18,20,21,22,23,24,25,26,27,28,29]
noncomputable def Zqt : List Str := [Str.ofString "_twin_re_1", Str.ofString "_special_chars_map", Str.ofString "_NodeInfo"]
noncomputable def Lw (w : World) : Prop := (openEnds treeTable PySem.Challenge.pw_rx0085_03 w 5868).map (fun s => (openSeen q3 Zqt (importedModules PySem.Challenge.pw_rx0085_03.main.body) (fun _ => true) true s, Zzw s)) = some (openGood q3 Zqt, Zzz w)
theorem l00 (w : World) : Lw ((w.withFollow "special-get-raises" false).withFollow "comprehension-iter-twice" false) := by
 unfold Lw
 kernel_rfl
theorem l01 (w : World) : Lw ((w.withFollow "special-get-raises" false).withFollow "comprehension-iter-twice" true) := by
 unfold Lw
 kernel_rfl
theorem l10 (w : World) : Lw ((w.withFollow "special-get-raises" true).withFollow "comprehension-iter-twice" false) := by
 unfold Lw
 kernel_rfl
theorem l11 (w : World) : Lw ((w.withFollow "special-get-raises" true).withFollow "comprehension-iter-twice" true) := by
 unfold Lw
 kernel_rfl
theorem left3 : LeftO PySem.Challenge.pw_rx0085_03 q3 Zqt (fun _ => true) Zzw Zzz 5868 := byRow2 "comprehension-iter-twice" (P := Lw) (byRow2 "special-get-raises" (P := fun w => Lw (w.withFollow "comprehension-iter-twice" false)) l00 l10) (byRow2 "special-get-raises" (P := fun w => Lw (w.withFollow "comprehension-iter-twice" true)) l01 l11)
end
theorem well3 : PySem.Challenge.rw_rx0085_03.wellSaid = true := by kernel_rfl
theorem yy {α : Type} (ne : Nonempty α) {p : α → Prop} (h : p (@Classical.epsilon α ne fun x => ¬ p x)) : ∀ x, p x := fun x => Classical.byContradiction fun hn => (@Classical.epsilon_spec_aux α ne (fun z => ¬ p z) ⟨x, hn⟩) h
theorem nePr {A B : Type} (a : Nonempty A) (b : Nonempty B) : Nonempty (A × B) := ⟨(Classical.choice a, Classical.choice b)⟩
noncomputable def y1 {A0 : Type} (ne : Nonempty A0) (p : A0 → Prop) : A0 := @Classical.epsilon _ ne fun x => ¬ p x
theorem z1 {A0 : Type} (ne : Nonempty A0) {p : A0 → Prop} (h : p (y1 ne p)) : ∀ x0, p x0 := yy ne h
section
variable {A0 A1 : Type} (ne : Nonempty (A0 × A1)) (p : A0 → A1 → Prop)
noncomputable def y2 := @Classical.epsilon _ ne fun x => ¬ p x.1 x.2
noncomputable def y2_0 := (y2 ne p).1
noncomputable def y2_1 := (y2 ne p).2
variable {p}
theorem z2 (h : p (y2_0 ne p) (y2_1 ne p)) : ∀ x0 x1, p x0 x1 := fun x0 x1 => @yy _ ne (fun x => p x.1 x.2) h ⟨x0, x1⟩
end
section
variable {A0 A1 A2 : Type} (ne : Nonempty (A0 × A1 × A2)) (p : A0 → A1 → A2 → Prop)
noncomputable def y3 := @Classical.epsilon _ ne fun x => ¬ p x.1 x.2.1 x.2.2
noncomputable def y3_0 := (y3 ne p).1
noncomputable def y3_1 := (y3 ne p).2.1
noncomputable def y3_2 := (y3 ne p).2.2
variable {p}
theorem z3 (h : p (y3_0 ne p) (y3_1 ne p) (y3_2 ne p)) : ∀ x0 x1 x2, p x0 x1 x2 := fun x0 x1 x2 => @yy _ ne (fun x => p x.1 x.2.1 x.2.2) h ⟨x0, x1, x2⟩
end
section
variable {A0 A1 A2 A3 : Type} (ne : Nonempty (A0 × A1 × A2 × A3)) (p : A0 → A1 → A2 → A3 → Prop)
noncomputable def y4 := @Classical.epsilon _ ne fun x => ¬ p x.1 x.2.1 x.2.2.1 x.2.2.2
noncomputable def y4_0 := (y4 ne p).1
noncomputable def y4_1 := (y4 ne p).2.1
noncomputable def y4_2 := (y4 ne p).2.2.1
noncomputable def y4_3 := (y4 ne p).2.2.2
variable {p}
theorem z4 (h : p (y4_0 ne p) (y4_1 ne p) (y4_2 ne p) (y4_3 ne p)) : ∀ x0 x1 x2 x3, p x0 x1 x2 x3 := fun x0 x1 x2 x3 => @yy _ ne (fun x => p x.1 x.2.1 x.2.2.1 x.2.2.2) h ⟨x0, x1, x2, x3⟩
end
section
variable {A0 A1 A2 A3 A4 : Type} (ne : Nonempty (A0 × A1 × A2 × A3 × A4)) (p : A0 → A1 → A2 → A3 → A4 → Prop)
noncomputable def y5 := @Classical.epsilon _ ne fun x => ¬ p x.1 x.2.1 x.2.2.1 x.2.2.2.1 x.2.2.2.2
noncomputable def y5_0 := (y5 ne p).1
noncomputable def y5_1 := (y5 ne p).2.1
noncomputable def y5_2 := (y5 ne p).2.2.1
noncomputable def y5_3 := (y5 ne p).2.2.2.1
noncomputable def y5_4 := (y5 ne p).2.2.2.2
variable {p}
theorem z5 (h : p (y5_0 ne p) (y5_1 ne p) (y5_2 ne p) (y5_3 ne p) (y5_4 ne p)) : ∀ x0 x1 x2 x3 x4, p x0 x1 x2 x3 x4 := fun x0 x1 x2 x3 x4 => @yy _ ne (fun x => p x.1 x.2.1 x.2.2.1 x.2.2.2.1 x.2.2.2.2) h ⟨x0, x1, x2, x3, x4⟩
end
section
variable {A0 A1 A2 A3 A4 A5 : Type} (ne : Nonempty (A0 × A1 × A2 × A3 × A4 × A5)) (p : A0 → A1 → A2 → A3 → A4 → A5 → Prop)
noncomputable def y6 := @Classical.epsilon _ ne fun x => ¬ p x.1 x.2.1 x.2.2.1 x.2.2.2.1 x.2.2.2.2.1 x.2.2.2.2.2
noncomputable def y6_0 := (y6 ne p).1
noncomputable def y6_1 := (y6 ne p).2.1
noncomputable def y6_2 := (y6 ne p).2.2.1
noncomputable def y6_3 := (y6 ne p).2.2.2.1
noncomputable def y6_4 := (y6 ne p).2.2.2.2.1
noncomputable def y6_5 := (y6 ne p).2.2.2.2.2
variable {p}
theorem z6 (h : p (y6_0 ne p) (y6_1 ne p) (y6_2 ne p) (y6_3 ne p) (y6_4 ne p) (y6_5 ne p)) : ∀ x0 x1 x2 x3 x4 x5, p x0 x1 x2 x3 x4 x5 := fun x0 x1 x2 x3 x4 x5 => @yy _ ne (fun x => p x.1 x.2.1 x.2.2.1 x.2.2.2.1 x.2.2.2.2.1 x.2.2.2.2.2) h ⟨x0, x1, x2, x3, x4, x5⟩
end
section
variable {A0 A1 A2 A3 A4 A5 A6 : Type} (ne : Nonempty (A0 × A1 × A2 × A3 × A4 × A5 × A6)) (p : A0 → A1 → A2 → A3 → A4 → A5 → A6 → Prop)
noncomputable def y7 := @Classical.epsilon _ ne fun x => ¬ p x.1 x.2.1 x.2.2.1 x.2.2.2.1 x.2.2.2.2.1 x.2.2.2.2.2.1 x.2.2.2.2.2.2
noncomputable def y7_0 := (y7 ne p).1
noncomputable def y7_1 := (y7 ne p).2.1
noncomputable def y7_2 := (y7 ne p).2.2.1
noncomputable def y7_3 := (y7 ne p).2.2.2.1
noncomputable def y7_4 := (y7 ne p).2.2.2.2.1
noncomputable def y7_5 := (y7 ne p).2.2.2.2.2.1
noncomputable def y7_6 := (y7 ne p).2.2.2.2.2.2
variable {p}
theorem z7 (h : p (y7_0 ne p) (y7_1 ne p) (y7_2 ne p) (y7_3 ne p) (y7_4 ne p) (y7_5 ne p) (y7_6 ne p)) : ∀ x0 x1 x2 x3 x4 x5 x6, p x0 x1 x2 x3 x4 x5 x6 := fun x0 x1 x2 x3 x4 x5 x6 => @yy _ ne (fun x => p x.1 x.2.1 x.2.2.1 x.2.2.2.1 x.2.2.2.2.1 x.2.2.2.2.2.1 x.2.2.2.2.2.2) h ⟨x0, x1, x2, x3, x4, x5, x6⟩
end
section
variable {A0 A1 A2 A3 A4 A5 A6 A7 : Type} (ne : Nonempty (A0 × A1 × A2 × A3 × A4 × A5 × A6 × A7)) (p : A0 → A1 → A2 → A3 → A4 → A5 → A6 → A7 → Prop)
noncomputable def y8 := @Classical.epsilon _ ne fun x => ¬ p x.1 x.2.1 x.2.2.1 x.2.2.2.1 x.2.2.2.2.1 x.2.2.2.2.2.1 x.2.2.2.2.2.2.1 x.2.2.2.2.2.2.2
noncomputable def y8_0 := (y8 ne p).1
noncomputable def y8_1 := (y8 ne p).2.1
noncomputable def y8_2 := (y8 ne p).2.2.1
noncomputable def y8_3 := (y8 ne p).2.2.2.1
noncomputable def y8_4 := (y8 ne p).2.2.2.2.1
noncomputable def y8_5 := (y8 ne p).2.2.2.2.2.1
noncomputable def y8_6 := (y8 ne p).2.2.2.2.2.2.1
noncomputable def y8_7 := (y8 ne p).2.2.2.2.2.2.2
variable {p}
theorem z8 (h : p (y8_0 ne p) (y8_1 ne p) (y8_2 ne p) (y8_3 ne p) (y8_4 ne p) (y8_5 ne p) (y8_6 ne p) (y8_7 ne p)) : ∀ x0 x1 x2 x3 x4 x5 x6 x7, p x0 x1 x2 x3 x4 x5 x6 x7 := fun x0 x1 x2 x3 x4 x5 x6 x7 => @yy _ ne (fun x => p x.1 x.2.1 x.2.2.1 x.2.2.2.1 x.2.2.2.2.1 x.2.2.2.2.2.1 x.2.2.2.2.2.2.1 x.2.2.2.2.2.2.2) h ⟨x0, x1, x2, x3, x4, x5, x6, x7⟩
end
noncomputable def Zux : Params := { strHash := fun _ => 0, shareClass := fun _ => 0, mergeTok := id, idOf := fun _ => 0, idOfShared := fun _ _ => 0, followText := fun _ => false, idOfImm := fun _ => 0 }
noncomputable def exW : World := ⟨fun _ _ => 0, Zux⟩
theorem neM : Nonempty Model := ⟨model default exW⟩
theorem neW : Nonempty World := ⟨exW⟩
theorem neP : Nonempty Params := ⟨Zux⟩
theorem neA : Nonempty Around := ⟨callerA⟩
theorem neDr : Nonempty Drawn := ⟨{}⟩
theorem neS : Nonempty Shared := ⟨{}⟩
section
open Lean
def xnd (k : Name) (l : List Syntax) : Syntax := .node .none k l.toArray
def xa0 : Syntax := .atom .none ""
def xnu (l : List Syntax) : Syntax := xnd `null l
def xtn (k : String) (l : List Syntax) : Syntax := xnd (.mkStr `Lean.Parser.Tactic k) (xa0 :: l)
def xmn (k : String) (l : List Syntax) : Syntax := xnd (.mkStr `Lean.Parser.Term k) l
def xts (l : List Syntax) : Syntax := xnd `Lean.Parser.Tactic.tacticSeq [xnd `Lean.Parser.Tactic.tacticSeq1Indented [xnu (l.intersperse xa0)]]
def xid (s : String) : Syntax := .ident .none s.toRawSubstring s.toName []
def xap (l : List Syntax) : Syntax := match l with | [] => xa0 | [f] => f | f :: as => xmn "app" [f, xnu as]
def xwd (s : String) : Syntax := xnd s.toName [xa0]
def xby (t : Syntax) : Syntax := xmn "byTactic" [xa0, xts [t]]
def xty (s : String) : Syntax := xmn "typeAscription" [xmn "hygienicLParen" [.atom .none "(", xnd `hygieneInfo [.ident .none "".toRawSubstring .anonymous []]], xmn "hole" [.atom .none "_"], .atom .none ":", xnu [xid s], .atom .none ")"]
def xoc (l : List Syntax) : Syntax := xnd `Lean.Parser.Tactic.optConfig [xnu l]
def xrd (tab : List (String × Syntax)) (s : String) : Syntax :=
 ((s.splitOn " ").foldl (fun st w =>
  let its := fun (_ : Unit) => (st.takeWhile fun x => !x.isMissing).reverse
  let push := fun t => t :: (st.dropWhile fun x => !x.isMissing).drop 1
  match w with
  | "(" => .missing :: st
  | ")" => push (xap (its ()))
  | "R" => push (xtn "refine" [xap (its ())])
  | "|" => push (xtn "first" [xnu ((its ()).map fun t => xnd `group [xa0, xts [t]])])
  | ";" => push (xtn "paren" [xts (its ()), xa0])
  | ">" => push (xmn "anonymousCtor" [xa0, xnu ((its ()).intersperse xa0), xa0])
  | "λ" => push (xmn "fun" [xa0, xmn "basicFun" [xnu (its ()).dropLast, xnu [], xa0, (its ()).getLastD xa0]])
  | "I" => push (xtn "intro" [xnu (its ())])
  | "?" => xmn "syntheticHole" [xa0, xa0] :: st
  | "_" => xmn "hole" [xa0] :: st
  | "F1" => xty "KF" :: st
  | "F2" => xty "KV" :: st
  | "F3" => xty "KS" :: st
  | "Q" => xtn "subst" [xnu [xid "q"]] :: st
  | "li" => xtn "lia" [xoc []] :: st
  | "om" => xtn "omega" [xoc []] :: st
  | "ff" => xtn "allGoals" [xts [xtn "fail" [xnu []]]] :: st
  | "aa" => xtn "applyAssumption" [xoc (["exfalso", "symm"].map fun s => xnd `Lean.Parser.Tactic.configItem [xnd `Lean.Parser.Tactic.negConfigItem [.atom .none "-", xid s]]), xnu [], xnu [], xnu []] :: st
  | _ => if 2 < w.length then (if w.startsWith "!" then xwd (w.toRawSubstring.drop 1).toString else xid w) :: st else match st with
   | t :: s => match w with
    | "A" => xtn "apply" [t] :: s
    | "E" => xtn "exact" [t] :: s
    | "S" => xtn "show" [t] :: s
    | "G" => xtn "failIfSuccess" [xts [xtn "failIfSuccess" [xts [xtn "show" [t]]]]] :: s
    | "W" => xtn "withReducible" [xts [t]] :: s
    | "U" => xtn "withUnfoldingAll" [xts [t]] :: s
    | "*" => xtn "tacticRepeat_" [xts [t]] :: s
    | "b" => xby t :: s
    | "N" => xmn "nomatch" [xa0, xnu [t]] :: s
    | "H" => xtn "tacticHave__" [xmn "letConfig" [xnu []], xmn "letDecl" [xmn "letIdDecl" [xmn "letId" [xid "q"], xnu [], xnu [], xa0, t]]] :: s
    | "C" => xtn "cases" [xnu [xnd `Lean.Parser.Tactic.elimTarget [xnu [], t]], xnu [], xnu []] :: s
    | _ => ((tab.lookup w).getD (xid w)) :: st
   | [] => []) []).headD xa0
def xtb : List (String × Syntax) := ("k !tacticKernel_rfl b;kr !tacticKernel_rfl;a !Lean.Parser.Tactic.assumption b;as !Lean.Parser.Tactic.assumption;t !PySem.W.tacticK_qdec b;s !PySem.W.tacticK_closed b;e !PySem.W.tacticK_listUnr b;ee !PySem.W.tacticK_listUnr;m !PySem.W.tacticK_slotget b;l !PySem.W.tacticK_slotset b;p !PySem.W.tacticK_ownname b;u rfl E U b;r !Lean.Parser.Tactic.tacticRfl b;ii !Lean.Parser.Tactic.tacticInfer_instance;yn !PySem.W.tacticK_ne b;im !PySem.W.tacticK_cls;ln !PySem.W.tacticKin_val;un !PySem.W.tacticKxw_bool".splitOn ";").map fun e => ((e.splitOn " ").headD "", xrd [] ("( ".append (" ".intercalate (e.splitOn " ").tail)))
def rd (s : String) : TSyntax `tactic := ⟨xrd xtb s⟩
def rds (x : Syntax) (s : String) : TSyntax `tactic := ⟨xrd (("$", x) :: xtb) s⟩
def xz1 (ds hs : List Syntax) : List Syntax :=
 let n := ds.length
 let k := xby (xwd "PySem.W.tacticK_ne")
 let ne := (List.range (n - 1)).foldl (fun t _ => xap [xid "nePr", k, t]) k
 let h := xmn "hole" [xa0]
 let es := ds.zipIdx.map fun (d, i) => xnd `Lean.Parser.Tactic.generalizeArg [xnu [], xap [xid (if n == 1 then "y1" else s!"y{n}_{i}"), h, h], xa0, d]
 (if hs.isEmpty then [] else [xtn "revert" [xnu hs]]) ++ [xtn "revert" [xnu ds], xtn "refine" [xmn "noImplicitLambda" [xa0, xap [xid s!"z{n}", ne, xmn "syntheticHole" [xa0, xa0]]]], xtn "withReducible" [xts [xtn "generalize" [xnu (es.intersperse xa0), xnu []]]]] ++ (if hs.isEmpty then [] else [xtn "intro" [xnu hs]])
def xzt (ds hs : List Syntax) : List Syntax :=
 let w := fun (l : List Syntax) => if hs.isEmpty then l else [xtn "revert" [xnu hs]] ++ l ++ [xtn "intro" [xnu hs]]
 (List.range ((ds.length - 1) / 8)).flatMap (fun i => w (xz1 ((ds.drop (8 * i)).take 8) (ds.drop (8 * i + 8)))) ++ xz1 (ds.drop ((ds.length - 1) / 8 * 8)) hs
def xzs (k : Syntax) (ds hs : List Syntax) : List Syntax :=
 let vs := ["P", "G", "n", "R"]
 let h := xmn "hole" [xa0]
 let es := vs.map fun v => xnd `Lean.Parser.Tactic.generalizeArg [xnu [], xap [xid ("ZS." ++ v), xap [xid "y1", h, h]], xa0, xid v]
 [xtn "revert" [xnu hs], xtn "revert" [xnu ds], xtn "revert" [xnu (vs.map xid)], xtn "refine" [xmn "noImplicitLambda" [xa0, xap [xid "zs", xmn "namedArgument" [xa0, xid "k", xa0, k, xa0], xby (xtn "decide" [xoc []]), xmn "syntheticHole" [xa0, xa0]]]], xtn "withReducible" [xts [xtn "generalize" [xnu (es.intersperse xa0), xnu []]]], xtn "intro" [xnu (ds ++ hs)]] ++ xzt ds hs
def zzm (t : Syntax) (hs : List Syntax) : MacroM Syntax :=
 if t.isOfKind `Lean.Parser.Term.paren then
  let b := t[1]
  return xtn "paren" [xts (if b.isOfKind `Lean.Parser.Term.fun then xzs b[1][3] b[1][0].getArgs.toList hs else if b.isOfKind `Lean.Parser.Term.app then xzt (b[0] :: b[1].getArgs.toList) hs else xzt [b] hs), xa0]
 else Macro.throwUnsupported
end
local macro_rules | `(tactic| k_ne) => return rd "( ii neSr E neDe E neRo E neDr E neGS E neItr E neNd E neFl E neIn2 E neM E neGl E neA E neP E neW E neAO E neS E neV E neSt E neCx E ( ( _ ( Classical.choice yn ) λ > E ( nePr yn yn ) E |"
local macro_rules
 | `(tactic| injection $t with $hs*) => zzm t (hs.toList.map (·.raw))
 | `(tactic| injection $t:term) => zzm t []
local macro_rules | `(tactic| k_units) => return rd "( ( Int.natCast_nonneg _ ) E W ( Nat.le_add_left _ _ ) E W as W li om |"
section
open Sem (wp)
noncomputable def Zr0 : Code → Bool
 | .builtin id _ => Builtin.Bytes.decodersThatHold.contains id
 | _ => false
noncomputable def Zmb (l : List (Code × Pos)) : Prop := ∀ x ∈ l, Zr0 x.1 = false
noncomputable def wpP {α : Type} (M : Model) (A : Around) (t : Sem α) (Q : α → Shared → Prop) (E : Value → Shared → Prop) (s : Shared) : Prop :=
 1 ≤ s.toks → ∀ Γ p, Γ.In A → Zr0 Γ.code = false → Zmb Γ.below → wp M Γ t (fun a _ s' => Q a s') (fun e _ s' => E e s') p s
noncomputable def codeP (M : Model) (A : Around) (c : Code) (R : Result → Shared → Prop) (s : Shared) : Prop :=
 1 ≤ s.toks → ∀ Γ p, Γ.code = c → Γ.Below A → Zmb Γ.below → wpCode M Γ R p s
section
variable {α β : Type} {M : Model} {A : Around} {E : Value → Shared → Prop} {s : Shared}
theorem wpP.of {t : Sem α} {Q : α → Shared → Prop} (h : wpAny M A t Q E s) : wpP M A t Q E s := fun _ Γ p hΓ _ _ => h Γ p hΓ
theorem codeP.of {c : Code} {R : Result → Shared → Prop} (h : codeAny M A c R s) : codeP M A c R s := fun _ Γ p hc hΓ _ => h Γ p hc hΓ
theorem Zwx {t : Sem α} {Q : α → Shared → Prop} (h : 1 ≤ s.toks → wpP M A t Q E s) : wpP M A t Q E s := fun ht => h ht ht
theorem Zab {a : α} {Q : α → Shared → Prop} (h : Q a s) : wpP M A (pure a) Q E s := .of (wpAny_pure h)
theorem Zae {t : Sem α} {Q Q' : α → Shared → Prop} {E' : Value → Shared → Prop} (h : wpP M A t Q E s) (hQ : ∀ a s, Q a s → Q' a s) (hE : ∀ e s, E e s → E' e s) : wpP M A t Q' E' s :=
 fun ht Γ p hΓ b c => Sem.wp_mono M Γ t (fun a _ s => hQ a s) (fun e _ s => hE e s) p s (h ht Γ p hΓ b c)
theorem Zaa {m : Sem α} {f : α → Sem β} {Q : β → Shared → Prop} (h : wpP M A m (fun a s' => wpP M A (f a) Q E s') E s) : wpP M A (m >>= f) Q E s := fun ht Γ p hΓ b c => by
 rw [Sem.wp_bind']
 exact Sem.wp_mono M Γ m (fun a p' s' h' => h'.2 h'.1 Γ p' hΓ b c) (fun _ _ _ h' => h'.2) p s (Sem.wp_toks M Γ 1 m _ _ p s ht (h ht Γ p hΓ b c))
theorem Zac {pos : Pos} {Q : Unit → Shared → Prop} (h : Q () s) : wpP M A (standAt pos) Q E s := .of (wpAny_standAt h)
theorem Zfd {Q : Unit → Shared → Prop} (h : Q () s) : wpP M A point Q E s := .of (wpAny_point h)
theorem Zad {vs : List Value} {m : Sem α} {Q : α → Shared → Prop} (h : wpP M A m Q E s) : wpP M A (holding vs m) Q E s := fun ht Γ p hΓ b c => by rw [Sem.wp_holding]; exact h ht Γ p hΓ b c
theorem Zs5 {vs : List Value} {m : Sem α} {Q : α → Shared → Prop} (h : wpP M A m Q E s) : wpP M A (m.keep vs) Q E s := fun ht Γ p hΓ b c => by rw [Sem.wp_keep]; exact h ht Γ p hΓ b c
theorem Za4 {vs : List Value} {m : Sem Value} {Q : Value → Shared → Prop} (h : wpP M A m Q E s) : wpP M A (operate vs m) Q E s := fun ht Γ p hΓ b c => by rw [Sem.wp_operate]; exact h ht Γ p hΓ b c
theorem Zbl {env : Env} {x : Str} {v : Value} {Q : Unit → Shared → Prop} (h : wpP M A (storeName env x v) Q E s) : wpP M A (bindName env x v) Q E s := fun ht Γ p hΓ b c => by rw [Sem.wp_bindName]; exact h ht Γ p hΓ b c
theorem Zak {m : Sem α} {k : Value → Sem Unit} {Q : α → Shared → Prop} (h : wpP M A m Q (fun e s' => wpP M A (k e) (fun _ s'' => E e s'') E s') s) : wpP M A (m.onRaise k) Q E s := fun ht Γ p hΓ b c => by
 rw [Sem.wp_onRaise]
 exact Sem.wp_mono M Γ m (fun _ _ _ h' => h'.2) (fun e p' s' h' => h'.2 h'.1 Γ p' hΓ b c) p s (Sem.wp_toks M Γ 1 m _ _ p s ht (h ht Γ p hΓ b c))
theorem Zda {m : Sem α} {Q : Except Value α → Shared → Prop} (h : wpP M A m (fun a => Q (.ok a)) (fun e => Q (.error e)) s) : wpP M A m.attempt Q E s := fun ht Γ p hΓ b c => by rw [Sem.wp_attempt]; exact h ht Γ p hΓ b c
theorem Zl1 {a : Addr} {o : Obj} {Q : Obj → Shared → Prop} (ho : s.heap.get? a = some o) (h : Q o s) : wpP M A (load a) Q E s := .of (wpAny_load ho h)
theorem Zn5 {t : Sem α} {a : α} {Q : α → Shared → Prop} (ht : t = pure a) (h : Q a s) : wpP M A t Q E s := ht ▸ Zab h
theorem Zc6 {c : Code} {p : Pos} {l : List (Code × Pos)} (b : Zr0 c = false) (h : Zmb l) : Zmb ((c, p) :: l) := fun x hx => by
 rcases List.mem_cons.mp hx with e | e
 ·subst e; exact b
 ·exact h x e
theorem Zh3 {c : Code} {h : Option Value} {Q : Flow → Shared → Prop} (hc : codeP M (A.mark h) c (fun r s' => match r with | .ok f => Q f s' | .error e => E e s') s) (hnb : h ≠ some byPass := by intro x; cases x) :
  wpP M A (run c h) Q E s := fun ht Γ p hΓ b cl => by rw [Sem.wp_run]; exact hc ht _ p rfl (hΓ.enter c h p hnb) (Zc6 b cl)
theorem Zjn {c : Code} {Q : Value → Shared → Prop} (hc : codeP M A c (fun r s' => match r with | .ok (.ret v) => Q v s' | .ok _ => False | .error e => E e s') s) : wpP M A (runValue c) Q E s := fun ht Γ p hΓ b cl => by
 rw [Sem.wp_runValue]; exact hc ht _ p rfl (hΓ.enter c none p (by intro x; cases x)) (Zc6 b cl)
theorem Za0 {f : Value} {pos : List Value} {kw : List (Str × Value)} {Q : Value → Shared → Prop} (hc : codeP M A (.call f ⟨pos, kw⟩) (fun r s' => match r with | .ok (.ret v) => Q v s' | .ok _ => False | .error e => E e s') s) :
  wpP M A (call f pos kw) Q E s := Zjn hc
theorem Zao {c : Code} {R R' : Result → Shared → Prop} (h : codeP M A c R s) (hR : ∀ r s, R r s → R' r s) : codeP M A c R' s := fun ht Γ p hc hΓ cl => wpCode_mono hR (h ht Γ p hc hΓ cl)
theorem Zaf {c : Code} {R : Result → Shared → Prop} (b : Zr0 c = false)
  (h : wpP M (A.under c) (M.den c) (fun fin s' => match fin with | .done f => R (.ok f) s' | .again c' => c'.quiet = true ∧ codeP M A c' R s') (fun e s' => R (.error e) s') s) : codeP M A c R s := fun ht Γ p hc hΓ cl => by
 rw [wpCode_iff_wp, hc]
 refine Sem.wp_mono M Γ _ (fun fin p' s' h' => ?_) (fun _ _ _ h' => h'.2) p s (Sem.wp_toks M Γ 1 _ _ _ p s ht (h ht Γ p (hc ▸ hΓ.in) (hc ▸ b) cl))
 cases fin with
 | done f => exact h'.2
 | again c' => exact ⟨h'.2.1, h'.2.2 h'.1 (Γ.goto c') p' rfl (hΓ.goto c') cl⟩
theorem Zi6 {f : Code × Pos → Bool} {Q : Bool → Shared → Prop} (hg : A.guards = some []) (hf : ∀ c p, c.isGuard = false → Zr0 c = false → f (c, p) = false) (h : Q false s) :
  wpP M A (do return (← stack).any f) Q E s := fun _ Γ p hΓ b cl => by
 show Q (((Γ.code, p) :: Γ.below).any f) s
 have key : ((Γ.code, p) :: Γ.below).any f = false := by
  rw [List.any_eq_false]
  rintro ⟨c, q⟩ hm
  have hb : Zr0 c = false := (Zc6 (p := p) b cl) _ hm
  have hgd : c.isGuard = false := by
   cases e : c.isGuard with
   | false => rfl
   | true =>
    exfalso
    have : c ∈ guardsOf ((Γ.code, p) :: Γ.below) := by
     unfold guardsOf
     exact List.mem_filter.mpr ⟨List.mem_map.mpr ⟨_, hm, rfl⟩, e⟩
    rw [guardsOf_cons, hΓ.2.2.2.1 _ hg] at this
    cases this
  exact Bool.eq_false_iff.mp (hf c q hgd hb)
 rw [key]
 exact h
theorem Zjj {self : Value} {Q : Bool → Shared → Prop} (hg : A.guards = some []) (h : Q false s) : wpP M A (Builtin.Bytes.exported self) Q E s := by
 unfold Builtin.Bytes.exported
 refine Zi6 hg (fun c p hgd hb => ?_) h
 cases c with
 | builtin id args =>
  have n : ∀ x, guardIds.contains x = true → id ≠ x := fun x hx e => by subst e; rw [show guardIds.contains id = false from hgd] at hx; cases hx
  delta Builtin.Bytes.exported.match_1
  refine (dif_neg (n "bytearray.__contains__" (by decide))).trans ?_
  refine (dif_neg (n "bytearray.__mod__" (by decide))).trans ?_
  refine (dif_neg (n "bytearray.__rmod__" (by decide))).trans ?_
  refine (dif_neg (n "_struct.pack_into.held" (by decide))).trans ?_
  refine (dif_neg (n "bytearray.find.held" (by decide))).trans ?_
  obtain ⟨_ | ⟨v, l⟩, nm⟩ := args
  ·rfl
  ·exact (congrArg (_ && ·) hb).trans (Bool.and_false _)
 | _ => rfl
end
end

noncomputable abbrev Zb7 (vs : Array Value) (n : Nat) : Obj := { cls := .type "tuple", data := .seq vs n }
noncomputable def TK (h h' : Heap) : Prop := ∀ b vs n, h.get? b = some (Zb7 vs n) → h'.get? b = some (Zb7 vs n)
theorem TK.refl (h : Heap) : TK h h := fun _ _ _ e => e
theorem TK.trans {a b c : Heap} (x : TK a b) (y : TK b c) : TK a c := fun i o n e => y i o n (x i o n e)
noncomputable def GK (g g' : Array GenState) : Prop := g.size ≤ g'.size ∧ (∀ i, i < g.size → g'[i]? = g[i]?) ∧ (AllBare g → AllBare g')
theorem GK.refl (g : Array GenState) : GK g g := ⟨Nat.le_refl _, fun _ _ => rfl, id⟩
theorem GK.trans {a b c : Array GenState} (x : GK a b) (y : GK b c) : GK a c := ⟨Nat.le_trans x.1 y.1, fun i h => (y.2.1 i (Nat.lt_of_lt_of_le h x.1)).trans (x.2.1 i h), fun h => y.2.2 (x.2.2 h)⟩
structure Ob where
 P : Heap → Obj → Prop
 mono : ∀ h h' o, TK h h' → P h o → P h' o
 noTup : ∀ h o, P h o → ∀ vs n, o ≠ Zb7 vs n
set_option genInjectivity true in
inductive AO where
 | own (x : Ob)
 | list (l : List V)
 | raw (o : Obj)
 | ba (b : List Nat)
 | liter (l : Addr) (i : Nat)
 | riter (x left step : Int)
 | titer (l : List V) (i : Nat)
 | cell (v : Option V)
mutual
inductive VR (h : Heap) : V → Value → Prop
 | none : VR h .none .none
 | bool (b : Bool) : VR h (.bool b) (.bool b)
 | int (i : Int) (t : Tok) : VR h (.int i) (.int i t)
 | str (s : Str) (t : Tok) : VR h (.str s) (.str s t)
 | bytes {b : List Nat} (t : Tok) (hb : ∀ x ∈ b, x < 256) : VR h (.bytes b) (.bytes (b.map Nat.toUInt8).toArray t)
 | ty (n : String) : VR h (.ty n) (.type n)
 | bi (n : String) : VR h (.bi n) (.builtin n)
 | ref (a : Addr) : VR h (.ref a) (.ref a)
 | tup {l : List V} {a : Addr} {vs : List Value} {n : Nat} (e : h.get? a = some { cls := .type "tuple", data := .seq vs.toArray n }) (r : VRs h l vs) : VR h (.tup l) (.ref a)
inductive VRs (h : Heap) : List V → List Value → Prop
 | nil : VRs h [] []
 | cons {a : V} {v : Value} {l : List V} {vs : List Value} (x : VR h a v) (r : VRs h l vs) : VRs h (a :: l) (v :: vs)
end
theorem TK.of_ext {h h' : Heap} (k : ∀ b o, h.get? b = some o → h'.get? b = some o) : TK h h' := fun _ _ _ e => k _ _ e
theorem TK.of_same {h h' : Heap} {a : Addr} (hs : Heap.SameBut a h h') (hn : ∀ vs n, h.get? a ≠ some (Zb7 vs n)) : TK h h' := fun b vs n e => by
 by_cases hb : b = a
 ·subst hb; exact absurd e (hn vs n)
 ·exact (hs.2 b hb).trans e
theorem VR.mono {h h' : Heap} (k : TK h h') {a : V} {v : Value} (x : VR h a v) : VR h' a v :=
 VR.rec (motive_1 := fun a v _ => VR h' a v) (motive_2 := fun l vs _ => VRs h' l vs) .none .bool .int .str (fun t hb => .bytes t hb) .ty .bi .ref (fun e _ ih => .tup (k _ _ _ e) ih) .nil (fun _ _ x r => .cons x r) x
theorem VRs.nilE {h : Heap} {vs : List Value} (r : VRs h [] vs) : vs = [] := by cases r; rfl
theorem VRs.consK {h : Heap} {P : Prop} {a : V} {l : List V} {vs : List Value} (r : VRs h (a :: l) vs) (k : ∀ v ws, VR h a v → VRs h l ws → vs = v :: ws → P) : P := by cases r with | cons r rl => exact k _ _ r rl rfl
theorem VRs.mono {h h' : Heap} (k : TK h h') {a : List V} {v : List Value} (x : VRs h a v) : VRs h' a v := by
 induction a generalizing v with
 | nil => exact x.nilE ▸ .nil
 | cons a l ih => exact x.consK fun _ _ r rl e => e ▸ .cons (r.mono k) (ih rl)
theorem VRs.length {h : Heap} {l : List V} {vs : List Value} (x : VRs h l vs) : vs.length = l.length := by
 induction l generalizing vs with
 | nil => exact x.nilE ▸ rfl
 | cons a l ih => exact x.consK fun _ _ r rl e => e ▸ congrArg (· + 1) (ih rl)
theorem VRs.append {h : Heap} {l : List V} {vs : List Value} {l' : List V} {vs' : List Value} (x : VRs h l vs) (y : VRs h l' vs') : VRs h (l ++ l') (vs ++ vs') := by
 induction l generalizing vs with
 | nil => exact x.nilE ▸ y
 | cons a l ih => exact x.consK fun _ _ r rl e => e ▸ .cons r (ih rl)
theorem VRs.get {h : Heap} {l : List V} {vs : List Value} (i : Nat) {a : V} (x : VRs h l vs) (q : l[i]? = some a) : ∃ v, vs[i]? = some v ∧ VR h a v := by
 induction l generalizing vs i with
 | nil => exact nomatch q
 | cons b l ih =>
  refine x.consK fun v ws r rl e => ?_
  subst e
  cases i with
  | zero => exact ⟨v, rfl, Option.some.inj q ▸ r⟩
  | succ i => exact ih i rl q
noncomputable def ORes (h : Heap) : Option V → Option Value → Prop
 | none, none => True
 | some a, some v => VR h a v
 | _, _ => False
inductive OR (h : Heap) : AO → Obj → Prop
 | own {x : Ob} {o : Obj} (p : x.P h o) : OR h (.own x) o
 | list {l : List V} {vs : List Value} (n : Nat) (r : VRs h l vs) : OR h (.list l) { cls := .type "list", data := .seq vs.toArray n }
 | raw (o : Obj) (hn : ∀ vs n, o ≠ Zb7 vs n) : OR h (.raw o) o
 | ba {b : List Nat} (hb : ∀ x ∈ b, x < 256) : OR h (.ba b) { cls := .type "bytearray", data := .bytearray (b.map Nat.toUInt8).toArray 0 }
 | cell {a : Option V} {v : Option Value} {o : Obj} (d : o.data = .cell v) (r : ORes h a v) : OR h (.cell a) o
 | liter {l : Addr} {i : Nat} {o : Obj} (c : o.cls = .type "list_iterator") (d : o.data = .fields #[.ref l, .int i 0]) : OR h (.liter l i) o
 | riter (x left step : Int) : OR h (.riter x left step) { cls := .type "range_iterator", data := .fields #[rawInt x, rawInt left, rawInt step] }
 | titer {l : List V} {i : Nat} {o : Obj} {t : Addr} {vs : List Value} {n : Nat} (c : o.cls = .type "tuple_iterator") (d : o.data = .fields #[.ref t, .int i 0]) (e : h.get? t = some (Zb7 vs.toArray n)) (r : VRs h l vs) : OR h (.titer l i) o
theorem OR.mono {h h' : Heap} (k : TK h h') {a : AO} {o : Obj} (x : OR h a o) : OR h' a o := by
 cases x with
 | own p => exact .own (Ob.mono _ _ _ _ k p)
 | list n r => exact .list n (r.mono k)
 | raw o hn => exact .raw o hn
 | ba hb => exact .ba hb
 | cell d r =>
  rename_i a v
  refine .cell d ?_
  cases a <;> cases v <;> first | trivial | exact VR.mono k r | exact r
 | liter c d => exact .liter c d
 | riter a b c => exact .riter a b c
 | titer c d e r => exact .titer c d (k _ _ _ e) (r.mono k)
theorem OR.noTup {h : Heap} {a : AO} {o : Obj} (x : OR h a o) : ∀ vs n, o ≠ Zb7 vs n := by
 cases x with
 | own p => exact Ob.noTup _ _ _ p
 | list n r => intro vs k e; simp [Zb7] at e
 | raw o hn => exact hn
 | ba hb => intro vs k e; simp [Zb7] at e
 | cell d r => rintro vs k rfl; simp at d
 | liter c d => rintro vs k rfl; simp at c
 | riter a b c => intro vs k e; simp [Zb7] at e
 | titer c d _ _ => rintro vs k rfl; simp at c
section
variable {h : Heap} {P : Prop}
theorem VR.noneE {v : Value} (r : VR h .none v) : v = .none := by cases r; rfl
theorem VR.boolE {b : Bool} {v : Value} (r : VR h (.bool b) v) : v = .bool b := by cases r; rfl
theorem VR.tyE {n : String} {v : Value} (r : VR h (.ty n) v) : v = .type n := by cases r; rfl
theorem VR.biE {n : String} {v : Value} (r : VR h (.bi n) v) : v = .builtin n := by cases r; rfl
theorem VR.refE {a : Addr} {v : Value} (r : VR h (.ref a) v) : v = .ref a := by cases r; rfl
theorem VR.intK {i : Int} {v : Value} (r : VR h (.int i) v) (k : ∀ t, v = .int i t → P) : P := by cases r; exact k _ rfl
theorem VR.strK {x : Str} {v : Value} (r : VR h (.str x) v) (k : ∀ t, v = .str x t → P) : P := by cases r; exact k _ rfl
theorem VR.bytesK {b : List Nat} {v : Value} (r : VR h (.bytes b) v) (k : ∀ t, (∀ x ∈ b, x < 256) → v = .bytes (b.map Nat.toUInt8).toArray t → P) : P := by cases r with | bytes t hb => exact k t hb rfl
theorem VR.tupK {l : List V} {v : Value} (r : VR h (.tup l) v) (k : ∀ a vs n, h.get? a = some { cls := .type "tuple", data := .seq vs.toArray n } → VRs h l vs → v = .ref a → P) : P := by cases r with | tup e r => exact k _ _ _ e r rfl
theorem OR.ownE {x : Ob} {o : Obj} (r : OR h (.own x) o) : x.P h o := by cases r; assumption
theorem OR.literE {l : Addr} {i : Nat} {o : Obj} (r : OR h (.liter l i) o) : o.cls = .type "list_iterator" ∧ o.data = .fields #[.ref l, .int i 0] := by cases r with | liter c d => exact ⟨c, d⟩
theorem OR.listK {l : List V} {o : Obj} (r : OR h (.list l) o) (k : ∀ vs n, VRs h l vs → o = { cls := .type "list", data := .seq vs.toArray n } → P) : P := by cases r with | list n r => exact k _ n r rfl
theorem OR.titerK {l : List V} {i : Nat} {o : Obj} (r : OR h (.titer l i) o) (k : ∀ t vs n, o.cls = .type "tuple_iterator" → o.data = .fields #[.ref t, .int i 0] → h.get? t = some (Zb7 vs.toArray n) → VRs h l vs → P) : P := by cases r with | titer c d e r => exact k _ _ _ c d e r
theorem OR.baK {b : List Nat} {o : Obj} (r : OR h (.ba b) o) (k : (∀ x ∈ b, x < 256) → o = { cls := .type "bytearray", data := .bytearray (b.map Nat.toUInt8).toArray 0 } → P) : P := by cases r with | ba hb => exact k hb rfl
theorem OR.cellK {a : Option V} {o : Obj} (r : OR h (.cell a) o) (k : ∀ v, o.data = .cell v → ORes h a v → P) : P := by cases r with | cell d r => exact k _ d r
end
local macro_rules | `(tactic| o_facts $h:ident) => return rds h "( ( ( VR.refE $ ) H Q ; ( ( VR.biE $ ) H Q ; ( ( VRs.nilE $ ) H Q ; ( ( VR.strK $ ( _ q ? λ R Q ; ( ( VR.intK $ ( _ q ? λ R Q ; ( ( VR.tyE $ ) H Q ; ( ( VR.boolE $ ) H Q ; ( ( VR.noneE $ ) H Q ; $ C |"
structure Gl where
 prog : Program
 w : World
 K : Frag
 mg : Str → Option Value
 mb : Str → Option Value
structure Gl.Ok (G : Gl) (fz : Addr → Option Obj) : Prop where
 sub : ∀ a o, G.K.lookup a = some o → fz a = some o
 top : ∀ h : Heap, (∀ b o, fz b = some o → h.get? b = some o) → h.Ns mainGlobals G.mg ∧ h.Ns builtinsNs G.mb ∧ h.NoLimit
 sm : ∃ o, fz sysModules = some o
structure Good (A : Around) (n : Nat) : Prop where
 d : A.depth + n < recursionLimit
 u : A.units + 20 * n < cLine
 h : A.handled = none
 f : ∃ l, A.frames = some l
 g : A.guards = some []
structure Cx where
 G : Gl
 A : Around
 env : Env
 fz : Addr → Option Obj
 gens : Array GenState
 drawn : Drawn
 os : OsState
 E : Value → Shared → Prop
 ok : G.Ok fz
 eg : env.globals = mainGlobals
 eb : env.builtins = builtinsNs
structure St where
 loc : List (Str × Option V)
 obs : List (Addr × AO)
structure Holds (C : Cx) (σ : St) (s : Shared) : Prop where
 frz : ∀ b o, C.fz b = some o → s.heap.get? b = some o
 loc : ∃ m, s.heap.Ns C.env.locals m ∧ ∀ x v, (x, some v) ∈ σ.loc → ∃ val, m x = some val ∧ VR s.heap v val
 obs : ∀ p ∈ σ.obs, ∃ O, s.heap.get? p.1 = some O ∧ OR s.heap p.2 O
 nd : (C.env.locals :: σ.obs.map (·.1)).Nodup
 ap : ∀ a ∈ C.env.locals :: σ.obs.map (·.1), C.fz a = none
 nn : (σ.loc.map (·.1)).Nodup
 gens : GK C.gens s.gens
 drawn : s.drawn = C.drawn
 os : s.os = C.os
noncomputable def Zo4 : Obj := { cls := .none, data := .dict #[] 0 }
noncomputable def exGl : Gl := ⟨default, exW, [], fun _ => none, fun _ => none⟩
noncomputable def Zz1 : Addr → Option Obj := fun _ => some Zo4
theorem exNs {h : Heap} (k : ∀ b o, Zz1 b = some o → h.get? b = some o) (a : Addr) : h.Ns a fun _ => none := ⟨Zo4, #[], 0, k a _ rfl, rfl, fun e he => by simp at he, fun _ => rfl⟩
theorem exOk : exGl.Ok Zz1 := ⟨fun a o e => by simp [exGl] at e, fun h k => ⟨exNs k _, exNs k _, ⟨fun _ => none, exNs k _, rfl⟩⟩, ⟨Zo4, rfl⟩⟩
theorem neV : Nonempty V := ⟨.none⟩
theorem neAO : Nonempty AO := ⟨.cell none⟩
theorem neSt : Nonempty St := ⟨⟨[], []⟩⟩
theorem neGl : Nonempty Gl := ⟨exGl⟩
theorem neCx : Nonempty Cx := ⟨⟨exGl, callerA, { (default : Env) with globals := mainGlobals, builtins := builtinsNs }, Zz1, #[], {}, {}, fun _ _ => True, exOk, rfl, rfl⟩⟩
section
variable {C : Cx} {α β : Type}
noncomputable def Pst (C : Cx) (R : Heap → β → α → Prop) (K : β → St → Prop) (s : Shared) : α → Shared → Prop := fun v s' =>
 ∃ a σ', K a σ' ∧ R s'.heap a v ∧ Holds C σ' s' ∧ TK s.heap s'.heap
noncomputable def W (C : Cx) (R : Heap → β → α → Prop) (t : Sem α) (σ : St) (K : β → St → Prop) : Prop :=
 ∀ s, Holds C σ s → wpP (model C.G.prog C.G.w) C.A t (Pst C R K s) C.E s
noncomputable abbrev EV (C : Cx) (t : Sem Value) (σ : St) (K : V → St → Prop) : Prop := W C VR t σ K
noncomputable abbrev BV (C : Cx) (t : Sem Bool) (σ : St) (K : Bool → St → Prop) : Prop := W C (fun _ (b : Bool) v => v = b) t σ K
noncomputable abbrev UV (C : Cx) (t : Sem Unit) (σ : St) (K : St → Prop) : Prop := W C (fun _ (_ : Unit) _ => True) t σ (fun _ σ => K σ)
noncomputable abbrev LV (C : Cx) (t : Sem (List Value)) (σ : St) (K : List V → St → Prop) : Prop := W C VRs t σ K
inductive Fl where
 | next | brk | cont | ret (v : V)
theorem neFl : Nonempty Fl := ⟨.next⟩
inductive FlR (h : Heap) : Fl → Flow → Prop
 | next : FlR h .next .next
 | brk : FlR h .brk .brk
 | cont : FlR h .cont .cont
 | ret {a : V} {v : Value} (r : VR h a v) : FlR h (.ret a) (.ret v)
noncomputable abbrev XV (C : Cx) (t : Sem Flow) (σ : St) (K : Fl → St → Prop) : Prop := W C FlR t σ K
noncomputable def OP1 (C : Cx) (R : Heap → β → α → Prop) (f : Value → Sem α) (a : V) (σ : St) (K : β → St → Prop) : Prop :=
 ∀ s v, Holds C σ s → VR s.heap a v → wpP (model C.G.prog C.G.w) C.A (f v) (Pst C R K s) C.E s
noncomputable def OP2 (C : Cx) (R : Heap → β → α → Prop) (f : Value → Value → Sem α) (a b : V) (σ : St) (K : β → St → Prop) : Prop :=
 ∀ s v u, Holds C σ s → VR s.heap a v → VR s.heap b u → wpP (model C.G.prog C.G.w) C.A (f v u) (Pst C R K s) C.E s
noncomputable def OP3 (C : Cx) (R : Heap → β → α → Prop) (f : Value → Value → Value → Sem α) (a b c : V) (σ : St) (K : β → St → Prop) : Prop :=
 ∀ s v u x, Holds C σ s → VR s.heap a v → VR s.heap b u → VR s.heap c x → wpP (model C.G.prog C.G.w) C.A (f v u x) (Pst C R K s) C.E s
noncomputable def OPL (C : Cx) (R : Heap → β → α → Prop) (f : List Value → Sem α) (l : List V) (σ : St) (K : β → St → Prop) : Prop :=
 ∀ s vs, Holds C σ s → VRs s.heap l vs → wpP (model C.G.prog C.G.w) C.A (f vs) (Pst C R K s) C.E s
theorem Zba {M : Model} {A : Around} {t : Sem α} {R : Heap → β → α → Prop} {K : β → St → Prop} {s₀ s : Shared} {Q : α → Shared → Prop} {E E' : Value → Shared → Prop} (hE : ∀ e s, ¬ E e s) (h : wpP M A t (Pst C R K s₀) E s) (k : ∀ v s' a σ', K a σ' → R s'.heap a v → Holds C σ' s' → TK s₀.heap s'.heap → Q v s') : wpP M A t Q E' s :=
 Zae h (fun v s' z => z.elim fun a z => z.elim fun σ' z => k v s' a σ' z.1 z.2.1 z.2.2.1 z.2.2.2) fun _ _ e => absurd e (hE _ _)
theorem Zat {M : Model} {A : Around} {t : Sem α} {R : Heap → β → α → Prop} {K : β → St → Prop} {s₀ s : Shared} {Q : α → Shared → Prop} {E : Value → Shared → Prop} (h : wpP M A t (Pst C R K s₀) E s) (k : ∀ v s' a σ', K a σ' → R s'.heap a v → Holds C σ' s' → TK s₀.heap s'.heap → Q v s') : wpP M A t Q E s :=
 Zae h (fun v s' z => z.elim fun a z => z.elim fun σ' z => k v s' a σ' z.1 z.2.1 z.2.2.1 z.2.2.2) fun _ _ e => e
theorem Pst.tk {R : Heap → β → α → Prop} {K : β → St → Prop} {s s₁ : Shared} (k : TK s.heap s₁.heap) {v : α} {s' : Shared} (h : Pst C R K s₁ v s') : Pst C R K s v s' := by
 obtain ⟨a, σ', x, y, z, u⟩ := h
 exact ⟨a, σ', x, y, z, k.trans u⟩
theorem W.step {R : Heap → β → α → Prop} {t : Sem α} {σ : St} {K : β → St → Prop} (h : W C R t σ K) {s : Shared} (H : Holds C σ s) {Q : α → Shared → Prop}
  (k : ∀ a σ' v s', K a σ' → R s'.heap a v → Holds C σ' s' → TK s.heap s'.heap → Q v s') : wpP (model C.G.prog C.G.w) C.A t Q C.E s :=
 Zat (h s H) (fun v s' a σ' x y z u => k a σ' v s' x y z u)
theorem W.mono {R : Heap → β → α → Prop} {t : Sem α} {σ : St} {K K' : β → St → Prop} (h : W C R t σ K) (k : ∀ a σ', K a σ' → K' a σ') : W C R t σ K' :=
 fun s H => h.step H fun a σ' _ _ x y z u => ⟨a, σ', k a σ' x, y, z, u⟩
theorem Pst.here {R : Heap → β → α → Prop} {K : β → St → Prop} {s : Shared} {σ : St} {a : β} {v : α} (H : Holds C σ s) (r : R s.heap a v) (k : K a σ) : Pst C R K s v s := ⟨a, σ, k, r, H, TK.refl _⟩
theorem Holds.toks {σ : St} {s : Shared} (H : Holds C σ s) (n : Nat) : Holds C σ { s with toks := n } := ⟨H.frz, H.loc, H.obs, H.nd, H.ap, H.nn, H.gens, H.drawn, H.os⟩
theorem Pst.hereT {R : Heap → β → α → Prop} {K : β → St → Prop} {s : Shared} {σ : St} {a : β} {v : α} {n : Nat} (H : Holds C σ s) (r : R s.heap a v) (k : K a σ) : Pst C R K s v { s with toks := n } := ⟨a, σ, k, r, H.toks n, TK.refl _⟩
inductive Lk (x : Str) (v : V) : List (Str × Option V) → Prop
 | head {l : List (Str × Option V)} : Lk x v ((x, some v) :: l)
 | tail {y : Str × Option V} {l : List (Str × Option V)} (h : Lk x v l) : Lk x v (y :: l)
theorem Lk.mem {x : Str} {v : V} {l : List (Str × Option V)} (h : Lk x v l) : (x, some v) ∈ l := by
 induction h with
 | head => exact .head _
 | tail _ ih => exact .tail _ ih
inductive Up (x : Str) (v : Option V) : List (Str × Option V) → List (Str × Option V) → Prop
 | head {o : Option V} {l : List (Str × Option V)} : Up x v ((x, o) :: l) ((x, v) :: l)
 | tail {y : Str × Option V} {l l' : List (Str × Option V)} (h : Up x v l l') : Up x v (y :: l) (y :: l')
theorem Up.names {x : Str} {v : Option V} {l l' : List (Str × Option V)} (h : Up x v l l') : l'.map (·.1) = l.map (·.1) := by
 induction h with
 | head => rfl
 | tail _ ih => exact congrArg (_ :: ·) ih
theorem Up.here {x : Str} {v : Option V} {l l' : List (Str × Option V)} (h : Up x v l l') : x ∈ l'.map (·.1) := by
 induction h with
 | head => exact .head _
 | tail _ ih => exact .tail _ ih
theorem Up.mem {x : Str} {v : Option V} {l l' : List (Str × Option V)} (h : Up x v l l') (nd : (l.map (·.1)).Nodup) (y : Str) (u : Option V) (hm : (y, u) ∈ l') : (y = x ∧ u = v) ∨ (y ≠ x ∧ (y, u) ∈ l) := by
 induction h with
 | head =>
  rcases List.mem_cons.mp hm with e | e
  ·cases e; exact .inl ⟨rfl, rfl⟩
  ·exact .inr ⟨fun q => (List.nodup_cons.mp nd).1 (List.mem_map.mpr ⟨_, e, q⟩), .tail _ e⟩
 | tail h ih =>
  rcases List.mem_cons.mp hm with e | e
  ·cases e
   exact .inr ⟨fun q => (List.nodup_cons.mp nd).1 (h.names ▸ (q : _ = x) ▸ h.here), .head _⟩
  ·exact (ih (List.nodup_cons.mp nd).2 e).imp id fun q => ⟨q.1, .tail _ q.2⟩
end
section
variable {C : Cx} {σ : St} {α β : Type}
theorem Cx.glo (C : Cx) {s : Shared} (H : Holds C σ s) : s.heap.Ns C.env.globals C.G.mg := C.eg ▸ (C.ok.top _ H.frz).1
theorem Cx.blt (C : Cx) {s : Shared} (H : Holds C σ s) : s.heap.Ns C.env.builtins C.G.mb := C.eb ▸ (C.ok.top _ H.frz).2.1
theorem Zlw {x : Str} {v : V} {K : V → St → Prop} (hk : C.env.scope.kind = .function) (hl : C.env.kindOf x = some .local) (h : Lk x v σ.loc) (k : K v σ) :
  EV C (loadName C.env x) σ K := fun s H => by
 refine Zal (H.loc) fun m hn hm => ?_
 obtain ⟨val, e, r⟩ := hm x v h.mem
 exact .of (wpAny_loadName_local hk hl hn e (Pst.here H r k))
theorem Zou {x : Str} {pos : Pos} {env : Env} {K : V → St → Prop} (h : EV C (loadName env x) σ K) (hd : (x == ("__debug__" : Str)) = false := by decide) : EV C (eval (.Name x pos) env) σ K := fun s H => by
 rw [eval_Name env x pos hd]
 exact Zaa (Zac (h s H))
theorem Zq7 {x : Str} {pos : Pos} {v : V} {K : V → St → Prop} (hk : C.env.scope.kind = .function) (hl : C.env.kindOf x = some .local) (h : Lk x v σ.loc) (k : K v σ)
  (hd : (x == ("__debug__" : Str)) = false := by decide) : EV C (eval (.Name x pos) C.env) σ K := Zou (Zlw hk hl h k) hd
theorem Zwp {x : Str} {pos : Pos} {v : V} {val : Value} {K : V → St → Prop} (hk : C.env.scope.kind = .function) (hx : C.env.kindOf x = some .globalImplicit) (hv : C.G.mg x = some val)
  (r : ∀ h, VR h v val) (k : K v σ) (hd : (x == ("__debug__" : Str)) = false := by decide) : EV C (eval (.Name x pos) C.env) σ K := fun s H =>
 .of (Name_function_global hk hx (loadGlobal_global (C.glo H) hv (Pst.here H (r _) k)) hd)
theorem Zzo {x : Str} {pos : Pos} {v : V} {val : Value} {K : V → St → Prop} (hk : C.env.scope.kind = .function) (hx : C.env.kindOf x = some .globalImplicit) (hm : C.G.mg x = none) (hv : C.G.mb x = some val)
  (r : ∀ h, VR h v val) (k : K v σ) (hd : (x == ("__debug__" : Str)) = false := by decide) : EV C (eval (.Name x pos) C.env) σ K := fun s H =>
 .of (Name_function_global hk hx (loadGlobal_builtin (C.glo H) hm (C.blt H) hv (Pst.here H (r _) k)) hd)
theorem Zyd {i : Int} {k : Nat} {pos : Pos} {env : Env} {K : V → St → Prop} (h : K (.int i) σ) : EV C (eval (.Constant (.int i) k pos) env) σ K := fun s H =>
 .of (wpAny_Constant_int (Pst.hereT H (.int i _) h))
theorem Zzf {x : Str} {k : Nat} {pos : Pos} {env : Env} {K : V → St → Prop} (h : K (.str x) σ) : EV C (eval (.Constant (.str x) k pos) env) σ K := fun s H =>
 .of (wpAny_Constant_str (Pst.hereT H (.str x _) h))
theorem Zuu {k : Nat} {pos : Pos} {env : Env} {K : V → St → Prop} (h : K .none σ) : EV C (eval (.Constant .none k pos) env) σ K := fun s H =>
 .of (wpAny_Constant_none (Pst.here H .none h))
theorem Zvo {b : Bool} {k : Nat} {pos : Pos} {env : Env} {K : V → St → Prop} (h : K (.bool b) σ) : EV C (eval (.Constant (.bool b) k pos) env) σ K := fun s H =>
 .of (wpAny_Constant_bool (Pst.here H (.bool b) h))
theorem Zyy (b : List UInt8) : ((b.map UInt8.toNat).map Nat.toUInt8) = b := by
 rw [List.map_map]
 conv => rhs; rw [← List.map_id b]
 apply List.map_congr_left
 intro x _
 simp
theorem VR.ofBytes {h : Heap} (b : List UInt8) (t : Tok) : VR h (.bytes (b.map UInt8.toNat)) (.bytes b.toArray t) := by
 have := VR.bytes (h := h) (b := b.map UInt8.toNat) t (fun x hx => by obtain ⟨y, _, rfl⟩ := List.mem_map.mp hx; exact y.toNat_lt)
 rwa [Zyy] at this
theorem Zsh {b : List UInt8} {k : Nat} {pos : Pos} {env : Env} {K : V → St → Prop} (h : K (.bytes (b.map UInt8.toNat)) σ) : EV C (eval (.Constant (.bytes b) k pos) env) σ K := fun s H =>
 (fun _ _ _ _ _ _ => Pst.hereT H (VR.ofBytes b _) h)
theorem Zs7 {l r : Expr} {op : Operator} {pos : Pos} {env : Env} {K : V → St → Prop} (h : EV C (eval l env) σ fun a σ₁ => EV C (eval r env) σ₁ fun b σ₂ => OP2 C VR (binaryOp op) a b σ₂ K) :
  EV C (eval (.BinOp l op r pos) env) σ K := fun s H => by
 rw [arm_eval_BinOp]
 exact Zaa (h.step H fun a σ₁ va s₁ h₁ ra H₁ k₁ => Zaa (Zad (h₁.step H₁ fun b σ₂ vb s₂ h₂ rb H₂ k₂ => Zaa (Zac (Za4
  (Zae (h₂ s₂ va vb H₂ (ra.mono k₂) rb) (fun _ _ p => p.tk (k₁.trans k₂)) fun _ _ e => e))))))
theorem Zzp {l r : Expr} {op : CmpOp} {pos : Pos} {env : Env} {K : V → St → Prop} (h : EV C (eval l env) σ fun a σ₁ => EV C (eval r env) σ₁ fun b σ₂ => OP2 C VR (compareOp op) a b σ₂ K)
  (hm : behindInMarks op r = false := by with_unfolding_all rfl) : EV C (eval (.Compare l [op] [r] pos) env) σ K := fun s H => by
 rw [eval_Compare1, markedBehindIn_of_false hm]
 exact Zaa (h.step H fun a σ₁ va s₁ h₁ ra H₁ k₁ => Zaa (Zad (h₁.step H₁ fun b σ₂ vb s₂ h₂ rb H₂ k₂ => Zaa (Zac (Za4
  (Zae (h₂ s₂ va vb H₂ (ra.mono k₂) rb) (fun _ _ p => p.tk (k₁.trans k₂)) fun _ _ e => e))))))
theorem Zyg {v sl : Expr} {pos : Pos} {env : Env} {K : V → St → Prop} (h : EV C (eval v env) σ fun a σ₁ => EV C (eval sl env) σ₁ fun b σ₂ => OP2 C VR (subscriptTail v sl) a b σ₂ K) :
  EV C (eval (.Subscript v sl pos) env) σ K := fun s H => by
 rw [eval_Subscript]
 exact Zaa (h.step H fun a σ₁ va s₁ h₁ ra H₁ k₁ => Zaa (Zad (h₁.step H₁ fun b σ₂ vb s₂ h₂ rb H₂ k₂ => Zaa (Zac
  (Zae (h₂ s₂ va vb H₂ (ra.mono k₂) rb) (fun _ _ p => p.tk (k₁.trans k₂)) fun _ _ e => e)))))
theorem Zrx {op : UnaryOp} {x : Expr} {pos : Pos} {env : Env} {K : V → St → Prop} (h : EV C (eval x env) σ fun a σ₁ => OP1 C VR (unaryOp op) a σ₁ K) :
  EV C (eval (.UnaryOp op x pos) env) σ K := fun s H => by
 rw [arm_eval_UnaryOp]
 exact Zaa (h.step H fun a σ₁ va s₁ h₁ ra H₁ k₁ => Zaa (Zac (Zad (Zae (h₁ s₁ va H₁ ra) (fun _ _ p => p.tk k₁) fun _ _ e => e))))
noncomputable abbrev TR (C : Cx) (a : V) (σ : St) (K : Bool → St → Prop) : Prop := OP1 C (fun _ (b : Bool) v => v = b) truthy a σ K
theorem Zdf {e : Expr} {env : Env} {t : Sem Value} {K : Bool → St → Prop} (h : EV C t σ fun a σ₁ => TR C a σ₁ K)
  (he : isTrue e env t = (do let v ← t; standAt e.pos; holding [v] (truthy v)) := by rfl) : BV C (isTrue e env t) σ K := fun s H => by
 rw [he]
 exact Zaa (h.step H fun a σ₁ va s₁ h₁ ra H₁ k₁ => Zaa (Zac (Zad (Zae (h₁ s₁ va H₁ ra) (fun _ _ p => p.tk k₁) fun _ _ e => e))))
theorem Zx1 {l r : Expr} {op : CmpOp} {pos : Pos} {env : Env} {t : Sem Value} {K : Bool → St → Prop}
  (h : EV C (eval l env) σ fun a σ₁ => EV C (eval r env) σ₁ fun b σ₂ => OP2 C VR (compareOp op) a b σ₂ fun c σ₃ => TR C c σ₃ K)
  (hm : behindInMarks op r = false := by with_unfolding_all rfl) : BV C (isTrue (.Compare l [op] [r] pos) env t) σ K := fun s H => by
 rw [isTrue_Compare1, markedBehindIn_of_false hm]
 exact Zaa (h.step H fun a σ₁ va s₁ h₁ ra H₁ k₁ => Zaa (Zad (h₁.step H₁ fun b σ₂ vb s₂ h₂ rb H₂ k₂ => Zaa (Zac (Zaa (Za4
  (Zat (h₂ s₂ va vb H₂ (ra.mono k₂) rb) (fun c s₃ cv σ₃ h₃ rc H₃ k₃ => Zad (Zae (h₃ s₃ c H₃ rc) (fun _ _ p => p.tk ((k₁.trans k₂).trans k₃)) fun _ _ e => e)))))))))
theorem Zy7 {x : Expr} {pos : Pos} {env : Env} {t : Sem Value} {K : Bool → St → Prop} (h : BV C (isTrue x env (eval x env)) σ fun b σ₁ => K (!b) σ₁) :
  BV C (isTrue (.UnaryOp .Not x pos) env t) σ K := fun s H => by
 rw [arm_isTrue_UnaryOp]
 exact Zaa (h.step H fun b σ₁ v s₁ k r H₁ k₁ => Zab ⟨!b, σ₁, k, by rw [r], H₁, k₁⟩)
theorem Zul {op : BoolOp} {vs : List Expr} {pos : Pos} {env : Env} {t : Sem Value} {K : Bool → St → Prop} (h : BV C (allTrue op vs env) σ K) : BV C (isTrue (.BoolOp op vs pos) env t) σ K := fun s H => by
 rw [arm_isTrue_BoolOp]; exact h s H
theorem Zmq {env : Env} {K : Bool → St → Prop} (h : K true σ) : BV C (allTrue .And [] env) σ K := fun s H => .of (wpAny_allTrue_And_nil (Pst.here H rfl h))
theorem Zqw {env : Env} {K : Bool → St → Prop} (h : K false σ) : BV C (allTrue .Or [] env) σ K := fun s H => .of (wpAny_allTrue_Or_nil (Pst.here H rfl h))
theorem Zx5 {x : Expr} {rest : List Expr} {env : Env} {K : Bool → St → Prop}
  (h : BV C (isTrue x env (eval x env)) σ fun b σ₁ => (b = true → BV C (allTrue .And rest env) σ₁ K) ∧ (b = false → K false σ₁)) : BV C (allTrue .And (x :: rest) env) σ K := fun s H => by
 show wpP _ _ (do match BoolOp.And, ← isTrue x env (eval x env) with | .And, false => pure false | .Or, true => pure true | _, _ => allTrue .And rest env) _ _ _
 exact Zaa (h.step H fun b σ₁ v s₁ k r H₁ k₁ => by
  subst r
  cases v with
  | true => exact Zae (k.1 rfl s₁ H₁) (fun _ _ p => p.tk k₁) fun _ _ e => e
  | false => exact Zab ⟨false, σ₁, k.2 rfl, rfl, H₁, k₁⟩)
theorem bv_or {x : Expr} {rest : List Expr} {env : Env} {K : Bool → St → Prop}
  (h : BV C (isTrue x env (eval x env)) σ fun b σ₁ => (b = false → BV C (allTrue .Or rest env) σ₁ K) ∧ (b = true → K true σ₁)) : BV C (allTrue .Or (x :: rest) env) σ K := fun s H => by
 show wpP _ _ (do match BoolOp.Or, ← isTrue x env (eval x env) with | .And, false => pure false | .Or, true => pure true | _, _ => allTrue .Or rest env) _ _ _
 exact Zaa (h.step H fun b σ₁ v s₁ k r H₁ k₁ => by
  subst r
  cases v with
  | false => exact Zae (k.1 rfl s₁ H₁) (fun _ _ p => p.tk k₁) fun _ _ e => e
  | true => exact Zab ⟨true, σ₁, k.2 rfl, rfl, H₁, k₁⟩)
theorem Zrd {test body orelse : Expr} {pos : Pos} {env : Env} {K : V → St → Prop}
  (h : BV C (isTrue test env (eval test env)) σ fun b σ₁ => (b = true → EV C (eval body env) σ₁ K) ∧ (b = false → EV C (eval orelse env) σ₁ K)) : EV C (eval (.IfExp test body orelse pos) env) σ K := fun s H => by
 rw [arm_eval_IfExp]
 exact Zaa (h.step H fun b σ₁ v s₁ k r H₁ k₁ => by
  subst r
  cases v with
  | true => exact Zae (k.1 rfl s₁ H₁) (fun _ _ p => p.tk k₁) fun _ _ e => e
  | false => exact Zae (k.2 rfl s₁ H₁) (fun _ _ p => p.tk k₁) fun _ _ e => e)
theorem Zto {pos : Pos} {env : Env} {K : List V → St → Prop} (h : K [] σ) : LV C (spliced (backTo pos (starEach [] env))) σ K := fun s H => .of (args_nil (Pst.here H .nil h))
theorem Zvq {e : Expr} {rest : List Expr} {pos : Pos} {env : Env} {K : List V → St → Prop}
  (h : EV C (eval e env) σ fun a σ₁ => LV C (spliced (backTo pos (starEach rest env))) σ₁ fun l σ₂ => K (a :: l) σ₂)
  (he : starEach (e :: rest) env = (false, eval e env) :: starEach rest env := by rfl) : LV C (spliced (backTo pos (starEach (e :: rest) env))) σ K := fun s H => by
 rw [he]
 show wpP _ _ (do
  let v ← eval e env
  let here ← (pure [v] : Sem (List Value))
  return here ++ (← holding here (spliced (backTo pos (starEach rest env))))) _ _ _
 exact Zaa (h.step H fun a σ₁ va s₁ h₁ ra H₁ k₁ => Zaa (Zab (Zaa (Zad (h₁.step H₁ fun l σ₂ vs s₂ h₂ rl H₂ k₂ => Zab ⟨a :: l, σ₂, h₂, .cons (ra.mono k₂) rl, H₂, k₁.trans k₂⟩)))))
theorem Zzr {env : Env} {K : Fl → St → Prop} (h : K .next σ) : XV C (execs [] env) σ K := fun s H => .of (wpAny_execs_nil (Pst.here H .next h))
noncomputable def sqK (P : St → Prop) (K : Fl → St → Prop) : Fl → St → Prop
 | .next, σ => P σ
 | .brk, σ => K .brk σ
 | .cont, σ => K .cont σ
 | .ret v, σ => K (.ret v) σ
theorem Zar {P : St → Prop} {K : Fl → St → Prop} {σ : St} (h : P σ) : sqK P K .next σ := h
theorem Zxa {P : St → Prop} {K : Fl → St → Prop} {σ : St} (h : K .brk σ) : sqK P K .brk σ := h
theorem Zwr {P : St → Prop} {K : Fl → St → Prop} {σ : St} (h : K .cont σ) : sqK P K .cont σ := h
theorem Zx4 {P : St → Prop} {K : Fl → St → Prop} {σ : St} {v : V} (h : K (.ret v) σ) : sqK P K (.ret v) σ := h
noncomputable def lpK (P : St → Prop) (K : Fl → St → Prop) : Fl → St → Prop
 | .next, σ => P σ
 | .cont, σ => P σ
 | .brk, σ => K .next σ
 | .ret v, σ => K (.ret v) σ
theorem Zus {P : St → Prop} {K : Fl → St → Prop} {σ : St} (h : P σ) : lpK P K .next σ := h
theorem Zu8 {P : St → Prop} {K : Fl → St → Prop} {σ : St} (h : P σ) : lpK P K .cont σ := h
theorem Zze {P : St → Prop} {K : Fl → St → Prop} {σ : St} (h : K .next σ) : lpK P K .brk σ := h
inductive Drp : List (Addr × AO) → List (Addr × AO) → Prop
 | refl {l : List (Addr × AO)} : Drp l l
 | keep {x : Addr × AO} {l l' : List (Addr × AO)} (h : Drp l l') : Drp (x :: l) (x :: l')
 | cons {x : Addr × AO} {l l' : List (Addr × AO)} (h : Drp l l') : Drp (x :: l) l'
 | perm {l l' l'' : List (Addr × AO)} (p : l.Perm l') (h : Drp l' l'') : Drp l l''
theorem Drp.sub {l l' : List (Addr × AO)} (h : Drp l l') : ∃ l0, l.Perm l0 ∧ l'.Sublist l0 := by
 induction h with
 | refl => exact ⟨_, .refl _, .refl _⟩
 | keep h ih => obtain ⟨l0, a, b⟩ := ih; exact ⟨_, a.cons _, b.cons_cons _⟩
 | cons h ih => obtain ⟨l0, a, b⟩ := ih; exact ⟨_, a.cons _, b.cons _⟩
 | perm p h ih => obtain ⟨l0, a, b⟩ := ih; exact ⟨l0, p.trans a, b⟩
theorem Drp.mem {l l' : List (Addr × AO)} (h : Drp l l') {p : Addr × AO} (hp : p ∈ l') : p ∈ l := by
 obtain ⟨l0, a, b⟩ := h.sub
 exact a.mem_iff.mpr (b.subset hp)
theorem Drp.nd {l l' : List (Addr × AO)} (h : Drp l l') (n : (l.map (·.1)).Nodup) : (l'.map (·.1)).Nodup := by
 obtain ⟨l0, a, b⟩ := h.sub
 exact List.Nodup.sublist (b.map _) ((a.map (fun x : Addr × AO => x.1)).nodup_iff.mp n)
theorem Drp.keys {l l' : List (Addr × AO)} (h : Drp l l') {a : Addr} (ha : a ∈ l'.map (·.1)) : a ∈ l.map (·.1) := by
 obtain ⟨p, hp, e⟩ := List.mem_map.mp ha
 exact List.mem_map.mpr ⟨p, h.mem hp, e⟩
noncomputable def fnK (K : V → List (Addr × AO) → Prop) : Fl → St → Prop
 | .ret v, σ => ∃ l, K v l ∧ Drp σ.obs l
 | _, σ => ∃ l, K .none l ∧ Drp σ.obs l
theorem Zue {K : V → List (Addr × AO) → Prop} {σ : St} {l : List (Addr × AO)} (h : K .none l) (d : Drp σ.obs l) : fnK K .next σ := ⟨l, h, d⟩
theorem Zxh {K : V → List (Addr × AO) → Prop} {σ : St} {v : V} {l : List (Addr × AO)} (h : K v l) (d : Drp σ.obs l) : fnK K (.ret v) σ := ⟨l, h, d⟩
theorem Zag {st : Stmt} {rest : List Stmt} {env : Env} {K : Fl → St → Prop}
  (h : XV C (exec st env) σ (sqK (fun σ₁ => XV C (execs rest env) σ₁ K) K)) : XV C (execs (st :: rest) env) σ K := by
 injection (C σ st rest env K) with h
 intro s H
 rw [execs_cons]
 exact Zaa (h.step H fun f σ₁ v s₁ k r H₁ k₁ => by
  cases r with
  | next => exact Zae (k s₁ H₁) (fun _ _ p => p.tk k₁) fun _ _ e => e
  | brk => exact Zab ⟨.brk, σ₁, k, .brk, H₁, k₁⟩
  | cont => exact Zab ⟨.cont, σ₁, k, .cont, H₁, k₁⟩
  | ret r => exact Zab ⟨.ret _, σ₁, k, .ret r, H₁, k₁⟩)
theorem x_if {test : Expr} {body orelse : List Stmt} {pos : Pos} {env : Env} {K : Fl → St → Prop}
  (h : BV C (isTrue test env (eval test env)) σ fun b σ₁ => (b = true → XV C (execs body env) σ₁ K) ∧ (b = false → XV C (execs orelse env) σ₁ K)) : XV C (exec (.If test body orelse pos) env) σ K := fun s H => by
 rw [exec_If]
 exact Zaa (Zac (Zaa (h.step H fun b σ₁ v s₁ k r H₁ k₁ => by
  subst r
  cases v with
  | true => exact Zae (k.1 rfl s₁ H₁) (fun _ _ p => p.tk k₁) fun _ _ e => e
  | false => exact Zae (k.2 rfl s₁ H₁) (fun _ _ p => p.tk k₁) fun _ _ e => e)))
theorem x_ret {e : Expr} {pos : Pos} {env : Env} {K : Fl → St → Prop} (h : EV C (eval e env) σ fun a σ₁ => K (.ret a) σ₁) : XV C (exec (.Return (some e) pos) env) σ K := fun s H => by
 rw [exec_Return_some]
 exact Zaa (Zac (Zaa (h.step H fun a σ₁ v s₁ k r H₁ k₁ => Zab ⟨.ret a, σ₁, k, .ret r, H₁, k₁⟩)))
theorem x_brk {pos : Pos} {env : Env} {K : Fl → St → Prop} (h : K .brk σ) : XV C (exec (.Break pos) env) σ K := fun s H => .of (wpAny_Break (Pst.here H .brk h))
theorem Zzg {pos : Pos} {env : Env} {K : Fl → St → Prop} (h : K .cont σ) : XV C (exec (.Continue pos) env) σ K := fun s H => .of (wpAny_Continue (Pst.here H .cont h))
theorem Ns.noTup {h : Heap} {a : Addr} {m : Str → Option Value} (x : h.Ns a m) : ∀ vs n, h.get? a ≠ some (Zb7 vs n) := fun vs n e => by
 obtain ⟨o, es, ep, e', hd, _⟩ := x
 rw [e] at e'
 cases e'
 cases hd
theorem Holds.store {s : Shared} {x : Str} {a : V} {v : Value} {l' : List (Str × Option V)} (H : Holds C σ s) (u : Up x (some a) σ.loc l') {h' : Heap}
  (hn : ∀ m, s.heap.Ns C.env.locals m → h'.Ns C.env.locals (fun y => if y = x then some v else m y)) (hs : Heap.SameBut C.env.locals s.heap h') (r : VR s.heap a v) (n : Nat) :
  Holds C ⟨l', σ.obs⟩ { s with heap := h', toks := n } ∧ TK s.heap h' := by
 injection (C σ s x a v l' h' n) with H u hn hs r
 refine Zal (H.loc) fun m hN hm => ?_
 have tk : TK s.heap h' := TK.of_same hs (Ns.noTup hN)
 refine ⟨⟨fun b o e => ?_, ⟨_, hn m hN, fun y u' hy => ?_⟩, fun p hp => ?_, H.nd, H.ap, ?_, H.gens, H.drawn, H.os⟩, tk⟩
 ·have : b ≠ C.env.locals := fun q => by
   have := H.ap C.env.locals (.head _)
   rw [← q, e] at this; cases this
  exact (hs.2 b this).trans (H.frz b o e)
 ·rcases u.mem H.nn y (some u') hy with ⟨rfl, e⟩ | ⟨hne, hy'⟩
  ·cases e
   exact ⟨v, if_pos rfl, r.mono tk⟩
  ·obtain ⟨val, e, r'⟩ := hm y u' hy'
   exact ⟨val, by rw [if_neg hne]; exact e, r'.mono tk⟩
 ·refine Zal (H.obs p hp) fun O e ro => ?_
  have : p.1 ≠ C.env.locals := fun q => (List.nodup_cons.mp H.nd).1 (List.mem_map.mpr ⟨p, hp, q⟩)
  exact ⟨O, (hs.2 _ this).trans e, ro.mono tk⟩
 ·show (l'.map (·.1)).Nodup
  rw [u.names]; exact H.nn
theorem Zbz {x : Str} {a : V} {l' : List (Str × Option V)} {K : St → Prop} (hl : C.env.kindOf x = some .local)
  (hp : (C.env.scope.kind == .class || (C.env.scope.kind == .module && C.env.locals != C.env.globals)) = false) (u : Up x (some a) σ.loc l') (k : K ⟨l', σ.obs⟩) :
  OP1 C (fun _ (_ : Unit) _ => True) (storeName C.env x) a σ (fun _ σ => K σ) := by
 injection (C σ x a l' K) with hl hp u k
 intro s v H r
 refine Zal (H.loc) fun m hN hm => ?_
 refine .of (wpAny_storeName_local hl hN (fun h' hn' hs' => ?_) hp)
 have z := H.store u (h' := h') (v := v) (fun m2 hN2 => ?_) hs' r (s.toks + 1)
 ·exact ⟨(), _, k, trivial, z.1, z.2⟩
 ·obtain ⟨o, es, ep, e, hd, hk, hf⟩ := hN
  obtain ⟨o2, es2, ep2, e2, hd2, hk2, hf2⟩ := hN2
  rw [e] at e2; cases e2
  rw [hd] at hd2; cases hd2
  have : m = m2 := by funext y; rw [← hf y, hf2 y]
  subst this
  exact hn'
noncomputable abbrev U1 (C : Cx) (f : Value → Sem Unit) (a : V) (σ : St) (K : St → Prop) : Prop := OP1 C (fun _ (_ : Unit) _ => True) f a σ fun _ σ => K σ
theorem Zma {x : Str} {value : Expr} {pos pos' : Pos} {K : Fl → St → Prop} (h : EV C (eval value C.env) σ fun a σ₁ => U1 C (storeName C.env x) a σ₁ fun σ => K .next σ)
  (hs : swapsWith value (some (.Name x pos')) pos.line C.env = pure false := by rfl) : XV C (exec (.Assign [.Name x pos'] value pos) C.env) σ K := fun s H => by
 rw [exec_Assign_Name C.env x pos' value pos hs]
 exact Zaa (Zac (Zaa (h.step H fun a σ₁ va s₁ h₁ ra H₁ k₁ => Zaa (Zac (Zaa (Zbl (Zat (h₁ s₁ va H₁ ra) (fun _ s₂ _ σ' k _ H' t => Zab ⟨.next, σ', k, .next, H', k₁.trans t⟩))))))))
theorem x_aug {x : Str} {op : Operator} {value : Expr} {pos pos' : Pos} {K : Fl → St → Prop}
  (h : EV C (loadName C.env x) σ fun a σ₁ => EV C (eval value C.env) σ₁ fun b σ₂ => OP2 C VR (inplaceOp op) a b σ₂ fun c σ₃ => U1 C (storeName C.env x) c σ₃ fun σ => K .next σ) :
  XV C (exec (.AugAssign (.Name x pos') op value pos) C.env) σ K := by
 injection (C σ x op value pos pos' K) with h
 intro s H
 rw [exec_AugAssign_Name]
 exact Zaa (Zac (Zaa (h.step H fun a σ₁ va s₁ h₁ ra H₁ k₁ => Zaa (Zad (h₁.step H₁ fun b σ₂ vb s₂ h₂ rb H₂ k₂ => Zaa (Zac (Zaa (Za4
  (Zat (h₂ s₂ va vb H₂ (ra.mono k₂) rb) (fun c s₃ cv σ₃ h₃ rc H₃ k₃ => Zaa (Zac (Zaa (Zbl (Zat (h₃ s₃ c H₃ rc)
   (fun _ s₄ _ σ' k _ H' t => Zab ⟨.next, σ', k, .next, H', ((k₁.trans k₂).trans k₃).trans t⟩)))))))))))))))
end
inductive LkO (a : Addr) (o : AO) : List (Addr × AO) → Prop
 | head {l : List (Addr × AO)} : LkO a o ((a, o) :: l)
 | tail {y : Addr × AO} {l : List (Addr × AO)} (h : LkO a o l) : LkO a o (y :: l)
theorem LkO.mem {a : Addr} {o : AO} {l : List (Addr × AO)} (h : LkO a o l) : (a, o) ∈ l := by
 induction h with
 | head => exact .head _
 | tail _ ih => exact .tail _ ih
inductive UpO (a : Addr) (o o' : AO) : List (Addr × AO) → List (Addr × AO) → Prop
 | head {l : List (Addr × AO)} : UpO a o o' ((a, o) :: l) ((a, o') :: l)
 | tail {y : Addr × AO} {l l' : List (Addr × AO)} (h : UpO a o o' l l') : UpO a o o' (y :: l) (y :: l')
section
variable {a : Addr} {o o' : AO}
theorem UpO.lk {l l' : List (Addr × AO)} (h : UpO a o o' l l') : LkO a o l := by
 induction h with
 | head => exact .head
 | tail _ ih => exact .tail ih
theorem UpO.keys {l l' : List (Addr × AO)} (h : UpO a o o' l l') : l'.map (·.1) = l.map (·.1) := by
 induction h with
 | head => rfl
 | tail _ ih => exact congrArg (_ :: ·) ih
theorem UpO.mem {l l' : List (Addr × AO)} (h : UpO a o o' l l') (nd : (l.map (·.1)).Nodup) (p : Addr × AO) (hm : p ∈ l') : (p = (a, o')) ∨ (p.1 ≠ a ∧ p ∈ l) := by
 induction h with
 | head => exact (List.mem_cons.mp hm).imp id fun e => ⟨fun q => (List.nodup_cons.mp nd).1 (List.mem_map.mpr ⟨_, e, q⟩), .tail _ e⟩
 | tail h ih =>
  rcases List.mem_cons.mp hm with e | e
  ·exact .inr ⟨fun q => (List.nodup_cons.mp nd).1 (List.mem_map.mpr ⟨_, h.lk.mem, (e ▸ q).symm⟩), e ▸ .head _⟩
  ·exact (ih (List.nodup_cons.mp nd).2 e).imp id fun q => ⟨q.1, .tail _ q.2⟩
end
section
variable {C : Cx} {σ : St} {α β : Type}
theorem Holds.obj {s : Shared} (H : Holds C σ s) {a : Addr} {o : AO} (h : LkO a o σ.obs) : ∃ O, s.heap.get? a = some O ∧ OR s.heap o O := H.obs _ h.mem
theorem Holds.list {s : Shared} (H : Holds C σ s) {a : Addr} {l : List V} (h : LkO a (.list l) σ.obs) : ∃ vs n, s.heap.get? a = some (listOf vs.toArray n) ∧ VRs s.heap l vs := by
 refine Zal (H.obj h) fun O e r => ?_
 revert r
 intro r0
 refine OR.listK r0 fun _ n r e0 => ?_
 subst e0
 exact ⟨_, n, e, r⟩
theorem Holds.locLt {s : Shared} (H : Holds C σ s) : C.env.locals < s.heap.objs.size := by
 refine Zal (H.loc) fun m hN _ => ?_
 exact hN.lt
theorem Holds.ltOf {s : Shared} (H : Holds C σ s) {p : Addr × AO} (hp : p ∈ σ.obs) : p.1 < s.heap.objs.size := by
 refine Zal (H.obs p hp) fun O e _ => ?_
 exact Heap.lt_size e
theorem Holds.fzLt {s : Shared} (H : Holds C σ s) {b : Addr} {o : Obj} (e : C.fz b = some o) : b < s.heap.objs.size := Heap.lt_size (H.frz b o e)
theorem Holds.ext {s : Shared} (H : Holds C σ s) {h' : Heap} (k : ∀ b o, s.heap.get? b = some o → h'.get? b = some o) (n : Nat) : Holds C σ { s with heap := h', toks := n } := by
 refine Zal (H.loc) fun m hN hm => ?_
 exact ⟨fun b o e => k _ _ (H.frz b o e), ⟨m, hN.keeps k, fun x v hx => (by obtain ⟨val, e, r⟩ := hm x v hx; exact ⟨val, e, r.mono (.of_ext k)⟩)⟩,
  fun p hp => (by obtain ⟨O, e, r⟩ := H.obs p hp; exact ⟨O, k _ _ e, r.mono (.of_ext k)⟩), H.nd, H.ap, H.nn, H.gens, H.drawn, H.os⟩
theorem Holds.alloc {s : Shared} (H : Holds C σ s) {h' : Heap} (k : ∀ b o, s.heap.get? b = some o → h'.get? b = some o) {a : Addr} {o : AO} {O : Obj} (hge : s.heap.objs.size ≤ a) (e : h'.get? a = some O) (r : OR h' o O) (n : Nat) :
  Holds C ⟨σ.loc, (a, o) :: σ.obs⟩ { s with heap := h', toks := n } := by
 have E := H.ext k n
 refine ⟨E.frz, E.loc, fun p hp => ?_, ?_, fun b hb => ?_, E.nn, E.gens, E.drawn, E.os⟩
 ·rcases List.mem_cons.mp hp with q | q
  ·subst q; exact ⟨O, e, r⟩
  ·exact E.obs p q
 ·have h1 := H.nd
  have h2 : C.env.locals ≠ a := Nat.ne_of_lt (Nat.lt_of_lt_of_le H.locLt hge)
  have h3 : a ∉ σ.obs.map (·.1) := fun hm => by
   obtain ⟨p, hp, q⟩ := List.mem_map.mp hm
   have := H.ltOf hp
   rw [q] at this
   exact absurd this (Nat.not_lt.mpr hge)
  rw [List.nodup_cons] at h1 ⊢
  refine ⟨fun hm => ?_, ?_⟩
  ·rcases List.mem_cons.mp hm with q | q
   ·exact h2 q
   ·exact h1.1 q
  ·exact List.nodup_cons.mpr ⟨h3, h1.2⟩
 ·rcases List.mem_cons.mp hb with q | q
  ·exact H.ap b (q ▸ .head _)
  ·rcases List.mem_cons.mp q with q | q
   ·have q' : b = a := q
    rw [q']
    cases e2 : C.fz a with
    | none => rfl
    | some o2 => exact absurd (H.fzLt e2) (Nat.not_lt.mpr hge)
   ·exact H.ap b (.tail _ q)
theorem Holds.set {s : Shared} (H : Holds C σ s) {a : Addr} {o o' : AO} {l' : List (Addr × AO)} (u : UpO a o o' σ.obs l') {h' : Heap} (hs : Heap.SameBut a s.heap h') {O : Obj} (e : h'.get? a = some O)
  (r : OR s.heap o' O) (n : Nat) : Holds C ⟨σ.loc, l'⟩ { s with heap := h', toks := n } ∧ TK s.heap h' := by
 injection (C σ s a o o' l' h' O n) with H u hs e r
 refine Zal (H.loc) fun m hN hm => ?_
 refine Zal (H.obj u.lk) fun O₀ e₀ r₀ => ?_
 have tk : TK s.heap h' := TK.of_same hs fun vs n q => by
  rw [e₀] at q
  exact r₀.noTup vs n (Option.some.inj q)
 have hne : C.env.locals ≠ a := fun q => (List.nodup_cons.mp H.nd).1 (q ▸ List.mem_map.mpr ⟨_, u.lk.mem, rfl⟩)
 refine ⟨⟨fun b ob eb => ?_, ⟨m, hN.sameBut hs hne, fun x v hx => ?_⟩, fun p hp => ?_, ?_, ?_, H.nn, H.gens, H.drawn, H.os⟩, tk⟩
 ·have : b ≠ a := fun q => by
   have := H.ap a (.tail _ (List.mem_map.mpr ⟨_, u.lk.mem, rfl⟩))
   rw [← q, eb] at this; cases this
  exact (hs.2 b this).trans (H.frz b ob eb)
 ·obtain ⟨val, e1, r1⟩ := hm x v hx
  exact ⟨val, e1, r1.mono tk⟩
 ·rcases u.mem (List.nodup_cons.mp H.nd).2 p hp with q | ⟨q, hp'⟩
  ·subst q; exact ⟨O, e, r.mono tk⟩
  ·refine Zal (H.obs p hp') fun O1 e1 r1 => ?_
   exact ⟨O1, (hs.2 _ q).trans e1, r1.mono tk⟩
 ·show (C.env.locals :: l'.map (·.1)).Nodup
  rw [u.keys]; exact H.nd
 ·show ∀ b ∈ C.env.locals :: l'.map (·.1), C.fz b = none
  rw [u.keys]; exact H.ap
section
variable {i j : Int} {K : V → St → Prop} {KB : Bool → St → Prop}
theorem Zyu (h : K (.int (i + j)) σ) : OP2 C VR (binaryOp .Add) (.int i) (.int j) σ K := fun s v u H r1 r2 => by
 o_facts r1; o_facts r2; exact .of (PyProof.Rows.add_int (Pst.hereT H (.int _ _) h))
theorem Zy9 (h : K (.int (i - j)) σ) : OP2 C VR (binaryOp .Sub) (.int i) (.int j) σ K := fun s v u H r1 r2 => by
 o_facts r1; o_facts r2; exact .of (PyProof.Rows.sub_int (Pst.hereT H (.int _ _) h))
theorem Zyl (h : K (.int (i * j)) σ) (hm : IntMulOk i j) : OP2 C VR (binaryOp .Mult) (.int i) (.int j) σ K := fun s v u H r1 r2 => by
 o_facts r1; o_facts r2; exact .of (PyProof.Rows.mul_int (Pst.hereT H (.int _ _) h) hm)
theorem Zyn (h : K (.int (i.fmod j)) σ) (hj : j ≠ 0) : OP2 C VR (binaryOp .Mod) (.int i) (.int j) σ K := fun s v u H r1 r2 => by
 o_facts r1; o_facts r2; exact .of (PyProof.Rows.mod_int hj (Pst.hereT H (.int _ _) h))
theorem Zys (h : K (.int (i ^ j.toNat)) σ) (hn : 0 ≤ j) (hsz : (Builtin.Int.intBits i : Int) * j ≤ 2 ^ 27) : OP2 C VR (binaryOp .Pow) (.int i) (.int j) σ K := fun s v u H r1 r2 => by
 o_facts r1; o_facts r2; exact .of (PyProof.Rows.pow_int hn hsz (Pst.hereT H (.int _ _) h))
theorem Zu6 (h : K (.int (i + j)) σ) : OP2 C VR (inplaceOp .Add) (.int i) (.int j) σ K := fun s v u H r1 r2 => by
 o_facts r1; o_facts r2; exact .of (PySem.P.iadd_int (Pst.hereT H (.int _ _) h))
theorem Zu7 (h : K (.int (i - j)) σ) : OP2 C VR (inplaceOp .Sub) (.int i) (.int j) σ K := fun s v u H r1 r2 => by
 o_facts r1; o_facts r2; exact .of (PySem.P.isub_int (Pst.hereT H (.int _ _) h))
theorem op_eq (h : K (.bool (i == j)) σ) : OP2 C VR (compareOp .Eq) (.int i) (.int j) σ K := fun s v u H r1 r2 => by
 o_facts r1; o_facts r2; exact .of (PySem.P.eq_int (Pst.here H (.bool _) h))
theorem op_ne (h : K (.bool (i != j)) σ) : OP2 C VR (compareOp .NotEq) (.int i) (.int j) σ K := fun s v u H r1 r2 => by
 o_facts r1; o_facts r2; exact .of (PySem.P.ne_int (Pst.here H (.bool _) h))
theorem op_lt (h : K (.bool (decide (i < j))) σ) : OP2 C VR (compareOp .Lt) (.int i) (.int j) σ K := fun s v u H r1 r2 => by
 o_facts r1; o_facts r2; exact .of (PySem.P.lt_int (Pst.here H (.bool _) h))
theorem op_gt (h : K (.bool (decide (i > j))) σ) : OP2 C VR (compareOp .Gt) (.int i) (.int j) σ K := fun s v u H r1 r2 => by
 o_facts r1; o_facts r2; exact .of (PySem.P.gt_int (Pst.here H (.bool _) h))
theorem op_ge (h : K (.bool (decide (i ≥ j))) σ) : OP2 C VR (compareOp .GtE) (.int i) (.int j) σ K := fun s v u H r1 r2 => by
 o_facts r1; o_facts r2; exact .of (PySem.P.ge_int (Pst.here H (.bool _) h))
theorem Zye (h : K (.int (-i)) σ) : OP1 C VR (unaryOp .USub) (.int i) σ K := fun s v H r1 => by
 o_facts r1; exact .of (PySem.P.neg_int (Pst.hereT H (.int _ _) h))
theorem Zy1 (h : KB (i != 0) σ) : OP1 C (fun _ (b : Bool) v => v = b) truthy (.int i) σ KB := fun s v H r1 => by
 o_facts r1; exact .of (PySem.P.truthy_int (Pst.here H rfl h))
theorem Zuf {b : Bool} (h : KB b σ) : OP1 C (fun _ (b : Bool) v => v = b) truthy (.bool b) σ KB := fun s v H r1 => by
 o_facts r1; exact .of (wpAny_truthy_bool (Pst.here H rfl h))
end
end
structure Led (fz : Addr → Option Obj) (obs : List (Addr × AO)) (s : Shared) : Prop where
 frz : ∀ b o, fz b = some o → s.heap.get? b = some o
 has : ∀ p ∈ obs, ∃ O, s.heap.get? p.1 = some O ∧ OR s.heap p.2 O
 nd : (obs.map (·.1)).Nodup
 ap : ∀ a ∈ obs.map (·.1), fz a = none
noncomputable def Fn (G : Gl) (f : Value) (n : Nat) (args : List V) (obs : List (Addr × AO)) (K : V → List (Addr × AO) → Prop) : Prop :=
 ∀ (A : Around) (fz : Addr → Option Obj) (s : Shared) (vs : List Value) (E : Value → Shared → Prop), Good A n → G.Ok fz → Led fz obs s → VRs s.heap args vs →
  wpP (model G.prog G.w) A (call f vs) (fun v s' => ∃ r obs', K r obs' ∧ VR s'.heap r v ∧ Led fz obs' s' ∧ TK s.heap s'.heap ∧ GK s.gens s'.gens ∧ s'.drawn = s.drawn ∧ s'.os = s.os) E s
inductive Pick (x : Addr × AO) : List (Addr × AO) → List (Addr × AO) → Prop
 | head {l : List (Addr × AO)} : Pick x (x :: l) l
 | tail {y : Addr × AO} {l l' : List (Addr × AO)} (h : Pick x l l') : Pick x (y :: l) (y :: l')
theorem Pick.perm {x : Addr × AO} {l l' : List (Addr × AO)} (h : Pick x l l') : l.Perm (x :: l') := by
 induction h with
 | head => exact .refl _
 | tail _ ih => exact (ih.cons _).trans (.swap ..)
noncomputable def pdn {α : Type} (L : List (List α)) : List Nat → List α
 | [] => []
 | [i] => L.getD i []
 | i :: r => L.getD i [] ++ pdn L r
theorem Zgv {α : Type} (L : List (List α)) (x : List Nat) : pdn L x = x.flatMap fun i => L.getD i [] := by
 induction x with
 | nil => rfl
 | cons i r ih =>
  cases r with
  | nil => exact (List.append_nil _).symm
  | cons j r => exact congrArg (L.getD i [] ++ ·) ih
theorem Zb0 {α : Type} (L : List (List α)) (x y : List Nat) (h : x.isPerm y = true) : (pdn L x).Perm (pdn L y) := by
 rw [Zgv, Zgv]
 exact List.Perm.flatMap_right _ (List.isPerm_iff.mp h)
noncomputable def pd2 {α : Type} (L : List (List α)) : List (List Nat) → List α
 | [] => []
 | [g] => pdn L g
 | g :: r => pdn L g ++ pd2 L r
theorem Ztz {α : Type} (L : List (List α)) (x : List (List Nat)) : pd2 L x = pdn L x.flatten := by
 rw [Zgv]
 induction x with
 | nil => rfl
 | cons g r ih =>
  rw [List.flatten_cons, List.flatMap_append, ← Zgv L g]
  cases r with
  | nil => exact (List.append_nil _).symm
  | cons j r => exact congrArg (pdn L g ++ ·) ih
theorem Ztn {α : Type} (L : List (List α)) (x : List Nat) : pdn L x = pdn L (x.filter (· < L.length)) := by
 rw [Zgv, Zgv]
 induction x with
 | nil => rfl
 | cons i r ih =>
  rw [List.flatMap_cons, ih, List.filter_cons]
  split
  ·rfl
  ·rename_i h
   rw [List.getD, List.getElem?_eq_none (Nat.le_of_not_lt fun q => h (decide_eq_true q))]; rfl
theorem Zew {α : Type} (L : List (List α)) (x y : List (List Nat)) (h : (x.flatten.filter (· < L.length)).isPerm (y.flatten.filter (· < L.length)) = true) : (pd2 L x).Perm (pd2 L y) := by
 rw [Ztz, Ztz, Ztn, Ztn L y.flatten]
 exact Zb0 L _ _ h
inductive Sel : List (Addr × AO) → List (Addr × AO) → List (Addr × AO) → Prop
 | nil {l : List (Addr × AO)} : Sel l [] l
 | cons {x : Addr × AO} {l l' sel rest : List (Addr × AO)} (p : Pick x l l') (h : Sel l' sel rest) : Sel l (x :: sel) rest
theorem Sel.perm {l sel rest : List (Addr × AO)} (h : Sel l sel rest) : l.Perm (sel ++ rest) := by
 induction h with
 | nil => exact .refl _
 | cons p _ ih => exact p.perm.trans (ih.cons _)
section
variable {C : Cx} {σ : St}
open Classical in
theorem Zoq {f : Value} {n : Nat} {args : List V} {sel rest : List (Addr × AO)} {K' : V → List (Addr × AO) → Prop} {K : V → St → Prop} (F : Fn C.G f n args sel K') (g : Good C.A n) (S : Sel σ.obs sel rest)
  (k : ∀ r obs', K' r obs' → K r ⟨σ.loc, obs' ++ rest⟩) : OPL C VR (fun vs => call f vs) args σ K := by
 injection (C σ f n args sel rest K' K) with F g S k
 intro s vs H R
 have P := S.perm
 have nd := H.nd
 have nd2 : (sel.map (·.1) ++ rest.map (·.1)).Nodup := by
  have := (P.map (·.1)).nodup_iff.mp (List.nodup_cons.mp nd).2
  rwa [List.map_append] at this
 have ndl : C.env.locals ∉ sel.map (·.1) := fun hm => (List.nodup_cons.mp nd).1 ((P.map (·.1)).mem_iff.mpr (by rw [List.map_append]; exact List.mem_append_left _ hm))
 have ndr : C.env.locals ∉ rest.map (·.1) := fun hm => (List.nodup_cons.mp nd).1 ((P.map (·.1)).mem_iff.mpr (by rw [List.map_append]; exact List.mem_append_right _ hm))
 let fz' : Addr → Option Obj := fun b => if b ∈ sel.map (·.1) then none else s.heap.get? b
 have up : ∀ b o, C.fz b = some o → fz' b = some o := fun b o e => by
  have hb : b ∉ sel.map (·.1) := fun hm => by
   have := H.ap b (.tail _ ((P.map (·.1)).mem_iff.mpr (by rw [List.map_append]; exact List.mem_append_left _ hm)))
   rw [e] at this; cases this
  show (if b ∈ sel.map (·.1) then none else s.heap.get? b) = some o
  rw [if_neg hb]; exact H.frz b o e
 have ok' : C.G.Ok fz' := ⟨fun a o e => up a o (C.ok.sub a o e), fun h hk => C.ok.top h fun b o e => hk b o (up b o e), (by obtain ⟨o, e⟩ := C.ok.sm; exact ⟨o, up _ _ e⟩)⟩
 have L : Led fz' sel s := by
  refine ⟨fun b o e => ?_, fun p hp => H.obs p (P.mem_iff.mpr (List.mem_append_left _ hp)), (List.nodup_append.mp nd2).1, fun a ha => if_pos ha⟩
  by_cases hb : b ∈ sel.map (·.1)
  ·have : fz' b = none := if_pos hb
   rw [this] at e; cases e
  ·have : fz' b = s.heap.get? b := if_neg hb
   rw [this] at e; exact e
 refine Zae (F C.A fz' s vs C.E g ok' L R) ?_ fun _ _ e => e
 rintro v s' ⟨r, obs', hK, hr, L', tk, h1, h2, h3⟩
 refine ⟨r, _, k r obs' hK, hr, ?_, tk⟩
 have kept : ∀ b o, b ∉ sel.map (·.1) → s.heap.get? b = some o → s'.heap.get? b = some o := fun b o hb e => L'.frz b o (by show (if b ∈ sel.map (·.1) then none else s.heap.get? b) = some o; rw [if_neg hb]; exact e)
 obtain ⟨m, ⟨o, es, ep, e1, e2⟩, hm⟩ := H.loc
 have some_of : ∀ b o, b ∉ sel.map (·.1) → s.heap.get? b = some o → b ∉ obs'.map (·.1) := fun b o hb e hm => by
  have := L'.ap b hm
  have q : fz' b = s.heap.get? b := if_neg hb
  rw [q, e] at this; cases this
 have rest_ne : ∀ p ∈ rest, p.1 ∉ sel.map (·.1) := fun p hp hm => (List.nodup_append.mp nd2).2.2 _ hm _ (List.mem_map.mpr ⟨p, hp, rfl⟩) rfl
 refine ⟨fun b o e => L'.frz b o (up b o e), ⟨m, ⟨o, es, ep, kept _ _ ndl e1, e2⟩, fun x v hx => (by obtain ⟨val, e, r⟩ := hm x v hx; exact ⟨val, e, r.mono tk⟩)⟩, fun p hp => ?_, ?_, fun a ha => ?_, H.nn, H.gens.trans h1, h2.trans H.drawn, h3.trans H.os⟩
 ·rcases List.mem_append.mp hp with hp | hp
  ·exact L'.has p hp
  ·refine Zal (H.obs p (P.mem_iff.mpr (List.mem_append_right _ hp))) fun O e ro => ?_
   exact ⟨O, kept _ _ (rest_ne p hp) e, ro.mono tk⟩
 ·show (C.env.locals :: (obs' ++ rest).map (·.1)).Nodup
  rw [List.map_append, List.nodup_cons, List.mem_append, List.nodup_append]
  refine ⟨?_, L'.nd, (List.nodup_append.mp nd2).2.1, fun a ha b hb e => ?_⟩
  ·rintro (q | q)
   ·exact some_of _ _ ndl e1 q
   ·exact ndr q
  ·subst e
   obtain ⟨p, hp, rfl⟩ := List.mem_map.mp hb
   refine Zal (H.obs p (P.mem_iff.mpr (List.mem_append_right _ hp))) fun O e _ => ?_
   exact some_of _ _ (rest_ne p hp) e ha
 ·rcases List.mem_cons.mp ha with q | q
  ·subst q; exact H.ap _ (.head _)
  ·rw [List.map_append] at q
   rcases List.mem_append.mp q with q | q
   ·cases e : C.fz a with
    | none => rfl
    | some o2 => have := L'.ap a q; rw [up a o2 e] at this; cases this
   ·exact H.ap a (.tail _ ((P.map (·.1)).mem_iff.mpr (by rw [List.map_append]; exact List.mem_append_right _ q)))
end
noncomputable def Fl.val : Fl → V
 | .ret v => v
 | _ => .none
structure Ar (G : Gl) (n : Nat) where
 A : Around
 fz : Addr → Option Obj
 gens : Array GenState
 drawn : Drawn
 os : OsState
 ok : G.Ok fz
 good : Good A n
noncomputable abbrev Ar.cx {G : Gl} {n : Nat} (R : Ar G n) (env : Env) (eg : env.globals = mainGlobals) (eb : env.builtins = builtinsNs) : Cx := ⟨G, R.A, env, R.fz, R.gens, R.drawn, R.os, fun _ _ => False, R.ok, eg, eb⟩
theorem Good.deeper {A : Around} {n : Nat} (g : Good A (n + 1)) (env : Env) : Good (A.deeper env) n := by
 obtain ⟨d, u, h, ⟨l, f⟩, gg⟩ := g
 refine ⟨?_, ?_, h, ⟨env :: l, by show A.frames.map _ = _; rw [f]; rfl⟩, gg⟩
 ·show A.depth + 1 + n < _
  lia
 ·show A.units + 3 + 20 * n < _
  lia
theorem Good.less {A : Around} {n m : Nat} (g : Good A n) (h : m ≤ n) : Good A m := ⟨by have := g.d; lia, by have := g.u; lia, g.h, g.f, g.g⟩
theorem Zbo {α : Type} {x : Str} {v : α} {l : List (Str × α)} (nd : (l.map (·.1)).Nodup) (h : (x, v) ∈ l) : l.lookup x = some v := by
 induction l with
 | nil => cases h
 | cons p l ih =>
  rw [List.lookup_cons]
  rcases List.mem_cons.mp h with e | e
  ·subst e; simp
  ·rw [beq_eq_false_iff_ne.mpr fun q => (List.nodup_cons.mp nd).1 (List.mem_map.mpr ⟨_, e, q⟩)]
   exact ih (List.nodup_cons.mp nd).2 e
theorem Zbf {binds : List (Str × Value)} {names : List Str} {h : Heap} {l : List V} {vs : List Value} (R : VRs h l vs) (hl : names.length = l.length) (hn : names.Nodup) (x : Str) (v : V)
  (hm : (x, some v) ∈ names.zip (l.map some)) : ∃ val, (names.zip vs).reverse.lookup x = some val ∧ VR h v val := by
 injection (binds names h l vs x v) with R hl hn hm
 have key : ∀ (names : List Str) (l : List V) (vs : List Value), VRs h l vs → names.length = l.length → names.Nodup → (x, some v) ∈ names.zip (l.map some) → ∃ val, (x, val) ∈ names.zip vs ∧ VR h v val := by
  intro names
  induction names with
  | nil => intro l vs R hl hn hm; simp at hm
  | cons y names ih =>
   intro l vs R hl hn hm
   cases R with
   | nil => simp at hm
   | cons r R =>
    simp only [List.map_cons, List.zip_cons_cons, List.mem_cons] at hm ⊢
    rcases hm with e | e
    ·cases e; exact ⟨_, .inl rfl, r⟩
    ·obtain ⟨val, a, b⟩ := ih _ _ R (by simpa using hl) (List.nodup_cons.mp hn).2 e
     exact ⟨val, .inr a, b⟩
 obtain ⟨val, a, b⟩ := key names l vs R hl hn hm
 refine ⟨val, ?_, b⟩
 have nd : ((names.zip vs).reverse.map (·.1)).Nodup := by
  rw [List.map_reverse]
  refine (List.reverse_perm _).nodup_iff.mpr ?_
  have : (names.zip vs).map (·.1) = names := List.map_fst_zip (by rw [R.length, hl]; exact Nat.le_refl _)
  rw [this]; exact hn
 exact Zbo nd (List.mem_reverse.mpr a)
section
variable {prog : Program} {w : World} {A : Around} {R : Result → Shared → Prop} {s : Shared}
theorem Zd4 {body env}
  (h : wpP (model prog w) (A.deeper env) (execs body env) (fun f s' => R (.ok (.ret (match f with | .ret v => v | _ => .none))) s')
   (fun e s' => wpP (model prog w) (A.deeper env) (leaving env e) (fun _ s'' => R (.error e) s'') (fun e' s'' => R (.error e') s'') s') s) : codeP (model prog w) A (.func body env) R s := by
 refine Zaf rfl ?_
 show wpP _ (A.deeper env) (do point; match ← (execs body env).onRaise (leaving env) with | .ret v => ret v | _ => ret .none) _ _ s
 refine Zaa (Zfd (Zaa (wpP_onRaise' ?_)))
 exact Zae h (fun f s' h' => by cases f <;> exact Zab h') fun _ _ h' => h'
where
 wpP_onRaise' {α : Type} {M : Model} {A : Around} {E : Value → Shared → Prop} {s : Shared} {m : Sem α} {k : Value → Sem Unit} {Q : α → Shared → Prop} (h : wpP M A m Q (fun e s' => wpP M A (k e) (fun _ s'' => E e s'') E s') s) : wpP M A (m.onRaise k) Q E s := Zak h
theorem Za2 {a : Addr} {args : Args} {o : Obj} {fd : FuncData} {body : List Stmt} (hroom : A.depth < recursionLimit)
  (ho : s.heap.get? a = some o) (hd' : o.data = .func fd) (hco : fd.scope.isCoroutine = false) (hgen : fd.scope.isGenerator = false) (hbody : fd.body = .stmts body) (hcd : s.heap.CodeRec fd.code fd.qualname)
  (h : wpP (model prog w) A.in1 (bindArgs fd args) (fun binds s₁ =>
   wpP (model prog w) A.in1 (newFunctionEnv fd.scope fd.globals fd.closure binds (fd.qualname ++ ".<locals>.") (some a) fd.code none fd.builtins)
    (fun env s₂ => s₂.heap.NoLimit ∧ codeP (model prog w) A (.func body env) R s₂) (fun e s' => R (.error e) s') s₁) (fun e s' => R (.error e) s') s) :
  codeP (model prog w) A (.call (.ref a) args) R s := by
 injection (prog w A R s a args o fd body) with hroom ho hd' hco hgen hbody hcd h
 refine Zaf rfl ?_
 show wpP _ A.in1 (callAny (.ref a) args) _ _ s
 refine Zaa (m := load a) (Zl1 ho ?_)
 obtain ⟨c, oc, vs, tq, hc, hoc, hdc, hq⟩ := hcd
 obtain ⟨_, _, data, _⟩ := o
 cases (show data = _ from hd')
 show wpP _ A.in1 (callFunction a fd args) _ _ _
 unfold callFunction
 rw [hc, hbody, hco, hgen]
 rw [hc] at h
 refine Zaa (m := field (.ref c) 1) (.of (wpAny_field hoc hdc hq (Zaa (Zab ?_))))
 exact Zaa (Zae h (fun binds s₁ h₁ => Zaa (Zae h₁ (fun env s₂ h₂ => Zaa (.of (wpAny_enterFrame h₂.1 hroom (Zab ⟨rfl, h₂.2⟩)))) fun _ _ h' => h')) fun _ _ h' => h')
theorem Zf5 {a : Addr} {o : Obj} {fd : FuncData} {body : List Stmt} {args : Args} {binds : List (Str × Value)}
  (hroom : A.depth < recursionLimit) (ho : s.heap.get? a = some o) (hdata : o.data = .func fd) (hlim : s.heap.NoLimit) (hcd : s.heap.CodeRec fd.code fd.qualname)
  (hbody : fd.body = .stmts body) (hbind : BindsTo s fd args binds)
  (hcell : ∀ x ∈ fd.scope.names, x.2 ≠ .cell) (hloc : ∀ x ∈ binds, fd.scope.names.lookup x.1 = some .local)
  (h : ∀ h₀, h₀.Ns s.heap.objs.size (fun x => binds.reverse.lookup x) → (∀ b o, s.heap.get? b = some o → h₀.get? b = some o) →
   wpP (model prog w) (A.deeper (callEnv fd s.heap.objs.size a)) (execs body (callEnv fd s.heap.objs.size a)) (fun f s' => R (.ok (.ret (match f with | .ret v => v | _ => .none))) s')
    (fun e s' => wpP (model prog w) (A.deeper (callEnv fd s.heap.objs.size a)) (leaving (callEnv fd s.heap.objs.size a) e) (fun _ s'' => R (.error e) s'') (fun e' s'' => R (.error e') s'') s')
    { s with heap := h₀, toks := s.toks + binds.length })
  (hco : fd.scope.isCoroutine = false := by rfl) (hgen : fd.scope.isGenerator = false := by rfl) (hk : fd.scope.kind = .function := by rfl) :
  codeP (model prog w) A (.call (.ref a) args) R s := by
 refine Za2 hroom ho hdata hco hgen hbody hcd (.of (hbind _ _ _ _ (.of (wpAny_newFunctionEnv hcell hloc (fun h₀ hns₀ hsb₀ => ⟨hlim.fresh _ hsb₀, Zd4 (h h₀ hns₀ fun b o e => ?_)⟩) hk))))
 exact hsb₀.extBut b o (Nat.ne_of_lt (Heap.lt_size e)) (Heap.get?_push_of_some _ e)
end
theorem Zsv {G : Gl} {f c : Addr} {n : Nat} {args : List V} {obs : List (Addr × AO)} {K : V → List (Addr × AO) → Prop} {o oc : Obj} {fd : FuncData} {body : List Stmt} {cvs : Array Value} {ct : Tok} {names rest : List Str} {loc : List (Str × Option V)}
  (ho : G.K.lookup f = some o) (hd : o.data = .func fd) (hb : fd.body = .stmts body) (hcl : fd.closure = []) (hg : fd.globals = mainGlobals) (hbt : fd.builtins = builtinsNs)
  (hc : fd.code = .ref c) (hoc : G.K.lookup c = some oc) (hdc : oc.data = .fields cvs) (hcv : cvs[1]? = some (.str fd.qualname ct))
  (hnl : names.length = args.length) (hbind : ∀ vs : List Value, vs.length = names.length → bindArgs fd ⟨vs, []⟩ = pure (names.zip vs))
  (hloc : ∀ x ∈ names, fd.scope.names.lookup x = some .local) (hcell : ∀ x ∈ fd.scope.names, x.2 ≠ .cell) (hnn : (names ++ rest).Nodup)
  (hco : fd.scope.isCoroutine = false) (hgen : fd.scope.isGenerator = false) (hk : fd.scope.kind = .function)
  (h : ∀ (R : Ar G n) (L : Addr), XV (R.cx (callEnv fd L f) hg hbt) (execs body (callEnv fd L f)) ⟨loc, obs⟩ (fnK K)) (hl : names.zip (args.map some) ++ rest.map (·, none) = loc := by rfl) :
  Fn G (.ref f) (n + 1) args obs K := by
 injection (G f c n args obs K o oc fd body cvs ct names rest loc) with ho hd hb hcl hg hbt hc hoc hdc hcv hnl hbind hloc hcell hnn hco hgen hk h hl
 intro A fz s vs E g ok L R
 injection (A fz s vs E) with g ok L R
 subst hl
 have hlen := R.length
 have nn : names.Nodup := (List.nodup_append.mp hnn).1
 refine Za0 (Zf5 (fd := fd) (body := body) (binds := names.zip vs) (by have := g.d; lia) (L.frz _ _ (ok.sub _ _ ho)) hd (ok.top _ L.frz).2.2
  ⟨c, oc, cvs, ct, hc, L.frz _ _ (ok.sub _ _ hoc), hdc, hcv⟩ hb (BindsTo.of_eq (hbind vs (by rw [hlen, hnl]))) hcell (fun x hx => hloc x.1 (List.of_mem_zip hx).1) (fun h₀ hns hkeep => ?_) hco hgen hk)
 let Ra : Ar G n := ⟨A.deeper (callEnv fd s.heap.objs.size f), fz, s.gens, s.drawn, s.os, ok, g.deeper _⟩
 have H : Holds (Ra.cx (callEnv fd s.heap.objs.size f) hg hbt) ⟨names.zip (args.map some) ++ rest.map (·, none), obs⟩ { s with heap := h₀, toks := s.toks + (names.zip vs).length } := by
  have lts : ∀ p ∈ obs, p.1 < s.heap.objs.size := fun p hp => (by obtain ⟨O, e, _⟩ := L.has p hp; exact Heap.lt_size e)
  refine ⟨fun b o' e => hkeep _ _ (L.frz b o' e), ⟨_, hns, fun x v hx => ?_⟩, fun p hp => (by obtain ⟨O, e, r⟩ := L.has p hp; exact ⟨O, hkeep _ _ e, r.mono (.of_ext hkeep)⟩), ?_, fun a ha => ?_, ?_, GK.refl _, rfl, rfl⟩
  ·rcases List.mem_append.mp hx with hx | hx
   ·exact Zbf (binds := []) (R.mono (.of_ext hkeep)) hnl nn x v hx
   ·obtain ⟨y, _, e⟩ := List.mem_map.mp hx; cases e
  ·show (s.heap.objs.size :: obs.map (·.1)).Nodup
   refine List.nodup_cons.mpr ⟨fun hm => ?_, L.nd⟩
   obtain ⟨p, hp, q⟩ := List.mem_map.mp hm
   exact absurd (lts p hp) (by rw [q]; exact Nat.lt_irrefl _)
  ·rcases List.mem_cons.mp ha with q | q
   ·have q' : a = s.heap.objs.size := q
    subst q'
    cases e : fz s.heap.objs.size with
    | none => exact e
    | some o2 => exact absurd (Heap.lt_size (L.frz _ _ e)) (Nat.lt_irrefl _)
   ·exact L.ap a q
  ·show ((names.zip (args.map some) ++ rest.map fun x => ((x, none) : Str × Option V)).map fun x : Str × Option V => x.1).Nodup
   have e1 : (names.zip (args.map some)).map (fun x : Str × Option V => x.1) = names := List.map_fst_zip (by rw [List.length_map, hnl]; exact Nat.le_refl _)
   rw [List.map_append, e1, List.map_map]
   have e2 : rest.map ((fun x : Str × Option V => x.1) ∘ fun x : Str => ((x, none) : Str × Option V)) = rest := by simp [Function.comp_def]
   rw [e2]; exact hnn
 refine Zae (h Ra s.heap.objs.size _ H) ?_ fun _ _ e => e.elim
 rintro fl s' ⟨a, σ', hK, r, H', tk⟩
 have hK2 : ∃ l, K a.val l ∧ Drp σ'.obs l := by cases a <;> exact hK
 obtain ⟨l, hKl, hd⟩ := hK2
 refine ⟨a.val, l, hKl, ?_, ⟨H'.frz, fun p hp => H'.obs p (hd.mem hp), hd.nd (List.nodup_cons.mp H'.nd).2, fun a ha => H'.ap a (.tail _ (hd.keys ha))⟩, (TK.of_ext hkeep).trans tk, H'.gens, H'.drawn, H'.os⟩
 cases r <;> first | exact VR.none | assumption
structure ZS (k : Nat) where
 P : Params
 G : Gl
 n : Nat
 R : Ar G (n + k)
theorem Zpa (k : Nat) (hk : k ≤ 12) : Nonempty (ZS k) :=
 ⟨⟨Zux, exGl, 0, ⟨callerA, Zz1, #[], {}, {}, exOk, ⟨by
   have h : callerA.depth + 12 < recursionLimit := by decide +kernel
   omega, by
   have h : callerA.units + 20 * 12 < cLine := by decide +kernel
   omega, rfl, ⟨_, rfl⟩, rfl⟩⟩⟩⟩
theorem zs {k : Nat} (hk : k ≤ 12) {p : ∀ (P : Params) (G : Gl) (n : Nat), Ar G (n + k) → Prop} (h : p (y1 (Zpa k hk) fun z : ZS k => p z.P z.G z.n z.R).P (y1 (Zpa k hk) fun z : ZS k => p z.P z.G z.n z.R).G (y1 (Zpa k hk) fun z : ZS k => p z.P z.G z.n z.R).n (y1 (Zpa k hk) fun z : ZS k => p z.P z.G z.n z.R).R) :
  ∀ P G n R, p P G n R := fun P G n R => yy (Zpa k hk) (p := fun z : ZS k => p z.P z.G z.n z.R) h ⟨P, G, n, R⟩
theorem Pick.mem {x : Addr × AO} : ∀ {l l' : List (Addr × AO)}, Pick x l l' → x ∈ l := fun h => h.perm.mem_iff.mpr (.head _)
section
variable {C : Cx} {σ : St}
theorem Holds.dropExt {s : Shared} (H : Holds C σ s) {a : Addr} {o : AO} {l' : List (Addr × AO)} (p : Pick (a, o) σ.obs l') {h' : Heap} (hs : Heap.ExtBut a s.heap h') (n : Nat) :
  Holds C ⟨σ.loc, l'⟩ { s with heap := h', toks := n } ∧ TK s.heap h' := by
 injection (C σ s a o l' h' n) with H p hs
 refine Zal (H.loc) fun m hN hm => ?_
 refine Zal (H.obs _ p.mem) fun O₀ e₀ r₀ => ?_
 have P := p.perm
 have tk : TK s.heap h' := fun b vs k e => by
  by_cases hb : b = a
  ·subst hb
   have e₀' : s.heap.get? b = some O₀ := e₀
   rw [e₀'] at e
   exact absurd (Option.some.inj e) (r₀.noTup vs k)
  ·exact hs b _ hb e
 have nd := (List.nodup_cons.mp H.nd).2
 have nd2 : (a :: l'.map (·.1)).Nodup := (P.map (fun x : Addr × AO => x.1)).nodup_iff.mp nd
 have hL : C.env.locals ≠ a := fun q => (List.nodup_cons.mp H.nd).1 (q ▸ List.mem_map.mpr ⟨_, p.mem, rfl⟩)
 have sub : ∀ q ∈ l', q ∈ σ.obs := fun q hq => P.mem_iff.mpr (.tail _ hq)
 have ne : ∀ q ∈ l', q.1 ≠ a := fun q hq e => (List.nodup_cons.mp nd2).1 (e ▸ List.mem_map.mpr ⟨q, hq, rfl⟩)
 refine ⟨⟨fun b ob eb => hs b ob (fun q => ?_) (H.frz b ob eb), ⟨m, hN.extBut hs hL, fun x v hx => (by obtain ⟨val, e, r⟩ := hm x v hx; exact ⟨val, e, r.mono tk⟩)⟩, fun q hq => ?_, ?_, fun b hb => ?_, H.nn, H.gens, H.drawn, H.os⟩, tk⟩
 ·have := H.ap a (.tail _ (List.mem_map.mpr ⟨_, p.mem, rfl⟩))
  rw [← q, eb] at this; cases this
 ·refine Zal (H.obs q (sub q hq)) fun O e r => ?_
  exact ⟨O, hs _ _ (ne q hq) e, r.mono tk⟩
 ·refine List.nodup_cons.mpr ⟨fun hm => ?_, (List.nodup_cons.mp nd2).2⟩
  obtain ⟨q, hq, e⟩ := List.mem_map.mp hm
  exact (List.nodup_cons.mp H.nd).1 (e ▸ List.mem_map.mpr ⟨q, sub q hq, rfl⟩)
 ·rcases List.mem_cons.mp hb with q | q
  ·exact H.ap b (q ▸ .head _)
  ·obtain ⟨p', hp', e⟩ := List.mem_map.mp q
   exact H.ap b (.tail _ (e ▸ List.mem_map.mpr ⟨p', sub p' hp', rfl⟩))
theorem Holds.drop {s : Shared} (H : Holds C σ s) {x : Addr × AO} {l' : List (Addr × AO)} (p : Pick x σ.obs l') : Holds C ⟨σ.loc, l'⟩ s := by
 obtain ⟨a, o⟩ := x
 exact (H.dropExt p (fun _ _ _ e => e) s.toks).1
noncomputable abbrev Rf (C : Cx) (K : Fl → St → Prop) (s : Shared) : Result → Shared → Prop := fun r s' => match r with
 | .ok f => Pst C FlR K s f s'
 | .error _ => False
noncomputable def FL (C : Cx) (target : Expr) (it : Value) (body orelse : List Stmt) (σ : St) (K : Fl → St → Prop) : Prop :=
 ∀ s, Holds C σ s → codeP (model C.G.prog C.G.w) C.A (.forLoop target it body orelse C.env) (Rf C K s) s
noncomputable def WL (C : Cx) (test : Expr) (body orelse : List Stmt) (σ : St) (K : Fl → St → Prop) : Prop :=
 ∀ s, Holds C σ s → codeP (model C.G.prog C.G.w) C.A (.whileLoop test body orelse C.env) (Rf C K s) s
noncomputable def NX (C : Cx) (it : Value) (σ : St) (Ks : V → St → Prop) (Kn : St → Prop) : Prop :=
 ∀ s E, Holds C σ s → wpP (model C.G.prog C.G.w) C.A (pyNext it) (fun r s' => match r with
  | some v => ∃ a σ', Ks a σ' ∧ VR s'.heap a v ∧ Holds C σ' s' ∧ TK s.heap s'.heap
  | none => ∃ σ', Kn σ' ∧ Holds C σ' s' ∧ TK s.heap s'.heap) E s
noncomputable def NL (C : Cx) (target : Expr) (it : Value) (σ : St) (Ks : V → St → Prop) (Kn : St → Prop) : Prop :=
 ∀ s E, Holds C σ s → wpP (model C.G.prog C.G.w) C.A (pyNext it) (fun r s' => match r with
  | some v => wpP (model C.G.prog C.G.w) C.A (letOwnedTupleGo target it v) (fun _ s'' => ∃ a σ', Ks a σ' ∧ VR s''.heap a v ∧ Holds C σ' s'' ∧ TK s.heap s''.heap) C.E s'
  | none => ∃ σ', Kn σ' ∧ Holds C σ' s' ∧ TK s.heap s'.heap) E s
theorem NL.name {x : Str} {p : Pos} {it : Value} {Ks : V → St → Prop} {Kn : St → Prop} (h : NX C it σ Ks Kn) : NL C (.Name x p) it σ Ks Kn := fun s E H =>
 Zae (h s E H) (fun r s' h => by
  cases r with
  | some v => exact Zab h
  | none => exact h) fun _ _ e => e
theorem NL.mono {target : Expr} {it : Value} {Ks Ks' : V → St → Prop} {Kn Kn' : St → Prop} (h : NL C target it σ Ks Kn) (k : ∀ v σ, Ks v σ → Ks' v σ) (k' : ∀ σ, Kn σ → Kn' σ) : NL C target it σ Ks' Kn' := fun s E H =>
 Zae (h s E H) (fun r s' h => by
  cases r with
  | some v => exact Zae h (by rintro _ s'' ⟨a, σ', x, y⟩; exact ⟨a, σ', k _ _ x, y⟩) fun _ _ e => e
  | none => obtain ⟨σ', x, y⟩ := h; exact ⟨σ', k' _ x, y⟩) fun _ _ e => e
noncomputable def ownsTuple : List String := ["enumerate", "zip", "dict_itemiterator", "dict_reverseitemiterator", "odict_iterator", "itertools.zip_longest", "itertools.pairwise"]
theorem NL.tuple {elts : List Expr} {k : Nat} {p : Pos} {it : Addr} {Ks : V → St → Prop} {Kn : St → Prop} (h : NX C (.ref it) σ Ks Kn)
  (hp : ∀ a σ', Ks a σ' → ∀ s, Holds C σ' s → ∃ O n, s.heap.get? it = some O ∧ O.cls = .type n ∧ ownsTuple.contains n = false) : NL C (.Tuple elts k p) (.ref it) σ Ks Kn := by
 injection (C σ elts k p it Ks Kn) with h hp
 exact fun s E H =>
  Zae (h s E H) (fun r s' h => by
   cases r with
   | some v =>
    obtain ⟨a, σ', x, y, z, t⟩ := h
    obtain ⟨O, n, e, hc, hn⟩ := hp a σ' x s' z
    have fin : wpP (model C.G.prog C.G.w) C.A (pure ()) (fun _ s'' => ∃ a σ', Ks a σ' ∧ VR s''.heap a v ∧ Holds C σ' s'' ∧ TK s.heap s''.heap) C.E s' := Zab ⟨a, σ', x, y, z, t⟩
    unfold letOwnedTupleGo
    cases v with
    | ref b =>
     refine Zaa (.of (wpAny_load e ?_))
     have hn' : (["enumerate", "zip", "dict_itemiterator", "dict_reverseitemiterator", "odict_iterator", "itertools.zip_longest", "itertools.pairwise"].contains n) = false := hn
     rw [hc]
     cases hd : O.data with
     | fields vs =>
      simp only [hn', Bool.false_and, Bool.false_eq_true, if_false]
      exact fin
     | _ => exact fin
    | _ => exact fin
   | none => exact h) fun _ _ e => e
theorem Rf.tk {K : Fl → St → Prop} {s s₁ : Shared} (k : TK s.heap s₁.heap) {r : Result} {s' : Shared} (h : Rf C K s₁ r s') : Rf C K s r s' := by
 cases r with
 | ok f => exact Pst.tk k h
 | error e => exact h
theorem Za5 {A : Around} {c : Code} (h : c.weight = 0) (hu : c.cUnits = 0) : A.under c = A := Around.under_of_weight h hu
theorem Zkz {stmts : List Stmt} {K : Fl → St → Prop} (hE : ∀ e s, ¬ C.E e s) {s₀ : Shared} (h : XV C (execs stmts C.env) σ K) {s : Shared} (H : Holds C σ s) (t : TK s₀.heap s.heap) : codeP (model C.G.prog C.G.w) C.A (.block stmts C.env) (Rf C K s₀) s := by
 refine Zaf rfl ?_
 rw [Za5 rfl rfl]
 show wpP _ _ (do return Fin.done (← (execs stmts C.env).onRaise (fun x => do noteFrame x C.env; theTreesLotGoes x))) _ _ s
 exact Zaa (Zak (Zae (h s H) (fun f s' p => Zab (Pst.tk t p)) fun e s' he => absurd he (hE e s')))
theorem Zhs {target : Expr} {it : Value} {body orelse : List Stmt} {K : Fl → St → Prop} (hE : ∀ e s, ¬ C.E e s)
  (h : NL C target it σ (fun a σ₂ => U1 C (assign target C.env) a σ₂ fun σ₃ => XV C (execs body C.env) σ₃ (lpK (fun σ₄ => FL C target it body orelse σ₄ K) K)) (fun σ₁ => XV C (execs orelse C.env) σ₁ K)) : FL C target it body orelse σ K := by
 injection (C σ target it body orelse K) with hE h
 intro s H
 injection (s) with H
 refine Zaf rfl ?_
 rw [Za5 rfl rfl]
 show wpP _ _ ((forTurn target it body orelse C.env).onRaise (fun x => do noteFrame x C.env; theTreesLotGoes x)) _ _ s
 refine Zak ?_
 simp only [forTurn]
 refine Zaa (Zac (Zaa (Zak (Zae (h s _ H) (fun r s₁ h₁ => ?_) fun _ _ h' => Zac h'))))
 cases r with
 | none =>
  obtain ⟨σ₁, k, H₁, t₁⟩ := h₁
  exact Zab ⟨rfl, Zkz hE k H₁ t₁⟩
 | some v =>
  refine Zaa (Zae h₁ (fun _ s₂ p₂ => ?_) fun e s₂ he => absurd he (hE e s₂))
  obtain ⟨a, σ₂, k₂, r₂, H₂, t₂⟩ := p₂
  refine Zaa (Zba hE (k₂ s₂ v H₂ r₂) (fun _ s₃ _ σ₃ k₃ _ H₃ t₃ => ?_))
  have t13 := t₂.trans t₃
  refine Zaa (Zba hE (k₃ s₃ H₃) (fun f s₄ fl σ₄ k₄ r₄ H₄ t₄ => ?_))
  have t14 := t13.trans t₄
  cases r₄ with
  | next => exact Zab ⟨rfl, Zao (k₄ s₄ H₄) fun r s' x => Rf.tk t14 x⟩
  | cont => exact Zab ⟨rfl, Zao (k₄ s₄ H₄) fun r s' x => Rf.tk t14 x⟩
  | brk => exact Zab ⟨.next, σ₄, k₄, .next, H₄, t14⟩
  | ret r => exact Zab ⟨.ret _, σ₄, k₄, .ret r, H₄, t14⟩
theorem Zv8 {test : Expr} {body orelse : List Stmt} {K : Fl → St → Prop} (hE : ∀ e s, ¬ C.E e s)
  (h : BV C (isTrue test C.env (eval test C.env)) σ fun b σ₁ => (b = true → XV C (execs body C.env) σ₁ (lpK (fun σ₂ => WL C test body orelse σ₂ K) K)) ∧ (b = false → XV C (execs orelse C.env) σ₁ K)) : WL C test body orelse σ K := by
 injection (C σ test body orelse K) with hE h
 intro s H
 injection (s) with H
 refine Zaf rfl ?_
 rw [Za5 rfl rfl]
 show wpP _ _ ((whileTurn test body orelse C.env).onRaise (fun x => do noteFrame x C.env; theTreesLotGoes x)) _ _ s
 refine Zak ?_
 simp only [whileTurn]
 refine Zaa (Zba hE (h s H) (fun b s₁ b' σ₁ k₁ r₁ H₁ t₁ => ?_))
 subst r₁
 cases b with
 | false =>
  simp only [Bool.false_eq_true, if_false]
  exact Zaa (Zae (k₁.2 rfl s₁ H₁) (fun f s₂ p => Zab (Pst.tk t₁ p)) fun e s₂ he => absurd he (hE e s₂))
 | true =>
  simp only [if_true]
  refine Zaa (Zba hE (k₁.1 rfl s₁ H₁) (fun f s₂ fl σ₂ k₂ r₂ H₂ t₂ => ?_))
  have t12 := t₁.trans t₂
  cases r₂ with
  | next => exact Zab ⟨rfl, Zao (k₂ s₂ H₂) fun r s' x => Rf.tk t12 x⟩
  | cont => exact Zab ⟨rfl, Zao (k₂ s₂ H₂) fun r s' x => Rf.tk t12 x⟩
  | brk => exact Zab ⟨.next, σ₂, k₂, .next, H₂, t12⟩
  | ret r => exact Zab ⟨.ret _, σ₂, k₂, .ret r, H₂, t12⟩
theorem Zmf {c : Code} {K : Fl → St → Prop} {s₀ s : Shared} (h : codeP (model C.G.prog C.G.w) C.A c (Rf C K s₀) s) : wpP (model C.G.prog C.G.w) C.A (runOwn c C.env) (Pst C FlR K s₀) C.E s := by
 unfold runOwn
 refine Zak (Zh3 (A := C.A) (h := none) ?_)
 exact Zao h fun r s' x => by
  cases r with
  | ok f => exact x
  | error e => exact x.elim
theorem Zfe {test : Expr} {body orelse : List Stmt} {pos : Pos} {K : Fl → St → Prop} (h : WL C test body orelse σ K) : XV C (exec (.While test body orelse pos) C.env) σ K := fun s H => by
 rw [exec_While]
 exact Zaa (Zac (Zmf (h s H)))
theorem x_for {target iter : Expr} {body orelse : List Stmt} {pos : Pos} {K : Fl → St → Prop}
  (h : EV C (eval iter C.env) σ fun a σ₁ => ∀ va s, Holds C σ₁ s → VR s.heap a va → wpP (model C.G.prog C.G.w) C.A (pyIter va) (fun it s' => ∃ σ', FL C target it body orelse σ' K ∧ Holds C σ' s' ∧ TK s.heap s'.heap) C.E s)
  (hs : ∀ x, foldedSetIterable iter C.env x = pure x := by intro _; rfl) : XV C (exec (.For target iter body orelse pos) C.env) σ K := fun s H => by
 rw [exec_For]
 refine Zaa (Zac (Zaa (h.step H fun a σ₁ va s₁ h₁ ra H₁ k₁ => ?_)))
 rw [hs va]
 exact Zaa (Zab (Zaa (Zac (Zaa (Zad (Zae (h₁ va s₁ H₁ ra) (by rintro it s₂ ⟨σ', x, H₂, t₂⟩; exact Zmf (Zao (x s₂ H₂) fun r s' y => Rf.tk (k₁.trans t₂) y)) fun _ _ e => e))))))
noncomputable def IT (C : Cx) (a : V) (σ : St) (K : Value → St → Prop) : Prop :=
 ∀ va s, Holds C σ s → VR s.heap a va → wpP (model C.G.prog C.G.w) C.A (pyIter va) (fun it s' => ∃ σ', K it σ' ∧ Holds C σ' s' ∧ TK s.heap s'.heap) C.E s
theorem Zqx {a : Addr} {l : List V} {K : Value → St → Prop} (hl : LkO a (.list l) σ.obs) (k : ∀ it, K (.ref it) ⟨σ.loc, (it, .liter a 0) :: σ.obs⟩) : IT C (.ref a) σ K := fun va s H r => by
 o_facts r
 refine Zb4 (H.list hl) fun vs n e r => ?_
 refine .of <| wpAny_pyIter_list ⟨_, e, rfl, n, rfl⟩ ⟨_, k _, H.alloc (fun b o e => Heap.get?_push_of_some _ e) (Nat.le_refl _) (Heap.get?_push_size _ rfl) (.liter rfl rfl) s.toks, .of_ext fun b o e => Heap.get?_push_of_some _ e⟩
theorem Zyj {l : List V} {K : Value → St → Prop} (k : ∀ it, K (.ref it) ⟨σ.loc, (it, .titer l 0) :: σ.obs⟩) : IT C (.tup l) σ K := fun va s H r => by
 revert r
 intro r0
 refine VR.tupK r0 fun _ _ _ e r e0 => ?_
 subst e0
 refine .of <| wpAny_pyIter_tuple ⟨_, e, rfl, _, rfl⟩ ⟨_, k _, H.alloc (fun b o e => Heap.get?_push_of_some _ e) (Nat.le_refl _) (Heap.get?_push_size _ rfl) (.titer rfl rfl (Heap.get?_push_of_some _ e) (r.mono (.of_ext fun b o e => Heap.get?_push_of_some _ e))) s.toks, .of_ext fun b o e => Heap.get?_push_of_some _ e⟩
theorem Zo7 {it a : Addr} {l : List V} {i : Nat} {obs' rest : List (Addr × AO)} {Ks : V → St → Prop} {Kn : St → Prop} (hh : C.A.handled = none) (hl : LkO a (.list l) σ.obs) (u : UpO it (.liter a i) (.liter a (i + 1)) σ.obs obs')
  (p : Pick (it, .liter a i) σ.obs rest) (ks : ∀ x, l[i]? = some x → Ks x ⟨σ.loc, obs'⟩) (kn : l[i]? = none → Kn ⟨σ.loc, rest⟩) : NX C (.ref it) σ Ks Kn := by
 injection (C σ it a l i obs' rest Ks Kn) with hh hl u p ks kn
 intro s E H
 refine Zb4 (H.list hl) fun vs n e r => ?_
 refine Zal (H.obj u.lk) fun O eo ro => ?_
 injection (s E vs O) with H e r eo ro
 refine And.elim (fun c d => ?_) (OR.literE ro)
 cases hx : l[i]? with
 | some x =>
  refine Zal (r.get i hx) fun v hv rv => ?_
  refine .of <| wpAny_pyNext_list_item ⟨O, eo, c, d⟩ ⟨_, e, rfl, n, rfl⟩ (by simpa using hv) fun h' hi hs => ?_
  obtain ⟨o2, e2, c2, d2⟩ := hi
  refine And.elim (fun H' tk => ?_) (H.set u hs e2 (.liter c2 d2) s.toks)
  exact ⟨x, _, ks x hx, rv.mono tk, H', tk⟩
 | none =>
  have : vs.toArray[i]? = none := by
   have h1 : l.length ≤ i := by simpa using hx
   have := r.length
   simp; lia
  refine .of <| wpAny_pyNext_list_end hh ⟨O, eo, c, d⟩ ⟨_, e, rfl, n, rfl⟩ this fun h' hx' => ?_
  refine And.elim (fun H' tk => ?_) (H.dropExt p hx' s.toks)
  exact ⟨_, kn hx, H', tk⟩
theorem Zt3 {it : Addr} {l : List V} {i : Nat} {obs' rest : List (Addr × AO)} {Ks : V → St → Prop} {Kn : St → Prop} (hh : C.A.handled = none) (u : UpO it (.titer l i) (.titer l (i + 1)) σ.obs obs')
  (p : Pick (it, .titer l i) σ.obs rest) (ks : ∀ x, l[i]? = some x → Ks x ⟨σ.loc, obs'⟩) (kn : l[i]? = none → Kn ⟨σ.loc, rest⟩) : NX C (.ref it) σ Ks Kn := fun s E H => by
 refine Zal (H.obj u.lk) fun O eo ro => ?_
 refine OR.titerK ro fun _ _ _ c d e r => ?_
 rename_i t vs n
 cases hx : l[i]? with
 | some x =>
  refine Zal (r.get i hx) fun v hv rv => ?_
  refine .of <| wpAny_pyNext_tuple_item ⟨O, eo, c, d⟩ ⟨_, e, rfl, n, rfl⟩ (by simpa using hv) fun h' hi hs => ?_
  obtain ⟨o2, e2, c2, d2⟩ := hi
  refine And.elim (fun H' tk => ?_) (H.set u hs e2 (.titer c2 d2 e r) s.toks)
  exact ⟨x, _, ks x hx, rv.mono tk, H', tk⟩
 | none =>
  have : vs.toArray[i]? = none := by
   have h1 : l.length ≤ i := by simpa using hx
   have := r.length
   simp; lia
  refine .of <| wpAny_pyNext_tuple_end hh ⟨O, eo, c, d⟩ ⟨_, e, rfl, n, rfl⟩ this fun h' hx' => ?_
  refine And.elim (fun H' tk => ?_) (H.dropExt p hx' s.toks)
  exact ⟨_, kn hx, H', tk⟩
theorem Zl2 {it : Addr} {x left step : Int} {obs' rest : List (Addr × AO)} {Ks : V → St → Prop} {Kn : St → Prop} (hh : C.A.handled = none) (u : UpO it (.riter x left step) (.riter (x + step) (left - 1) step) σ.obs obs')
  (p : Pick (it, .riter x left step) σ.obs rest) (ks : 0 < left → Ks (.int x) ⟨σ.loc, obs'⟩) (kn : left ≤ 0 → Kn ⟨σ.loc, rest⟩) : NX C (.ref it) σ Ks Kn := fun s E H => by
 refine Zal (H.obj u.lk) fun O eo ro => ?_
 cases ro
 by_cases hp : 0 < left
 ·refine .of <| wpAny_pyNext_range_item eo hp fun h' hi hs => ?_
  refine And.elim (fun H' tk => ?_) (H.set u hs hi (.riter _ _ _) (s.toks + 1))
  exact ⟨_, _, ks hp, .int x _, H', tk⟩
 ·refine .of <| wpAny_pyNext_range_end hh eo (by lia) fun h' hx' => ?_
  refine And.elim (fun H' tk => ?_) (H.dropExt p hx' s.toks)
  exact ⟨_, kn (by lia), H', tk⟩
theorem Zfa {x : Str} {pos : Pos} {a : V} {K : St → Prop} (h : U1 C (storeName C.env x) a σ K) : U1 C (assign (.Name x pos) C.env) a σ K := fun s v H r => by
 rw [arm_assign_Name]
 exact Zaa (Zac (Zbl (h s v H r)))
end
section
variable {C : Cx} {σ : St} {α β : Type}
theorem Holds.inK {s : Shared} (H : Holds C σ s) : C.G.K.In s.heap := fun a o e => H.frz _ _ (C.ok.sub _ _ e)
theorem Zjk {A : Around} {E : Value → Shared → Prop} {M : Model} {s : Shared} {pos : Pos} {f : Value} {first : List Value} {args : List (Bool × Sem Value)} {Q : Value → Shared → Prop} {P : Heap → Prop} (hplain : args.any (·.1) = false)
  (hk : ∀ h, P h → ∃ k, (k = Keeper.frame ∨ k = Keeper.machine ∨ k = Keeper.boundFrame ∨ k = Keeper.caller) ∧ Looks M h (keeperOf f) k)
  (h : wpP M A (spliced args) (fun vs s₁ => P s₁.heap ∧ wpP M A (call f (first ++ vs)) Q E s₁) E s) : wpP M A (callWith pos f first args []) Q E s := by
 injection (A E M s pos f first args Q P) with hplain hk h
 have ev : wpP M A (evalArgs f true args []) (fun a s₁ => a.kw = [] ∧ P s₁.heap ∧ wpP M A (call f (first ++ a.pos)) Q E s₁) E s := by
  have fin : wpP M A (spliced args >>= fun pos => holding (pos ++ (none : Option Value).toList) (do
    if ([] : List (Option Str × Sem Value)).all (·.1.isSome) then
     let kw := (([] : List (Option Str × Sem Value)).filterMap (·.1)).zip (← evalAll (([] : List (Option Str × Sem Value)).map (·.2)))
     return (⟨pos, kw⟩ : Args)
    pure ⟨pos, []⟩)) (fun a s₁ => a.kw = [] ∧ P s₁.heap ∧ wpP M A (call f (first ++ a.pos)) Q E s₁) E s := by
   refine Zaa (Zae h (fun vs s₁ h₁ => Zad ?_) fun _ _ e => e)
   exact Zab (M := M) (A := A) (E := E) (a := (⟨vs, []⟩ : Args)) ⟨rfl, h₁⟩
  unfold evalArgs
  cases args with
  | nil => exact fin
  | cons x rest =>
   obtain ⟨b, x⟩ := x
   have hb : b = false := by simp at hplain; exact hplain.1
   subst hb
   exact fin
 unfold callWith
 refine Zaa (Zad (Zae ev (fun a s₁ h₁ => Zaa (Zac ?_)) fun _ _ x => x))
 obtain ⟨hkw, hP, hc⟩ := h₁
 obtain ⟨k, hk', L⟩ := hk _ hP
 have hst : (args.any (·.1) || ([] : List (Option Str × Sem Value)).any (·.1.isNone)) = false := by rw [hplain]; rfl
 rw [hst]
 rw [hkw]
 refine Zaa (.of (L.here ?_))
 have tail : ∀ {t : Sem Value}, wpP M A t Q E s₁ → wpP M A (t >>= fun r => holding [r] point >>= fun _ => pure r) Q E s₁ :=
  fun ht => Zaa (Zae ht (fun r s₂ hr => Zaa (Zad (Zfd (Zab hr)))) fun _ _ x => x)
 have marked (mk : Value) : wpP M A (callMarked mk f (first ++ a.pos) []) Q E s₁ := by unfold callMarked; exact Zs5 hc
 have oper (vs : List Value) : wpP M A (operate vs (call f (first ++ a.pos) [])) Q E s₁ := Za4 hc
 rcases hk' with rfl | rfl | rfl | rfl <;> dsimp only <;> first | exact tail hc | exact tail (oper _) | (split <;> first | exact tail hc | exact tail (marked _))
noncomputable def CA (C : Cx) (f : V) (first : List V) (args : List Expr) (pos : Pos) (env : Env) (σ : St) (K : V → St → Prop) : Prop :=
 ∀ s fv fs, Holds C σ s → VR s.heap f fv → VRs s.heap first fs → wpP (model C.G.prog C.G.w) C.A (callWith pos fv fs (backTo pos (starEach args env)) []) (Pst C VR K s) C.E s
noncomputable def CF (C : Cx) (f : V) (l : List V) (σ : St) (K : V → St → Prop) : Prop :=
 ∀ s fv vs, Holds C σ s → VR s.heap f fv → VRs s.heap l vs → wpP (model C.G.prog C.G.w) C.A (call fv vs) (Pst C VR K s) C.E s
theorem Zss {f : V} {first : List V} {args : List Expr} {pos : Pos} {env : Env} {K : V → St → Prop} (hplain : (backTo pos (starEach args env)).any (·.1) = false)
  (h : LV C (spliced (backTo pos (starEach args env))) σ fun l σ₁ => (∀ s fv, Holds C σ₁ s → VR s.heap f fv → ∃ k, (k = Keeper.frame ∨ k = Keeper.machine ∨ k = Keeper.boundFrame ∨ k = Keeper.caller) ∧ Looks (model C.G.prog C.G.w) s.heap (keeperOf fv) k) ∧
   CF C f (first ++ l) σ₁ K) : CA C f first args pos env σ K := fun s fv fs H rf rfs => by
 refine Zjk (P := fun h => ∃ k, (k = Keeper.frame ∨ k = Keeper.machine ∨ k = Keeper.boundFrame ∨ k = Keeper.caller) ∧ Looks (model C.G.prog C.G.w) h (keeperOf fv) k) hplain (fun _ x => x)
  (h.step H fun l σ₁ vs s₁ k rl H₁ t => ⟨k.1 s₁ fv H₁ (rf.mono t), Zae (k.2 s₁ fv _ H₁ (rf.mono t) ((rfs.mono t).append rl)) (fun _ _ p => p.tk t) fun _ _ e => e⟩)
theorem Zzh {id : String} {first : List V} {args : List Expr} {pos : Pos} {env : Env} {K : V → St → Prop}
  (h : LV C (spliced (backTo pos (starEach args env))) σ fun l σ₁ => CF C (.bi id) (first ++ l) σ₁ K) (hplain : (backTo pos (starEach args env)).any (·.1) = false := by rfl) : CA C (.bi id) first args pos env σ K :=
 Zss hplain (h.mono fun l σ₁ k => ⟨fun s fv H r => by o_facts r; exact ⟨.machine, .inr (.inl rfl), .now⟩, k⟩)
theorem ca_ty {T : String} {first : List V} {args : List Expr} {pos : Pos} {env : Env} {K : V → St → Prop}
  (h : LV C (spliced (backTo pos (starEach args env))) σ fun l σ₁ => CF C (.ty T) (first ++ l) σ₁ K) (hplain : (backTo pos (starEach args env)).any (·.1) = false := by rfl) : CA C (.ty T) first args pos env σ K :=
 Zss hplain (h.mono fun l σ₁ k => ⟨fun s fv H r => by o_facts r; exact ⟨.machine, .inr (.inl rfl), .now⟩, k⟩)
theorem ca_K {a : Addr} {first : List V} {args : List Expr} {pos : Pos} {env : Env} {K : V → St → Prop} (hk : keepIn C.G.K (.ref a) = true)
  (h : LV C (spliced (backTo pos (starEach args env))) σ fun l σ₁ => CF C (.ref a) (first ++ l) σ₁ K) (hplain : (backTo pos (starEach args env)).any (·.1) = false := by rfl) : CA C (.ref a) first args pos env σ K :=
 Zss hplain (h.mono fun l σ₁ k => ⟨fun s fv H r => by
  o_facts r
  obtain ⟨k, a, b⟩ := looks_keep (M := model C.G.prog C.G.w) hk H.inK
  exact ⟨k, a.elim .inl (fun e => .inr (.inl e)), b⟩, k⟩)
theorem Zwn {func : Expr} {args : List Expr} {pos : Pos} {env : Env} {K : V → St → Prop} (h : EV C (eval func env) σ fun f σ₁ => CA C f [] args pos env σ₁ K)
  (he : eval (.Call func args [] pos) env = (do callWith pos (← eval func env) [] (backTo pos (starEach args env)) (backToKw pos (keywordEach [] env))) := by rfl) : EV C (eval (.Call func args [] pos) env) σ K := fun s H => by
 rw [he]
 exact Zaa (h.step H fun f σ₁ v s₁ k r H₁ t => Zae (k s₁ v [] H₁ r .nil) (fun _ _ p => p.tk t) fun _ _ e => e)
noncomputable def GM (C : Cx) (a : V) (name : Str) (σ : St) (K : V → List V → St → Prop) : Prop :=
 ∀ s v pl, Holds C σ s → VR s.heap a v → wpP (model C.G.prog C.G.w) C.A (getMethod v name pl) (fun fx s' => ∃ f first σ', K f first σ' ∧ VR s'.heap f fx.1 ∧ VRs s'.heap first fx.2 ∧ Holds C σ' s' ∧ TK s.heap s'.heap) C.E s
theorem Zvs {o : Expr} {name : Str} {apos pos : Pos} {args : List Expr} {env : Env} {pl : Sem Bool} {K : V → St → Prop}
  (h : EV C (eval o env) σ fun a σ₁ => GM C a name σ₁ fun f first σ₂ => CA C f first args pos env σ₂ K)
  (he : eval (.Call (.Attribute o name apos) args [] pos) env = (do
   let ov ← eval o env
   standAt apos.atName
   let (f, first) ← holding [ov] (getMethod ov name pl)
   callWith pos f first (backTo pos (starEach args env)) []) := by rfl) : EV C (eval (.Call (.Attribute o name apos) args [] pos) env) σ K := fun s H => by
 rw [he]
 refine Zaa (h.step H fun a σ₁ v s₁ k r H₁ t => Zaa (Zac (Zaa (Zad (Zae (k s₁ v pl H₁ r) ?_ fun _ _ e => e)))))
 rintro fx s₂ ⟨f, first, σ₂, k₂, rf, rl, H₂, t₂⟩
 exact Zae (k₂ s₂ fx.1 fx.2 H₂ rf rl) (fun _ _ p => p.tk (t.trans t₂)) fun _ _ e => e
theorem Zgr {x : Str} {name : Str} {id : String} {K : V → List V → St → Prop} (slot : Slot "str" name id) (hty : typeOf (.builtin id) = pure (.type "method_descriptor")) (k : K (.bi id) [.str x] σ) : GM C (.str x) name σ K := fun s v pl H r => by
 refine VR.strK r fun t e0 => ?_
 subst e0
 exact .of (getMethod_builtin (typeIs_str s x t) F.plainAttrs_str slot hty (fun a e => by cases e) ⟨_, _, _, k, .bi _, .cons (.str x t) .nil, H, .refl _⟩)
theorem Zc7 {a : Addr} {l : List V} {name : Str} {id : String} {K : V → List V → St → Prop} (hl : LkO a (.list l) σ.obs) (slot : Slot "list" name id) (hty : typeOf (.builtin id) = pure (.type "method_descriptor")) (k : K (.bi id) [.ref a] σ) : GM C (.ref a) name σ K := fun s v pl H r => by
 o_facts r
 refine Zb4 (H.list hl) fun vs n e r => ?_
 exact .of (getMethod_builtin ⟨_, e, rfl⟩ F.plainAttrs_list slot hty (fun a' q => by cases q; exact ⟨_, e, rfl⟩) ⟨_, _, _, k, .bi _, .cons (.ref a) .nil, H, .refl _⟩)
end
theorem Zpj : mroOf (.type "bytearray") = pure [.type "bytearray", .type "object"] := by rw [mroOf_type]; kernel_rfl
theorem Zic : typeLookup (.type "bytearray") "__new__" = pure (some (.builtin "bytearray.__new__")) := by rw [typeLookup_type, builtinLookup_eq_fast]; kernel_rfl
theorem ba_slot_init : Slot "bytearray" "__init__" "bytearray.__init__" :=
 .of (owner := "bytearray") (n := "__init__") (by rw [typeLookup_type, builtinLookup_eq_fast]; kernel_rfl) (by decide +kernel) (by decide +kernel) (by decide +kernel)
  (by first | exact .inl (by decide +kernel) | exact .inr (by decide +kernel)) (by rw [isSubtype_type]; kernel_rfl)
theorem ba_called : TypeCalled "bytearray" "bytearray.__new__" "bytearray.__init__" :=
 ⟨by decide +kernel, by decide +kernel, ⟨_, _, Zpj⟩, madeBy_type Zpj Zic (by decide +kernel), by decide +kernel, by rw [isSubtype_type]; kernel_rfl, ba_slot_init⟩
theorem Zj8 (a : Value) : checkTypeCall "bytearray" ⟨[a], []⟩ = pure () := by kernel_rfl
theorem Zny (a : Value) : checkBuiltinCall "bytearray.__new__" ⟨[.type "bytearray", a], []⟩ = pure () := by kernel_rfl
theorem Zlq : plainId "bytearray.__new__" = true := by decide +kernel
theorem Zhj : plainId "bytearray.__init__" = true := by decide +kernel
theorem Zru : entryFor table "bytearray.__new__" = some Builtin.«list.__new__» := entryFor_alias (id' := "list.__new__") (by rw [fastTable_eq_tree]; kernel_rfl) (by decide +kernel) (by decide +kernel) (by rw [fastTable_eq_tree]; kernel_rfl)
theorem Zia : entryFor table "bytearray.__init__" = some Builtin.«bytearray.__init__» := by first | exact entryFor_of_fast (by kernel_rfl) | exact entryFor_of_tree (by kernel_rfl)
theorem Ziy : isSubtype (.type "bytearray") (.type "bytearray") = pure true := by rw [isSubtype_type]; kernel_rfl
theorem Zuw (o n : Value) : argsOk "bytearray.__init__" ⟨[o, n], []⟩ := by unfold argsOk; kernel_rfl
theorem Zua (n : Value) : Builtin.«type.__call__» ⟨[.type "bytearray", n], []⟩ = (do
  let obj ← holding [.builtin "bytearray.__new__"] (call (.builtin "bytearray.__new__") [.type "bytearray", n] [])
  if !(← isInstance obj (.type "bytearray")) then rule "type.call.new-gave-other-type"; return ← ret obj
  match ← holding [obj] (callSpecial? obj "__init__" [n] []) with
  | none => ret obj
  | some r =>
   if r != .none then
    rule "type.call.init-returned-value"
    raiseError "TypeError" s!"__init__() should return None, not '{← typeNameOf r}'"
   ret obj) := by
 have h1 := ba_called.notType
 have h2 := ba_called.canCreate
 have h3 := ba_called.made
 simp only [Builtin.«type.__call__», h1, h2, h3, Zj8, Zpj, pure_bind, Bool.false_eq_true, if_false, List.isEmpty_cons]
 rfl
set_option maxRecDepth 1000000 in
theorem Zsl : ("bytearray.__new__".splitOn ".__new__").headD "" = "bytearray" := by simp +decide [String.splitOn, String.splitOnAux]
section
variable {prog : Program} {w : World} {A : Around} {E : Value → Shared → Prop} {s : Shared}
theorem Zbm {R : Result → Shared → Prop} {id : String} {args : Args} {b : Builtin} (hb : entryFor table id = some b) (hbad : Zr0 (.builtin id args) = false)
  (h : wpP (model prog w) (A.under (.builtin id args)) (b args)
   (fun fin s' => match fin with | .done f => R (.ok f) s' | .again c' => c'.quiet = true ∧ codeP (model prog w) A c' R s') (fun e s' => R (.error e) s') s) :
  codeP (model prog w) A (.builtin id args) R s := by
 refine Zaf hbad ?_
 show wpP _ _ (match entryFor table id with | some b => b args | none => unsupported ((withoutEnding? id "#data").getD id)) _ _ s
 rw [hb]; exact h
theorem Zbw {R : Result → Shared → Prop} {id : String} {args : Args} {b : Builtin} (hq : plainId id = true) (hb : entryFor table id = some b) (hbad : Zr0 (.builtin id args) = false)
  (h : wpP (model prog w) A.in1 (checkBuiltinCall id args) (fun _ s₁ => wpP (model prog w) A.in1 (b args)
   (fun fin s' => match fin with | .done f => R (.ok f) s' | .again c' => c'.quiet = true ∧ codeP (model prog w) A c' R s') (fun e s' => R (.error e) s') s₁)
   (fun e s' => R (.error e) s') s) : codeP (model prog w) A (.call (.builtin id) args) R s := by
 refine Zaf rfl ?_
 show wpP _ A.in1 (do checkBuiltinCall id args; again (.builtin id args)) _ _ s
 refine Zaa (Zae h (fun _ s₁ h₁ => Zab (And.intro (plainId_quiet hq args) (Zbm hb hbad (by rw [Around.under_plainId hq args]; exact h₁)))) fun _ _ h' => h')
theorem Zkl (a : Value) {Q₁ : Value → Shared → Prop}
  (h : Q₁ (.ref s.heap.objs.size) { s with heap := s.heap.push { cls := .type "bytearray", data := .bytearray #[] } }) :
  codeAny (model prog w) A (.call (.builtin "bytearray.__new__") ⟨[.type "bytearray", a], []⟩) (wants Q₁ E) s := by
 injection (prog w A E s a Q₁) with h
 refine codeAny_of_tree ?_
 show wpAny _ A.in1 (do checkBuiltinCall "bytearray.__new__" ⟨[.type "bytearray", a], []⟩; again (.builtin "bytearray.__new__" ⟨[.type "bytearray", a], []⟩)) _ _ s
 refine wpAny_bind (wpAny_of_eq (Zny a) (wpAny_pure ⟨plainId_quiet Zlq _, codeAny_builtin_stack Zru rfl fun p st => ?_⟩))
 rw [Around.under_plainId Zlq _]
 have hsub := Ziy
 have hown := Zsl
 obtain ⟨hp, g, d, tk, os⟩ := s
 simp only [hown]
 wp_walk
 exact h
theorem Zg1 : typeLookup (.type "bytearray") "__release_buffer__" = pure (some (.builtin "bytearray.__release_buffer__")) := by rw [typeLookup_type, builtinLookup_eq_fast]; kernel_rfl
theorem Zji : typeLookup (.type "int") "__index__" = pure (some (.builtin "int.__index__")) := by rw [typeLookup_type, builtinLookup_eq_fast]; kernel_rfl
theorem Zvt (v : Value) : Builtin.Bytes.bindOptional "bytearray.__init__" "bytearray" ["source", "encoding", "errors"] [v] [] = pure [some v, none, none] := by kernel_rfl
theorem Zpu : ("bytearray.__release_buffer__".endsWith ("." ++ "__release_buffer__")) = true := by decide +kernel
theorem Zqn : ("bytearray.__release_buffer__".dropRight ("__release_buffer__".length + 1)) = "bytearray" := by decide +kernel
theorem Zie {M : Model} {a : Addr} {b : Array UInt8} {f : Array UInt8 → Array UInt8} {Q : Unit → Shared → Prop} (ho : s.heap.get? a = some { cls := .type "bytearray", data := .bytearray b 0 }) (hz : (f b).size ≤ sizeLine)
  (h : ∀ h', h'.get? a = some { cls := .type "bytearray", data := .bytearray (f b) 0 } → Heap.SameBut a s.heap h' → Q () { s with heap := h' }) : wpAny M A (Builtin.Bytes.write (.ref a) f) Q E s := by
 show wpAny _ _ (updateBytearray a f) _ _ _
 unfold updateBytearray
 refine wpAny_bind (wpAny_load ho ?_)
 show wpAny _ _ (update a (Obj.mapBytearray f) >>= fun _ => lookBehind a) _ _ _
 refine wpAny_bind (wpAny_update ho ?_)
 have hS₂ : (s.heap.update a (Obj.mapBytearray f)).get? a = some { cls := .type "bytearray", data := .bytearray (f b) 0 } := Heap.get?_update_self (Obj.mapBytearray f) ho rfl
 refine wpAny_lookBehind hS₂ ?_ (h _ hS₂ (Heap.SameBut.update ..))
 show (if (f b).size > sizeLine then some "bytearray:memory" else none) = none
 rw [if_neg]
 exact Nat.not_lt.mpr hz
theorem Zu2 {k : Int} {t : Tok} {Q : Value → Shared → Prop} (hg : A.guards = some []) (h0 : 0 ≤ k) (hk : k ≤ sizeLine)
  (h : ∀ h', h'.get? s.heap.objs.size = some { cls := .type "bytearray", data := .bytearray (Array.replicate k.toNat 0) 0 } → (∀ b o, s.heap.get? b = some o → h'.get? b = some o) → Q (.ref s.heap.objs.size) { s with heap := h' }) :
  wpP (model prog w) A (call (.type "bytearray") [.int k t]) Q E s := by
 injection (prog w A E s k t Q) with hg h0 hk h
 refine Za0 (Zaf rfl ?_)
 show wpP _ _ (callAny (.type "bytearray") _) _ _ _
 refine Zab ⟨Code.quiet_builtin _ (by decide +kernel), Zbm F.entry_type_call (by rfl) ?_⟩
 rw [Around.under_plain (weight_type_call_type "bytearray" [.int k t] []) rfl, Zua]
 refine Zaa (Zad (Za0 (.of (codeAny_mono (Zkl _ ?_) fun r s₁ hr => hr))))
 refine Zaa (.of (wpAny_isInstance (T := "bytearray") (b := true) ⟨_, Heap.get?_push_size _ rfl, rfl⟩ Ziy ?_))
 show wpP _ _ (do
  match ← holding [.ref s.heap.objs.size] (callSpecial? (.ref s.heap.objs.size) "__init__" [.int k t] []) with
  | none => ret (.ref s.heap.objs.size)
  | some r =>
   if r != .none then
    rule "type.call.init-returned-value"
    raiseError "TypeError" s!"__init__() should return None, not '{← typeNameOf r}'"
   ret (.ref s.heap.objs.size)) _ _ _
 have hT : Shared.TypeIs { s with heap := s.heap.push { cls := .type "bytearray", data := .bytearray #[] } } (.ref s.heap.objs.size) "bytearray" := ⟨_, Heap.get?_push_size _ rfl, rfl⟩
 have ho : (s.heap.push { cls := .type "bytearray", data := .bytearray #[] }).get? s.heap.objs.size = some { cls := .type "bytearray", data := .bytearray #[] 0 } := Heap.get?_push_size _ rfl
 have hk' : ∀ b o, s.heap.get? b = some o → (s.heap.push { cls := .type "bytearray", data := .bytearray #[] }).get? b = some o := fun b o e => Heap.get?_push_of_some _ e
 revert hT ho hk'
 generalize s.heap.push { cls := .type "bytearray", data := .bytearray #[] } = h₁
 intro hT ho hk'
 refine Zaa (Zad ?_)
 simp only [callSpecial?]
 refine Zaa (.of (wpAny_specialOf hT ba_slot_init.lookup ?_))
 simp only [ba_slot_init.bind]
 refine Zad (Zaa (Zab (Zaa (Za0 (Zbw Zhj Zia (by rfl) (.of (ba_slot_init.check _ _ _ _ _ _ _ _ hT (Zuw _ _) ?_)))))))
 unfold Builtin.«bytearray.__init__»
 refine Zaa (m := Builtin.Bytes.ownRelease _) (.of ?_)
 ·unfold Builtin.Bytes.ownRelease Builtin.Bytes.slotIsOwn
  refine wpAny_bind (wpAny_bind (wpAny_specialOf hT Zg1 ?_))
  show wpAny _ _ (if (!("bytearray.__release_buffer__".endsWith ("." ++ "__release_buffer__"))) = true then pure false else isInstance _ (.type ("bytearray.__release_buffer__".dropRight ("__release_buffer__".length + 1)))) _ _ _
  rw [Zpu, Zqn]
  refine wpAny_isInstance (T := "bytearray") (b := true) hT Ziy (wpAny_pure ?_)
  have hg1 : A.in1.in1.guards = some [] := hg
  refine Zaa (.of (wpAny_of_eq (Zvt _) ?_))
  refine Zaa (.of (wpAny_of_eq (a := ()) rfl ?_))
  refine Zaa (.of (wpAny_of_eq (a := ()) rfl ?_))
  refine Zaa (Zaa (Zjj hg1 ?_))
  refine Zaa (.of ?_)
  unfold Builtin.Bytes.exportsOf
  refine wpAny_bind (wpAny_load ho ?_)
  refine wpAny_pure ?_
  refine Zab ?_
  refine Zaa (.of (Zie (f := fun _ => #[]) ho (Nat.zero_le _) fun h₂ e₂ s₂ => ?_))
  refine Zaa (.of (wpAny_of_eq (a := none) rfl ?_))
  refine Zaa (.of (wpAny_of_eq (a := ()) rfl ?_))
  refine Zaa (.of (wpAny_specialOf (typeIs_int _ k t) Zji ?_))
  show wpP _ _ ((asIndex (.int k t)).attempt >>= _) _ _ _
  refine Zaa (Zda (.of (wpAny_of_eq (rfl : asIndex (.int k t) = pure k) ?_)))
  have f1 : Builtin.Bytes.fitsIndex k = true := by
   have : sizeLine = 16777216 := by decide
   unfold Builtin.Bytes.fitsIndex; simp only [Bool.and_eq_true, decide_eq_true_eq]; lia
  have f2 : ¬ k < 0 := by lia
  have f3 : (k == 2 ^ 63 - 1) = false := by
   have : sizeLine = 16777216 := by decide
   rw [beq_eq_false_iff_ne]; lia
  have f4 : Builtin.Bytes.tooLong k.toNat = false := by unfold Builtin.Bytes.tooLong; simp; k_units
  simp only [f1, f2, f3, f4, Bool.not_true, Bool.false_eq_true, if_false]
  refine Zaa (.of (wpAny_rule ?_))
  have kk : ∀ b o, s.heap.get? b = some o → h₂.get? b = some o := fun b o e => s₂.extBut b o (Nat.ne_of_lt (Heap.lt_size e)) (hk' b o e)
  by_cases hpos : k > 0
  ·rw [if_pos hpos]
   refine Zaa (.of (Zie (f := fun _ => Array.replicate k.toNat 0) e₂ (by simp; k_units) fun h₃ e₃ s₃ => ?_))
   refine Zab ?_
   refine Zab ?_
   refine Zab ?_
   exact (h h₃ e₃ fun b o e => s₃.extBut b o (Nat.ne_of_lt (Heap.lt_size e)) (kk b o e))
  ·rw [if_neg hpos]
   have hz : k.toNat = 0 := by lia
   refine Zab ?_
   refine Zab ?_
   refine Zab ?_
   exact (h h₂ (by rw [hz]; exact e₂) kk)
end
theorem Zch : Slot "bytearray" "__setitem__" "bytearray.__setitem__" :=
 .of (owner := "bytearray") (n := "__setitem__") (by rw [typeLookup_type, builtinLookup_eq_fast]; kernel_rfl) (by decide +kernel) (by decide +kernel) (by decide +kernel)
  (by first | exact .inl (by decide +kernel) | exact .inr (by decide +kernel)) (by rw [isSubtype_type]; kernel_rfl)
theorem Zen : entryFor table "bytearray.__setitem__" = some Builtin.«bytearray.__setitem__» := by first | exact entryFor_of_fast (by kernel_rfl) | exact entryFor_of_tree (by kernel_rfl)
theorem Zrq (o i n : Value) : argsOk "bytearray.__setitem__" ⟨[o, i, n], []⟩ := by unfold argsOk; kernel_rfl
theorem Zky : typeLookup (.type "bytearray") "__bytes__" = pure none := by rw [typeLookup_type, builtinLookup_eq_fast]; kernel_rfl
theorem Zku : typeLookup (.type "bytearray") "__index__" = pure none := by rw [typeLookup_type, builtinLookup_eq_fast]; kernel_rfl
theorem Zez : typeLookup (.type "bytearray") "__buffer__" = pure (some (.builtin "bytearray.__buffer__")) := by rw [typeLookup_type, builtinLookup_eq_fast]; kernel_rfl
theorem Zrp : ("bytearray.__buffer__".endsWith ("." ++ "__buffer__")) = true := by decide +kernel
theorem Zsp : ("bytearray.__buffer__".dropRight ("__buffer__".length + 1)) = "bytearray" := by decide +kernel
section
variable {prog : Program} {w : World} {A : Around} {E : Value → Shared → Prop} {s : Shared}
theorem Znt {a : Addr} {b : List Nat} {i x : Int} {t u : Tok} {Q : Unit → Shared → Prop} (ho : s.heap.get? a = some { cls := .type "bytearray", data := .bytearray (b.map Nat.toUInt8).toArray 0 }) (h0 : 0 ≤ i) (h1 : i < b.length)
  (hx : 0 ≤ x) (hx' : x < 256) (hz : b.length ≤ sizeLine)
  (h : ∀ h', h'.get? a = some { cls := .type "bytearray", data := .bytearray ((b.set i.toNat x.toNat).map Nat.toUInt8).toArray 0 } → Heap.SameBut a s.heap h' → Q () { s with heap := h' }) :
  wpAny (model prog w) A (setItem (.ref a) (.int i t) (.int x u)) Q E s := by
 injection (prog w A E s a b i x t u Q) with ho h0 h1 hx hx' hz h
 have hT : s.TypeIs (.ref a) "bytearray" := ⟨_, ho, rfl⟩
 have hz' : sizeLine = 16777216 := by decide
 unfold setItem
 try with_reducible refine wpAny_holding ?_
 first | refine wpAny_bind (wpAny_pure ?_) | skip
 refine wpAny_bind (wpAny_sequenceKey hT (by decide) ?_)
 refine wpAny_bind (wpAny_callSpecial?_slot (name := Str.ofString "__setitem__") hT Zch
  (wpAny_call_entry Zch hT Zen ?_ (Zrq _ _ _)))
 show wpAny _ _ (Builtin.Bytes.subscript? (.int i t) >>= _) _ _ s
 refine wpAny_bind ?_
 unfold Builtin.Bytes.subscript?
 refine wpAny_bind (wpAny_specialOf (typeIs_int s i t) F.slot_int_index.lookup ?_)
 have f1 : Builtin.Bytes.fitsIndex i = true := by
  unfold Builtin.Bytes.fitsIndex; simp only [Bool.and_eq_true, decide_eq_true_eq]; lia
 show wpAny _ _ (if (!Builtin.Bytes.fitsIndex i) = true then _ else pure (some i)) _ _ s
 rw [f1]
 refine wpAny_pure ?_
 show wpAny _ _ (Builtin.Bytes.byteValue (.int x u) >>= _) _ _ s
 refine wpAny_bind ?_
 unfold Builtin.Bytes.byteValue
 refine wpAny_bind (wpAny_of_eq (rfl : asIndex (.int x u) = pure x) ?_)
 have f2 : (decide (x < 0) || decide (x ≥ 256)) = false := by simp; lia
 rw [f2]
 refine wpAny_pure ?_
 show wpAny _ _ (Builtin.Bytes.payload (.ref a) >>= _) _ _ s
 refine wpAny_bind ?_
 unfold Builtin.Bytes.payload Builtin.Bytes.payload?
 refine wpAny_bind (wpAny_bind (wpAny_load ho ?_))
 refine wpAny_pure (wpAny_pure ?_)
 have hlen : (b.map Nat.toUInt8).toArray.size = b.length := by simp
 have f3 : seqIndex? i (b.map Nat.toUInt8).toArray.size = some i.toNat := by
  rw [hlen]
  have hn : ¬ i < 0 := by lia
  simp [seqIndex?, hn, h0, h1]
 rw [f3]
 refine wpAny_bind (Zie (f := (·.setIfInBounds i.toNat x.toNat.toUInt8)) ho (by simp; k_units) fun h' e' s' => ?_)
 refine wpAny_pure ?_
 refine ⟨_, rfl, wpAny_pure (h h' ?_ s')⟩
 rw [e']
 congr 3
 simp
theorem Ztf {a : Addr} {b : List Nat} {Q : Value → Shared → Prop} (ho : s.heap.get? a = some { cls := .type "bytearray", data := .bytearray (b.map Nat.toUInt8).toArray 0 }) (hz : b.length ≤ sizeLine)
  (h : Q (.bytes (b.map Nat.toUInt8).toArray s.toks) { s with toks := s.toks + 1 }) :
  wpAny (model prog w) A (call (.type "bytes") [.ref a]) Q E s := by
 injection (prog w A E s a b Q) with ho hz h
 refine callType_codes (Q₁ := fun obj s₁ => s₁.TypeIs obj "bytes" ∧ Q obj s₁) F.bm_called (F.bm_typeCall _) F.entry_object_init ?_ fun obj s₁ h₁ =>
  ⟨h₁.1, F.args_object_init_2 obj _, object_init_meets F.bm_called.init.lookup F.bm_called.made (by decide) prog w A.in1 _ s₁ ⟨h₁.1, rfl, h₁.2⟩⟩
 refine codeAny_of_tree ?_
 show wpAny _ A.in1.in1 (do checkBuiltinCall "bytes.__new__" ⟨[.type "bytes", .ref a], []⟩; again (.builtin "bytes.__new__" ⟨[.type "bytes", .ref a], []⟩)) _ _ s
 refine wpAny_bind (wpAny_of_eq (F.bm_newCall _) (wpAny_pure ⟨plainId_quiet F.bm_plain _, codeAny_builtin F.bm_entry ?_⟩))
 rw [Around.under_plainId F.bm_plain _]
 have hT : s.TypeIs (.ref a) "bytearray" := ⟨_, ho, rfl⟩
 unfold Builtin.«bytes.__new__»
 refine wpAny_bind (wpAny_of_eq (a := true) rfl ?_)
 refine bm_if_false rfl ?_
 refine wpAny_bind (wpAny_of_eq F.bm_sub ?_)
 refine bm_if_false rfl ?_
 refine wpAny_bind (wpAny_of_eq (F.bm_bind _) ?_)
 refine wpAny_bind (wpAny_of_eq (a := ()) rfl ?_)
 refine wpAny_bind (wpAny_of_eq (a := ()) rfl ?_)
 refine bm_if_false rfl ?_
 refine wpAny_bind (wpAny_specialOf hT Zky ?_)
 refine wpAny_bind (wpAny_bind ?_)
 show wpAny _ _ (load a >>= _) _ _ _
 refine wpAny_bind (wpAny_load ho ?_)
 refine wpAny_pure (wpAny_pure ?_)
 refine bm_if_false rfl ?_
 refine wpAny_bind (wpAny_specialOf hT Zku ?_)
 refine bm_if_true rfl ?_
 first
  | show wpAny _ _ (Builtin.Bytes.buffer? "bytes.__new__" (.ref a) true >>= _) _ _ _
  | (refine wpAny_bind ?_; show wpAny _ _ (Builtin.Bytes.buffer? "bytes.__new__" (.ref a) true >>= _) _ _ _)
 refine wpAny_bind ?_
 unfold Builtin.Bytes.buffer?
 refine wpAny_bind (wpAny_specialOf hT Zez ?_)
 refine wpAny_bind ?_
 unfold Builtin.Bytes.slotIsOwn
 refine wpAny_bind (wpAny_specialOf hT Zez ?_)
 show wpAny _ _ (if (!("bytearray.__buffer__".endsWith ("." ++ "__buffer__"))) = true then pure false else isInstance _ (.type ("bytearray.__buffer__".dropRight ("__buffer__".length + 1)))) _ _ _
 rw [Zrp, Zsp]
 refine wpAny_isInstance (T := "bytearray") (b := true) hT Ziy ?_
 refine bm_if_false rfl ?_
 refine wpAny_bind (wpAny_specialOf hT Zez ?_)
 refine wpAny_bind (m := Builtin.Bytes.ownRelease _) ?_
 unfold Builtin.Bytes.ownRelease Builtin.Bytes.slotIsOwn
 refine wpAny_bind (wpAny_bind (wpAny_specialOf hT Zg1 ?_))
 show wpAny _ _ (if (!("bytearray.__release_buffer__".endsWith ("." ++ "__release_buffer__"))) = true then pure false else isInstance _ (.type ("bytearray.__release_buffer__".dropRight ("__release_buffer__".length + 1)))) _ _ _
 rw [Zpu, Zqn]
 refine wpAny_isInstance (T := "bytearray") (b := true) hT Ziy (wpAny_pure ?_)
 refine bm_if_false rfl ?_
 refine wpAny_bind (m := Builtin.Bytes.payload _) ?_
 unfold Builtin.Bytes.payload Builtin.Bytes.payload?
 refine wpAny_bind (wpAny_bind (wpAny_load ho ?_))
 refine wpAny_pure (wpAny_pure ?_)
 refine wpAny_pure ?_
 refine wpAny_bind (wpAny_rule ?_)
 refine wpAny_bind (wpAny_mkBytes ?_ ?hz)
 case hz => simpa using hz
 show wpAny _ _ (if (Value.type "bytes" == Value.type "bytes") = true then _ else _) _ _ _
 refine bm_if_true (by decide) ?_
 first
  | exact wpAny_pure ⟨PySem.W.typeIs_bytes _ _ _, h⟩
  | exact wpAny_bind (wpAny_pure (wpAny_pure ⟨PySem.W.typeIs_bytes _ _ _, h⟩))
end
section
variable {C : Cx} {σ : St} {α β : Type}
theorem Zbp {M : Model} {A : Around} {E : Value → Shared → Prop} {s : Shared} {vs keep : List Value} {Q : Unit → Shared → Prop} (h : Q () s) : wpP M A (release vs keep) Q E s := fun _ Γ p _ _ _ => by rw [Sem.wp_release]; exact h
theorem Zby {prog : Program} {w : World} {A : Around} {E : Value → Shared → Prop} {s : Shared} {v : Expr} {o r : Value} {Q : Unit → Shared → Prop} (h : Q () s) : wpP (model prog w) A (letTemporaryGo v o r) Q E s := by
 refine .of ?_
 have key : ∀ x p, wpAny (model prog w) A (letTemporaryGo (.Await x p) o r) Q E s := fun x p => by
  cases o with
  | ref a => exact wpAny_bind (wpAny_holding (wpAny_runValue (codeAny_builtin entry_let_go (show wpAny _ _ (ret .none) _ _ s from wpAny_pure (wpAny_pure h)))))
  | _ => exact wpAny_pure h
 have cast : ∀ v', letTemporaryGo v' o r = letTemporaryGo (.Await (.Constant .none 0 default) default) o r → wpAny (model prog w) A (letTemporaryGo v' o r) Q E s := fun v' e => e ▸ key _ _
 cases v with
 | Name _ _ => exact wpAny_pure h
 | _ => exact cast _ (by kernel_rfl)
theorem Zca {v sl : Expr} {a b : V} {K : V → St → Prop} {id : String} (T : String) (hT : ∀ s va, VR s.heap a va → Holds C σ s → s.TypeIs va T) (hl : typeLookup (.type T) "__getitem__" = pure (some (.builtin id)))
  (h : OP2 C VR getItem a b σ K) (hs : ∀ o i, ∃ xs, subscripted sl false o i = operate xs (getItem o i)) : OP2 C VR (subscriptTail v sl) a b σ K := fun s va vb H ra rb => by
 unfold subscriptTail
 have hT' := hT s va ra H
 refine Zaa ?_
 rw [getitemInPython_of_ne hT'.not_modules]
 refine Zaa (.of (wpAny_specialOf hT' hl ?_))
 obtain ⟨xs, hs⟩ := hs va vb
 have fin : wpP (model C.G.prog C.G.w) C.A (subscripted sl false va vb) (fun r s₃ => wpP (model C.G.prog C.G.w) C.A (letTemporaryGo v va r >>= fun _ => pure r) (Pst C VR K s) C.E s₃) C.E s := by
  rw [hs]
  exact Za4 (Zae (h s va vb H ra rb) (fun r s₃ h₃ => Zaa (Zby (Zab h₃))) fun _ _ x => x)
 exact Zab (Zaa fin)
theorem Zl8 {b : List Nat} (s : Shared) (va : Value) (r : VR s.heap (.bytes b) va) (H : Holds C σ s) : s.TypeIs va "bytes" := by o_facts r; exact typeIs_bytes _ _ _
theorem Zj1 {b : List Nat} {i : Int} {K : V → St → Prop} (hfit : b.length ≤ 1099511627776) (h0 : 0 ≤ i) (h1 : i < b.length) (h : K (.int (b.getD i.toNat 0 : Nat)) σ) : OP2 C VR getItem (.bytes b) (.int i) σ K := fun s v u H r1 r2 => by
 refine VR.bytesK r1 fun t hb e0 => ?_
 subst e0
 o_facts r2
 refine .of (getItem_bytes (l := b.map Nat.toUInt8) (by simpa using hfit) h0 (by simpa using h1) (Pst.hereT H ?_ h))
 have hlt : i.toNat < b.length := by lia
 have e : ((b.map Nat.toUInt8).getD i.toNat 0).toNat = b.getD i.toNat 0 := by
  have hx := hb (b[i.toNat]) (List.getElem_mem hlt)
  simp only [List.getD, List.getElem?_map, List.getElem?_eq_getElem hlt, Option.map_some, Option.getD_some]
  show (UInt8.ofNat _).toNat = _
  rw [UInt8.toNat_ofNat']
  exact Nat.mod_eq_of_lt hx
 rw [e]
 exact .int _ _
theorem Zcj {b : List Nat} {K : V → St → Prop} (h : K (.int b.length) σ) (hfit : b.length ≤ 1099511627776) : CF C (.bi "len") [.bytes b] σ K := fun s fv vs H rf rl => by
 o_facts rf
 revert rl
 intro rl0
 refine VRs.consK rl0 fun _ _ r rl e0 => ?_
 subst e0
 o_facts rl
 o_facts r
 have := len_bytes (prog := C.G.prog) (w := C.G.w) (A := C.A) (E := C.E) (s := s) (b := (b.map Nat.toUInt8).toArray) (t := by assumption) (Q := Pst C VR K s) (by simpa using hfit) (by simpa using Pst.hereT H (.int _ _) h)
 exact .of this
theorem cf_ba {k : Int} {K : V → St → Prop} (h : ∀ a, K (.ref a) ⟨σ.loc, (a, .ba (List.replicate k.toNat 0)) :: σ.obs⟩) (hg : C.A.guards = some []) (h0 : 0 ≤ k) (hk : k ≤ sizeLine) : CF C (.ty "bytearray") [.int k] σ K := fun s fv vs H rf rl => by
 o_facts rf
 revert rl
 intro rl0
 refine VRs.consK rl0 fun _ _ r rl e0 => ?_
 subst e0
 o_facts rl
 o_facts r
 refine Zu2 hg h0 hk fun h' e kk => ?_
 refine ⟨.ref s.heap.objs.size, _, h _, .ref _, H.alloc (n := s.toks) kk (Nat.le_refl _) e ?_, .of_ext kk⟩
 have : (Array.replicate k.toNat (0 : UInt8)) = ((List.replicate k.toNat 0).map Nat.toUInt8).toArray := by simp
 rw [this]
 exact .ba (fun x hx => by rw [(List.mem_replicate.mp hx).2]; decide)
theorem Zkk {a : Addr} {b : List Nat} {K : V → St → Prop} (hl : LkO a (.ba b) σ.obs) (h : K (.bytes b) σ) (hz : b.length ≤ sizeLine) : CF C (.ty "bytes") [.ref a] σ K := fun s fv vs H rf rl => by
 o_facts rf
 revert rl
 intro rl0
 refine VRs.consK rl0 fun _ _ r rl e0 => ?_
 subst e0
 o_facts rl
 o_facts r
 refine Zal (H.obj hl) fun O e ro => ?_
 refine OR.baK ro fun hb e0 => ?_
 subst e0
 exact .of (Ztf e hz (Pst.hereT H (.bytes _ hb) h))
theorem Zo3 {a : Addr} {b : List Nat} {i x : Int} {obs' : List (Addr × AO)} {K : St → Prop} (u : UpO a (.ba b) (.ba (b.set i.toNat x.toNat)) σ.obs obs') (k : K ⟨σ.loc, obs'⟩) (h0 : 0 ≤ i) (h1 : i < b.length) (hx : 0 ≤ x) (hx' : x < 256) (hz : b.length ≤ sizeLine)
   : OP3 C (fun _ (_ : Unit) _ => True) setItem (.ref a) (.int i) (.int x) σ (fun _ σ => K σ) := fun s v1 v2 v3 H r1 r2 r3 => by
 o_facts r1; o_facts r2; o_facts r3
 refine Zal (H.obj u.lk) fun O e ro => ?_
 refine OR.baK ro fun hb e0 => ?_
 subst e0
 refine .of (Znt e h0 h1 hx hx' hz fun h' e' s' => ?_)
 obtain ⟨H', tk⟩ := H.set u s' e' (.ba (fun y hy => by
  rcases List.mem_or_eq_of_mem_set hy with q | q
  ·exact hb y q
  ·subst q; lia)) s.toks
 exact ⟨(), _, k, trivial, H', tk⟩
theorem Zjs {o i value : Expr} {pos pos' : Pos} {K : Fl → St → Prop}
  (h : EV C (eval value C.env) σ fun v σ₁ => EV C (eval o C.env) σ₁ fun ov σ₂ => EV C (eval i C.env) σ₂ fun iv σ₃ => OP3 C (fun _ (_ : Unit) _ => True) setItem ov iv v σ₃ fun _ σ => K .next σ)
  (hs : swapsWith value (some (.Subscript o i pos')) pos.line C.env = pure false := by rfl) : XV C (exec (.Assign [.Subscript o i pos'] value pos) C.env) σ K := fun s H => by
 rw [exec_Assign_Subscript o i pos' value pos hs]
 refine Zaa (Zac (Zaa (h.step H fun v σ₁ va s₁ h₁ ra H₁ k₁ => ?_)))
 rw [assign_Subscript]
 refine Zaa (Zaa (Zad (h₁.step H₁ fun ov σ₂ vo s₂ h₂ ro H₂ k₂ => Zaa (Zad (h₂.step H₂ fun iv σ₃ vi s₃ h₃ ri H₃ k₃ => Zaa (Zac (Zaa (Zad
  (Zat (h₃ s₃ vo vi va H₃ (ro.mono k₃) ri (ra.mono (k₂.trans k₃))) (fun _ s₄ _ σ' k _ H' t => Zbp (Zab ⟨.next, σ', k, .next, H', ((k₁.trans k₂).trans k₃).trans t⟩)))))))))))
noncomputable def Zxl (a b c : Int) : Ob where
 P _ o := ∃ t u v, o = { cls := .type "range", data := .fields #[.int a t, .int b u, .int c v] }
 mono _ _ _ _ h := h
 noTup _ o h vs n e := by obtain ⟨t, u, v, rfl⟩ := h; simp [Zb7] at e
noncomputable abbrev AO.range (a b c : Int) : AO := .own (Zxl a b c)
theorem Ze8 (h : Heap) (a b c : Int) (t u v : Tok) : OR h (AO.range a b c) { cls := .type "range", data := .fields #[.int a t, .int b u, .int c v] } := .own ⟨t, u, v, rfl⟩
theorem Zfc {n : Int} {K : V → St → Prop} (h : ∀ r, K (.ref r) ⟨σ.loc, (r, .range 0 n 1) :: σ.obs⟩) : CF C (.ty "range") [.int n] σ K := fun s fv vs H rf rl => by
 o_facts rf
 revert rl
 intro rl0
 refine VRs.consK rl0 fun _ _ r rl e0 => ?_
 subst e0
 o_facts rl
 o_facts r
 exact .of (call_range_1 ⟨_, _, h _, .ref _, H.alloc (n := s.toks + 1 + 1) (fun b o e => Heap.get?_push_of_some _ e) (Nat.le_refl _) (Heap.get?_push_size _ rfl) (Ze8 _ _ _ _ _ _ _), .of_ext fun b o e => Heap.get?_push_of_some _ e⟩)
theorem Zdt {m n : Int} {K : V → St → Prop} (h : ∀ r, K (.ref r) ⟨σ.loc, (r, .range m n 1) :: σ.obs⟩) : CF C (.ty "range") [.int m, .int n] σ K := fun s fv vs H rf rl => by
 o_facts rf
 revert rl
 intro rl0
 refine VRs.consK rl0 fun _ _ r rl e0 => ?_
 subst e0
 revert rl
 intro rl0
 refine VRs.consK rl0 fun _ _ r2 rl e0 => ?_
 subst e0
 o_facts rl
 o_facts r; o_facts r2
 exact .of (call_range_2 ⟨_, _, h _, .ref _, H.alloc (n := s.toks + 1) (fun b o e => Heap.get?_push_of_some _ e) (Nat.le_refl _) (Heap.get?_push_size _ rfl) (Ze8 _ _ _ _ _ _ _), .of_ext fun b o e => Heap.get?_push_of_some _ e⟩)
theorem Ziv {m n c : Int} {K : V → St → Prop} (h : ∀ r, K (.ref r) ⟨σ.loc, (r, .range m n c) :: σ.obs⟩) (hc : c ≠ 0) (hp : Builtin.divisionGoesByPylong (n - m) c = false) : CF C (.ty "range") [.int m, .int n, .int c] σ K := by
 injection (C σ m n c K) with h hc hp
 intro s fv vs H rf rl
 o_facts rf
 injection (s vs) with H rl rf
 revert rl
 intro rl0
 refine VRs.consK rl0 fun _ _ r rl e0 => ?_
 subst e0
 revert rl
 intro rl0
 refine VRs.consK rl0 fun _ _ r2 rl e0 => ?_
 subst e0
 revert rl
 intro rl0
 refine VRs.consK rl0 fun _ _ r3 rl e0 => ?_
 subst e0
 o_facts rl
 o_facts r; o_facts r2; o_facts r3
 exact .of (call_range_3 hc ⟨_, _, h _, .ref _, H.alloc (n := s.toks) (fun b o e => Heap.get?_push_of_some _ e) (Nat.le_refl _) (Heap.get?_push_size _ rfl) (Ze8 _ _ _ _ _ _ _), .of_ext fun b o e => Heap.get?_push_of_some _ e⟩ (.inl hp))
theorem Zbn {r : Addr} {a b c : Int} {rest : List (Addr × AO)} {K : Value → St → Prop} (p : Pick (r, .range a b c) σ.obs rest)
  (k : ∀ it, K (.ref it) ⟨σ.loc, (it, .riter a (Builtin.Range.rangeSize a b c) c) :: rest⟩) (hs : Builtin.Range.small a b c = true) : IT C (.ref r) σ K := fun va s H rr => by
 cases rr
 refine Zal (H.obs _ p.mem) fun O e ro => ?_
 have q := OR.ownE ro
 obtain ⟨t, u, v, rfl⟩ := q
 refine .of (wpAny_pyIter_range e hs ⟨_, k _, (H.drop p).alloc (σ := ⟨σ.loc, rest⟩) (n := s.toks) (fun b o e => Heap.get?_push_of_some _ e) (Nat.le_refl _) (Heap.get?_push_size _ rfl) (.riter _ _ _), .of_ext fun b o e => Heap.get?_push_of_some _ e⟩)
end
structure Nm (G : Gl) (gl bl : List (Str × V)) : Prop where
 mg : ∀ p ∈ gl, ∃ val, G.mg p.1 = some val ∧ ∀ h, VR h p.2 val
 mb : ∀ p ∈ bl, G.mg p.1 = none ∧ ∃ val, G.mb p.1 = some val ∧ ∀ h, VR h p.2 val
inductive Mb (x : Str) (v : V) : List (Str × V) → Prop
 | head {l : List (Str × V)} : Mb x v ((x, v) :: l)
 | tail {y : Str × V} {l : List (Str × V)} (h : Mb x v l) : Mb x v (y :: l)
theorem Mb.mem {x : Str} {v : V} {l : List (Str × V)} (h : Mb x v l) : (x, v) ∈ l := by
 induction h with
 | head => exact .head _
 | tail _ ih => exact .tail _ ih
section
variable {C : Cx} {σ : St} {α β : Type}
theorem ev_g {gl bl : List (Str × V)} (N : Nm C.G gl bl) {x : Str} {pos : Pos} {v : V} {K : V → St → Prop} (hm : Mb x v gl) (hk : C.env.scope.kind = .function) (hx : C.env.kindOf x = some .globalImplicit)
  (hd : (x == ("__debug__" : Str)) = false) (k : K v σ) : EV C (eval (.Name x pos) C.env) σ K := by
 refine Zal (N.mg _ hm.mem) fun val e r => ?_
 exact Zwp hk hx e r k hd
theorem ev_b {gl bl : List (Str × V)} (N : Nm C.G gl bl) {x : Str} {pos : Pos} {v : V} {K : V → St → Prop} (hm : Mb x v bl) (hk : C.env.scope.kind = .function) (hx : C.env.kindOf x = some .globalImplicit)
  (hd : (x == ("__debug__" : Str)) = false) (k : K v σ) : EV C (eval (.Name x pos) C.env) σ K := by
 obtain ⟨e1, val, e, r⟩ := N.mb _ hm.mem
 exact Zzo hk hx e1 e r k hd
theorem ev_l {x : Str} {pos : Pos} {v : V} {K : V → St → Prop} (h : Lk x v σ.loc) (hk : C.env.scope.kind = .function) (hl : C.env.kindOf x = some .local) (hd : (x == ("__debug__" : Str)) = false) (k : K v σ)
   : EV C (eval (.Name x pos) C.env) σ K := Zq7 hk hl h k hd
theorem Zxu {f : Addr} {n : Nat} {args : List V} {sel rest : List (Addr × AO)} {K' : V → List (Addr × AO) → Prop} {K : V → St → Prop} (g : Good C.A n) (F : Fn C.G (.ref f) n args sel K') (S : Sel σ.obs sel rest)
  (k : ∀ r obs', K' r obs' → K r ⟨σ.loc, obs' ++ rest⟩) : CF C (.ref f) args σ K := fun s fv vs H rf rl => by
 o_facts rf
 exact Zoq F g S k s vs H rl
theorem Zzd {id : String} {args : List Expr} {pos : Pos} {env : Env} {K : V → St → Prop}
  (h : LV C (spliced (backTo pos (starEach args env))) σ fun l σ₁ => CF C (.bi id) l σ₁ K) (hplain : (backTo pos (starEach args env)).any (·.1) = false) : CA C (.bi id) [] args pos env σ K := Zzh h hplain
theorem Zy2 {id : String} {a : V} {args : List Expr} {pos : Pos} {env : Env} {K : V → St → Prop}
  (h : LV C (spliced (backTo pos (starEach args env))) σ fun l σ₁ => CF C (.bi id) (a :: l) σ₁ K) (hplain : (backTo pos (starEach args env)).any (·.1) = false) : CA C (.bi id) [a] args pos env σ K := Zzh h hplain
theorem Zzj {T : String} {args : List Expr} {pos : Pos} {env : Env} {K : V → St → Prop}
  (h : LV C (spliced (backTo pos (starEach args env))) σ fun l σ₁ => CF C (.ty T) l σ₁ K) (hplain : (backTo pos (starEach args env)).any (·.1) = false) : CA C (.ty T) [] args pos env σ K := ca_ty h hplain
theorem ca_K0 {a : Addr} {args : List Expr} {pos : Pos} {env : Env} {K : V → St → Prop} (hk : keepIn C.G.K (.ref a) = true)
  (h : LV C (spliced (backTo pos (starEach args env))) σ fun l σ₁ => CF C (.ref a) l σ₁ K) (hplain : (backTo pos (starEach args env)).any (·.1) = false) : CA C (.ref a) [] args pos env σ K := ca_K hk h hplain
theorem ca_K1 {a : Addr} {b : V} {args : List Expr} {pos : Pos} {env : Env} {K : V → St → Prop} (hk : keepIn C.G.K (.ref a) = true)
  (h : LV C (spliced (backTo pos (starEach args env))) σ fun l σ₁ => CF C (.ref a) (b :: l) σ₁ K) (hplain : (backTo pos (starEach args env)).any (·.1) = false) : CA C (.ref a) [b] args pos env σ K := ca_K hk h hplain
theorem Zim {v sl : Expr} {b : List Nat} {i : Int} {K : V → St → Prop} (h : K (.int (b.getD i.toNat 0 : Nat)) σ) (hs : ∀ o i, ∃ xs, subscripted sl false o i = operate xs (getItem o i))
  (hfit : b.length ≤ 1099511627776) (h0 : 0 ≤ i) (h1 : i < b.length) : OP2 C VR (subscriptTail v sl) (.bytes b) (.int i) σ K :=
 Zca "bytes" Zl8 FB.slot_bytes_getitem.lookup (Zj1 hfit h0 h1 h) hs
theorem Zd8 {n : Int} (h0 : 0 ≤ n) (h1 : n < 2 ^ 60) : Builtin.Range.small 0 n 1 = true := small_one (by simp) (by simp) (by lia) (by lia)
theorem Ztp {n : Int} (h0 : 0 ≤ n) : Builtin.Range.rangeSize 0 n 1 = n := by rw [rangeSize_one]; split <;> lia
theorem Holds.perm {s : Shared} {obs' : List (Addr × AO)} (H : Holds C σ s) (p : σ.obs.Perm obs') : Holds C ⟨σ.loc, obs'⟩ s := by
 refine ⟨H.frz, H.loc, fun q hq => H.obs q (p.mem_iff.mpr hq), ?_, fun a ha => H.ap a ?_, H.nn, H.gens, H.drawn, H.os⟩
 ·exact ((p.map (fun x : Addr × AO => x.1)).cons C.env.locals).nodup_iff.mp H.nd
 ·rcases List.mem_cons.mp ha with q | q
  ·exact q ▸ .head _
  ·exact .tail _ ((p.map (fun x : Addr × AO => x.1)).mem_iff.mpr q)
theorem Zhn {target : Expr} {it : Value} {body orelse : List Stmt} {K : Fl → St → Prop} {obs' : List (Addr × AO)} (p : σ.obs.Perm obs') (h : FL C target it body orelse ⟨σ.loc, obs'⟩ K) : FL C target it body orelse σ K := fun s H => h s (H.perm p)
theorem Zy8 {target iter : Expr} {body orelse : List Stmt} {pos : Pos} {K : Fl → St → Prop}
  (h : EV C (eval iter C.env) σ fun a σ₁ => IT C a σ₁ fun it σ' => FL C target it body orelse σ' K)
  (hs : ∀ x, foldedSetIterable iter C.env x = pure x) : XV C (exec (.For target iter body orelse pos) C.env) σ K := x_for h hs
structure Its (C : Cx) (target : Expr) (it : Addr) (o : Nat → AO) (n : Nat) (x : Nat → V) (need : List (Addr × AO) → Prop) : Prop where
 turn : ∀ k loc obs, k < n → need obs → NL C target (.ref it) ⟨loc, (it, o k) :: obs⟩ (fun v σ' => v = x k ∧ σ' = ⟨loc, (it, o (k + 1)) :: obs⟩) (fun _ => False)
 stop : ∀ loc obs, need obs → NL C target (.ref it) ⟨loc, (it, o n) :: obs⟩ (fun _ _ => False) (fun σ' => σ' = ⟨loc, obs⟩)
theorem OP1.mono {R : Heap → β → α → Prop} {f : Value → Sem α} {a : V} {K K' : β → St → Prop} (h : OP1 C R f a σ K) (k : ∀ b σ, K b σ → K' b σ) : OP1 C R f a σ K' := fun s v H r =>
 Zae (h s v H r) (by rintro _ _ ⟨b, σ, x, y⟩; exact ⟨b, σ, k b σ x, y⟩) fun _ _ e => e
theorem Zc0 {k m n : Nat} (h : k + (m + 1) = n) : k < n := h ▸ Nat.lt_add_of_pos_right (Nat.succ_pos m)
theorem Zmw {k m n : Nat} (h : k + (m + 1) = n) : k + 1 + m = n := (Nat.succ_add_eq_add_succ k m).trans h
theorem Zbr {target : Expr} {it : Addr} {o : Nat → AO} {n : Nat} {x : Nat → V} {need : List (Addr × AO) → Prop} {obs : List (Addr × AO)} {body orelse : List Stmt} {K : Fl → St → Prop} (hE : ∀ e s, ¬ C.E e s)
  (T : Its C target it o n x need) (I : Nat → List (Str × Option V) → List (Addr × AO) → Prop)
  (p : Pick (it, o 0) σ.obs obs) (h0 : I 0 σ.loc obs) (hn : ∀ k loc obs, I k loc obs → need obs)
  (hs : ∀ k loc obs O, k < n → I k loc obs → U1 C (assign target C.env) (x k) ⟨loc, (it, O) :: obs⟩ fun σ₃ =>
   XV C (execs body C.env) σ₃ (lpK (fun σ => ∃ obs', Pick (it, O) σ.obs obs' ∧ I (k + 1) σ.loc obs') K))
  (hf : ∀ loc obs, I n loc obs → XV C (execs orelse C.env) ⟨loc, obs⟩ K) : FL C target (.ref it) body orelse σ K := by
 injection (C σ target it o n x need obs body orelse K I) with hE T p h0 hn hs hf
 have main : ∀ m k loc obs, k + m = n → k ≤ n → I k loc obs → FL C target (.ref it) body orelse ⟨loc, (it, o k) :: obs⟩ K := by
  intro m
  induction m with
  | zero =>
   intro k loc obs hm hk hI
   have : k = n := hm
   subst this
   refine Zhs hE ((T.stop loc obs (hn _ _ _ hI)).mono (fun _ _ f => f.elim) fun σ e => ?_)
   subst e
   exact hf loc obs hI
  | succ m ih =>
   intro k loc obs hm hk hI
   refine Zhs hE ((T.turn k loc obs (Zc0 hm) (hn _ _ _ hI)).mono (fun v σ' e => ?_) fun σ f => f.elim)
   obtain ⟨rfl, rfl⟩ := e
   refine OP1.mono (hs k loc obs _ (Zc0 hm) hI) fun _ σ₃ h₃ => ?_
   refine W.mono h₃ fun fl σ₄ h₄ => ?_
   have next : ∀ σ₄ : St, (∃ obs', Pick (it, o (k + 1)) σ₄.obs obs' ∧ I (k + 1) σ₄.loc obs') → FL C target (.ref it) body orelse σ₄ K := by
    rintro σ₄ ⟨obs', pk, hI'⟩
    exact Zhn pk.perm (ih (k + 1) σ₄.loc obs' (Zmw hm) (Zc0 hm) hI')
   cases fl with
   | next => exact next σ₄ h₄
   | cont => exact next σ₄ h₄
   | brk => exact h₄
   | ret v => exact h₄
 exact Zhn p.perm (main n 0 σ.loc obs (Nat.zero_add n) (Nat.zero_le _) h0)
inductive Tgt : Expr → Prop
 | name {x : Str} {p : Pos} : Tgt (.Name x p)
 | tuple {elts : List Expr} {k : Nat} {p : Pos} : Tgt (.Tuple elts k p)
theorem NL.tgt {target : Expr} {it : Addr} {Ks : V → St → Prop} {Kn : St → Prop} (t : Tgt target) (h : NX C (.ref it) σ Ks Kn)
  (hp : ∀ a σ', Ks a σ' → ∀ s, Holds C σ' s → ∃ O n, s.heap.get? it = some O ∧ O.cls = .type n ∧ ownsTuple.contains n = false) : NL C target (.ref it) σ Ks Kn := by
 cases t with
 | name => exact .name h
 | tuple => exact .tuple h hp
theorem Zqi {s : Shared} {it : Addr} {x l st : Int} {obs : List (Addr × AO)} {loc : List (Str × Option V)} (H : Holds C ⟨loc, (it, .riter x l st) :: obs⟩ s) : ∃ O n, s.heap.get? it = some O ∧ O.cls = .type n ∧ ownsTuple.contains n = false := by
 injection (C s it x l st obs loc) with H
 refine Zal (H.obs _ (.head _)) fun O e ro => ?_
 cases ro
 exact ⟨_, _, e, rfl, by decide⟩
theorem Zov {s : Shared} {it : Addr} {x : Addr} {i : Nat} {obs : List (Addr × AO)} {loc : List (Str × Option V)} (H : Holds C ⟨loc, (it, .liter x i) :: obs⟩ s) : ∃ O n, s.heap.get? it = some O ∧ O.cls = .type n ∧ ownsTuple.contains n = false := by
 refine Zal (H.obs _ (.head _)) fun O e ro => ?_
 refine And.elim (fun c d => ?_) (OR.literE ro)
 exact ⟨_, _, e, c, by decide⟩
theorem Zpc {s : Shared} {it : Addr} {x : List V} {i : Nat} {obs : List (Addr × AO)} {loc : List (Str × Option V)} (H : Holds C ⟨loc, (it, .titer x i) :: obs⟩ s) : ∃ O n, s.heap.get? it = some O ∧ O.cls = .type n ∧ ownsTuple.contains n = false := by
 refine Zal (H.obs _ (.head _)) fun O e ro => ?_
 refine OR.titerK ro fun _ _ _ c d _ _ => ?_
 exact ⟨_, _, e, c, by decide⟩
theorem Zjl {target : Expr} {it : Addr} {a step : Int} {n : Nat} (t : Tgt target) (hh : C.A.handled = none) : Its C target it (fun k => .riter (a + k * step) ((n : Int) - k) step) n (fun k => .int (a + k * step)) (fun _ => True) where
 turn k loc obs hk _ := .tgt t (Zl2 hh .head .head (fun _ => ⟨rfl, by
   have e1 : (a + ((k + 1 : Nat) : Int) * step) = (a + k * step) + step := by push_cast; rw [Int.add_mul]; lia
   have e2 : ((n : Int) - ((k + 1 : Nat) : Int)) = ((n : Int) - k) - 1 := by push_cast; lia
   rw [e1, e2]⟩) (fun h => by lia)) (by rintro a σ' ⟨_, e⟩ s H; subst e; exact Zqi H)
 stop loc obs _ := .tgt t (Zl2 hh (.head (o' := .riter (a + n * step + step) ((n : Int) - n - 1) step)) .head (fun h => by lia) (fun _ => rfl)) fun a σ' f => f.elim
theorem Zbv {target : Expr} {it : Addr} {a left step : Int} {obs : List (Addr × AO)} {body orelse : List Stmt} {K : Fl → St → Prop} (t : Tgt target) (hE : ∀ e s, ¬ C.E e s) (hh : C.A.handled = none) (n : Nat)
  (I : Nat → List (Str × Option V) → List (Addr × AO) → Prop)
  (p : Pick (it, .riter a left step) σ.obs obs) (hl : left = n) (h0 : I 0 σ.loc obs)
  (hs : ∀ k loc obs O, k < n → I k loc obs → U1 C (assign target C.env) (.int (a + k * step)) ⟨loc, (it, O) :: obs⟩ fun σ₃ =>
   XV C (execs body C.env) σ₃ (lpK (fun σ => ∃ obs', Pick (it, O) σ.obs obs' ∧ I (k + 1) σ.loc obs') K))
  (hf : ∀ loc obs, I n loc obs → XV C (execs orelse C.env) ⟨loc, obs⟩ K) : FL C target (.ref it) body orelse σ K :=
 Zbr hE (Zjl t hh) I (by subst hl; simpa using p) h0 (fun _ _ _ _ => trivial) hs hf
theorem Zav {target : Expr} {it a : Addr} {l : List V} (t : Tgt target) (hh : C.A.handled = none) : Its C target it (fun k => .liter a k) l.length (fun k => l.getD k .none) (fun obs => LkO a (.list l) obs) where
 turn k loc obs hk hl := .tgt t (Zo7 hh (.tail hl) .head .head (fun x hx => ⟨by simp [List.getD, hx], rfl⟩) (fun h => by simp at h; lia)) (by rintro a σ' ⟨_, e⟩ s H; subst e; exact Zov H)
 stop loc obs hl := .tgt t (Zo7 hh (.tail hl) .head .head (fun x hx => by simp at hx) (fun _ => rfl)) fun a σ' f => f.elim
theorem Ze0 {target : Expr} {it : Addr} {l : List V} (t : Tgt target) (hh : C.A.handled = none) : Its C target it (fun k => .titer l k) l.length (fun k => l.getD k .none) (fun _ => True) where
 turn k loc obs hk _ := .tgt t (Zt3 hh .head .head (fun x hx => ⟨by simp [List.getD, hx], rfl⟩) (fun h => by simp at h; lia)) (by rintro a σ' ⟨_, e⟩ s H; subst e; exact Zpc H)
 stop loc obs _ := .tgt t (Zt3 hh .head .head (fun x hx => by simp at hx) (fun _ => rfl)) fun a σ' f => f.elim
end
local macro_rules | `(tactic| k_slotget) => return rd "( Mb.head E ( Mb.tail A !PySem.W.tacticK_slotget ; | W"
local macro_rules | `(tactic| k_slotset) => return rd "( Lk.head E ( Lk.tail A !PySem.W.tacticK_slotset ; | W"
local macro_rules | `(tactic| k_ownname) => return rd "( Up.head E ( Up.tail A !PySem.W.tacticK_ownname ; | W"
local macro_rules | `(tactic| k_qdec) => return rd "( LkO.head E ( LkO.tail A !PySem.W.tacticK_qdec ; | W"
local macro_rules | `(tactic| k_closed) => return rd "( UpO.head E ( UpO.tail A !PySem.W.tacticK_closed ; | W"
local macro_rules | `(tactic| k_listUnr) => return rd "( Pick.head E ( Pick.tail A !PySem.W.tacticK_listUnr ; | W"
noncomputable abbrev Loc := List (Str × Option V)
section
variable {X Y : Type}
theorem ei1 {T0 : Type} {A : T0 → X} {B : T0 → Y} {x : X} {y : Y} (a : T0) (h1 : x = A a) (h2 : y = B a) : ∃ a, x = A a ∧ y = B a := ⟨a, h1, h2⟩
theorem ei2 {T0 T1 : Type} {A : T0 → T1 → X} {B : T0 → T1 → Y} {x : X} {y : Y} (a : T0) (b : T1) (h1 : x = A a b) (h2 : y = B a b) : ∃ a b, x = A a b ∧ y = B a b := ⟨a, b, h1, h2⟩
theorem ei3 {T0 T1 T2 : Type} {A : T0 → T1 → T2 → X} {B : T0 → T1 → T2 → Y} {x : X} {y : Y} (a : T0) (b : T1) (c : T2) (h1 : x = A a b c) (h2 : y = B a b c) : ∃ a b c, x = A a b c ∧ y = B a b c := ⟨a, b, c, h1, h2⟩
end
section
variable {M : Loc → List (Addr × AO) → Prop}
@[elab_as_elim] theorem ex1 (loc : Loc) (o : List (Addr × AO)) {T0 : Type} {A : T0 → Loc} {B : T0 → List (Addr × AO)} (h : ∃ a, loc = A a ∧ o = B a) (k : ∀ (a : T0), M (A a) (B a)) : M loc o := by
 obtain ⟨a, h1, h2⟩ := h
 rw [h1, h2]
 exact k a
@[elab_as_elim] theorem ex2 (loc : Loc) (o : List (Addr × AO)) {T0 T1 : Type} {A : T0 → T1 → Loc} {B : T0 → T1 → List (Addr × AO)} (h : ∃ a b, loc = A a b ∧ o = B a b) (k : ∀ (a : T0) (b : T1), M (A a b) (B a b)) : M loc o := by
 obtain ⟨a, b, h1, h2⟩ := h
 rw [h1, h2]
 exact k a b
@[elab_as_elim] theorem ex3 (loc : Loc) (o : List (Addr × AO)) {T0 T1 T2 : Type} {A : T0 → T1 → T2 → Loc} {B : T0 → T1 → T2 → List (Addr × AO)} (h : ∃ a b c, loc = A a b c ∧ o = B a b c) (k : ∀ (a : T0) (b : T1) (c : T2), M (A a b c) (B a b c)) : M loc o := by
 obtain ⟨a, b, c, h1, h2⟩ := h
 rw [h1, h2]
 exact k a b c
end
structure Hid (p : Prop) : Prop where
 out : p
section
variable {C : Cx} {σ : St} {α β : Type}
theorem XV.opq {t : Sem Flow} {K : Fl → St → Prop} (h : ∀ K' : Fl → St → Prop, (∀ a σ, K a σ → K' a σ) → XV C t σ K') : XV C t σ K := h K fun _ _ x => x
theorem U1.opqL {f : Value → Sem Unit} {a : V} {b : Sem Flow} {I : St → Prop} {K : Fl → St → Prop} (h : ∀ (J : St → Prop) (K' : Fl → St → Prop), (∀ σ, I σ → J σ) → (∀ a σ, K a σ → K' a σ) → U1 C f a σ fun σ₃ => XV C b σ₃ (lpK J K')) : U1 C f a σ fun σ₃ => XV C b σ₃ (lpK I K) := h I K (fun _ x => x) fun _ _ x => x
theorem U1.opqE {f : Value → Sem Unit} {a : V} {b : Sem Value} {K : V → St → Prop} (h : ∀ K' : V → St → Prop, (∀ a σ, K a σ → K' a σ) → U1 C f a σ fun σ₃ => EV C b σ₃ K') : U1 C f a σ fun σ₃ => EV C b σ₃ K := h K fun _ _ x => x
theorem U1.opqB {f : Value → Sem Unit} {a : V} {c : Sem Bool} {b : Sem Value} {y : Bool} {Q : St → Prop} {K : V → St → Prop} (h : ∀ (J : St → Prop) (K' : V → St → Prop), (∀ σ, Q σ → J σ) → (∀ a σ, K a σ → K' a σ) → U1 C f a σ fun σ₃ => BV C c σ₃ fun t σ₄ => t = y ∧ (y = true → EV C b σ₄ K') ∧ (y = false → J σ₄)) :
  U1 C f a σ fun σ₃ => BV C c σ₃ fun t σ₄ => t = y ∧ (y = true → EV C b σ₄ K) ∧ (y = false → Q σ₄) := h Q K (fun _ x => x) fun _ _ x => x
theorem BV.opqW {c : Sem Bool} {b e : Sem Flow} {I : St → Prop} {K : Fl → St → Prop} (h : ∀ (J : St → Prop) (K' : Fl → St → Prop), (∀ σ, I σ → J σ) → (∀ a σ, K a σ → K' a σ) → BV C c σ fun t σ₁ => (t = true → XV C b σ₁ (lpK J K')) ∧ (t = false → XV C e σ₁ K')) :
  BV C c σ fun t σ₁ => (t = true → XV C b σ₁ (lpK I K)) ∧ (t = false → XV C e σ₁ K) := h I K (fun _ x => x) fun _ _ x => x
end
local macro_rules | `(tactic| w_how) => return rd "( ( U1.opqL ( _ _ _ _ ? λ R ( U1.opqB ( _ _ _ _ ? λ R ( U1.opqE ( _ _ ? λ R ( BV.opqW ( _ _ _ _ ? λ R ( XV.opq ( _ _ ? λ R |"
abbrev KF := Fl → St → Prop
abbrev KV := V → St → Prop
abbrev KS := St → Prop
local macro_rules | `(tactic| k_cls) => return rd "( ( ( F1 _ _ ) S aa ; ( ( F2 _ _ ) S aa ; ( ( F3 _ ) S aa ; | W"
local macro_rules | `(tactic| k_strUnr) => return rd "( Drp.refl E ( Drp.keep A !PySem.W.tacticK_strUnr ; ( Drp.cons A !PySem.W.tacticK_strUnr ; | W"
theorem Zf4 (m w : Nat) (hw : 0 < w) : Builtin.Range.rangeSize 0 (m * w : Nat) w = m := by
 unfold Builtin.Range.rangeSize
 rw [if_pos (by lia)]
 rcases Nat.eq_zero_or_pos m with h | h
 ·subst h; simp
 ·have hp : 0 < m * w := Nat.mul_pos h hw
  rw [if_pos (by exact_mod_cast hp)]
  have e : ((m * w : Nat) : Int) - 0 - 1 = ((w : Int) - 1) + (w : Int) * ((m : Int) - 1) := by
   push_cast
   rw [Int.mul_sub, Int.mul_comm]; lia
  rw [e, Int.add_mul_ediv_left _ _ (by lia), Int.ediv_eq_zero_of_lt (by lia) (by lia)]
  simp
local macro_rules | `(tactic| k_accL) => return rd "( ( ( OP3 _ _ _ ( Mine.V.ref _ ) ( Mine.V.int _ ) ( Mine.V.int _ ) _ _ ) G ( Zo3 s ? ? ? ? ? ? R ; | W"
local macro_rules | `(tactic| k_not) => return rd "( ( ( OP2 _ _ ( PyProof.Rows.subscriptTail _ _ ) ( Mine.V.bytes _ ) ( Mine.V.int _ ) _ _ ) G ( Zim ? ( ( o i I ( ( List.cons o ( List.cons i List.nil ) ) k > E ; b ? ? ? R ; ( op_ge ? R ( op_gt ? R ( op_lt ? R ( op_ne ? R ( op_eq ? R ( Zu7 ? R ( Zu6 ? R ( Zy9 ? R ( Zyu ? R | W"
local macro_rules | `(tactic| k_put) => return rd "( ( ( XV _ ( PySem.exec ( PySem.Stmt.For _ _ _ _ _ ) _ ) _ _ ) G ( Zy8 ? ( ( _ I kr ; b R ; ( Zfe ? R ( x_if ? R ( Zzg ? R ( x_brk ? R ( x_ret ? R ( ( XV _ ( PySem.exec ( PySem.Stmt.Assign ( List.cons ( PySem.Expr.Subscript _ _ _ ) List.nil ) _ _ ) _ ) _ _ ) G ( Zjs ? k R ; ( x_aug ? R ( ( XV _ ( PySem.exec ( PySem.Stmt.Assign ( List.cons ( PySem.Expr.Name _ _ ) List.nil ) _ _ ) _ ) _ _ ) G ( Zma ? u R ; ( Zzr ? R ( Zag ? R | W"
local macro_rules | `(tactic| k_is) => return rd "( ( Zfa ? R ( Zuf ? R ( Zy1 ? R ( Zye ? R ( ( OP1 _ _ ( PySem.storeName _ _ ) _ _ _ ) G ( Zbz k k p ? R ; | W"
local macro_rules | `(tactic| k_node) => return rd "( ( Zul ? R ( Zy7 ? R ( ( BV _ ( PySem.isTrue ( PySem.Expr.Compare _ ( List.cons _ List.nil ) ( List.cons _ List.nil ) _ ) _ _ ) _ _ ) G ( Zx1 ? k R ; | W"
local macro_rules | `(tactic| k_exc) => return rd "( ( ( CA _ ( Mine.V.ty _ ) List.nil _ _ _ _ _ ) G ( Zzj ? k R ; ( ( CA _ ( Mine.V.bi _ ) ( List.cons _ List.nil ) _ _ _ _ _ ) G ( Zy2 ? k R ; ( ( CA _ ( Mine.V.bi _ ) List.nil _ _ _ _ _ ) G ( Zzd ? k R ; | W"
local macro_rules | `(tactic| k_fold) => return rd "( ( ( LV _ ( PySem.spliced _ ) _ _ ) G ( ( Zvq ? k R ( Zto ? R | ; | W"
local macro_rules | `(tactic| k_get) => return rd "( ( ( EV _ ( PySem.eval ( PySem.Expr.Name _ _ ) _ ) _ _ ) G ( ( ev_l l k k k ? R ( ev_g a m k k k ? R ( ev_b a m k k k ? R | ; ( Zrd ? R ( Zrx ? R ( Zyg ? R ( ( EV _ ( PySem.eval ( PySem.Expr.Compare _ ( List.cons _ List.nil ) ( List.cons _ List.nil ) _ ) _ ) _ _ ) G ( Zzp ? k R ; ( Zs7 ? R ( Zsh ? R ( Zvo ? R ( Zuu ? R ( Zzf ? R ( Zyd ? R ( ( EV _ ( PySem.eval ( PySem.Expr.Call ( PySem.Expr.Attribute _ _ _ ) _ List.nil _ ) _ ) _ _ ) G ( Zvs ? u R ; ( ( EV _ ( PySem.eval ( PySem.Expr.Call _ _ List.nil _ ) _ ) _ _ ) G ( Zwn ? k R ; | W"
local macro_rules | `(tactic| k_here) => return rd "( ( ( fnK _ Fl.next _ ) G Zue A ; ( ( fnK _ ( Fl.ret _ ) _ ) G Zxh A ; ( Zze ? R ( Zu8 ? R ( Zus ? R ( Zwr ? R ( Zxa ? R ( Zx4 ? R ( Zar ? R | W"
local macro_rules | `(tactic| k_accS) => return rd "( im | W"
local macro_rules | `(tactic| k_accD2) => return rd "( ( ( EV _ _ _ _ ) G !PySem.W.tacticK_get ; ( ( OP2 _ _ _ _ _ _ _ ) G !PySem.W.tacticK_not ; ( ( OP1 _ _ _ _ _ _ ) G !PySem.W.tacticK_is ; ( ( SA _ _ _ _ _ _ ) G !PySem.W.tacticK_accD ; ( ( XV _ _ _ _ ) G !PySem.W.tacticK_put ; ( ( LV _ _ _ _ ) G !PySem.W.tacticK_fold ; ( ( CF _ _ _ _ _ ) G !PySem.W.tacticK_few ; ( ( CA _ _ _ _ _ _ _ _ ) G !PySem.W.tacticK_exc ; ( ( BV _ _ _ _ ) G !PySem.W.tacticK_node ; ( ( GM _ _ _ _ _ ) G !PySem.W.tacticK_acc1 ; ( ( IT _ _ _ _ ) G !PySem.W.tacticK_accG ; !PySem.W.tacticK_here !PySem.W.tacticK_accL !PySem.W.tacticK_accS | W"
local macro_rules | `(tactic| w_why) => return rd "!PySem.W.tacticK_accD2 *"
section
variable {C : Cx} {σ : St} {α β : Type}
theorem Holds.cellOf {s : Shared} (H : Holds C σ s) {c : Addr} {v : V} (h : LkO c (.cell (some v)) σ.obs) : ∃ val, s.heap.IsCell c (some val) ∧ VR s.heap v val := by
 refine Zal (H.obj h) fun O e r => ?_
 revert r
 intro r0
 refine OR.cellK r0 fun _ d r => ?_
 rename_i w
 cases w with
 | none => exact r.elim
 | some val => exact ⟨val, ⟨O, e, d⟩, r⟩
theorem Zo0 {x : Str} {pos : Pos} {c : Addr} {v : V} {K : V → St → Prop} (hc : C.env.cells.lookup x = some c) (h : LkO c (.cell (some v)) σ.obs) (hk : C.env.scope.kind = .function) (hl : C.env.kindOf x = some .cell) (hd : (x == ("__debug__" : Str)) = false)
  (k : K v σ) : EV C (eval (.Name x pos) C.env) σ K := Zou (fun s H => by
 refine Zal (H.cellOf h) fun val e r => ?_
 exact .of (wpAny_loadName_cell hk hl hc e (Pst.here H r k))) hd
theorem Zpf {x : Str} {a : V} {c : Addr} {o : Option V} {obs' : List (Addr × AO)} {K : St → Prop} (hc : C.env.cells.lookup x = some c) (u : UpO c (.cell o) (.cell (some a)) σ.obs obs') (hk : C.env.scope.kind = .function) (hl : C.env.kindOf x = some .cell) (k : K ⟨σ.loc, obs'⟩) :
  U1 C (storeName C.env x) a σ K := fun s v H r => by
 refine Zal (H.obj u.lk) fun O e ro => ?_
 revert ro
 intro ro0
 refine OR.cellK ro0 fun _ d ro => ?_
 refine .of (wpAny_storeName_cell hk hl hc ⟨O, e, d⟩ ?_)
 rintro h' ⟨O', e', d'⟩ hs'
 refine And.elim (fun H' tk => ?_) (H.set u hs' e' (.cell (a := some a) (v := some v) d' r) s.toks)
 exact ⟨(), _, k, trivial, H', tk⟩
end
theorem Zgu {k : Str → Option NameKind} : ∀ {binds : List (Str × Value)} {m : Str → Option Value} {x : Str}, (∀ v, (x, v) ∉ binds) → bindL k binds m x = m x
 | [], m, x, h => rfl
 | (n, v) :: r, m, x, h => by
  unfold bindL
  rw [Zgu fun v hv => h v (.tail _ hv)]
  split
  ·show (if x = n then some v else m x) = m x
   rw [if_neg]; rintro rfl; exact h v (.head _)
  ·rfl
theorem Zcs {k : Str → Option NameKind} : ∀ {binds : List (Str × Value)} {m : Str → Option Value} {x : Str}, (∀ v, (x, v) ∉ binds) → bindC k binds m x = m x
 | [], m, x, h => rfl
 | (n, v) :: r, m, x, h => by
  unfold bindC
  rw [Zcs fun v hv => h v (.tail _ hv)]
  split
  ·rfl
  ·show (if x = n then some v else m x) = m x
   rw [if_neg]; rintro rfl; exact h v (.head _)
theorem Zjf {k : Str → Option NameKind} {binds : List (Str × Value)} : ∀ {m : Str → Option Value} {x : Str} {v : Value}, (binds.map (·.1)).Nodup → (x, v) ∈ binds → k x = some .local → bindL k binds m x = some v := by
 induction binds with
 | nil => intro _ _ _ _ h; cases h
 | cons b r ih =>
  obtain ⟨n, w⟩ := b
  intro m x v nd h hk
  unfold bindL
  have nd' := List.nodup_cons.mp nd
  rcases List.mem_cons.mp h with e | h
  ·cases e
   rw [Zgu fun v' hv => nd'.1 (List.mem_map.mpr ⟨_, hv, rfl⟩), if_pos hk]
   simp
  ·exact ih nd'.2 h hk
theorem Zj0 {k : Str → Option NameKind} {binds : List (Str × Value)} : ∀ {m : Str → Option Value} {x : Str} {v : Value}, (binds.map (·.1)).Nodup → (x, v) ∈ binds → k x ≠ some .local → bindC k binds m x = some v := by
 induction binds with
 | nil => intro _ _ _ _ h; cases h
 | cons b r ih =>
  obtain ⟨n, w⟩ := b
  intro m x v nd h hk
  unfold bindC
  have nd' := List.nodup_cons.mp nd
  rcases List.mem_cons.mp h with e | h
  ·cases e
   rw [Zcs fun v' hv => nd'.1 (List.mem_map.mpr ⟨_, hv, rfl⟩), if_neg hk]
   simp
  ·exact ih nd'.2 h hk
theorem Zay {x : Str × Addr} : ∀ {names : List (Str × NameKind)} {n : Nat} {acc : List (Str × Addr)}, x ∈ cellsFrom n names acc → x ∈ acc ∨ (n ≤ x.2 ∧ (x.1, NameKind.cell) ∈ names)
 | [], n, acc, h => .inl h
 | (m, k) :: r, n, acc, h => by
  unfold cellsFrom at h
  split at h
  ·rename_i hk
   rcases Zay h with q | ⟨q, g⟩
   ·rcases List.mem_cons.mp q with e | e
    ·subst e
     have : k = .cell := by simpa using hk
     subst this
     exact .inr ⟨Nat.le_refl _, .head _⟩
    ·exact .inl e
   ·exact .inr ⟨Nat.le_of_succ_le q, .tail _ g⟩
  ·rcases Zay h with q | ⟨q, g⟩
   ·exact .inl q
   ·exact .inr ⟨q, .tail _ g⟩
theorem Zdu {x : Str} {names : List (Str × NameKind)} : ∀ {n : Nat} {acc : List (Str × Addr)}, ((x, NameKind.cell) ∈ names ∨ ∃ c, (x, c) ∈ acc) → ∃ c, (x, c) ∈ cellsFrom n names acc := by
 induction names with
 | nil =>
  intro n acc h
  rcases h with h | h
  ·cases h
  ·exact h
 | cons b r ih =>
  obtain ⟨m, k⟩ := b
  intro n acc h
  unfold cellsFrom
  split
  ·refine ih ?_
   rcases h with h | ⟨c, h⟩
   ·rcases List.mem_cons.mp h with e | h
    ·cases e; exact .inr ⟨n, .head _⟩
    ·exact .inl h
   ·exact .inr ⟨c, .tail _ h⟩
  ·rename_i hk
   refine ih ?_
   rcases h with h | ⟨c, h⟩
   ·rcases List.mem_cons.mp h with e | h
    ·cases e; simp at hk
    ·exact .inl h
   ·exact .inr ⟨c, h⟩
theorem Zcl {names : List (Str × NameKind)} : ∀ {n : Nat} {acc : List (Str × Addr)}, (names.map (·.1)).Nodup → (acc.map (·.1)).Nodup → (∀ x ∈ names, ∀ y ∈ acc, x.1 ≠ y.1) → ((cellsFrom n names acc).map (·.1)).Nodup := by
 induction names with
 | nil => intro n acc h1 h2 h3; exact h2
 | cons b r ih =>
  obtain ⟨m, k⟩ := b
  intro n acc h1 h2 h3
  unfold cellsFrom
  have h1' := List.nodup_cons.mp h1
  split
  ·refine ih h1'.2 (List.nodup_cons.mpr ⟨fun hm => ?_, h2⟩) (fun x hx y hy => ?_)
   ·obtain ⟨y, hy, e⟩ := List.mem_map.mp hm
    exact h3 _ (.head _) y hy e.symm
   ·rcases List.mem_cons.mp hy with e | hy
    ·subst e
     intro q
     exact h1'.1 (List.mem_map.mpr ⟨x, hx, q⟩)
    ·exact h3 x (.tail _ hx) y hy
  ·exact ih h1'.2 h2 fun x hx => h3 x (.tail _ hx)
theorem Zgs {h : Heap} (n : Str) {names : List Str} : ∀ {l : List V} {vs : List Value}, VRs h l vs → names.length = l.length →
  match (names.zip l).lookup n with | some v => ∃ val, (n, val) ∈ names.zip vs ∧ VR h v val | none => ∀ val, (n, val) ∉ names.zip vs := by
 induction names with
 | nil => intro _ _ _ _; simp
 | cons y names ih =>
  intro l vs RR e
  cases RR with
  | nil => simp at e
  | cons r R =>
  rw [List.zip_cons_cons, List.zip_cons_cons, List.lookup_cons]
  cases hb : n == y with
  | true =>
   have : n = y := by simpa using hb
   subst this
   exact ⟨_, .head _, r⟩
  | false =>
   have ih := ih R (by simpa using e)
   have hne : n ≠ y := by simpa using hb
   dsimp only
   split
   ·rename_i v hv
    rw [hv] at ih
    obtain ⟨val, a, b⟩ := ih
    exact ⟨val, .tail _ a, b⟩
   ·rename_i hv
    rw [hv] at ih
    intro val hm
    rcases List.mem_cons.mp hm with q | q
    ·cases q; exact hne rfl
    ·exact ih val q
section
variable {prog : Program} {w : World} {A : Around} {s : Shared} {R : Result → Shared → Prop}
theorem Zcc {a : Addr} {o : Obj} {fd : FuncData} {body : List Stmt} {vals : List Value} {binds : List (Str × Value)}
  (hroom : A.depth < recursionLimit) (ho : s.heap.get? a = some o) (hdata : o.data = .func fd) (hlim : s.heap.NoLimit) (hcd : s.heap.CodeRec fd.code fd.qualname)
  (hbody : fd.body = .stmts body) (hbind : bindArgs fd ⟨vals, []⟩ = pure binds) (hclo : fd.closure = [])
  (hkind : ∀ x ∈ binds, fd.scope.names.lookup x.1 = some .local ∨ (fd.scope.names.lookup x.1 = some .cell ∧ ((cellsFrom (s.heap.objs.size + 1) fd.scope.names []).lookup x.1).isSome = true))
  (h : ∀ s₁, InCallC s (callEnvC fd s.heap.objs.size a).locals (bindL (callEnvC fd s.heap.objs.size a).kindOf binds fun _ => none) (callEnvC fd s.heap.objs.size a).cells
    (bindC (callEnvC fd s.heap.objs.size a).kindOf binds fun _ => none) s₁ →
   wpP (model prog w) (A.deeper (callEnvC fd s.heap.objs.size a)) (execs body (callEnvC fd s.heap.objs.size a)) (fun f s' => R (.ok (.ret (match f with | .ret v => v | _ => .none))) s')
    (fun e s' => wpP (model prog w) (A.deeper (callEnvC fd s.heap.objs.size a)) (leaving (callEnvC fd s.heap.objs.size a) e) (fun _ s'' => R (.error e) s'') (fun e' s'' => R (.error e') s'') s') s₁)
  (hco : fd.scope.isCoroutine = false) (hgen : fd.scope.isGenerator = false) (hk : fd.scope.kind = .function) :
  codeP (model prog w) A (.call (.ref a) ⟨vals, []⟩) R s := by
 refine Za2 hroom ho hdata hco hgen hbody hcd ?_
 rw [hbind, hclo]
 refine Zab (.of (wpAny_newFunctionEnv_cells hk hkind fun env he s' x => ?_))
 subst he
 exact ⟨hlim.keeps x.toInCall.keep, Zd4 (h s' x)⟩
end
theorem Zok {G : Gl} {f c : Addr} {n : Nat} {args : List V} {obs : List (Addr × AO)} {K : V → List (Addr × AO) → Prop} {o oc : Obj} {fd : FuncData} {body : List Stmt} {cvs : Array Value} {ct : Tok} {names rest : List Str} {loc : List (Str × Option V)} {cobs : Addr → List (Addr × AO)}
  (ho : G.K.lookup f = some o) (hd : o.data = .func fd) (hb : fd.body = .stmts body) (hcl : fd.closure = []) (hg : fd.globals = mainGlobals) (hbt : fd.builtins = builtinsNs)
  (hc : fd.code = .ref c) (hoc : G.K.lookup c = some oc) (hdc : oc.data = .fields cvs) (hcv : cvs[1]? = some (.str fd.qualname ct))
  (hnl : names.length = args.length) (hbind : ∀ vs : List Value, vs.length = names.length → bindArgs fd ⟨vs, []⟩ = pure (names.zip vs))
  (hloc : ∀ x ∈ names, fd.scope.names.lookup x = some .local ∨ (x, NameKind.cell) ∈ fd.scope.names) (hsn : (fd.scope.names.map (·.1)).Nodup) (hnn : (names ++ rest).Nodup)
  (hco : fd.scope.isCoroutine = false) (hgen : fd.scope.isGenerator = false) (hk : fd.scope.kind = .function)
  (h : ∀ (R : Ar G n) (L : Addr), XV (R.cx (callEnvC fd L f) hg hbt) (execs body (callEnvC fd L f)) ⟨loc, cobs L ++ obs⟩ (fnK K))
  (hcs : ∀ L, (cellsFrom (L + 1) fd.scope.names []).map (fun p => (p.2, AO.cell ((names.zip args).lookup p.1))) = cobs L)
  (hl : (names.zip (args.map some)).filter (fun p => fd.scope.names.lookup p.1 == some .local) ++ rest.map (·, none) = loc) :
  Fn G (.ref f) (n + 1) args obs K := by
 injection (G f c n args obs K o oc fd body cvs ct names rest loc cobs) with ho hd hb hcl hg hbt hc hoc hdc hcv hnl hbind hloc hsn hnn hco hgen hk h hcs hl
 intro A fz s vs E g ok L R
 injection (A fz s vs E) with g ok L R
 subst hl
 have hlen := R.length
 have nn : names.Nodup := (List.nodup_append.mp hnn).1
 have hbn : ((names.zip vs).map (·.1)).Nodup := by rw [List.map_fst_zip (by rw [hlen, hnl]; exact Nat.le_refl _)]; exact nn
 have hcn := Zcl (n := s.heap.objs.size + 1) (acc := []) hsn (by simp) (fun _ _ y hy => by cases hy)
 have cellKind : ∀ x, (x, NameKind.cell) ∈ fd.scope.names → fd.scope.names.lookup x = some .cell := fun x hx => Zbo hsn hx
 refine Za0 (Zcc (fd := fd) (body := body) (binds := names.zip vs) (by have := g.d; lia) (L.frz _ _ (ok.sub _ _ ho)) hd (ok.top _ L.frz).2.2
  ⟨c, oc, cvs, ct, hc, L.frz _ _ (ok.sub _ _ hoc), hdc, hcv⟩ hb (hbind vs (by rw [hlen, hnl])) hcl (fun x hx => ?_) (fun s₁ X => ?_) hco hgen hk)
 ·rcases hloc x.1 (List.of_mem_zip hx).1 with q | q
  ·exact .inl q
  ·refine .inr ⟨cellKind _ q, ?_⟩
   obtain ⟨c', hc'⟩ := Zdu (n := s.heap.objs.size + 1) (acc := []) (.inl q)
   rw [Zbo hcn hc']; rfl
 obtain ⟨h₀, tk₀, rfl⟩ := X.toInCall.same
 injection (h₀ tk₀) with X
 have hkeep := X.toInCall.keep
 let Ra : Ar G n := ⟨A.deeper (callEnvC fd s.heap.objs.size f), fz, s.gens, s.drawn, s.os, ok, g.deeper _⟩
 have lts : ∀ p ∈ obs, p.1 < s.heap.objs.size := fun p hp => (by obtain ⟨O, e, _⟩ := L.has p hp; exact Heap.lt_size e)
 have hcge : ∀ p ∈ cobs s.heap.objs.size, s.heap.objs.size < p.1 := fun p hp => by
  rw [← hcs] at hp
  obtain ⟨q, hq, rfl⟩ := List.mem_map.mp hp
  rcases Zay hq with z | ⟨z, _⟩
  ·cases z
  ·exact z
 have hfzn : ∀ b, s.heap.objs.size ≤ b → fz b = none := fun b hb => by
  cases e : fz b with
  | none => rfl
  | some o2 => exact absurd (Heap.lt_size (L.frz _ _ e)) (Nat.not_lt.mpr hb)
 have H : Holds (Ra.cx (callEnvC fd s.heap.objs.size f) hg hbt) ⟨(names.zip (args.map some)).filter (fun p => fd.scope.names.lookup p.1 == some .local) ++ rest.map (·, none), cobs s.heap.objs.size ++ obs⟩ { s with heap := h₀, toks := tk₀ } := by
  refine ⟨fun b o' e => hkeep _ _ (L.frz b o' e), ⟨_, X.toInCall.ns, fun x v hx => ?_⟩, fun p hp => ?_, ?_, fun a ha => ?_, ?_, GK.refl _, rfl, rfl⟩
  ·rcases List.mem_append.mp hx with hx | hx
   ·obtain ⟨hm, hlk⟩ := List.mem_filter.mp hx
    obtain ⟨val, e, r⟩ := Zbf (binds := []) R hnl nn x v hm
    have hkl0 : fd.scope.names.lookup x = some .local := by simpa using hlk
    have hkl : (callEnvC fd s.heap.objs.size f).kindOf x = some .local := hkl0
    have hmem : (x, val) ∈ names.zip vs := List.mem_reverse.mp (mem_of_lookup e)
    exact ⟨val, Zjf hbn hmem hkl, r.mono (.of_ext hkeep)⟩
   ·obtain ⟨y, _, e⟩ := List.mem_map.mp hx
    cases e
  ·rcases List.mem_append.mp hp with hp | hp
   ·rw [← hcs] at hp
    obtain ⟨⟨y, cy⟩, hq, rfl⟩ := List.mem_map.mp hp
    obtain ⟨O, e, d⟩ := X.cell y cy (Zbo hcn hq)
    rename_i zq224_1
    injection (y cy O) with hq zq224_1 hp e d
    have hyc : (y, NameKind.cell) ∈ fd.scope.names := by
     rcases Zay hq with z | ⟨_, z⟩
     ·cases z
     ·exact z
    have hky : (callEnvC fd s.heap.objs.size f).kindOf y ≠ some .local := by
     show fd.scope.names.lookup y ≠ some .local
     rw [cellKind _ hyc]; decide
    refine ⟨O, e, ?_⟩
    have z := Zgs y R hnl
    dsimp only
    cases hlk : (names.zip args).lookup y with
    | some v =>
     rw [hlk] at z
     obtain ⟨val, hm, r⟩ := z
     rw [Zj0 hbn hm hky] at d
     exact .cell d (r.mono (.of_ext hkeep))
    | none =>
     rw [hlk] at z
     rw [Zcs z] at d
     exact .cell d trivial
   ·obtain ⟨O, e, r⟩ := L.has p hp
    exact ⟨O, hkeep _ _ e, r.mono (.of_ext hkeep)⟩
  ·show (s.heap.objs.size :: (cobs s.heap.objs.size ++ obs).map (·.1)).Nodup
   rw [List.map_append, List.nodup_cons, List.mem_append, List.nodup_append]
   refine ⟨?_, ?_, L.nd, fun a ha b hb e => ?_⟩
   ·rintro (q | q)
    ·obtain ⟨p, hp, e⟩ := List.mem_map.mp q
     have := hcge p hp
     rw [e] at this; exact Nat.lt_irrefl _ this
    ·obtain ⟨p, hp, e⟩ := List.mem_map.mp q
     have := lts p hp
     rw [e] at this; exact Nat.lt_irrefl _ this
   ·rw [← hcs, List.map_map]
    have := X.apart
    exact List.Pairwise.map _ (fun _ _ h => h) this
   ·subst e
    obtain ⟨p, hp, e1⟩ := List.mem_map.mp ha
    obtain ⟨p', hp', e2⟩ := List.mem_map.mp hb
    have h1 := hcge p hp
    have h2 := lts p' hp'
    rw [e1] at h1; rw [e2] at h2
    exact Nat.lt_asymm h1 h2
  ·rcases List.mem_cons.mp ha with q | q
   ·exact hfzn a (by rw [q]; exact Nat.le_refl _)
   ·rw [List.map_append] at q
    rcases List.mem_append.mp q with q | q
    ·obtain ⟨p, hp, e⟩ := List.mem_map.mp q
     exact hfzn a (e ▸ Nat.le_of_lt (hcge p hp))
    ·exact L.ap a q
  ·show (((names.zip (args.map some)).filter (fun p => fd.scope.names.lookup p.1 == some .local) ++ rest.map fun x => ((x, none) : Str × Option V)).map fun x : Str × Option V => x.1).Nodup
   have e1 : (names.zip (args.map some)).map (fun x : Str × Option V => x.1) = names := List.map_fst_zip (by rw [List.length_map, hnl]; exact Nat.le_refl _)
   have sb : (((names.zip (args.map some)).filter (fun p => fd.scope.names.lookup p.1 == some .local) ++ rest.map fun x => ((x, none) : Str × Option V))).Sublist ((names.zip (args.map some)) ++ rest.map fun x => ((x, none) : Str × Option V)) :=
    List.Sublist.append (List.filter_sublist) (List.Sublist.refl _)
   refine List.Nodup.sublist (sb.map _) ?_
   rw [List.map_append, e1, List.map_map]
   have e2 : rest.map ((fun x : Str × Option V => x.1) ∘ fun x : Str => ((x, none) : Str × Option V)) = rest := by simp [Function.comp_def]
   rw [e2]; exact hnn
 refine Zae (h Ra s.heap.objs.size _ H) ?_ fun _ _ e => e.elim
 rintro fl s' ⟨a, σ', hK, r, H', tk⟩
 have hK2 : ∃ l, K a.val l ∧ Drp σ'.obs l := by cases a <;> exact hK
 obtain ⟨l, hKl, hd⟩ := hK2
 refine ⟨a.val, l, hKl, ?_, ⟨H'.frz, fun p hp => H'.obs p (hd.mem hp), hd.nd (List.nodup_cons.mp H'.nd).2, fun a ha => H'.ap a (.tail _ (hd.keys ha))⟩, (TK.of_ext hkeep).trans tk, H'.gens, H'.drawn, H'.os⟩
 cases r <;> first | exact VR.none | assumption
theorem VRs.get_arr {h : Heap} {l : List V} {vs : List Value} (R : VRs h l vs) {i : Nat} {a : V} (e : l[i]? = some a) : ∃ v, vs.toArray[i]? = some v ∧ VR h a v := by
 refine Zal (R.get i e) fun v e r => ?_
 exact ⟨v, by simpa using e, r⟩
theorem VRs.take {h : Heap} {l : List V} {vs : List Value} (n : Nat) (H : VRs h l vs) : VRs h (l.take n) (vs.take n) := by
 induction l generalizing n vs with
 | nil => cases H; cases n <;> exact .nil
 | cons a l ih => cases H with | cons x r => cases n with
  | zero => exact .nil
  | succ n => exact .cons x (ih n r)
theorem VRs.drop {h : Heap} {l : List V} {vs : List Value} (n : Nat) (H : VRs h l vs) : VRs h (l.drop n) (vs.drop n) := by
 induction l generalizing n vs with
 | nil => cases H; cases n <;> exact .nil
 | cons a l ih => cases H with | cons x r => cases n with
  | zero => exact .cons x r
  | succ n => exact ih n r
noncomputable def slc {α : Type} (l : List α) (lo hi : Option Int) : List α := (l.drop (lo.elim 0 (clipAt l.length))).take (hi.elim l.length (clipAt l.length) - lo.elim 0 (clipAt l.length))
theorem Zam {α : Type} {l : List α} {i : Nat} {d : α} (h : i < l.length) : l.getD i d ∈ l := by
 rw [List.getD, List.getElem?_eq_getElem h]
 exact List.getElem_mem h
theorem Zet {n i : Nat} (h : i ≤ n) : clipAt n (i : Int) = i := (clipAt_nat n i).trans (Nat.min_eq_left h)
theorem Zqf (n : Nat) (i : Int) : clipAt n i ≤ n := Int.toNat_le.mpr (Int.max_le.mpr ⟨Int.natCast_nonneg _, Int.min_le_right _ _⟩)
theorem Zje {α : Type} (l : List α) (lo hi : Option Int) : (slc l lo hi).length ≤ l.length := Nat.le_trans (List.length_take_le' _ _) (List.length_drop ▸ Nat.sub_le _ _)
theorem Zk3 {α : Type} (l : List α) (i j : Nat) (hi : i ≤ l.length) (hj : j ≤ l.length) : slc l (some (i : Int)) (some (j : Int)) = (l.drop i).take (j - i) := by
 show (l.drop (clipAt _ _)).take (clipAt _ _ - clipAt _ _) = _
 rw [Zet hi, Zet hj]
theorem Zl4 {α : Type} (l : List α) (i : Nat) (hi : i ≤ l.length) : slc l (some (i : Int)) none = l.drop i := by
 show (l.drop (clipAt _ _)).take (l.length - clipAt _ _) = _
 rw [Zet hi]
 exact List.take_of_length_le (Nat.le_of_eq List.length_drop)
theorem Zgn {α : Type} (l : List α) (i j : Nat) (h : i ≤ j) (hj : j ≤ l.length) : (slc l (some (i : Int)) (some (j : Int))).length = j - i := by
 rw [Zk3 l i j (Nat.le_trans h hj) hj, List.length_take, List.length_drop]
 exact Nat.min_eq_left (Nat.sub_le_sub_right hj i)
theorem Zk9 {α : Type} (l : List α) (i : Nat) (hj : i ≤ l.length) : (slc l (some (i : Int)) none).length = l.length - i := by rw [Zl4 l i hj, List.length_drop]
theorem VRs.slc {h : Heap} {l : List V} {vs : List Value} (lo hi : Option Int) (r : VRs h l vs) : VRs h (Mine.slc l lo hi) (Mine.slc vs lo hi) := by
 unfold Mine.slc
 rw [r.length]
 exact (r.drop _).take _
noncomputable def Zy0 (lo hi : Option Int) : Ob where
 P _ o := ∃ vl vu, o = { cls := .type "slice", data := .fields #[vl, vu, .none] } ∧ IsPart vl lo ∧ IsPart vu hi
 mono _ _ _ _ h := h
 noTup _ o h vs n e := by obtain ⟨t, u, rfl, _⟩ := h; simp [Zb7] at e
noncomputable abbrev AO.slice (lo hi : Option Int) : AO := .own (Zy0 lo hi)
theorem Zof (h : Heap) {vl vu : Value} {lo hi : Option Int} (p1 : IsPart vl lo) (p2 : IsPart vu hi) : OR h (AO.slice lo hi) { cls := .type "slice", data := .fields #[vl, vu, .none] } := .own ⟨vl, vu, rfl, p1, p2⟩
section
variable {C : Cx} {σ : St} {α β : Type}
theorem Zyo {e : Expr} {pos : Pos} {K : Fl → St → Prop} (h : EV C (eval e C.env) σ fun _ σ₁ => K .next σ₁) (hi : interactive C.env = false) (hs : swapsWith e none pos.line C.env = pure false) : XV C (exec (.Expr e pos) C.env) σ K := fun s H => by
 rw [exec_Expr C.env e pos hi hs]
 exact Zaa (Zac (Zaa (h.step H fun a σ₁ v s₁ k r H₁ t => .of (wpAny_dropValue ⟨.next, σ₁, k, .next, H₁, t⟩))))
noncomputable def LK (l : List V) (P : Prop) : Prop := l.length ≤ sizeLine ∧ P
theorem lk_ok {l : List V} {P : Prop} (h : P) (hz : Nat.ble l.length sizeLine = true) : LK l P := ⟨Nat.le_of_ble_eq_true hz, h⟩
theorem Zwk {elts : List Expr} {pos : Pos} {env : Env} {K : V → St → Prop} (h : LV C (spliced (backTo pos (starEach elts env))) σ fun l σ₁ => LK l (∀ a, K (.ref a) ⟨σ₁.loc, (a, .list l) :: σ₁.obs⟩)) :
  EV C (eval (.List elts pos) env) σ K := fun s H => by
 rw [arm_eval_List]
 refine Zaa (Zac (Zaa (h.step H fun l σ₁ vs s₁ k r H₁ t => ?_)))
 refine .of (wpAny_newList ?_ (by rw [r.length]; exact k.1))
 exact ⟨_, _, k.2 _, .ref _, H₁.alloc (n := s₁.toks) (fun b o e => Heap.get?_push_of_some _ e) (Nat.le_refl _) (Heap.get?_push_size _ rfl) (.list 0 (r.mono (.of_ext fun b o e => Heap.get?_push_of_some _ e))), t.trans (.of_ext fun b o e => Heap.get?_push_of_some _ e)⟩
theorem Zsn {elts : List Expr} {k : Nat} {pos : Pos} {env : Env} {K : V → St → Prop} (h : LV C (spliced (backTo pos (starEach elts env))) σ fun l σ₁ => LK l (K (.tup l) σ₁)) :
  EV C (eval (.Tuple elts k pos) env) σ K := fun s H => by
 rw [arm_eval_Tuple]
 refine Zaa (Zac (Zaa (h.step H fun l σ₁ vs s₁ k r H₁ t => ?_)))
 refine .of (wpAny_newTuple ?_ (by rw [r.length]; exact k.1))
 have kp : ∀ b o, s₁.heap.get? b = some o → (s₁.heap.push { cls := .type "tuple", data := .seq vs.toArray }).get? b = some o := fun b o e => Heap.get?_push_of_some _ e
 exact ⟨_, _, k.2, .tup (Heap.get?_push_size _ rfl) (r.mono (.of_ext kp)), H₁.ext kp s₁.toks, t.trans (.of_ext kp)⟩
theorem Zcn {a : Addr} {l : List V} {v : V} {obs' : List (Addr × AO)} {K : V → St → Prop} (u : UpO a (.list l) (.list (l ++ [v])) σ.obs obs') (k : K .none ⟨σ.loc, obs'⟩) (hz : l.length ≤ sizeLine) : CF C (.bi "list.append") [.ref a, v] σ K := fun s fv vs H rf rl => by
 o_facts rf
 revert rl
 intro rl0
 refine VRs.consK rl0 fun _ _ r rl e0 => ?_
 subst e0
 revert rl
 intro rl0
 refine VRs.consK rl0 fun _ _ r2 rl e0 => ?_
 subst e0
 o_facts rl
 o_facts r
 refine Zb4 (H.list u.lk) fun vs n e r => ?_
 refine .of (append_at e (fun h' hs' e' => ?_) (by simpa [r.length] using hz))
 obtain ⟨H', tk⟩ := H.set (o' := .list (l ++ [v])) u hs' e' (by
  have := OR.list (n + 1) (r.append (.cons r2 .nil))
  simpa using this) s.toks
 exact ⟨_, _, k, .none, H', tk⟩
theorem Zka {a : Addr} {l : List V} {K : V → St → Prop} (hl : LkO a (.list l) σ.obs) (k : K (.int l.length) σ) (hz : l.length ≤ sizeLine) : CF C (.bi "len") [.ref a] σ K := fun s fv vs H rf rl => by
 o_facts rf
 revert rl
 intro rl0
 refine VRs.consK rl0 fun _ _ r rl e0 => ?_
 subst e0
 o_facts rl
 o_facts r
 have hz' : sizeLine = 16777216 := by decide
 refine Zb4 (H.list hl) fun vs n e r => ?_
 have := call_len_list (prog := C.G.prog) (w := C.G.w) (A := C.A) (E := C.E) (s := s) (Q := Pst C VR K s) (l := a) (items := vs.toArray) ⟨_, e, rfl, n, rfl⟩ (by simp [r.length]; lia) (by simpa [r.length] using Pst.hereT H (.int _ _) k)
 exact .of this
theorem Zlc {a : Addr} {l : List V} (hl : LkO a (.list l) σ.obs) (s : Shared) (va : Value) (r : VR s.heap (.ref a) va) (H : Holds C σ s) : s.TypeIs va "list" := by
 o_facts r
 refine Zb4 (H.list hl) fun vs n e r => ?_
 exact ⟨_, e, rfl⟩
theorem Zkc {a : Addr} {l : List V} {i : Int} {x : V} {K : V → St → Prop} (hl : LkO a (.list l) σ.obs) (h0 : 0 ≤ i) (hi : i < 2 ^ 63) (hx : l[i.toNat]? = some x) (k : K x σ) : OP2 C VR getItem (.ref a) (.int i) σ K := fun s v u H r1 r2 => by
 o_facts r1; o_facts r2
 refine Zb4 (H.list hl) fun vs n e r => ?_
 obtain ⟨v, e2, r2⟩ := r.get_arr hx
 exact .of (wpAny_getItem_list ⟨_, e, rfl, n, rfl⟩ h0 hi e2 (Pst.here H r2 k))
theorem Zjr {a : Addr} {l : List V} {i : Int} {x : V} {K : V → St → Prop} (hl : LkO a (.list l) σ.obs) (h0 : i < 0) (h1 : -(l.length : Int) ≤ i) (hi : -(2 ^ 63) ≤ i) (hx : l[(i + l.length).toNat]? = some x) (k : K x σ) : OP2 C VR getItem (.ref a) (.int i) σ K := fun s v u H r1 r2 => by
 o_facts r1; o_facts r2
 refine Zb4 (H.list hl) fun vs n e r => ?_
 obtain ⟨v, e2, r2⟩ := r.get_arr hx
 exact .of (wpAny_getItem_list_neg ⟨_, e, rfl, n, rfl⟩ h0 (by simpa [r.length] using h1) hi (by simpa [r.length] using e2) (Pst.here H r2 k))
theorem Zhh {a sl : Addr} {l : List V} {lo hi : Option Int} {rest : List (Addr × AO)} {K : V → St → Prop} (p : Pick (sl, .slice lo hi) σ.obs rest) (hl : LkO a (.list l) rest) (k : ∀ r, K (.ref r) ⟨σ.loc, (r, .list (slc l lo hi)) :: rest⟩) (hz : l.length ≤ sizeLine) :
  OP2 C VR getItem (.ref a) (.ref sl) σ K := fun s v u H r1 r2 => by
 o_facts r1; o_facts r2
 refine Zal (H.obs _ p.mem) fun O e ro => ?_
 have H' := H.drop p
 refine Zb4 (H'.list hl) fun vs n e2 r => ?_
 have q := OR.ownE ro
 obtain ⟨vl, vu, rfl, p1, p2⟩ := q
 have eq : (slicePick vs.toArray lo hi none) = (slc vs lo hi).toArray := by rw [slicePick_plain]; simp [slc]
 refine .of (wpAny_getItem_list_slice (lo := lo) (hi := hi) (st := none) ⟨_, e2, rfl, n, rfl⟩ ⟨_, e, rfl, rfl⟩ p1 p2 .none (by simp) ?_ (by simpa [r.length] using hz))
 rw [eq]
 have kp : ∀ b o, s.heap.get? b = some o → (s.heap.push { cls := .type "list", data := .seq (slc vs lo hi).toArray }).get? b = some o := fun b o e => Heap.get?_push_of_some _ e
 refine ⟨_, _, k _, .ref _, H'.alloc (n := s.toks) kp (Nat.le_refl _) (Heap.get?_push_size _ rfl) ?_, .of_ext kp⟩
 exact .list 0 (VRs.slc lo hi (r.mono (.of_ext kp)))
noncomputable def PV (C : Cx) (env : Env) (o : Option Expr) (σ : St) (K : Option Int → St → Prop) : Prop := W C (fun _ (k : Option Int) v => IsPart v k) (valueOrNone (evalOpt o env)) σ K
theorem Zu9 {env : Env} {K : Option Int → St → Prop} (k : K none σ) : PV C env none σ K := fun s H => Zab (Pst.here H .none k)
theorem Zun {e : Expr} {env : Env} {K : Option Int → St → Prop} (h : EV C (eval e env) σ fun a σ₁ => ∃ i, a = .int i ∧ K (some i) σ₁) : PV C env (some e) σ K := fun s H => by
 show wpP _ _ (eval e env) _ _ _
 exact h.step H (by rintro a σ₁ v s₁ ⟨i, e, k⟩ r H₁ t; subst e; o_facts r; exact ⟨some i, σ₁, k, .int _ _, H₁, t⟩)
theorem Zsk {lower upper : Option Expr} {pos : Pos} {env : Env} {K : V → St → Prop} (h : PV C env lower σ fun lo σ₁ => PV C env upper σ₁ fun hi σ₂ => ∀ sl, K (.ref sl) ⟨σ₂.loc, (sl, .slice lo hi) :: σ₂.obs⟩) : EV C (eval (.Slice lower upper none pos) env) σ K := fun s H => by
 rw [arm_eval_Slice]
 refine Zaa (W.step h H fun lo σ₁ vl s₁ k₁ r₁ H₁ t₁ => Zaa (Zad (W.step k₁ H₁ fun hi σ₂ vu s₂ k₂ r₂ H₂ t₂ => Zaa (Zad (Zab ?_)))))
 have kp : ∀ b o, s₂.heap.get? b = some o → (s₂.heap.push { cls := .type "slice", data := .fields #[vl, vu, .none] }).get? b = some o := fun b o e => Heap.get?_push_of_some _ e
 refine .of (show wpAny _ _ (newObj (.type "slice") (.fields #[vl, vu, .none])) _ _ _ from wpAny_newObj_type ?_ (by size_fits))
 exact ⟨_, _, k₂ _, .ref _, H₂.alloc (n := s₂.toks) kp (Nat.le_refl _) (Heap.get?_push_size _ rfl) (Zof _ r₁ r₂), (t₁.trans t₂).trans (.of_ext kp)⟩
end
structure In2 (C : Cx) where
 fz : Addr → Option Obj
 ok : C.G.Ok fz
theorem neIn2 {C : Cx} : Nonempty (In2 C) := ⟨⟨C.fz, C.ok⟩⟩
noncomputable abbrev In2.cx {C : Cx} (I : In2 C) (env : Env) (eg : env.globals = mainGlobals) (eb : env.builtins = builtinsNs) : Cx := ⟨C.G, C.A, env, I.fz, C.gens, C.drawn, C.os, C.E, I.ok, eg, eb⟩
noncomputable def Zau (C : Cx) (scope : Scope) (clo : List (Str × Addr)) (L : Addr) : Env :=
 { newEnv scope L C.env.globals clo C.env.qual none .none (some C.env) builtinsNs with scope := { scope with names := scope.names.map fun (n, k) => if k == .free && C.env.scope.kind == .function && C.env.kindOf n == some .cell then (n, .cell) else (n, k) } }
noncomputable def oNs : Ob where
 P _ o := (∃ es ep, o.data = .dict es ep) ∧ ∀ (h : Heap) (a : Addr), h.get? a = some o → ∃ m, h.Ns a m
 mono _ _ _ _ h := h
 noTup _ o h vs n e := by obtain ⟨⟨es, ep, d⟩, _⟩ := h; subst e; cases d
theorem Zyv {h : Heap} {a : Addr} {m : Str → Option Value} (N : h.Ns a m) : ∃ o, h.get? a = some o ∧ OR h (.own oNs) o := by
 obtain ⟨o, es, ep, e, d, r⟩ := N
 exact ⟨o, e, .own ⟨⟨es, ep, d⟩, fun h' a' e' => ⟨m, o, es, ep, e', d, r⟩⟩⟩
section
variable {C : Cx} {σ : St} {α β : Type}
noncomputable def CLP (C : Cx) (e : Expr) (it acc : Value) (σ : St) (K : St → Prop) : Prop :=
 ∀ s, Holds C σ s → codeP (model C.G.prog C.G.w) C.A (.compLoop e 0 it acc C.env) (fun r s' => match r with | .ok .next => ∃ σ', K σ' ∧ Holds C σ' s' ∧ TK s.heap s'.heap | _ => False) s
theorem Holds.out {s s' : Shared} {σ' : St} {I : In2 C} {env : Env} {eg : env.globals = mainGlobals} {eb : env.builtins = builtinsNs} (H : Holds C σ s) (H' : Holds (I.cx env eg eb) σ' s') (t : TK s.heap s'.heap)
  (hup : ∀ b o, C.fz b = some o → I.fz b = some o) (hl : ∀ o, s.heap.get? C.env.locals = some o → I.fz C.env.locals = some o) : Holds C ⟨σ.loc, (env.locals, .own oNs) :: σ'.obs⟩ s' := by
 refine Zal (H.loc) fun m hN hm => ?_
 obtain ⟨o, es, ep, e, hd, hr⟩ := hN
 have ef := hl o e
 have e' := H'.frz _ _ ef
 have nL : ∀ a, a ∈ env.locals :: σ'.obs.map (·.1) → a ≠ C.env.locals := fun a ha q => by
  have := H'.ap a ha
  have ef' : I.fz C.env.locals = some o := ef
  have this' : I.fz a = none := this
  rw [q, ef'] at this'; cases this'
 refine ⟨fun b o e => H'.frz b o (hup b o e), ⟨m, ⟨o, es, ep, e', hd, hr⟩, fun x v hx => (by obtain ⟨val, a, r⟩ := hm x v hx; exact ⟨val, a, r.mono t⟩)⟩, fun p hp => ?_, ?_, fun a ha => ?_, H.nn, H'.gens, H'.drawn, H'.os⟩
 ·rcases List.mem_cons.mp hp with q | q
  ·subst q
   refine Zal (H'.loc) fun m' hN' _ => ?_
   exact Zyv hN'
  ·exact H'.obs p q
 ·refine List.nodup_cons.mpr ⟨fun hm => nL _ hm rfl, H'.nd⟩
 ·rcases List.mem_cons.mp ha with q | q
  ·subst q; exact H.ap _ (.head _)
  ·have := H'.ap a q
   cases e2 : C.fz a with
   | none => rfl
   | some o2 => have z := hup _ _ e2; have this' : I.fz a = none := this; rw [z] at this'; cases this'
noncomputable abbrev EMIT (C : Cx) (elt : Expr) (acc : Value) (σ : St) (K : St → Prop) : Prop := EV C (eval elt C.env) σ fun v σ₄ => OP1 C VR (fun v => call (.builtin "list.append") [acc, v]) v σ₄ fun _ σ₅ => K σ₅
theorem Zes {elt target iter : Expr} {scope : Scope} {pos : Pos} {it acc : Value} {K : St → Prop} (hE : ∀ e s, ¬ C.E e s)
  (h : NL C target it σ (fun a σ₂ => U1 C (assign target C.env) a σ₂ fun σ₃ =>
    EMIT C elt acc σ₃ fun σ₅ => CLP C (.ListComp elt [⟨target, iter, [], 0⟩] scope pos) it acc σ₅ K) K) : CLP C (.ListComp elt [⟨target, iter, [], 0⟩] scope pos) it acc σ K := by
 injection (C σ elt target iter scope pos it acc K) with hE h
 intro s H
 injection (s) with H
 refine Zaf rfl ?_
 rw [Za5 rfl rfl]
 show wpP _ _ ((compTurn (.ListComp elt [⟨target, iter, [], 0⟩] scope pos) 0 it acc C.env).onRaise (fun x => do noteFrame x C.env; theTreesLotGoes x)) _ _ s
 refine Zak ?_
 unfold compTurn
 refine Zaa (Zac (Zaa (Zae (h s _ H) (fun r s₁ h₁ => ?_) fun _ _ h' => h')))
 cases r with
 | none =>
  obtain ⟨σ₁, k, H₁, t₁⟩ := h₁
  exact Zab ⟨σ₁, k, H₁, t₁⟩
 | some v =>
  refine Zaa (Zae h₁ ?_ fun e s₂ he => absurd he (hE e s₂))
  rintro _ s₂ ⟨a, σ₂, k₂, r₂, H₂, t₂⟩
  refine Zaa (Zba hE (k₂ s₂ v H₂ r₂) (fun _ s₃ _ σ₃ k₃ _ H₃ t₃ => ?_))
  refine Zaa (m := forIn [] true _) (Zab ?_)
  refine Zaa (Zaa (Zba hE (k₃ s₃ H₃) (fun w s₄ b σ₄ k₄ r₄ H₄ t₄ => ?_)))
  refine Zaa (Zba hE (k₄ s₄ w H₄ r₄) (fun _ s₅ _ σ₅ k₅ _ H₅ t₅ => ?_))
  have t := ((t₂.trans t₃).trans t₄).trans t₅
  refine Zab (Zab ⟨rfl, Zao (k₅ s₅ H₅) fun r s' x => ?_⟩)
  cases r with
  | error e => exact x.elim
  | ok f =>
   cases f with
   | next => obtain ⟨σ', a1, a2, a3⟩ := x; exact ⟨σ', a1, a2, t.trans a3⟩
   | _ => exact x.elim
theorem Zmm {elt target iter c : Expr} {scope : Scope} {pos : Pos} {it acc : Value} {K : St → Prop} (hE : ∀ e s, ¬ C.E e s)
  (h : NL C target it σ (fun a σ₂ => U1 C (assign target C.env) a σ₂ fun σ₃ =>
    BV C (isTrue c C.env (eval c C.env)) σ₃ fun b σ₄ => (b = true → EMIT C elt acc σ₄ fun σ₅ => CLP C (.ListComp elt [⟨target, iter, [c], 0⟩] scope pos) it acc σ₅ K) ∧
     (b = false → CLP C (.ListComp elt [⟨target, iter, [c], 0⟩] scope pos) it acc σ₄ K)) K) : CLP C (.ListComp elt [⟨target, iter, [c], 0⟩] scope pos) it acc σ K := by
 injection (C σ elt target iter c scope pos it acc K) with hE h
 intro s H
 injection (s) with H
 refine Zaf rfl ?_
 rw [Za5 rfl rfl]
 show wpP _ _ ((compTurn (.ListComp elt [⟨target, iter, [c], 0⟩] scope pos) 0 it acc C.env).onRaise (fun x => do noteFrame x C.env; theTreesLotGoes x)) _ _ s
 refine Zak ?_
 unfold compTurn
 refine Zaa (Zac (Zaa (Zae (h s _ H) (fun r s₁ h₁ => ?_) fun _ _ h' => h')))
 cases r with
 | none =>
  obtain ⟨σ₁, k, H₁, t₁⟩ := h₁
  exact Zab ⟨σ₁, k, H₁, t₁⟩
 | some v =>
  refine Zaa (Zae h₁ ?_ fun e s₂ he => absurd he (hE e s₂))
  rintro _ s₂ ⟨a, σ₂, k₂, r₂, H₂, t₂⟩
  refine Zaa (Zba hE (k₂ s₂ v H₂ r₂) (fun _ s₃ _ σ₃ k₃ _ H₃ t₃ => ?_))
  refine Zaa (m := forIn [c] true _) ?_
  rw [List.forIn_cons]
  refine Zaa (Zaa (Zba hE (k₃ s₃ H₃) (fun b s₀ b' σ₀ k₀ r₀ H₀ t₀ => ?_)))
  subst r₀
  refine Zab (Zab ?_)
  cases b with
  | true =>
   refine Zaa (Zaa (Zba hE (k₀.1 rfl s₀ H₀) (fun w s₄ b σ₄ k₄ r₄ H₄ t₄ => ?_)))
   refine Zaa (Zba hE (k₄ s₄ w H₄ r₄) (fun _ s₅ _ σ₅ k₅ _ H₅ t₅ => ?_))
   have t := (((t₂.trans t₃).trans t₀).trans t₄).trans t₅
   refine Zab (Zab ⟨rfl, Zao (k₅ s₅ H₅) fun r s' x => ?_⟩)
   cases r with
   | error e => exact x.elim
   | ok f =>
    cases f with
    | next => obtain ⟨σ', a1, a2, a3⟩ := x; exact ⟨σ', a1, a2, t.trans a3⟩
    | _ => exact x.elim
  | false =>
   have t := ((t₂.trans t₃).trans t₀)
   refine Zab ⟨rfl, Zao (k₀.2 rfl s₀ H₀) fun r s' x => ?_⟩
   cases r with
   | error e => exact x.elim
   | ok f =>
    cases f with
    | next => obtain ⟨σ', a1, a2, a3⟩ := x; exact ⟨σ', a1, a2, t.trans a3⟩
    | _ => exact x.elim
noncomputable def Zn4 (C : Cx) (it : Value) (σ : St) : Prop := ∀ s E (Q : Value → Shared → Prop), Holds C σ s → Q it s → wpP (model C.G.prog C.G.w) C.A (pyIter it) Q E s
theorem Znx {e : Expr} {it acc : Value} {K : St → Prop} (hself : Zn4 C it σ) (hf : (Code.compStart e 0 it acc C.env).isFrame = false) (ha : ((clausesOf e)[0]?).elim false (·.is_async != 0) = false) (hg : ∃ g, (clausesOf e)[0]? = some g) (h : CLP C e it acc σ K) (s : Shared) (H : Holds C σ s)
  (hu : (Code.compStart e 0 it acc C.env).weight = 0) (hw : (Code.compStart e 0 it acc C.env).cUnits = 0) :
  codeP (model C.G.prog C.G.w) C.A (.compStart e 0 it acc C.env) (fun r s' => match r with | .ok .next => ∃ σ', K σ' ∧ Holds C σ' s' ∧ TK s.heap s'.heap | _ => False) s := by
 injection (C σ e it acc K s) with hself hf ha hg h H hu hw
 refine Zaf rfl ?_
 rw [Za5 hu hw]
 show wpP _ _ (if (Code.compStart e 0 it acc C.env).isFrame then (compStart e 0 it acc C.env).onRaise (leaving C.env) else (compStart e 0 it acc C.env).onRaise (fun x => do noteFrame x C.env; standAt theWindowsPlace)) _ _ s
 rw [hf]
 show wpP _ _ ((compStart e 0 it acc C.env).onRaise (fun x => do noteFrame x C.env; standAt theWindowsPlace)) _ _ s
 refine Zak ?_
 unfold compStart
 rw [ha]
 show wpP _ _ (ask >>= fun r => if r.params.followText "comprehension-iter-twice" = true then again (.compLoop e 0 it acc C.env) else _) _ _ s
 refine Zaa (.of (wpAny_askSetting ?_))
 split
 ·exact Zab ⟨rfl, h s H⟩
 ·refine Zaa (.of (wpAny_rule ?_))
  obtain ⟨g, hg⟩ := hg
  rw [hg]
  refine Zaa (Zac ?_)
  exact Zaa (hself s _ _ H (Zab ⟨rfl, h s H⟩))
theorem Zlm {e : Expr} {scope : Scope} {pos : Pos} {first : Sem Value} {g : Comprehension} {gs : List Comprehension} {clo : List (Str × Addr)} {use : Option (Value → Sem Unit)} {K : V → St → Prop} (ln : List Str) (hE : ∀ e s, ¬ C.E e s)
  (hclo : closureFor scope C.env = pure clo) (hcl : clausesOf e = g :: gs) (ha : g.is_async = 0) (hs : ∀ x, foldedSetIterable g.iter C.env x = pure x) (hk : scope.kind = .function) (hcell : ∀ x ∈ scope.names, x.2 ≠ .cell)
  (hnames : ∀ x ∈ scope.names, x.2 = .local → (Zau C scope clo 0).kindOf x.1 = some .local) (hf : ∀ it acc env, (Code.compStart e 0 it acc env).isFrame = false) (hw : ∀ it acc env, (Code.compStart e 0 it acc env).weight = 0) (hu : ∀ it acc env, (Code.compStart e 0 it acc env).cUnits = 0)
  (hln : ln.Nodup)
  (h : EV C first σ fun a σ₁ => IT C a σ₁ fun it σ₂ => ∀ (L acc : Addr) (I : In2 C), Zn4 (I.cx (Zau C scope clo L) C.eg C.eb) it ⟨ln.map (·, none), (acc, .list []) :: σ₂.obs⟩ ∧
   CLP (I.cx (Zau C scope clo L) C.eg C.eb) e it (.ref acc) ⟨ln.map (·, none), (acc, .list []) :: σ₂.obs⟩ fun σ' => match use with
    | none => K (.ref acc) ⟨σ₂.loc, σ'.obs⟩
    | some u => U1 C u (.ref acc) ⟨σ₂.loc, (L, .own oNs) :: σ'.obs⟩ fun σ₃ => ∃ obs₃, Pick (L, .own oNs) σ₃.obs obs₃ ∧ K .none ⟨σ₃.loc, obs₃⟩) :
  EV C (comprehension e scope C.env pos (newList []) false first use) σ K := by
 injection (C σ e scope pos first g gs clo use K ln) with hE hclo hcl ha hs hk hcell hnames hf hw hu hln h
 intro s H
 unfold comprehension
 rw [hclo, hcl]
 refine Zaa (h.step H fun a σ₁ va s₁ h₁ ra H₁ t₁ => Zaa (Zac (Zaa (Zn5 (hs va) (Zaa (Zad (Zae (h₁ va s₁ H₁ ra) ?_ fun _ _ e => e)))))))
 rintro it s₂ ⟨σ₂, h₂, H₂, t₂⟩
 injection (s a σ₁ va s₁ it s₂ σ₂) with H h₁ ra H₁ t₁ h₂ H₂ t₂
 have stand : ∀ {k : PUnit → Sem Value} {Q : Value → Shared → Prop}, wpP (model C.G.prog C.G.w) C.A (k ⟨⟩) Q C.E s₂ → wpP (model C.G.prog C.G.w) C.A (if use.isSome = true then (standAt e.pos >>= k) else k ⟨⟩) Q C.E s₂ := fun h => by
  split
  ·exact Zaa (Zac h)
  ·exact h
 refine stand ?_
 refine Zaa (.of (wpAny_newList ?_ (Nat.zero_le _)))
 refine Zaa (Zab ?_)
 refine Zaa (.of (wpAny_newFunctionEnv (around := some C.env) hcell (by simp) (fun h' hns hsb => ?_) hk))
 injection (h') with hns hsb
 have kA : ∀ b o, s₂.heap.get? b = some o → (s₂.heap.push { cls := .type "list", data := .seq #[] }).get? b = some o := fun b o e => Heap.get?_push_of_some _ e
 have szA : (s₂.heap.push { cls := .type "list", data := .seq #[] }).objs.size = s₂.heap.objs.size + 1 := Heap.size_push _ _
 have ltL : ∀ b o, (s₂.heap.push { cls := .type "list", data := .seq #[] }).get? b = some o → b ≠ (s₂.heap.push { cls := .type "list", data := .seq #[] }).objs.size := fun b o e => Nat.ne_of_lt (Heap.lt_size e)
 have kB : ∀ b o, (s₂.heap.push { cls := .type "list", data := .seq #[] }).get? b = some o → h'.get? b = some o := fun b o e => hsb.extBut b o (ltL b o e) (Heap.get?_push_of_some _ e)
 have kk : ∀ b o, s₂.heap.get? b = some o → h'.get? b = some o := fun b o e => kB b o (kA b o e)
 let fz' : Addr → Option Obj := fun b => if b = C.env.locals then s₂.heap.get? b else C.fz b
 have up : ∀ b o, C.fz b = some o → fz' b = some o := fun b o e => by
  have hb : b ≠ C.env.locals := fun q => by have := H₂.ap _ (.head _); rw [← q, e] at this; cases this
  show (if b = C.env.locals then s₂.heap.get? b else C.fz b) = some o
  rw [if_neg hb]; exact e
 let I : In2 C := ⟨fz', ⟨fun a o e => up a o (C.ok.sub a o e), fun h hk => C.ok.top h fun b o e => hk b o (up b o e), (by obtain ⟨o, e⟩ := C.ok.sm; exact ⟨o, up _ _ e⟩)⟩⟩
 generalize hL : (s₂.heap.push { cls := .type "list", data := .seq #[] }).objs.size = L at *
 have hLge : s₂.heap.objs.size < L := by lia
 obtain ⟨hself, hloop⟩ := h₂ L s₂.heap.objs.size I
 have fzl : ∀ b o, fz' b = some o → s₂.heap.get? b = some o := fun b o e => by
  by_cases hb : b = C.env.locals
  ·have : fz' b = s₂.heap.get? b := if_pos hb
   rw [this] at e; exact e
  ·have : fz' b = C.fz b := if_neg hb
   rw [this] at e; exact H₂.frz b o e
 have H₃ : Holds (I.cx (Zau C scope clo L) C.eg C.eb) ⟨ln.map (·, none), (s₂.heap.objs.size, .list []) :: σ₂.obs⟩ { s₂ with heap := h' } := by
  refine ⟨fun b o e => kk b o (fzl b o e), ⟨_, hns, fun x v hx => ?_⟩, fun p hp => ?_, ?_, fun a ha => ?_, ?_, H₂.gens, H₂.drawn, H₂.os⟩
  ·obtain ⟨y, _, e⟩ := List.mem_map.mp hx
   cases e
  ·rcases List.mem_cons.mp hp with q | q
   ·subst q
    exact ⟨_, kB _ _ (Heap.get?_push_size _ rfl), .list 0 .nil⟩
   ·refine Zal (H₂.obs p q) fun O e r => ?_
    exact ⟨O, kk _ _ e, r.mono (.of_ext kk)⟩
  ·show (L :: s₂.heap.objs.size :: σ₂.obs.map (·.1)).Nodup
   have lt : ∀ a ∈ σ₂.obs.map (·.1), a < s₂.heap.objs.size := fun a ha => by obtain ⟨p, hp, e⟩ := List.mem_map.mp ha; exact e ▸ H₂.ltOf hp
   refine List.nodup_cons.mpr ⟨fun hm => ?_, List.nodup_cons.mpr ⟨fun hm => Nat.lt_irrefl _ (lt _ hm), (List.nodup_cons.mp H₂.nd).2⟩⟩
   rcases List.mem_cons.mp hm with q | q
   ·exact Nat.ne_of_gt hLge q
   ·exact absurd (lt _ q) (Nat.not_lt.mpr (Nat.le_of_lt hLge))
  ·show fz' a = none
   have big : ∀ a, s₂.heap.objs.size ≤ a → fz' a = none := fun a ha => by
    cases e : fz' a with
    | none => rfl
    | some o => exact absurd (Heap.lt_size (fzl a o e)) (Nat.not_lt.mpr ha)
   have ha' : a ∈ L :: s₂.heap.objs.size :: σ₂.obs.map (·.1) := ha
   rcases List.mem_cons.mp ha' with q | q
   ·exact big a (q ▸ Nat.le_of_lt hLge)
   ·rcases List.mem_cons.mp q with q | q
    ·exact big a (q ▸ Nat.le_refl _)
    ·have hne : a ≠ C.env.locals := fun e => (List.nodup_cons.mp H₂.nd).1 (e ▸ q)
     show (if a = C.env.locals then s₂.heap.get? a else C.fz a) = none
     rw [if_neg hne]; exact H₂.ap a (.tail _ q)
  ·show ((ln.map fun x => ((x, none) : Str × Option V)).map fun x => x.1).Nodup
   rw [List.map_map]
   simpa [Function.comp_def] using hln
 have tA : TK s.heap h' := (t₁.trans t₂).trans (.of_ext kk)
 have run := Znx hself (hf _ _ _) (by rw [hcl]; simp [ha]) ⟨g, by rw [hcl]; rfl⟩ hloop _ H₃ (hw _ _ _) (hu _ _ _)
 have hvars : ∀ vs : List (Str × NameKind), (∀ x ∈ vs, x ∈ scope.names) → ∀ x ∈ vs, x.2 = .local → (Zau C scope clo L).kindOf x.1 = some .local := fun vs hvs x hx e => hnames x (hvs x hx) e
 have finish : ∀ {cellsOf : List (Str × NameKind) → List Value} (vs : List (Str × NameKind)) {σ₃ : St} {s₃ : Shared} {obs₃ : List (Addr × AO)} {Q : Unit → Shared → Prop}, (∀ x ∈ vs, x ∈ scope.names) → (∃ m, s₃.heap.Ns L m) → Holds C σ₃ s₃ → Pick (L, .own oNs) σ₃.obs obs₃ →
   (∀ h', Holds C ⟨σ₃.loc, obs₃⟩ { s₃ with heap := h' } → TK s₃.heap h' → Q () { s₃ with heap := h' }) → wpP (model C.G.prog C.G.w) C.A (comprehension.letGo (Zau C scope clo L) cellsOf vs) Q C.E s₃ := by
  intro cellsOf vs σ₃ s₃ obs₃ Q hvs ⟨m, hN⟩ H₃ pk k
  exact .of (wpAny_comp_letGo (cenv := Zau C scope clo L) hk vs s₃ m (hvars vs hvs) hN fun h' m' _ hs' => by
   refine And.elim (fun z1 z2 => ?_) (H₃.dropExt pk hs'.extBut s₃.toks)
   exact k h' z1 z2)
 have hfil : ∀ x ∈ (scope.names.filter fun (n, k) => (k == .local || k == .cell) && n != (".0" : Str)).reverse, x ∈ scope.names := fun x hx => (List.mem_filter.mp (List.mem_reverse.mp hx)).1
 refine Zad (Zaa (Zda (Zad (Zh3 (h := none) (Zao run fun r s' hr => ?_)))))
 cases r with
 | error e => exact hr.elim
 | ok f =>
  cases f with
  | next =>
   obtain ⟨σ', hK, H', t'⟩ := hr
   have hls : ∀ o, s₂.heap.get? C.env.locals = some o → fz' C.env.locals = some o := fun o e => by
    show (if C.env.locals = C.env.locals then s₂.heap.get? C.env.locals else _) = _
    rw [if_pos rfl]; exact e
   have tt : TK s₂.heap s'.heap := (TK.of_ext kk).trans t'
   have H₄ : Holds C ⟨σ₂.loc, (L, .own oNs) :: σ'.obs⟩ s' := Holds.out H₂ H' tt up hls
   refine Zal (H'.loc) fun m' hN' _ => ?_
   cases use with
   | none =>
    refine Zaa (Zad (finish _ hfil ⟨m', hN'⟩ H₄ .head fun h₅ H₅ t₅ => Zab ?_))
    exact ⟨_, _, hK, .ref _, H₅, ((t₁.trans t₂).trans tt).trans t₅⟩
   | some u =>
    refine Zaa (.of (wpAny_rule ?_))
    refine Zaa (Zad (Zae (hK s' _ H₄ (.ref _)) ?_ fun _ _ e => e))
    rintro _ s₅ ⟨_, σ₃, ⟨obs₃, pk, hK₃⟩, _, H₅, t₅⟩
    have hN₅ : ∃ m, s₅.heap.Ns L m := by
     refine Zal (H₅.obs _ pk.mem) fun O e ro => ?_
     have q := OR.ownE ro
     exact q.2 _ _ e
    refine Zaa (finish _ (fun x hx => ?_) hN₅ H₅ pk fun h₆ H₆ t₆ => Zab ?_)
    ·rcases List.mem_append.mp hx with q | q
     ·exact hfil x (List.mem_of_mem_drop q)
     ·exact hfil x (List.mem_of_mem_take q)
    ·exact ⟨_, _, hK₃, .none, H₆, (((t₁.trans t₂).trans tt).trans t₅).trans t₆⟩
  | _ => exact hr.elim
theorem Zwm {elt target iter : Expr} {ifs : List Expr} {scope : Scope} {pos : Pos} {clo : List (Str × Addr)} {K : V → St → Prop} (ln : List Str) (hE : ∀ e s, ¬ C.E e s)
  (hclo : closureFor scope C.env = pure clo) (hs : ∀ x, foldedSetIterable iter C.env x = pure x) (hk : scope.kind = .function) (hcell : ∀ x ∈ scope.names, x.2 ≠ .cell)
  (hnames : ∀ x ∈ scope.names, x.2 = .local → (Zau C scope clo 0).kindOf x.1 = some .local) (hln : ln.Nodup)
  (h : EV C (eval iter C.env) σ fun a σ₁ => IT C a σ₁ fun it σ₂ => ∀ (L acc : Addr) (I : In2 C), Zn4 (I.cx (Zau C scope clo L) C.eg C.eb) it ⟨ln.map (·, none), (acc, .list []) :: σ₂.obs⟩ ∧
   CLP (I.cx (Zau C scope clo L) C.eg C.eb) (.ListComp elt [⟨target, iter, ifs, 0⟩] scope pos) it (.ref acc) ⟨ln.map (·, none), (acc, .list []) :: σ₂.obs⟩ fun σ' => K (.ref acc) ⟨σ₂.loc, σ'.obs⟩) : EV C (eval (.ListComp elt [⟨target, iter, ifs, 0⟩] scope pos) C.env) σ K := by
 rw [arm_eval_ListComp]
 have e1 : firstAsync [⟨target, iter, ifs, 0⟩] = false := rfl
 show EV C (comprehension (.ListComp elt [⟨target, iter, ifs, 0⟩] scope pos) scope C.env (firstIterPos [⟨target, iter, ifs, 0⟩] pos) (newList []) (firstAsync [⟨target, iter, ifs, 0⟩]) (firstIter [⟨target, iter, ifs, 0⟩] C.env)) σ K
 rw [e1]
 exact Zlm (use := none) ln hE hclo rfl rfl hs hk hcell hnames (fun _ _ _ => rfl) (fun _ _ _ => rfl) (fun _ _ _ => rfl) hln h
theorem Zhm {x : Str} {xp : Pos} {apos : Pos} {elt target iter : Expr} {ifs : List Expr} {scope : Scope} {pos : Pos} {clo : List (Str × Addr)} {K : Fl → St → Prop} (ln : List Str) (hE : ∀ e s, ¬ C.E e s)
  (hsw : swapsWith (.ListComp elt [⟨target, iter, ifs, 0⟩] scope pos) (some (.Name x xp)) apos.line C.env = pure true)
  (hclo : closureFor scope C.env = pure clo) (hs : ∀ x, foldedSetIterable iter C.env x = pure x) (hk : scope.kind = .function) (hcell : ∀ x ∈ scope.names, x.2 ≠ .cell)
  (hnames : ∀ x ∈ scope.names, x.2 = .local → (Zau C scope clo 0).kindOf x.1 = some .local) (hln : ln.Nodup)
  (h : EV C (eval iter C.env) σ fun a σ₁ => IT C a σ₁ fun it σ₂ => ∀ (L acc : Addr) (I : In2 C), Zn4 (I.cx (Zau C scope clo L) C.eg C.eb) it ⟨ln.map (·, none), (acc, .list []) :: σ₂.obs⟩ ∧
   CLP (I.cx (Zau C scope clo L) C.eg C.eb) (.ListComp elt [⟨target, iter, ifs, 0⟩] scope pos) it (.ref acc) ⟨ln.map (·, none), (acc, .list []) :: σ₂.obs⟩ fun σ' =>
    U1 C (storeName C.env x) (.ref acc) ⟨σ₂.loc, (L, .own oNs) :: σ'.obs⟩ fun σ₃ => ∃ obs₃, Pick (L, .own oNs) σ₃.obs obs₃ ∧ K .next ⟨σ₃.loc, obs₃⟩) : XV C (exec (.Assign [.Name x xp] (.ListComp elt [⟨target, iter, ifs, 0⟩] scope pos) apos) C.env) σ K := by
 injection (C σ x xp apos elt target iter ifs scope pos clo K ln) with hE hsw hclo hs hk hcell hnames hln h
 rw [exec_Assign]
 intro s H
 refine Zaa (Zac ?_)
 have hsw' : swapsWithSole [.Name x xp] (.ListComp elt [⟨target, iter, ifs, 0⟩] scope pos) apos.line C.env = pure true := hsw
 rw [hsw']
 refine Zaa (Zab ?_)
 have e1 : firstAsync [⟨target, iter, ifs, 0⟩] = false := rfl
 show wpP (α := Flow) _ _ (do
  (do let _ ← comprehension (.ListComp elt [⟨target, iter, ifs, 0⟩] scope pos) scope C.env (firstIterPos [⟨target, iter, ifs, 0⟩] pos) (newList []) (firstAsync [⟨target, iter, ifs, 0⟩]) (firstIter [⟨target, iter, ifs, 0⟩] C.env) (some fun v => assign (.Name x xp) C.env v) : Sem Unit)
  pure Flow.next) _ _ _
 rw [e1]
 have main := Zlm (C := C) (σ := σ) (e := .ListComp elt [⟨target, iter, ifs, 0⟩] scope pos) (pos := firstIterPos [⟨target, iter, ifs, 0⟩] pos) (first := firstIter [⟨target, iter, ifs, 0⟩] C.env) (use := some fun v => assign (.Name x xp) C.env v) (K := fun _ σ => K .next σ) ln hE hclo rfl rfl hs hk hcell hnames (fun _ _ _ => rfl) (fun _ _ _ => rfl) (fun _ _ _ => rfl) hln
  (h.mono fun a σ₁ hIT va s₁ H₁ r₁ => Zae (hIT va s₁ H₁ r₁) (fun it s₂ ⟨σ₂, k, z⟩ => ⟨σ₂, fun L acc I => ⟨(k L acc I).1, fun s₃ H₃ => Zao ((k L acc I).2 s₃ H₃) fun r s' hr => ?_⟩, z⟩) fun _ _ e => e)
 ·refine Zaa (Zaa (main.step H fun a σ₁ v s₁ k r H₁ t => Zab (Zab ⟨.next, σ₁, k, .next, H₁, t⟩)))
 ·cases r with
  | error e => exact hr.elim
  | ok f =>
   cases f with
   | next =>
    obtain ⟨σ', hU, y⟩ := hr
    exact ⟨σ', Zfa hU, y⟩
   | _ => exact hr.elim
theorem Za1 {elt target iter : Expr} {scope : Scope} {pos : Pos} {it acc : Addr} {o : Nat → AO} {n : Nat} {x : Nat → V} {need : List (Addr × AO) → Prop} {obs : List (Addr × AO)} {K : St → Prop} (hE : ∀ e s, ¬ C.E e s) (hz : n ≤ sizeLine)
  (T : Its C target it o n x need) (y : Nat → V) (I : Nat → List (Str × Option V) → List (Addr × AO) → Prop)
  (p : Sel σ.obs [(it, o 0), (acc, .list [])] obs) (h0 : I 0 σ.loc obs) (hn : ∀ k loc obs, I k loc obs → need obs)
  (hmono : ∀ obs l, need obs → need ((acc, .list l) :: obs))
  (hs : ∀ k loc obs O l, k < n → I k loc obs → U1 C (assign target C.env) (x k) ⟨loc, (it, O) :: (acc, .list l) :: obs⟩ fun σ₃ =>
   EV C (eval elt C.env) σ₃ fun v σ₄ => v = y k ∧ ∃ obs', Sel σ₄.obs [(it, O), (acc, .list l)] obs' ∧ I (k + 1) σ₄.loc obs')
  (hf : ∀ loc obs, I n loc obs → K ⟨loc, (acc, .list ((List.range n).map y)) :: obs⟩) : CLP C (.ListComp elt [⟨target, iter, [], 0⟩] scope pos) (.ref it) (.ref acc) σ K := by
 injection (C σ elt target iter scope pos it acc o n x need obs K y I) with hE hz T p h0 hn hmono hs hf
 have main : ∀ m k loc obs, k + m = n → k ≤ n → I k loc obs → CLP C (.ListComp elt [⟨target, iter, [], 0⟩] scope pos) (.ref it) (.ref acc) ⟨loc, (it, o k) :: (acc, .list ((List.range k).map y)) :: obs⟩ K := by
  intro m
  induction m with
  | zero =>
   intro k loc obs hm hk hI
   have : k = n := hm
   subst this
   refine Zes hE ((T.stop loc _ (hmono _ _ (hn _ _ _ hI))).mono (fun _ _ f => f.elim) fun σ e => ?_)
   subst e
   exact hf loc obs hI
  | succ m ih =>
   intro k loc obs hm hk hI
   refine Zes hE ((T.turn k loc _ (Zc0 hm) (hmono _ _ (hn _ _ _ hI))).mono (fun v σ' e => ?_) fun σ f => f.elim)
   obtain ⟨rfl, rfl⟩ := e
   refine OP1.mono (hs k loc obs _ _ (Zc0 hm) hI) fun _ σ₃ h₃ => ?_
   refine W.mono h₃ ?_
   rintro v σ₄ ⟨hv, obs', sel, hI'⟩
   subst hv
   intro s w H r
   have P := sel.perm
   have H' : Holds C ⟨σ₄.loc, (it, o (k + 1)) :: (acc, .list ((List.range k).map y)) :: obs'⟩ s := H.perm P
   have ap := Zcn (C := C) (σ := ⟨σ₄.loc, (it, o (k + 1)) :: (acc, .list ((List.range k).map y)) :: obs'⟩) (v := y k) (K := fun _ σ₅ => CLP C (.ListComp elt [⟨target, iter, [], 0⟩] scope pos) (.ref it) (.ref acc) σ₅ K) (.tail .head) (by
    have := ih (k + 1) σ₄.loc obs' (Zmw hm) (Zc0 hm) hI'
    rw [List.range_succ, List.map_append] at this
    exact this) (by simp; lia)
   exact ap s (.builtin "list.append") [.ref acc, w] H' (.bi _) (.cons (.ref _) (.cons r .nil))
 intro s H
 exact main n 0 σ.loc obs (Nat.zero_add n) (Nat.zero_le _) h0 s (H.perm p.perm)
theorem Zev {elt target iter c : Expr} {scope : Scope} {pos : Pos} {it acc : Addr} {o : Nat → AO} {n : Nat} {x : Nat → V} {need : List (Addr × AO) → Prop} {obs : List (Addr × AO)} {K : St → Prop} (hE : ∀ e s, ¬ C.E e s) (hz : n ≤ sizeLine)
  (T : Its C target it o n x need) (b : Nat → Bool) (y : Nat → V) (I : Nat → List (Str × Option V) → List (Addr × AO) → Prop)
  (p : Sel σ.obs [(it, o 0), (acc, .list [])] obs) (h0 : I 0 σ.loc obs) (hn : ∀ k loc obs, I k loc obs → need obs)
  (hmono : ∀ obs l, need obs → need ((acc, .list l) :: obs))
  (hs : ∀ k loc obs O l, k < n → I k loc obs → U1 C (assign target C.env) (x k) ⟨loc, (it, O) :: (acc, .list l) :: obs⟩ fun σ₃ =>
   BV C (isTrue c C.env (eval c C.env)) σ₃ fun t σ₄ => t = b k ∧
    (b k = true → EV C (eval elt C.env) σ₄ fun v σ₄ => v = y k ∧ ∃ obs', Sel σ₄.obs [(it, O), (acc, .list l)] obs' ∧ I (k + 1) σ₄.loc obs') ∧
    (b k = false → ∃ obs', Sel σ₄.obs [(it, O), (acc, .list l)] obs' ∧ I (k + 1) σ₄.loc obs'))
  (hf : ∀ loc obs, I n loc obs → K ⟨loc, (acc, .list (((List.range n).filter b).map y)) :: obs⟩) : CLP C (.ListComp elt [⟨target, iter, [c], 0⟩] scope pos) (.ref it) (.ref acc) σ K := by
 injection (C σ elt target iter c scope pos it acc o n x need obs K b y I) with hE hz T p h0 hn hmono hs hf
 have main : ∀ m k loc obs, k + m = n → k ≤ n → I k loc obs → CLP C (.ListComp elt [⟨target, iter, [c], 0⟩] scope pos) (.ref it) (.ref acc) ⟨loc, (it, o k) :: (acc, .list (((List.range k).filter b).map y)) :: obs⟩ K := by
  intro m
  induction m with
  | zero =>
   intro k loc obs hm hk hI
   have : k = n := hm
   subst this
   refine Zmm hE ((T.stop loc _ (hmono _ _ (hn _ _ _ hI))).mono (fun _ _ f => f.elim) fun σ e => ?_)
   subst e
   exact hf loc obs hI
  | succ m ih =>
   intro k loc obs hm hk hI
   refine Zmm hE ((T.turn k loc _ (Zc0 hm) (hmono _ _ (hn _ _ _ hI))).mono (fun v σ' e => ?_) fun σ f => f.elim)
   obtain ⟨rfl, rfl⟩ := e
   refine OP1.mono (hs k loc obs _ _ (Zc0 hm) hI) fun _ σ₃ h₃ => ?_
   rename_i xq1
   injection (m k loc obs xq1 σ₃) with ih hm hk hI h₃
   refine W.mono h₃ ?_
   rintro t σ₄ ⟨ht, h1, h2⟩
   refine ⟨fun e => ?_, fun e => ?_⟩
   ·have hb : b k = true := ht ▸ e
    refine W.mono (h1 hb) ?_
    rintro v σ₄ ⟨hv, obs', sel, hI'⟩
    subst hv
    intro s w H r
    have P := sel.perm
    have H' : Holds C ⟨σ₄.loc, (it, o (k + 1)) :: (acc, .list (((List.range k).filter b).map y)) :: obs'⟩ s := H.perm P
    have ap := Zcn (C := C) (σ := ⟨σ₄.loc, (it, o (k + 1)) :: (acc, .list (((List.range k).filter b).map y)) :: obs'⟩) (v := y k) (K := fun _ σ₅ => CLP C (.ListComp elt [⟨target, iter, [c], 0⟩] scope pos) (.ref it) (.ref acc) σ₅ K) (.tail .head) (by
     have := ih (k + 1) σ₄.loc obs' (Zmw hm) (Zc0 hm) hI'
     rw [List.range_succ, List.filter_append, List.map_append] at this
     simpa [hb] using this) (by
      have := List.length_filter_le b (List.range k)
      simp at this ⊢; lia)
    exact ap s (.builtin "list.append") [.ref acc, w] H' (.bi _) (.cons (.ref _) (.cons r .nil))
   ·have hb : b k = false := ht ▸ e
    obtain ⟨obs', sel, hI'⟩ := h2 hb
    intro s H
    have := ih (k + 1) σ₄.loc obs' (Zmw hm) (Zc0 hm) hI'
    rw [List.range_succ, List.filter_append] at this
    simp only [List.filter_cons, hb, List.filter_nil, List.append_nil, Bool.false_eq_true, if_false] at this
    exact this s (H.perm sel.perm)
 intro s H
 exact main n 0 σ.loc obs (Nat.zero_add n) (Nat.zero_le _) h0 s (H.perm p.perm)
end
theorem Zpe (f : Array Value → Array Value) (xs : Array Value) (n : Nat) : ∃ n', Obj.mapSeq f (listOf xs n) = listOf (f xs) n' := ⟨_, rfl⟩
theorem VRs.erase {h : Heap} {l : List V} {vs : List Value} (n : Nat) (H : VRs h l vs) : VRs h (l.eraseIdx n) (vs.eraseIdx n) := by
 induction l generalizing n vs with
 | nil => cases H; exact .nil
 | cons a l ih => cases H with | cons y r => cases n with
  | zero => exact r
  | succ n => exact .cons y (ih n r)
section
variable {C : Cx} {σ : St} {α β : Type}
theorem Holds.mapList {s : Shared} (H : Holds C σ s) {a : Addr} {l l' : List V} {obs' : List (Addr × AO)} (u : UpO a (.list l) (.list l') σ.obs obs') {vs vs' : List Value} {n : Nat} (e : s.heap.get? a = some (listOf vs.toArray n)) (f : Array Value → Array Value)
  (hf : f vs.toArray = vs'.toArray) (r : VRs s.heap l' vs') : Holds C ⟨σ.loc, obs'⟩ { s with heap := s.heap.update a (Obj.mapSeq f) } ∧ TK s.heap (s.heap.update a (Obj.mapSeq f)) := by
 obtain ⟨n', hn'⟩ := Zpe f vs.toArray n
 refine H.set u (Heap.SameBut.update ..) (O := listOf vs'.toArray n') ?_ (.list n' r) s.toks
 rw [← hf, ← hn']
 exact Heap.get?_update_self _ e rfl
noncomputable def AIO (C : Cx) (ts : List (Value → Sem Unit)) (l : List V) (σ : St) (K : St → Prop) : Prop :=
 ∀ s vs, Holds C σ s → VRs s.heap l vs → wpP (model C.G.prog C.G.w) C.A (assignInOrder ts vs) (Pst C (fun _ (_ : Unit) _ => True) (fun _ σ => K σ) s) C.E s
theorem Zhq {K : St → Prop} (k : K σ) : AIO C [] [] σ K := fun s vs H r => by
 o_facts r; exact Zab (Pst.here (a := ()) H trivial k)
theorem Zbx {t : Value → Sem Unit} {ts : List (Value → Sem Unit)} {a : V} {l : List V} {K : St → Prop} (h : U1 C t a σ fun σ₁ => AIO C ts l σ₁ K) : AIO C (t :: ts) (a :: l) σ K := fun s vs H r => by
 revert r
 intro r0
 refine VRs.consK r0 fun _ _ x r e0 => ?_
 subst e0
 refine Zaa (Zad (Zat (h s _ H x) (fun _ s₁ _ σ₁ k _ H₁ t₁ => ?_)))
 exact Zae (k s₁ _ H₁ (r.mono t₁)) (fun _ _ p => p.tk t₁) fun _ _ e => e
theorem Zhw {x : Str} {a : V} {K : St → Prop} (h : U1 C (storeName C.env x) a σ K) : U1 C (fun v => bindName C.env x v) a σ K := fun s v H r => Zbl (h s v H r)
theorem Zgb {l : List V} {K : List V → St → Prop} (hh : C.A.handled = none) (k : K l σ) (s : Shared) (v : Value) (H : Holds C σ s) (r : VR s.heap (.tup l) v) : wpP (model C.G.prog C.G.w) C.A (unpackItems v l.length none) (Pst C VRs K s) C.E s := by
 revert r
 intro r0
 refine VR.tupK r0 fun _ _ _ e r e0 => ?_
 subst e0
 rename_i a vs n
 have e1 : l.length = vs.toArray.size := by simp [r.length]
 rw [e1]
 refine .of (wpAny_unpackItems_tuple hh ⟨_, e, rfl, n, rfl⟩ fun h' hx => ?_)
 have kp : ∀ b o, s.heap.get? b = some o → h'.get? b = some o := fun b o e => hx b o (Nat.ne_of_lt (Heap.lt_size e)) e
 exact ⟨l, σ, k, by simpa using r.mono (.of_ext kp), H.ext kp s.toks, .of_ext kp⟩
theorem Zlz {elts : List Expr} {k : Nat} {p : Pos} {l : List V} {K : St → Prop} (hh : C.A.handled = none) (h : AIO C ((assignEach elts C.env).map (·.2)) l σ K) (hn : (assignEach elts C.env).length = l.length) (hstar : (assignEach elts C.env).findIdx? (·.1) = none) :
  U1 C (assign (.Tuple elts k p) C.env) (.tup l) σ K := fun s v H r => by
 rw [arm_assign_Tuple]
 refine Zaa (Zac ?_)
 unfold unpack
 rw [hn, hstar]
 exact Zaa (Zad (Zae (Zgb (K := fun l' σ' => l' = l ∧ σ' = σ) hh ⟨rfl, rfl⟩ s v H r) (by
  rintro vs s₁ ⟨_, _, ⟨e1, e2⟩, r₁, H₁, t₁⟩
  subst e1; subst e2
  exact Zae (h s₁ vs H₁ r₁) (fun _ _ p => p.tk t₁) fun _ _ e => e) fun _ _ e => e))
theorem Zeb {elts : List Expr} {kt : Nat} {tpos : Pos} {value : Expr} {pos : Pos} {K : Fl → St → Prop} (h : EV C (eval value C.env) σ fun a σ₁ => U1 C (assign (.Tuple elts kt tpos) C.env) a σ₁ fun σ => K .next σ)
  (hs : swapsWithSole [.Tuple elts kt tpos] value pos.line C.env = pure false) (hw : swappedStores [.Tuple elts kt tpos] value C.env = pure none) : XV C (exec (.Assign [.Tuple elts kt tpos] value pos) C.env) σ K := fun s H => by
 rw [exec_Assign]
 refine Zaa (Zac ?_)
 rw [hs]
 refine Zaa (Zab ?_)
 rw [if_neg (by decide)]
 refine Zaa (h.step H fun a σ₁ v s₁ k r H₁ t => ?_)
 rw [hw]
 refine Zaa (Zab ?_)
 show wpP (α := Flow) _ _ (do assignAll v [assign (.Tuple elts kt tpos) C.env]; pure Flow.next) _ _ s₁
 exact Zaa (Zat (k s₁ v H₁ r) (fun _ s₂ _ σ₂ k₂ _ H₂ t₂ => Zab ⟨.next, σ₂, k₂, .next, H₂, t.trans t₂⟩))
theorem Zkn {elts : List Expr} {k : Nat} {tpos : Pos} {value : Expr} {pos : Pos} {names : List Str} {K : Fl → St → Prop} (hh : C.A.handled = none)
  (h : EV C (eval value C.env) σ fun a σ₁ => ∃ l, a = .tup l ∧ l.length = names.length ∧ AIO C (names.reverse.map fun n => bindName C.env n) l.reverse σ₁ fun σ => K .next σ)
  (hs : swapsWithSole [.Tuple elts k tpos] value pos.line C.env = pure false) (hw : swappedStores [.Tuple elts k tpos] value C.env = pure (some names)) : XV C (exec (.Assign [.Tuple elts k tpos] value pos) C.env) σ K := by
 injection (C σ elts k tpos value pos names K) with hh h hs hw
 intro s H
 rw [exec_Assign]
 refine Zaa (Zac ?_)
 rw [hs]
 refine Zaa (Zab ?_)
 rw [if_neg (by decide)]
 refine Zaa (h.step H ?_)
 rintro a σ₁ v s₁ ⟨l, e, hl, k⟩ r H₁ t
 subst e
 rw [hw]
 refine Zaa (Zab ?_)
 show wpP (α := Flow) _ _ (do rule "assign.swapped-stores"; let items ← unpackItems v names.length none; assignInOrder (names.reverse.map fun n => bindName C.env n) items.reverse; pure Flow.next) _ _ s₁
 refine Zaa (.of (wpAny_rule ?_))
 rw [← hl]
 refine Zaa (Zae (Zgb (K := fun l' σ' => l' = l ∧ σ' = σ₁) hh ⟨rfl, rfl⟩ s₁ v H₁ r) ?_ fun _ _ e => e)
 rintro vs s₂ ⟨_, _, ⟨e1, e2⟩, r₂, H₂, t₂⟩
 subst e1; subst e2
 have rev : ∀ {l : List V} {vs : List Value}, VRs s₂.heap l vs → VRs s₂.heap l.reverse vs.reverse := by
  intro l vs r
  induction r using VRs.rec (motive_1 := fun _ _ _ => True) with
  | nil => exact .nil
  | cons x r _ ih => rw [List.reverse_cons, List.reverse_cons]; exact ih.append (.cons x .nil)
  | _ => trivial
 exact Zaa (Zat (k s₂ _ H₂ (rev r₂)) (fun _ s₃ _ σ₃ k₃ _ H₃ t₃ => Zab ⟨.next, σ₃, k₃, .next, H₃, (t.trans t₂).trans t₃⟩))
theorem Zyx {a : Addr} {l : List V} {i : Int} {x : V} {obs' : List (Addr × AO)} {K : V → St → Prop} (u : UpO a (.list l) (.list (l.eraseIdx i.toNat)) σ.obs obs') (k : K x ⟨σ.loc, obs'⟩) (hx : l[i.toNat]? = some x) (h0 : 0 ≤ i) (hz : l.length ≤ sizeLine) :
  CF C (.bi "list.pop") [.ref a, .int i] σ K := by
 injection (C σ a l i x obs' K) with u k hx h0 hz
 intro s fv vs H rf rl
 o_facts rf
 injection (s vs) with H rl rf
 revert rl
 intro rl0
 refine VRs.consK rl0 fun _ _ r rl e0 => ?_
 subst e0
 revert rl
 intro rl0
 refine VRs.consK rl0 fun _ _ r2 rl e0 => ?_
 subst e0
 o_facts rl
 o_facts r; o_facts r2
 refine Zb4 (H.list u.lk) fun vs n e r => ?_
 obtain ⟨v, e2, rv⟩ := r.get_arr hx
 have hlt : i.toNat < l.length := by
  rcases Nat.lt_or_ge i.toNat l.length with q | q
  ·exact q
  ·rw [List.getElem?_eq_none q] at hx; cases hx
 have hzz : sizeLine = 16777216 := by decide
 have hlen := r.length
 have hk : seqIndex? i vs.toArray.size = some i.toNat := by
  have hn : ¬ i < 0 := by lia
  have : i < vs.length := by lia
  simp [seqIndex?, hn, h0, this]
 have hfit : Builtin.List.listFitsIndex i = true := fitsIndex_of h0 (by lia)
 obtain ⟨H', tk⟩ := H.mapList u e (fun xs => xs.eraseIdxIfInBounds i.toNat) (vs' := vs.eraseIdx i.toNat) (by
  have : i.toNat < vs.toArray.size := by simpa [hlen] using hlt
  rw [Array.eraseIdxIfInBounds, dif_pos this]; simp) (r.erase _)
 exact .of (call_meets F.slot_list_pop ⟨_, e, rfl⟩ F.entry_list_pop (F.args_list_pop_2 _ _) (MeetsSeq.list_pop_at a vs.toArray n i _ i.toNat v hfit hk e2 (by simpa [hlen] using hz)) ⟨e, _, _, k, rv.mono tk, H', tk⟩)
theorem Zpd {a : Addr} {l : List V} {x : V} {obs' : List (Addr × AO)} {K : V → St → Prop} (u : UpO a (.list l) (.list (l.eraseIdx (l.length - 1))) σ.obs obs') (k : K x ⟨σ.loc, obs'⟩) (hx : l[l.length - 1]? = some x) (hz : l.length ≤ sizeLine) :
  CF C (.bi "list.pop") [.ref a] σ K := by
 injection (C σ a l x obs' K) with u k hx hz
 intro s fv vs H rf rl
 o_facts rf
 revert rl
 intro rl0
 refine VRs.consK rl0 fun _ _ r rl e0 => ?_
 subst e0
 o_facts rl
 o_facts r
 refine Zb4 (H.list u.lk) fun vs n e r => ?_
 obtain ⟨v, e2, rv⟩ := r.get_arr hx
 have hlen := r.length
 have hlt : l.length - 1 < l.length := by
  rcases Nat.lt_or_ge (l.length - 1) l.length with q | q
  ·exact q
  ·rw [List.getElem?_eq_none q] at hx; cases hx
 have hsz : vs.toArray.size = l.length := by simpa using hlen
 obtain ⟨H', tk⟩ := H.mapList u e (fun xs => xs.eraseIdxIfInBounds (vs.toArray.size - 1)) (vs' := vs.eraseIdx (l.length - 1)) (by
  have : vs.toArray.size - 1 < vs.toArray.size := by rw [hsz]; exact hlt
  rw [Array.eraseIdxIfInBounds, dif_pos this]; simp [hlen]) (r.erase _)
 exact .of (call_meets F.slot_list_pop ⟨_, e, rfl⟩ F.entry_list_pop (F.args_list_pop_1 _) (MeetsSeq.list_pop_last a vs.toArray n v (by rw [hsz]; exact e2) (by simpa [hlen] using hz)) ⟨e, _, _, k, rv.mono tk, H', tk⟩)
theorem Zol {a : Addr} {l : List V} {i : Int} {x : V} {obs' : List (Addr × AO)} {K : V → St → Prop} (u : UpO a (.list l) (.list (l.take i.toNat ++ x :: l.drop i.toNat)) σ.obs obs') (k : K .none ⟨σ.loc, obs'⟩) (h0 : 0 ≤ i) (h1 : i ≤ l.length) (hz : l.length ≤ sizeLine) :
  CF C (.bi "list.insert") [.ref a, .int i, x] σ K := by
 injection (C σ a l i x obs' K) with u k h0 h1 hz
 intro s fv vs H rf rl
 o_facts rf
 revert rl
 intro rl0
 refine VRs.consK rl0 fun _ _ r rl e0 => ?_
 subst e0
 revert rl
 intro rl0
 refine VRs.consK rl0 fun _ _ r2 rl e0 => ?_
 subst e0
 revert rl
 intro rl0
 refine VRs.consK rl0 fun v3 _ r3 rl e0 => ?_
 subst e0
 o_facts rl
 o_facts r; o_facts r2
 refine Zb4 (H.list u.lk) fun vs n e r => ?_
 have hlen := r.length
 have hzz : sizeLine = 16777216 := by decide
 have hfit : Builtin.List.listFitsIndex i = true := fitsIndex_of h0 (by lia)
 obtain ⟨H', tk⟩ := H.mapList u e (fun xs => have k := if i < 0 then (i + ((xs.size : Nat) : Int)).toNat else min i.toNat xs.size; (xs.extract 0 k).push v3 ++ xs.extract k) (vs' := vs.take i.toNat ++ v3 :: vs.drop i.toNat) (by
  have hn : ¬ i < 0 := by lia
  have hm : min i.toNat vs.length = i.toNat := by lia
  simp only [hn, if_false, List.size_toArray, hm]
  apply Array.toList_inj.mp
  simp
  rw [List.take_of_length_le (by simp)]) ((r.take _).append (.cons r3 (r.drop _)))
 exact .of (call_meets F.slot_list_insert ⟨_, e, rfl⟩ F.entry_list_insert (F.args_list_insert_3 _ _ _) (AutoListH.list_insert_list_int_val_1 a vs.toArray n i _ v3 (by simp [hfit]) (by simpa [hlen] using hz)) ⟨e, _, _, k, .none, H', tk⟩)
theorem Zkr {i j : Int} {K : V → St → Prop} (h : K (.int (i.fdiv j)) σ) (hj : j ≠ 0) (hp : j.natAbs < 1073741824) : OP2 C VR (binaryOp .FloorDiv) (.int i) (.int j) σ K := fun s v u H r1 r2 => by
 o_facts r1; o_facts r2; exact .of (PyProof.Rows.floordiv_int hj (Pst.hereT H (.int _ _) h) (.inl (PyProof.noPylong_small hp)))
theorem Zlg {x : Str} {K : V → St → Prop} (h : ∀ a, K (.ref a) ⟨σ.loc, (a, AO.list (x.cps.toList.map fun c => V.str ⟨#[c]⟩)) :: σ.obs⟩) (hh : C.A.handled = none) (hz : x.cps.size ≤ sizeLine) : CF C (.ty "list") [.str x] σ K := fun s fv vs H rf rl => by
 o_facts rf
 revert rl
 intro rl0
 refine VRs.consK rl0 fun _ _ r rl e0 => ?_
 subst e0
 o_facts rl
 o_facts r
 refine .of (call_list_str hh x _ (fun h' tk acc' c' kp e hi => ⟨_, _, h _, .ref _, H.alloc (n := tk) kp (Nat.le_refl _) e ?_, .of_ext kp⟩) hz)
 have mk : ∀ (cs : List Nat) (vs : List Value), vs.length = cs.length → (∀ (j : Nat) (v : Value), vs[j]? = some v → ∃ (c : Nat) (u : Tok), cs[j]? = some c ∧ v = Value.str ⟨#[c]⟩ u) → VRs h' (cs.map fun c => V.str ⟨#[c]⟩) vs := by
  intro cs
  induction cs with
  | nil => intro vs hl _; cases vs with
   | nil => exact .nil
   | cons _ _ => simp at hl
  | cons c cs ih =>
   intro vs hl hv
   cases vs with
   | nil => simp at hl
   | cons v vs =>
    obtain ⟨c', u, e1, e2⟩ := hv 0 v rfl
    simp at e1; subst e1; subst e2
    exact .cons (.str _ u) (ih vs (by simpa using hl) fun j v e => by simpa using hv (j + 1) v (by simpa using e))
 have := OR.list (h := h') (l := x.cps.toList.map fun c => V.str ⟨#[c]⟩) (vs := acc'.toList) c' (mk _ _ (by simpa using hi.1) fun j v e => by
  obtain ⟨c, u, e1, e2⟩ := hi.2 j v (by simpa using e)
  exact ⟨c, u, by simpa using e1, e2⟩)
 simpa using this
end
theorem Zaw : typeOf (.builtin "list.append") = pure (.type "method_descriptor") := by show builtinType _ = _; rw [builtinType_eq_fast]; kernel_rfl
theorem Zh7 : typeOf (.builtin "list.pop") = pure (.type "method_descriptor") := by show builtinType _ = _; rw [builtinType_eq_fast]; kernel_rfl
theorem Zep : typeOf (.builtin "list.insert") = pure (.type "method_descriptor") := by show builtinType _ = _; rw [builtinType_eq_fast]; kernel_rfl
theorem Zfh : typeOf (.builtin "list.index") = pure (.type "method_descriptor") := by show builtinType _ = _; rw [builtinType_eq_fast]; kernel_rfl
theorem Zeo : typeOf (.builtin "list.remove") = pure (.type "method_descriptor") := by show builtinType _ = _; rw [builtinType_eq_fast]; kernel_rfl
section
variable {C : Cx} {σ : St} {α β : Type}
theorem Zai {v sl : Expr} {a : Addr} {l : List V} {i : Int} {x : V} {K : V → St → Prop} (hl : LkO a (.list l) σ.obs) (k : K x σ) (hs : ∀ o i, ∃ xs, subscripted sl false o i = operate xs (getItem o i)) (h0 : 0 ≤ i) (hi : i < 2 ^ 63) (hx : l[i.toNat]? = some x) : OP2 C VR (subscriptTail v sl) (.ref a) (.int i) σ K :=
 Zca "list" (Zlc hl) slot_list_getitem.lookup (Zkc hl h0 hi hx k) hs
theorem Zef {v sl : Expr} {a : Addr} {l : List V} {i : Int} {x : V} {K : V → St → Prop} (hl : LkO a (.list l) σ.obs) (k : K x σ) (hs : ∀ o i, ∃ xs, subscripted sl false o i = operate xs (getItem o i)) (h0 : i < 0) (h1 : -(l.length : Int) ≤ i) (hi : -(2 ^ 63) ≤ i) (hx : l[(i + l.length).toNat]? = some x) : OP2 C VR (subscriptTail v sl) (.ref a) (.int i) σ K :=
 Zca "list" (Zlc hl) slot_list_getitem.lookup (Zjr hl h0 h1 hi hx k) hs
theorem Zcg {v sl : Expr} {a s : Addr} {l : List V} {lo hi : Option Int} {rest : List (Addr × AO)} {K : V → St → Prop} (p : Pick (s, .slice lo hi) σ.obs rest) (hl : LkO a (.list l) rest) (hl' : LkO a (.list l) σ.obs) (k : ∀ r, K (.ref r) ⟨σ.loc, (r, .list (slc l lo hi)) :: rest⟩)
  (hs : ∀ o i, ∃ xs, subscripted sl false o i = operate xs (getItem o i)) (hz : l.length ≤ sizeLine) : OP2 C VR (subscriptTail v sl) (.ref a) (.ref s) σ K :=
 Zca "list" (Zlc hl') slot_list_getitem.lookup (Zhh p hl k hz) hs
theorem Za7 {elts : List Expr} {k : Nat} {tpos : Pos} {value : Expr} {pos : Pos} {K : Fl → St → Prop} (n1 n2 : Str) (hh : C.A.handled = none)
  (h : EV C (eval value C.env) σ fun a σ₁ => ∃ v1 v2, a = .tup [v1, v2] ∧ U1 C (storeName C.env n2) v2 σ₁ fun σ₂ => U1 C (storeName C.env n1) v1 σ₂ fun σ => K .next σ)
  (hs : swapsWithSole [.Tuple elts k tpos] value pos.line C.env = pure false) (hw : swappedStores [.Tuple elts k tpos] value C.env = pure (some [n1, n2])) : XV C (exec (.Assign [.Tuple elts k tpos] value pos) C.env) σ K :=
 Zkn (names := [n1, n2]) hh (h.mono (by rintro a σ₁ ⟨v1, v2, e, k⟩; exact ⟨[v1, v2], e, rfl, Zbx (Zhw (OP1.mono k fun _ σ₂ k₂ => Zbx (Zhw (OP1.mono k₂ fun _ σ₃ k₃ => Zhq k₃))))⟩)) hs hw
noncomputable abbrev vi (n : Nat) : V := .int n
noncomputable abbrev ch (c : Nat) : V := .str ⟨#[c]⟩
end
structure G3 (P : Params) (G : Gl) : Prop where
 K : G.K = K3 P
 N : Nm G gl3 bl3
section
variable {P : Params} {G : Gl} {f c : Addr} {n : Nat} {args : List V} {obs : List (Addr × AO)} {K : V → List (Addr × AO) → Prop} {oc : Obj} {d : Fd} {m : String} {t : Tok} {cvs : Array Value} {ct : Tok}
theorem Zc3 (g : G3 P G) (names rest : List Str) (loc : List (Str × Option V)) (ho : (K3 P).lookup f = some (Zf1 d m t c)) (hoc : (K3 P).lookup c = some oc) (hdc : oc.data = .fields cvs) (hcv : cvs[1]? = some (.str d.name ct))
  (hnl : names.length = args.length) (hbind : ∀ vs : List Value, vs.length = names.length → bindArgs (Zig d m t c) ⟨vs, []⟩ = pure (names.zip vs))
  (hloc : ∀ x ∈ names, d.scope.names.lookup x = some .local) (hcell : ∀ x ∈ d.scope.names, x.2 ≠ .cell) (hnn : (names ++ rest).Nodup)
  (hco : d.scope.isCoroutine = false) (hgen : d.scope.isGenerator = false) (hk : d.scope.kind = .function)
  (h : Nm G gl3 bl3 → ∀ (R : Ar G n) (L : Addr), XV (R.cx (callEnv (Zig d m t c) L f) rfl rfl) (execs d.body (callEnv (Zig d m t c) L f)) ⟨loc, obs⟩ (fnK K)) (hl : names.zip (args.map some) ++ rest.map (·, none) = loc) :
  Fn G (.ref f) (n + 1) args obs K :=
 Zsv (o := Zf1 d m t c) (by rw [g.K]; exact ho) rfl rfl rfl rfl rfl rfl (by rw [g.K]; exact hoc) hdc hcv hnl hbind hloc hcell hnn hco hgen hk (h g.N) hl
theorem Zk4 (g : G3 P G) (names rest : List Str) (loc : List (Str × Option V)) (cobs : Addr → List (Addr × AO)) (ho : (K3 P).lookup f = some (Zf1 d m t c)) (hoc : (K3 P).lookup c = some oc) (hdc : oc.data = .fields cvs) (hcv : cvs[1]? = some (.str d.name ct))
  (hnl : names.length = args.length) (hbind : ∀ vs : List Value, vs.length = names.length → bindArgs (Zig d m t c) ⟨vs, []⟩ = pure (names.zip vs))
  (hloc : ∀ x ∈ names, d.scope.names.lookup x = some .local ∨ (x, NameKind.cell) ∈ d.scope.names) (hsn : (d.scope.names.map (·.1)).Nodup) (hnn : (names ++ rest).Nodup)
  (hco : d.scope.isCoroutine = false) (hgen : d.scope.isGenerator = false) (hk : d.scope.kind = .function)
  (h : Nm G gl3 bl3 → ∀ (R : Ar G n) (L : Addr), XV (R.cx (callEnvC (Zig d m t c) L f) rfl rfl) (execs d.body (callEnvC (Zig d m t c) L f)) ⟨loc, cobs L ++ obs⟩ (fnK K))
  (hcs : ∀ L, (cellsFrom (L + 1) d.scope.names []).map (fun p => (p.2, AO.cell ((names.zip args).lookup p.1))) = cobs L)
  (hl : (names.zip (args.map some)).filter (fun p => d.scope.names.lookup p.1 == some .local) ++ rest.map (·, none) = loc) :
  Fn G (.ref f) (n + 1) args obs K :=
 Zok (o := Zf1 d m t c) (fd := Zig d m t c) (by rw [g.K]; exact ho) rfl rfl rfl rfl rfl rfl (by rw [g.K]; exact hoc) hdc hcv hnl hbind hloc hsn hnn hco hgen hk (h g.N) hcs hl
end
theorem len1 {α : Type} {l : List α} (h : l.length = 1) : ∃ a, l = [a] := List.length_eq_one_iff.mp h
theorem len2 {α : Type} {l : List α} (h : l.length = 2) : ∃ a b, l = [a, b] := by
 cases l with
 | nil => cases h
 | cons a l => obtain ⟨b, rfl⟩ := len1 (Nat.succ.inj h); exact ⟨a, b, rfl⟩
theorem len3 {α : Type} {l : List α} (h : l.length = 3) : ∃ a b c, l = [a, b, c] := by
 cases l with
 | nil => cases h
 | cons a l => obtain ⟨b, c, rfl⟩ := len2 (Nat.succ.inj h); exact ⟨a, b, c, rfl⟩
theorem bn1 {p : List Value → Prop} (k : ∀ a, p [a]) (vs : List Value) (h : vs.length = 1) : p vs := by
  obtain ⟨a, q⟩ := len1 h; subst q; exact k a
theorem bn2 {p : List Value → Prop} (k : ∀ a b, p [a, b]) (vs : List Value) (h : vs.length = 2) : p vs := by
  obtain ⟨a, b, q⟩ := len2 h; subst q; exact k a b
theorem bn3 {p : List Value → Prop} (k : ∀ a b c, p [a, b, c]) (vs : List Value) (h : vs.length = 3) : p vs := by
  obtain ⟨a, b, c, q⟩ := len3 h; subst q; exact k a b c
local macro_rules | `(tactic| kpf_grow) => return rd "( bn1 ( _ k λ ) E"
local macro_rules | `(tactic| kpf_rest) => return rd "( bn2 ( _ _ k λ ) E"
local macro_rules | `(tactic| kpf_has) => return rd "( bn3 ( _ _ _ k λ ) E"
local macro_rules | `(tactic| k_accS) => return rd "( ( ( EV _ ( PySem.eval ( PySem.Expr.Name _ _ ) _ ) _ _ ) G ( Zo0 r t k k k ? R ; ( ( _ rfl ? > R ( ( _ _ _ rfl ? > R ( ( _ _ rfl ? > R | W"
local macro_rules | `(tactic| k_is) => return rd "( ( ( U1 _ ( PySem.storeName _ _ ) _ _ _ ) G ( Zpf r s k k ? R ; ( Zhw ? R | W"
local macro_rules | `(tactic| k_accL) => return rd "( ( Zun ? R ( Zu9 ? R ( Zhq ? R ( Zbx ? R ( ( LK _ _ ) G ( lk_ok ? k R ; | W"
local macro_rules | `(tactic| k_get) => return rd "( ( Zsk ? R ( Zsn ? R ( Zwk ? R | W"
local macro_rules | `(tactic| k_put) => return rd "( ( ( XV _ ( PySem.exec ( PySem.Stmt.Expr _ _ ) _ ) _ _ ) G ( Zyo ? k k R ; | W"
local macro_rules | `(tactic| k_not) => return rd "( ( Zkr ? ? ? R ( Zys ? ? ? R ( Zyl ? ? R ( Zyn ? ? R | W"
local macro_rules | `(tactic| k_few) => return rd "( ( ( CF _ ( Mine.V.bi _ ) ( List.cons ( Mine.V.ref _ ) ( List.cons _ List.nil ) ) _ _ ) G ( Zcn s ? ? R ; | W"
local macro_rules | `(tactic| k_acc1) => return rd "( ( ( GM _ ( Mine.V.ref _ ) _ _ _ ) G ( ( Zc7 t F.slot_list_remove Zeo ? R ( Zc7 t F.slot_list_index Zfh ? R ( Zc7 t F.slot_list_insert Zep ? R ( Zc7 t F.slot_list_pop Zh7 ? R ( Zc7 t F.slot_list_append Zaw ? R | ; | W"
local macro_rules | `(tactic| k_accG) => return rd "( ( Zyj ? R | W"
noncomputable def Zb6 (data : List Nat) (w k j : Nat) : List Nat := (List.range data.length).map fun p => if p / w < k ∨ (p / w = k ∧ w - 1 - p % w < j) then data.getD (p / w * w + (w - 1 - p % w)) 0 else 0
noncomputable def swapped (data : List Nat) (w : Nat) : List Nat := (List.range data.length).map fun p => data.getD (p / w * w + (w - 1 - p % w)) 0
theorem Zkp (data : List Nat) (w : Nat) : Zb6 data w 0 0 = List.replicate data.length 0 := by
 unfold Zb6
 rw [show (fun p => if p / w < 0 ∨ (p / w = 0 ∧ w - 1 - p % w < 0) then data.getD (p / w * w + (w - 1 - p % w)) 0 else 0) = fun _ => 0 from funext fun p => by simp]
 rw [List.map_const', List.length_range]
theorem Zo8 {α : Type} {c d : Prop} [Decidable c] [Decidable d] {x y : α} (h : c ↔ d) : (if c then x else y) = if d then x else y := ite_congr (propext h) (fun _ => rfl) fun _ => rfl
theorem Znv (data : List Nat) (w k : Nat) (hw : 0 < w) : Zb6 data w k w = Zb6 data w (k + 1) 0 := by
 refine List.map_congr_left fun p _ => Zo8 ⟨fun h => .inl (h.elim Nat.lt_succ_of_lt fun h => h.1 ▸ Nat.lt_succ_self _), fun h => h.elim (fun h => (Nat.lt_succ_iff_lt_or_eq.mp h).imp id fun h => ⟨h, Nat.lt_of_le_of_lt (Nat.sub_le _ _) (Nat.sub_lt hw Nat.one_pos)⟩) fun h => absurd h.2 (Nat.not_lt_zero _)⟩
theorem Zp9 {k m w r : Nat} (hk : k < m) (hr : r < w) : k * w + r < m * w := Nat.lt_of_lt_of_le (Nat.add_lt_add_left hr _) (Nat.succ_mul k w ▸ Nat.mul_le_mul_right w hk)
theorem Zm9 (data : List Nat) (w m : Nat) (hw : 0 < w) (hm : data.length = m * w) : Zb6 data w m 0 = swapped data w := by
 unfold Zb6 swapped
 apply List.map_congr_left
 intro p hp
 have : p < m * w := by rw [← hm]; simpa using hp
 rw [if_pos (.inl (Nat.div_lt_of_lt_mul (by rwa [Nat.mul_comm] at this)))]
theorem Zmv (data : List Nat) (w k j m : Nat) (hw : 0 < w) (hm : data.length = m * w) (hk : k < m) (hj : j < w) :
  (Zb6 data w k j).set (k * w + (w - 1 - j)) (data.getD (k * w + j) 0) = Zb6 data w k (j + 1) := by
 injection (data w k j m) with hw hm hk hj
 have hr : w - 1 - j < w := Nat.lt_of_le_of_lt (Nat.sub_le _ _) (Nat.sub_lt hw Nat.one_pos)
 have hjr : w - 1 - (w - 1 - j) = j := Nat.sub_sub_self (Nat.le_sub_one_of_lt hj)
 unfold Zb6
 refine List.ext_getElem ((List.length_set ..).trans ((List.length_map ..).trans (List.length_map ..).symm)) fun i h1 h2 => ?_
 rw [List.getElem_set, List.getElem_map, List.getElem_map, List.getElem_range]
 by_cases e : k * w + (w - 1 - j) = i
 ·subst e
  rw [if_pos rfl, Nat.mul_comm k, Nat.mul_add_div hw, Nat.div_eq_of_lt hr, Nat.mul_add_mod, Nat.mod_eq_of_lt hr, hjr]
  rw [Nat.mul_comm w k]
  exact (if_pos (show k + 0 < k ∨ (k + 0 = k ∧ j < j + 1) from .inr ⟨rfl, Nat.lt_succ_self j⟩)).symm
 ·rw [if_neg e]
  refine Zo8 ⟨fun h => h.imp id fun h => ⟨h.1, Nat.lt_succ_of_lt h.2⟩, fun h => h.imp id fun h => ⟨h.1, (Nat.lt_or_eq_of_le (Nat.le_of_lt_succ h.2)).resolve_right fun q => e ?_⟩⟩
  rw [← q, ← h.1, Nat.sub_sub_self (Nat.le_sub_one_of_lt (Nat.mod_lt i hw))]
  exact Nat.div_add_mod' i w
theorem Zkf {k w j : Nat} (hj : j < w) : 0 + (k : Int) * w + w - 1 - (0 + (j : Int) * 1) = ((k * w + (w - 1 - j) : Nat) : Int) := by
 obtain ⟨d, rfl⟩ := Nat.exists_eq_add_of_lt hj
 rw [show j + d + 1 - 1 - j = d from Nat.add_sub_cancel_left j d, ← Int.natCast_mul]
 generalize k * (j + d + 1) = x
 lia
theorem Zhx (k w j : Nat) : 0 + (k : Int) * w + (0 + (j : Int) * 1) = ((k * w + j : Nat) : Int) := by rw [Int.zero_add, Int.zero_add, Int.mul_one]; rfl
theorem Zcb (data : List Nat) (w k j : Nat) : (Zb6 data w k j).length = data.length := by simp [Zb6]
theorem Zkv {P : Params} {G : Gl} (g : G3 P G) (n : Nat) (data : List Nat) (w m : Nat) (obs : List (Addr × AO)) (hw : 0 < w) (hm : data.length = m * w) (hw2 : w ≤ 100) (hl : data.length ≤ 100) (hb : ∀ x ∈ data, x < 256) : Fn G (.ref 45) (n + 1) [.bytes data, .int w] obs fun r o => r = .bytes (swapped data w) ∧ o = obs := by
 refine Zc3 g ["data", "width"] ["swapped_data", "i", "j"] [("data", some (.bytes data)), ("width", some (.int w)), ("swapped_data", none), ("i", none), ("j", none)] rfl rfl rfl rfl rfl (by kpf_rest) (by decide +kernel) (by decide +kernel) (by decide +kernel) (by kernel_rfl) (by kernel_rfl) (by kernel_rfl) ?_ rfl
 intro N R L
 refine XV.opq fun K hKK => ?_
 injection (fun data w m obs L K => 0) with g hw hm hw2 hl hb N hKK
 have hsl : data.length ≤ sizeLine := Nat.le_trans hl (by decide)
 have hl2 : data.length ≤ 1099511627776 := Nat.le_trans hl (by decide)
 have hw3 : w < 1073741824 := Nat.lt_of_le_of_lt hw2 (by decide)
 refine Zag ?_
 w_why
 refine Zcj ?_ hl2
 w_why
 refine cf_ba ?_ R.good.g (by k_units) (by lia)
 intro sw
 w_why
 refine Zcj ?_ hl2
 w_why
 refine Ziv ?_ (by lia) (PyProof.noPylong_small hw3)
 intro r
 w_why
 have hsz : Builtin.Range.rangeSize 0 data.length w = m := by rw [hm]; exact Zf4 m w hw
 refine Zbn (by k_listUnr) ?_ ?_
 rotate_left
 ·unfold Builtin.Range.small
  rw [hsz]
  have hm' : m ≤ 100 := Nat.le_trans (Nat.le_mul_of_pos_right m hw) (hm ▸ hl)
  have f : ∀ n : Nat, n ≤ 200 → Builtin.Range.rangeFitsLong n = true := by decide
  have f1 := f _ (Nat.le_trans hl (by decide))
  have f2 := f _ (Nat.le_trans hw2 (by decide))
  have f3 := f _ (Nat.le_trans hm' (by decide))
  have f4 : Builtin.Range.rangeFitsLong ((data.length : Int) + ((w : Int) - 1)) = true := by
   rw [← Int.ofNat_one, ← Int.ofNat_sub hw]
   exact f (data.length + (w - 1)) (Nat.add_le_add hl (Nat.le_trans (Nat.sub_le _ _) hw2))
  rw [f1, f2, f3, if_pos (show (w : Int) > 0 from Int.ofNat_lt.mpr hw), f4, Bool.or_true]
  rfl
 intro it
 injection (sw r it)
 refine Zbv .name (fun _ _ h => h) R.good.h m (fun k loc o => ∃ oi oj, loc = ([("data", some (.bytes data)), ("width", some (.int w)), ("swapped_data", some (.ref sw)), ("i", oi), ("j", oj)] : Loc) ∧ o = (sw, .ba (Zb6 data w k 0)) :: obs) (by k_listUnr) hsz ?_ ?_ ?_
 ·exact ⟨_, _, rfl, by rw [Zkp]; rfl⟩
 ·intro k loc o O hk hI
  refine ex2 loc o hI fun oi oj => ?_
  w_how
  rename_i zq89_1 zq89_2 zq89_3 zq89_4
  injection (k loc o O oi oj zq89_1 zq89_2) with hk hI zq89_3 zq89_4
  w_why
  refine Zfc ?_
  intro r2
  w_why
  refine Zbn (by k_listUnr) ?_ (Zd8 (by k_units) (by lia))
  intro it2
  injection (r2 it2)
  refine Zbv .name (fun _ _ h => h) R.good.h w (fun j loc o => ∃ oj, loc = ([("data", some (.bytes data)), ("width", some (.int w)), ("swapped_data", some (.ref sw)), ("i", some (.int (0 + k * w))), ("j", oj)] : Loc) ∧ o = (it, O) :: (sw, .ba (Zb6 data w k j)) :: obs) (by k_listUnr) (Ztp (by k_units)) ?_ ?_ ?_
  ·exact ei1 _ rfl rfl
  ·intro j loc o O2 hj hI
   refine ex1 loc o hI fun oj => ?_
   have hlt : k * w + j < data.length := hm ▸ Zp9 hk hj
   have hx : data.getD (k * w + j) 0 < 256 := hb _ (Zam hlt)
   w_how
   rename_i zq102_1 zq102_2 zq102_3 zq102_4
   injection (j loc o O2 oj zq102_1 zq102_2) with hj hI hlt hx zq102_3 zq102_4
   w_why
   ·refine ⟨_, .head, _, rfl, ?_⟩
    rw [Zkf hj, Zhx, ← Zmv data w k j m hw hm hk hj]
    rfl
   ·rw [Zkf hj]; exact Int.natCast_nonneg _
   ·rw [Zkf hj, Zcb, hm]; exact Int.ofNat_lt.mpr (Zp9 hk (Nat.lt_of_le_of_lt (Nat.sub_le _ _) (Nat.sub_lt hw Nat.one_pos)))
   ·k_units
   ·rw [Zhx]; exact Int.ofNat_lt.mpr hx
   ·rw [Zcb]; exact hsl
   ·exact hl2
   ·rw [Zhx]; exact Int.natCast_nonneg _
   ·rw [Zhx]; exact Int.ofNat_lt.mpr hlt
  ·intro loc o hI
   refine ex1 loc o hI fun oj => ?_
   w_why
   refine ⟨_, .head, _, _, rfl, ?_⟩
   rw [Znv _ _ _ hw]
 ·intro loc o hI
  refine ex2 loc o hI fun oi oj => ?_
  w_why
  refine Zkk (by k_qdec) ?_ (by rw [Zcb]; lia)
  w_why
  ·exact ⟨by rw [Zm9 _ _ _ hw hm], rfl⟩
  ·k_strUnr
noncomputable def Ztt : List Nat := [97, 46, 45, 93, 92, 94, 126, 38]
theorem Zin {α β : Type} (f : α → β) : ∀ (l : List α) (i : Nat), (l.eraseIdx i).map f = (l.map f).eraseIdx i
 | [], _ => rfl
 | _ :: _, 0 => rfl
 | a :: l, i + 1 => by simp [Zin f l i]
theorem Zg6 {l : List Nat} {i : Nat} (h : i < l.length) (f : Nat → V) : (l.map f)[i]? = some (f (l.getD i 0)) := by
 simp [List.getElem?_eq_getElem h]
noncomputable def Zbs (pick : Int) : Nat → Int × List Nat × List Nat
 | 0 => (pick, Ztt, [])
 | k + 1 => let s := Zbs pick k; let i := (s.1.fmod (8 - k : Int)).toNat; (s.1.fdiv (8 - k), s.2.1.eraseIdx i, s.2.2 ++ [s.2.1.getD i 0])
theorem Zcp (pick : Int) : ∀ k, k ≤ 5 → (Zbs pick k).2.1.length = 8 - k
 | 0, _ => rfl
 | k + 1, h => by
  have ih := Zcp pick k (by lia)
  simp only [Zbs]
  have h0 : 0 ≤ (Zbs pick k).1.fmod (8 - k : Int) := Int.fmod_nonneg_of_pos _ (by lia)
  have h1 : (Zbs pick k).1.fmod (8 - k : Int) < 8 - k := Int.fmod_lt_of_pos _ (by lia)
  rw [List.length_eraseIdx_of_lt (by omega), ih]
  lia
theorem Zb8 (pick : Int) : ∀ k, k ≤ 5 → (Zbs pick k).2.2.length = k
 | 0, _ => rfl
 | k + 1, h => by simp [Zbs, Zb8 pick k (by lia)]
noncomputable def Zg0 (pick : Int) : List Nat := (Zbs pick 5).2.2
theorem Zr4 {P : Params} {G : Gl} (g : G3 P G) (n : Nat) (pick : Int) (obs : List (Addr × AO)) : Fn G (.ref 210) (n + 1) [.int pick] obs fun r o => ∃ b, r = .ref b ∧ o = (b, .list ((Zg0 pick).map ch)) :: obs := by
 refine Zc3 g ["pick"] ["stock", "signs", "size"] [("pick", some (.int pick)), ("stock", none), ("signs", none), ("size", none)] rfl rfl rfl rfl rfl (by kpf_grow) (by decide +kernel) (by decide +kernel) (by decide +kernel) (by kernel_rfl) (by kernel_rfl) (by kernel_rfl) ?_ rfl
 intro N R L
 refine XV.opq fun K hKK => ?_
 injection (fun pick obs L K => 0) with g N hKK
 refine Zag ?_
 with_reducible refine Za7 "stock" "signs" R.good.h ?_ (by kernel_rfl) (by kernel_rfl)
 w_why
 refine Zlg ?_ R.good.h (by decide)
 intro a
 w_why
 intro b
 w_why
 intro it
 injection (a b it)
 refine Zbr (fun _ _ h => h) (Ze0 .name R.good.h) (fun k loc o => ∃ oz, loc = ([("pick", some (.int (Zbs pick k).1)), ("stock", some (.ref a)), ("signs", some (.ref b)), ("size", oz)] : Loc) ∧ o = (b, .list ((Zbs pick k).2.2.map ch)) :: (a, .list ((Zbs pick k).2.1.map ch)) :: obs) (by k_listUnr) ?_ (fun _ _ _ _ => trivial) ?_ ?_
 ·exact ei1 _ rfl rfl
 ·intro k loc o O hk hI
  refine ex1 loc o hI fun oz => ?_
  have hk5 : k < 5 := hk
  have hx : [V.int 8, .int 7, .int 6, .int 5, .int 4].getD k V.none = V.int (8 - k) := by
   rcases k with _ | _ | _ | _ | _ | k <;> first | rfl | lia
  rw [hx]
  have h0 : 0 ≤ (Zbs pick k).1.fmod (8 - k : Int) := Int.fmod_nonneg_of_pos _ (by lia)
  have h1 : (Zbs pick k).1.fmod (8 - k : Int) < 8 - k := Int.fmod_lt_of_pos _ (by lia)
  have hl := Zcp pick k (by lia)
  w_how
  rename_i zq56_1 zq56_2 zq56_3 zq56_4
  injection (k loc o O oz zq56_1 zq56_2) with hk hI hk5 hx h0 h1 hl zq56_3 zq56_4
  w_why
  ·refine Zyx (x := ch ((Zbs pick k).2.1.getD ((Zbs pick k).1.fmod (8 - k : Int)).toNat 0)) (by k_closed) ?_ ?_ h0 ?_
   ·w_why
    ·refine ⟨_, .head, _, rfl, ?_⟩
     simp only [Zbs, List.map_append, List.map_cons, List.map_nil, Zin]
    all_goals first
     | omega
     | (rw [List.length_map]; have := Zb8 pick k (by lia); have hz : sizeLine = 16777216 := (by decide); lia)
   ·exact Zg6 (by omega) ch
   ·rw [List.length_map]
    have hz : sizeLine = 16777216 := by decide
    omega
  ·lia
 ·intro loc o hI
  refine ex1 loc o hI fun oz => ?_
  w_why
  ·rfl
  ·exact .keep (.cons .refl)
noncomputable def Zfi (c : Nat → Int) : Nat → List Nat
 | 0 => [0]
 | k + 1 => let r := Zfi c k; let i := ((c k).fmod (k + 2 : Int)).toNat; r.take i ++ (k + 1) :: r.drop i
theorem Zeg (c : Nat → Int) : ∀ k, (Zfi c k).length = k + 1
 | 0 => rfl
 | k + 1 => by
  have ih := Zeg c k
  have h0 : 0 ≤ (c k).fmod (k + 2 : Int) := Int.fmod_nonneg_of_pos _ (by lia)
  have h1 : (c k).fmod (k + 2 : Int) < k + 2 := Int.fmod_lt_of_pos _ (by lia)
  simp only [Zfi, List.length_append, List.length_take, List.length_cons, List.length_drop, ih]
  omega
theorem Zr2 {P : Params} {G : Gl} (g : G3 P G) (n : Nat) (a : Addr) (cs : List Int) (hl : cs.length = 5) (obs : List (Addr × AO)) :
  Fn G (.ref 217) (n + 1) [.ref a] ((a, .list (cs.map V.int)) :: obs) fun r o => ∃ b, r = .ref b ∧ o = (b, .list ((Zfi (cs.getD · 0) 4).map vi)) :: (a, .list (cs.map V.int)) :: obs := by
 refine Zc3 g ["cells"] ["ranks", "rank"] [("cells", some (.ref a)), ("ranks", none), ("rank", none)] rfl rfl rfl rfl rfl (by kpf_grow) (by decide +kernel) (by decide +kernel) (by decide +kernel) (by kernel_rfl) (by kernel_rfl) (by kernel_rfl) ?_ rfl
 intro N R L
 refine XV.opq fun K hKK => ?_
 injection (fun a cs obs L K => 0) with g hl N hKK
 refine Zag ?_
 w_why
 intro b
 injection (b)
 w_why
 refine Zdt ?_
 intro r
 injection (r)
 w_why
 refine Zbn (by k_listUnr) ?_ (by decide)
 intro it
 injection (it)
 refine Zbv .name (fun _ _ h => h) R.good.h 4 (fun k loc o => ∃ oz, loc = ([("cells", some (.ref a)), ("ranks", some (.ref b)), ("rank", oz)] : Loc) ∧ o = (b, .list ((Zfi (cs.getD · 0) k).map vi)) :: (a, .list (cs.map V.int)) :: obs) (by k_listUnr) (by decide) ?_ ?_ ?_
 ·exact ei1 _ rfl rfl
 ·intro k loc o O hk hI
  refine ex1 loc o hI fun oz => ?_
  injection (k loc o O oz) with hk hI
  have e : (1 + (k : Int) * 1 - 1).toNat = k := by lia
  have e2 : 1 + (k : Int) * 1 + 1 = k + 2 := by lia
  have h0 : 0 ≤ (cs.getD k 0).fmod (k + 2 : Int) := Int.fmod_nonneg_of_pos _ (by lia)
  have h1 : (cs.getD k 0).fmod (k + 2 : Int) < k + 2 := Int.fmod_lt_of_pos _ (by lia)
  have hl' := Zeg (cs.getD · 0) k
  w_how
  rename_i xq1 xq2 xq3 xq4
  injection (xq1 xq2) with xq3 xq4
  w_why
  ·refine Zai (x := .int (cs.getD k 0)) (by k_qdec) ?_ (by intro o i; exact ⟨[o, i], by kernel_rfl⟩) (by lia) (by lia) ?_
   ·w_why
    ·refine Zol (by k_closed) ?_ ?_ ?_ ?_
     ·w_why
      refine ⟨_, .head, _, rfl, ?_⟩
      rw [e2]
      simp only [Zfi, List.map_append, List.map_cons, List.map_take, List.map_drop, vi]
      congr 5
      show V.int _ = V.int _
      congr 1; lia
     ·rw [e2]; exact h0
     ·rw [e2, List.length_map, hl']; push_cast; omega
     ·rw [List.length_map, hl']; have hz : sizeLine = 16777216 := by decide
      lia
    all_goals lia
   ·rw [e]; simp [List.getElem?_eq_getElem (show k < cs.length by lia)]
 ·intro loc o hI
  refine ex1 loc o hI fun oz => ?_
  w_why
  ·rfl
  ·k_strUnr
noncomputable def Zfu (x : Str) (lo hi : Option Int) : Str := ⟨(slc x.cps.toList lo hi).toArray⟩
noncomputable def Zrk (y x : Str) : Bool := !(Builtin.Str.occurrences x y 0 x.length 1).isEmpty
theorem VRs.strs {h : Heap} {l : List Str} {vs : List Value} (r : VRs h (l.map V.str) vs) : StrsAre vs l := by
 induction l generalizing vs with
 | nil => exact r.nilE ▸ .nil
 | cons x l ih => exact r.consK fun v ws r1 r2 e => r1.strK fun t e' => e ▸ e' ▸ .cons _ t (ih r2)
theorem VRs.of_values {h : Heap} : ∀ (l : List (Str × Tok)), VRs h (l.map fun p => V.str p.1) (strValues l)
 | [] => .nil
 | (x, t) :: l => .cons (.str x t) (VRs.of_values l)
section
variable {C : Cx} {σ : St} {α β : Type}
theorem Zmr {x : Str} {K : V → St → Prop} (h : K (.int x.length) σ) (hfit : x.length ≤ sizeLine) : CF C (.bi "len") [.str x] σ K := fun s fv vs H rf rl => by
 o_facts rf
 revert rl
 intro rl0
 refine VRs.consK rl0 fun _ _ r rl e0 => ?_
 subst e0
 o_facts rl
 o_facts r
 have hz : sizeLine = 16777216 := by decide
 exact .of (PyProof.Rows.len_str (by lia) (Pst.hereT H (.int _ _) h))
theorem Znj {x y : Str} {K : V → St → Prop} (h : K (.str (x ++ y)) σ) (hz : x.length + y.length ≤ sizeLine) : OP2 C VR (binaryOp .Add) (.str x) (.str y) σ K := fun s v u H r1 r2 => by
 o_facts r1; o_facts r2; exact .of (PyProof.Rows.add_str (fun t' tk => Pst.hereT H (.str _ t') h) hz)
theorem Zqg {x y : Str} {K : V → St → Prop} (h : K (.bool (x == y)) σ) : OP2 C VR (compareOp .Eq) (.str x) (.str y) σ K := fun s v u H r1 r2 => by
 o_facts r1; o_facts r2; exact .of (PyProof.Rows.eq_str (Pst.here H (.bool _) h))
theorem Zpx {x y : Str} {K : V → St → Prop} (h : K (.bool (x != y)) σ) : OP2 C VR (compareOp .NotEq) (.str x) (.str y) σ K := fun s v u H r1 r2 => by
 o_facts r1; o_facts r2; exact .of (PyProof.Rows.ne_str (Pst.here H (.bool _) h))
theorem Zog {x y : Str} {K : V → St → Prop} (h : K (.bool (Zrk y x)) σ) : OP2 C VR (compareOp .In) (.str y) (.str x) σ K := fun s v u H r1 r2 => by
 o_facts r1; o_facts r2; exact .of (PyProof.Rows.in_str (Pst.here H (.bool _) h))
theorem Zja {x y : Str} {K : V → St → Prop} (h : K (.bool (!(Zrk y x))) σ) : OP2 C VR (compareOp .NotIn) (.str y) (.str x) σ K := fun s v u H r1 r2 => by
 o_facts r1; o_facts r2; exact .of (PyProof.Rows.notIn_str (Pst.here H (.bool _) h))
theorem Zy3 {x : Str} {K : Bool → St → Prop} (h : K ((x.length : Int) != 0) σ) (hfit : x.length ≤ sizeLine) : OP1 C (fun _ (b : Bool) v => v = b) truthy (.str x) σ K := fun s v H r1 => by
 have hz : sizeLine = 16777216 := by decide
 o_facts r1; exact .of (P.truthy_str (by lia) (Pst.hereT H rfl h))
theorem Ztw {x : Str} (s : Shared) (va : Value) (r : VR s.heap (.str x) va) (H : Holds C σ s) : s.TypeIs va "str" := by o_facts r; exact typeIs_str _ _ _
theorem Zm5 {x : Str} {i : Int} {c : Nat} {K : V → St → Prop} (hi : -(2 ^ 63) ≤ i) (hi' : i < 2 ^ 63) (hc : (seqIndex? i x.length).bind (x.cps[·]?) = some c) (h : K (ch c) σ) : OP2 C VR getItem (.str x) (.int i) σ K := fun s v u H r1 r2 => by
 o_facts r1; o_facts r2; exact .of (PyProof.Rows.getItem_str (by simp; lia) hc (Pst.hereT H (.str _ _) h))
theorem Zaq {v sl : Expr} {x : Str} {i : Int} {c : Nat} {K : V → St → Prop} (h : K (ch c) σ) (hs : ∀ o i, ∃ xs, subscripted sl false o i = operate xs (getItem o i)) (hi : -(2 ^ 63) ≤ i) (hi' : i < 2 ^ 63) (hc : (seqIndex? i x.length).bind (x.cps[·]?) = some c) :
  OP2 C VR (subscriptTail v sl) (.str x) (.int i) σ K := Zca "str" Ztw PyProof.Rows.slot_str_getitem.lookup (Zm5 hi hi' hc h) hs
theorem Zj4 {x : Str} {sl : Addr} {lo hi : Option Int} {rest : List (Addr × AO)} {K : V → St → Prop} (p : Pick (sl, .slice lo hi) σ.obs rest) (k : K (.str (Zfu x lo hi)) ⟨σ.loc, rest⟩) (hz : x.length ≤ sizeLine) : OP2 C VR getItem (.str x) (.ref sl) σ K := by
 injection (C σ x sl lo hi rest K) with p k hz
 intro s v u H r1 r2
 refine VR.strK r1 fun t e0 => ?_
 subst e0
 o_facts r2
 refine Zal (H.obs _ p.mem) fun O e ro => ?_
 have H' := H.drop p
 have q := OR.ownE ro
 obtain ⟨vl, vu, rfl, p1, p2⟩ := q
 injection (s t vl vu) with H r1 r2 H' e ro p1 p2
 obtain ⟨l, hl, hl'⟩ : ∃ l : Option (Int × Tok), vl = partValue l ∧ l.map (·.1) = lo := by
  cases p1 with
  | none => exact ⟨none, rfl, rfl⟩
  | int i t => exact ⟨some (i, t), rfl, rfl⟩
 obtain ⟨m, hm, hm'⟩ : ∃ l : Option (Int × Tok), vu = partValue l ∧ l.map (·.1) = hi := by
  cases p2 with
  | none => exact ⟨none, rfl, rfl⟩
  | int i t => exact ⟨some (i, t), rfl, rfl⟩
 subst hl; subst hm
 refine .of (wpAny_getItem_str_slice (l := l) (u := m) (st := none) ⟨_, e, rfl, rfl⟩ (by decide) ?_)
 have bounds : Builtin.Str.strSliceIndices lo hi 1 x.length = sliceRange (lo.elim 0 (clipAt x.length) : Nat) (hi.elim x.length (clipAt x.length) : Nat) 1 := by
  unfold Builtin.Str.strSliceIndices
  cases lo <;> cases hi <;> simp [clipAt_cast]
 have hp : (slicePicked x l m none) = sliceRange (lo.elim 0 (clipAt x.length) : Nat) (hi.elim x.length (clipAt x.length) : Nat) 1 := by
  unfold slicePicked
  rw [hl', hm']
  exact bounds
 have pick : ((slicePicked x l m none).filterMap (x.cps[·]?)).toArray = (slc x.cps.toList lo hi).toArray := by
  rw [hp, sliceRange_one, pick_run]
  unfold slc
  simp [Str.length]
 unfold sliceMade
 split
 ·rename_i hw
  have hlen : (slicePicked x l m none).length = x.length := by simpa using hw
  have whole : Zfu x lo hi = x := by
   unfold Zfu
   have h1 := hlen
   rw [hp, sliceRange_one, List.length_map, List.length_range] at h1
   have c1 : lo.elim 0 (clipAt x.length) ≤ x.length := by cases lo with
    | none => exact Nat.zero_le _
    | some i => exact Zqf _ _
   have c2 : hi.elim x.length (clipAt x.length) ≤ x.length := by cases hi with
    | none => exact Nat.le_refl _
    | some i => exact Zqf _ _
   have e1 : lo.elim 0 (clipAt x.length) = 0 := by lia
   have e2 : slc x.cps.toList lo hi = x.cps.toList := by
    unfold slc
    have hx : x.cps.toList.length = x.length := by simp [Str.length]
    rw [hx, e1, List.drop_zero, List.take_of_length_le (by rw [hx]; lia)]
   rw [e2]
  rw [whole] at k
  exact Pst.here H' (.str x t) k
 ·rw [pick]
  refine ⟨?_, Pst.hereT H' (.str _ _) k⟩
  show (slc x.cps.toList lo hi).toArray.size ≤ sizeLine
  have : (slc x.cps.toList lo hi).length ≤ x.cps.toList.length := by unfold slc; rw [List.length_take, List.length_drop]; lia
  have hx : x.cps.toList.length = x.length := by simp [Str.length]
  simp
  lia
theorem Zko {v sl : Expr} {x : Str} {a : Addr} {lo hi : Option Int} {rest : List (Addr × AO)} {K : V → St → Prop} (p : Pick (a, .slice lo hi) σ.obs rest) (k : K (.str (Zfu x lo hi)) ⟨σ.loc, rest⟩) (hs : ∀ o i, ∃ xs, subscripted sl false o i = operate xs (getItem o i)) (hz : x.length ≤ sizeLine) :
  OP2 C VR (subscriptTail v sl) (.str x) (.ref a) σ K := Zca "str" Ztw PyProof.Rows.slot_str_getitem.lookup (Zj4 p k hz) hs
theorem Zvb {x y : Str} {K : V → St → Prop} (h : K (.int (Txt.find x y)) σ) : CF C (.bi "str.find") [.str x, .str y] σ K := fun s fv vs H rf rl => by
 o_facts rf
 revert rl
 intro rl0
 refine VRs.consK rl0 fun _ _ r rl e0 => ?_
 subst e0
 revert rl
 intro rl0
 refine VRs.consK rl0 fun _ _ r2 rl e0 => ?_
 subst e0
 o_facts rl
 o_facts r; o_facts r2
 exact .of (SC.find (Pst.hereT H (.int _ _) h))
theorem Zla {x : Str} {a : Addr} {l : List Str} {K : V → St → Prop} (hl : LkO a (.list (l.map V.str)) σ.obs) (h : K (.str (Txt.join x l)) σ) (hz : (l.map (·.length)).sum + l.length * x.length ≤ 16777216) : CF C (.bi "str.join") [.str x, .ref a] σ K := fun s fv vs H rf rl => by
 o_facts rf
 revert rl
 intro rl0
 refine VRs.consK rl0 fun _ _ r rl e0 => ?_
 subst e0
 revert rl
 intro rl0
 refine VRs.consK rl0 fun _ _ r2 rl e0 => ?_
 subst e0
 o_facts rl
 o_facts r; o_facts r2
 refine Zb4 (H.list hl) fun vs n e r => ?_
 exact .of (join_list (items := vs.toArray) ⟨_, e, rfl, n, rfl⟩ r.strs hz fun t' k => Pst.hereT H (.str _ _) h)
theorem Zl5 {x y : Str} {K : V → St → Prop} (h : ∀ a, K (.ref a) ⟨σ.loc, (a, .list ((Txt.split x y).map V.str)) :: σ.obs⟩) (hy : (y.length == 0) = false) (hx : x.length + 2 ≤ sizeLine) : CF C (.bi "str.split") [.str x, .str y] σ K := by
 injection (C σ x y K) with h hy hx
 intro s fv vs H rf rl
 injection (s fv vs) with H rf rl
 o_facts rf
 revert rl
 intro rl0
 refine VRs.consK rl0 fun _ _ r rl e0 => ?_
 subst e0
 revert rl
 intro rl0
 refine VRs.consK rl0 fun _ _ r2 rl e0 => ?_
 subst e0
 o_facts rl
 refine VR.strK r fun t e0 => ?_
 subst e0
 refine VR.strK r2 fun u e0 => ?_
 rename_i zq170_1 zq170_2
 injection (zq170_1 t u) with r2 zq170_2 r rl0 e0
 subst e0
 have fin : ∀ (l : List (Str × Tok)) (n : Nat), l.map (·.1) = Txt.split x y → Pst C VR K s (.ref s.heap.objs.size) { s with heap := s.heap.push { cls := .type "list", data := .seq (strValues l).toArray }, toks := n } := fun l n e => by
  have kp : ∀ b o, s.heap.get? b = some o → (s.heap.push { cls := .type "list", data := .seq (strValues l).toArray }).get? b = some o := fun b o e => Heap.get?_push_of_some _ e
  refine ⟨_, _, h _, .ref _, H.alloc (n := n) kp (Nat.le_refl _) (Heap.get?_push_size _ rfl) ?_, .of_ext kp⟩
  rw [← e, List.map_map]
  exact .list 0 (VRs.of_values l)
 have hlen := split_le x y
 refine .of ?_
 cases h1 : (decide (x.length < y.length) || decide (Builtin.Str.strKind x < Builtin.Str.strKind y))
 ·cases hf : (Builtin.Str.occurrences x y 0 x.length (x.length + 1)).isEmpty
  ·have e : Txt.split x y = Builtin.Str.partsBetween x (Builtin.Str.occurrences x y 0 x.length (x.length + 1)) y.length := (if_neg (ne_true_of_eq_false h1)).trans (if_neg (ne_true_of_eq_false hf))
   refine call_meets F.slot_str_split (typeIs_str _ _ _) F.entry_str_split (F.args_str_split_2 _ _) (meets_str_split_sep x y t u h1 hy hf (by lia) (by rw [← e]; lia)) ?_
   show wants _ C.E _ { s with toks := _, heap := s.heap.push { cls := .type "list", data := .seq (strsFrom s.toks (Builtin.Str.partsBetween x (Builtin.Str.occurrences x y 0 x.length (x.length + 1)) y.length)).toArray } }
   rw [strsFrom_eq]
   exact fin _ _ ((numbered_texts _ _).trans e.symm)
  ·exact call_meets F.slot_str_split (typeIs_str _ _ _) F.entry_str_split (F.args_str_split_2 _ _) (meets_str_split_not_found x y t u h1 hy hf)
    (fin [(x, t)] s.toks ((if_neg (ne_true_of_eq_false h1)).trans (if_pos hf)).symm)
 ·exact call_meets F.slot_str_split (typeIs_str _ _ _) F.entry_str_split (F.args_str_split_2 _ _) (meets_str_split_cannot_occur x y t u h1)
   (fin [(x, t)] s.toks (if_pos h1).symm)
theorem Zza {i : Int} {K : V → St → Prop} (h : K (ch i.toNat) σ) (h0 : 0 ≤ i) (h1 : i ≤ 0x10FFFF) : CF C (.bi "chr") [.int i] σ K := fun s fv vs H rf rl => by
 o_facts rf
 revert rl
 intro rl0
 refine VRs.consK rl0 fun _ _ r rl e0 => ?_
 subst e0
 o_facts rl
 o_facts r
 exact .of (P.chr_of_int (by simp; lia) (Pst.hereT H (.str _ _) h))
theorem Zzb {c : Nat} {K : V → St → Prop} (h : K (.int c) σ) : CF C (.bi "ord") [ch c] σ K := fun s fv vs H rf rl => by
 o_facts rf
 revert rl
 intro rl0
 refine VRs.consK rl0 fun _ _ r rl e0 => ?_
 subst e0
 o_facts rl
 o_facts r
 exact .of (P.ord_of_char (Pst.hereT H (.int _ _) h))
theorem Zf2 {b : List Nat} {sl : Addr} {lo hi : Option Int} {rest : List (Addr × AO)} {K : V → St → Prop} (p : Pick (sl, .slice lo hi) σ.obs rest) (k : K (.bytes (slc b lo hi)) ⟨σ.loc, rest⟩) (hz : b.length ≤ sizeLine) : OP2 C VR getItem (.bytes b) (.ref sl) σ K := fun s v u H r1 r2 => by
 refine VR.bytesK r1 fun t hb e0 => ?_
 subst e0
 o_facts r2
 refine Zal (H.obs _ p.mem) fun O e ro => ?_
 have H' := H.drop p
 have q := OR.ownE ro
 obtain ⟨vl, vu, rfl, p1, p2⟩ := q
 refine .of (getItem_meets (typeIs_bytes _ _ _) (by decide) FB.slot_bytes_getitem FB.entry_bytes_getitem (FB.args_bytes_getitem_2 _ _) (KBc.meets_slice2 _ t _ p1 p2) ⟨⟨_, e, rfl, rfl⟩, Nat.le_trans (KBc.size_picked_le _ lo hi) (by simpa using hz), fun t' k' => ?_⟩)
 rw [KBc.picked_eq]
 have : ((((b.map Nat.toUInt8).toArray.toList.drop (lo.elim 0 (clipAt (b.map Nat.toUInt8).toArray.size))).take (hi.elim (b.map Nat.toUInt8).toArray.size (clipAt (b.map Nat.toUInt8).toArray.size) - lo.elim 0 (clipAt (b.map Nat.toUInt8).toArray.size))).toArray) = ((slc b lo hi).map Nat.toUInt8).toArray := by
  unfold slc
  simp [List.map_take, List.map_drop]
 rw [this]
 exact Pst.hereT H' (.bytes t' fun x hx => hb x (List.mem_of_mem_drop (List.mem_of_mem_take hx))) k
theorem Zha {v sl : Expr} {b : List Nat} {a : Addr} {lo hi : Option Int} {rest : List (Addr × AO)} {K : V → St → Prop} (p : Pick (a, .slice lo hi) σ.obs rest) (k : K (.bytes (slc b lo hi)) ⟨σ.loc, rest⟩) (hs : ∀ o i, ∃ xs, subscripted sl false o i = operate xs (getItem o i)) (hz : b.length ≤ sizeLine) :
  OP2 C VR (subscriptTail v sl) (.bytes b) (.ref a) σ K := Zca "bytes" Zl8 FB.slot_bytes_getitem.lookup (Zf2 p k hz) hs
theorem Zec {b c : List Nat} {K : V → St → Prop} (k : K (.bytes (b ++ c)) σ) (hz : b.length + c.length ≤ 16777216) : OP2 C VR (binaryOp .Add) (.bytes b) (.bytes c) σ K := fun s v u H r1 r2 => by
 refine VR.bytesK r1 fun t hb e0 => ?_
 subst e0
 refine VR.bytesK r2 fun t2 hc e0 => ?_
 subst e0
 refine .of (KBy.add_bytes (by simpa using hz) fun t' k' => ?_)
 have : (b.map Nat.toUInt8).toArray ++ (c.map Nat.toUInt8).toArray = ((b ++ c).map Nat.toUInt8).toArray := by simp
 rw [this]
 exact Pst.hereT H (.bytes t' fun x hx => (List.mem_append.mp hx).elim (hb x) (hc x)) k
theorem Zfm {b c : List Nat} (hb : ∀ x ∈ b, x < 256) (hc : ∀ x ∈ c, x < 256) : ((b.map Nat.toUInt8).toArray.toList == (c.map Nat.toUInt8).toArray.toList) = (b == c) := by
 have key : ∀ {b c : List Nat}, (∀ x ∈ b, x < 256) → (∀ x ∈ c, x < 256) → b.map Nat.toUInt8 = c.map Nat.toUInt8 → b = c := by
  intro b
  induction b with
  | nil => intro c _ _ e; cases c with
   | nil => rfl
   | cons _ _ => cases e
  | cons x b ih =>
   intro c hb hc e
   cases c with
   | nil => cases e
   | cons y c =>
    rw [List.map_cons, List.map_cons] at e
    injection e with e1 e2
    have h1 := hb x (.head _)
    have h2 := hc y (.head _)
    have : (Nat.toUInt8 x).toNat = (Nat.toUInt8 y).toNat := by rw [e1]
    have z1 : (Nat.toUInt8 x).toNat = x := by show (UInt8.ofNat x).toNat = x; rw [UInt8.toNat_ofNat']; exact Nat.mod_eq_of_lt h1
    have z2 : (Nat.toUInt8 y).toNat = y := by show (UInt8.ofNat y).toNat = y; rw [UInt8.toNat_ofNat']; exact Nat.mod_eq_of_lt h2
    rw [z1, z2] at this
    subst this
    rw [ih (fun x hx => hb x (.tail _ hx)) (fun x hx => hc x (.tail _ hx)) e2]
 rw [Bool.eq_iff_iff]
 simp only [beq_iff_eq]
 exact ⟨key hb hc, fun e => by rw [e]⟩
theorem Zki {b c : List Nat} {K : V → St → Prop} (k : K (.bool (b != c)) σ) : OP2 C VR (compareOp .NotEq) (.bytes b) (.bytes c) σ K := fun s v u H r1 r2 => by
 refine VR.bytesK r1 fun t hb e0 => ?_
 subst e0
 refine VR.bytesK r2 fun t2 hc e0 => ?_
 subst e0
 refine .of (PySem.W.ne_bytes ?_)
 have : ((b.map Nat.toUInt8).toArray.toList != (c.map Nat.toUInt8).toArray.toList) = (b != c) := by unfold bne; rw [Zfm hb hc]
 rw [this]
 exact Pst.here H (.bool _) k
theorem VRs.ints {h : Heap} {l : List Nat} {vs : List Value} (r : VRs h (l.map vi) vs) : IntsAre vs (l.map fun (n : Nat) => (n : Int)) := by
 induction l generalizing vs with
 | nil => exact r.nilE ▸ .nil
 | cons x l ih => exact r.consK fun v ws r1 r2 e => VR.intK r1 fun t e' => e ▸ e' ▸ .cons _ t (ih r2)
theorem Zb9 {a : Addr} {l : List Nat} {K : V → St → Prop} (hl : LkO a (.list (l.map vi)) σ.obs) (k : K (.bytes l) σ) (hr : ∀ x ∈ l, x < 256) (hz : l.length ≤ sizeLine) (hh : C.A.handled = none) : CF C (.ty "bytes") [.ref a] σ K := fun s fv vs H rf rl => by
 o_facts rf
 revert rl
 intro rl0
 refine VRs.consK rl0 fun _ _ r rl e0 => ?_
 subst e0
 o_facts rl
 o_facts r
 refine Zb4 (H.list hl) fun vs n e r => ?_
 refine .of (call_bytes_ints (vs := vs) (ns := l.map fun (n : Nat) => (n : Int)) ⟨_, e, rfl, n, rfl⟩ r.ints (fun n hn => by obtain ⟨m, hm, rfl⟩ := List.mem_map.mp hn; have := hr m hm; lia) (by have := r.length; simp at this; lia) hh fun h' t k' kp => ?_)
 have : byteArr (l.map fun (n : Nat) => (n : Int)) = (l.map Nat.toUInt8).toArray := by unfold byteArr; simp [Function.comp_def]
 rw [this]
 exact ⟨_, _, k, .bytes t hr, H.ext kp k', .of_ext kp⟩
end
section
open PySem.SeqAt PySem.MeetsSeq
noncomputable def Zil : V → V → Bool
 | .int a, .int b => a == b
 | .str a, .str b => a == b
 | .bytes a, .bytes b => a == b
 | _, _ => false
inductive Sc : V → V → Prop
 | int (a b : Int) : Sc (.int a) (.int b)
 | str (a b : Str) : Sc (.str a) (.str b)
 | bytes (a b : List Nat) : Sc (.bytes a) (.bytes b)
noncomputable def Zq3 (l m : List V) : Bool := (l.zip m).all fun p => Zil p.1 p.2
theorem EqGives.bytes (b c : Array UInt8) (t u : Tok) : EqGives (.bytes b t) (.bytes c u) (b.toList == c.toList) := by
 intro prog w A E s Q h
 unfold eqBool
 refine wpAny_holding ?_
 refine wpAny_ite_split (fun hab => ?_) (fun hab => ?_)
 ·have e : b = c := by have := eq_of_beq hab; injection this
  subst e
  exact wpAny_bind (wpAny_rule (wpAny_pure (by simpa using h)))
 ·exact wpAny_bind (richCompare_gives (typeIs_bytes s b t) (typeIs_bytes s c u) FB.slot_bytes_eq FB.entry_bytes_eq (FB.args_bytes_eq_2 _ _) (gives_bytes_eq b c t u) (by simp [Made.takes]) (wpAny_truthy_bool h))
theorem eqS {A : Around} {s : Shared} {h : Heap} {a b : V} {x y : Value} (c : Sc a b) (r1 : VR h a x) (r2 : VR h b y) : EqAt A s x y (Zil a b) := by
 cases c with
 | int a b => o_facts r1; o_facts r2; exact (EqGives.int _ _ _ _).at _ _
 | str a b =>
  o_facts r1; o_facts r2
  have : (a == b) = (a.cps.toList == b.cps.toList) := Bool.eq_iff_iff.mpr (beq_iff_eq.trans ((⟨fun e => e ▸ rfl, fun e => congrArg Str.mk (Array.toList_inj.mp e)⟩ : a = b ↔ _).trans beq_iff_eq.symm))
  exact (show _ = Zil (.str a) (.str b) from this.symm) ▸ (SeqRoads2.EqGives.str _ _ _ _).at _ _
 | bytes a b =>
  refine VR.bytesK r1 fun t hb e => VR.bytesK r2 fun u hc e' => ?_
  rw [e, e']
  exact (show _ = Zil (.bytes a) (.bytes b) from Zfm hb hc) ▸ (EqGives.bytes (a.map Nat.toUInt8).toArray (b.map Nat.toUInt8).toArray t u).at A s
theorem Zik (a b : V) (l m : List V) : Zq3 (a :: l) (b :: m) = (Zil a b && Zq3 l m) := by simp [Zq3]
theorem VRs.at {h : Heap} {l : List V} {xs : List Value} (j : Nat) {x : Value} (r : VRs h l xs) (e : xs[j]? = some x) : ∃ a, l[j]? = some a ∧ VR h a x := by
 have hl : j < l.length := r.length ▸ (List.getElem?_eq_some_iff.mp e).1
 refine Zal (r.get j (List.getElem?_eq_getElem hl)) fun v hv rv => ?_
 exact ⟨_, List.getElem?_eq_getElem hl, Option.some.inj (e.symm.trans hv) ▸ rv⟩
theorem eqL {A : Around} {s : Shared} {h : Heap} {l m : List V} {xs ys : List Value} (hs : ∀ (j : Nat) (a b : V), l[j]? = some a → m[j]? = some b → Sc a b) (r1 : VRs h l xs) (r2 : VRs h m ys) (j : Nat) (x y : Value) (e1 : xs[j]? = some x) (e2 : ys[j]? = some y) : ∃ a b, l[j]? = some a ∧ m[j]? = some b ∧ EqAt A s x y (Zil a b) := by
 refine Zal (r1.at j e1) fun a ha ra => ?_
 refine Zal (r2.at j e2) fun b hb rb => ?_
 exact ⟨a, b, ha, hb, eqS (hs j a b ha hb) ra rb⟩
theorem Zkh {l m : List V} (h : l.length = m.length) : ((List.range l.length).all fun j => Zil (l.getD j .none) (m.getD j .none)) = Zq3 l m := by
 induction l generalizing m with
 | nil => rfl
 | cons a l ih =>
  cases m with
  | nil => cases h
  | cons b m =>
   rw [Zik, List.length_cons, List.range_succ_eq_map, List.all_cons, List.all_map]
   exact congrArg (Zil a b && ·) (ih (Nat.succ.inj h))
theorem VR.int_det {h : Heap} {a b : Int} {y : Value} (r1 : VR h (.int a) y) (r2 : VR h (.int b) y) : a = b := r1.intK fun _ e => r2.intK fun _ e' => by cases e.symm.trans e'; rfl
theorem VR.str_det {h : Heap} {a b : Str} {y : Value} (r1 : VR h (.str a) y) (r2 : VR h (.str b) y) : a = b := r1.strK fun _ e => r2.strK fun _ e' => by cases e.symm.trans e'; rfl
theorem VR.bytes_det {h : Heap} {b c : List Nat} {y : Value} (r1 : VR h (.bytes b) y) (r2 : VR h (.bytes c) y) : b = c := r1.bytesK fun _ hb e => r2.bytesK fun _ hc e' => by
 have := Zfm hb hc
 rw [(Value.bytes.inj (e.symm.trans e')).1] at this
 simpa using this.symm
theorem Zvh {h : Heap} {a b : V} {y : Value} (c : Sc a b) (r1 : VR h a y) (r2 : VR h b y) : Zil a b = true := by
 cases c with
 | int => exact beq_iff_eq.mpr (r1.int_det r2)
 | str => exact beq_iff_eq.mpr (r1.str_det r2)
 | bytes => exact beq_iff_eq.mpr (r1.bytes_det r2)
theorem Zt5 {h : Heap} {a b x : V} {y : Value} (c1 : Sc a x) (c2 : Sc b x) (r1 : VR h a y) (r2 : VR h b y) : a = b := by
 cases c1 with
 | int => cases c2 with | int => exact congrArg V.int (r1.int_det r2)
 | str => cases c2 with | str => exact congrArg V.str (r1.str_det r2)
 | bytes => cases c2 with | bytes => exact congrArg V.bytes (r1.bytes_det r2)
theorem Zsz {h : Heap} {l m : List V} {vs : List Value} (hs : ∀ (j : Nat) (a b : V), l[j]? = some a → m[j]? = some b → Sc a b) (r : VRs h l vs) (r' : VRs h m vs) : Zq3 l m = true := by
 induction l generalizing m vs with
 | nil => rfl
 | cons a l ih =>
  cases m with
  | nil => rfl
  | cons b m =>
   refine r.consK fun v ws q r e => r'.consK fun v' ws' q' r' e' => ?_
   cases e.symm.trans e'
   rw [Zik, Zvh (hs 0 a b rfl rfl) q q', ih (fun j => hs (j + 1)) r r']
   rfl
theorem Zv2 {h : Heap} {l l' m : List V} {vs : List Value} (h1 : l.length = m.length) (h2 : l'.length = m.length) (s1 : ∀ (j : Nat) (a b : V), l[j]? = some a → m[j]? = some b → Sc a b) (s2 : ∀ (j : Nat) (a b : V), l'[j]? = some a → m[j]? = some b → Sc a b) (r : VRs h l vs) (r' : VRs h l' vs) : l = l' := by
 induction l generalizing l' m vs with
 | nil => exact (List.eq_nil_of_length_eq_zero (h2.trans h1.symm)).symm
 | cons a l ih =>
  cases m with
  | nil => cases h1
  | cons b m =>
   cases l' with
   | nil => cases h2
   | cons a' l' =>
    refine r.consK fun v ws q r e => r'.consK fun v' ws' q' r' e' => ?_
    cases e.symm.trans e'
    rw [Zt5 (s1 0 _ _ rfl rfl) (s2 0 _ _ rfl rfl) q q', ih (m := m) (Nat.succ.inj h1) (Nat.succ.inj h2) (fun j => s1 (j + 1)) (fun j => s2 (j + 1)) r r']
section
variable {C : Cx} {σ : St} {α β : Type}
theorem Zkx {h : Heap} {l m : List V} {vs ws : List Value} (hs : ∀ (j : Nat) (a b : V), l[j]? = some a → m[j]? = some b → Sc a b) (r1 : VRs h l vs) (r2 : VRs h m ws) (A : Around) (s : Shared) (j : Nat) (h1 : j < vs.toArray.size) (h2 : j < ws.toArray.size) :
  EqAt A s vs.toArray[j] ws.toArray[j] (Zil (l.getD j .none) (m.getD j .none)) := by
 obtain ⟨a, b, ha, hb, q⟩ := eqL (A := A) (s := s) hs r1 r2 j (vs.toArray[j]) (ws.toArray[j]) (by simp) (by simp)
 simpa [List.getD, ha, hb] using q
theorem eqT {n : Nat} {A : Around} {s : Shared} (hu : A.units < cLine) {l m : List V} {x y : Value} (hl : l.length = m.length) (hs : ∀ (j : Nat) (a b : V), l[j]? = some a → m[j]? = some b → Sc a b) (r1 : VR s.heap (.tup l) x) (r2 : VR s.heap (.tup m) y) : EqAt A s x y (Zq3 l m) := by
 refine r1.tupK fun a1 vs1 n1 e1 r1 e => r2.tupK fun a2 vs2 n2 e2 r2 e' => ?_
 rw [e, e']
 by_cases hne : a1 = a2
 ·subst hne
  have key : Zq3 l m = true := Zsz hs r1 ((show vs2 = vs1 from congrArg Array.toList (Data.seq.inj (congrArg Obj.data (Option.some.inj (e2.symm.trans e1)))).1) ▸ r2)
  rw [key]
  exact EqAt.same _
 ·refine EqAt.of_refs hne ?_
  have := RcAt.tuples (A := A) (e := fun j => Zil (l.getD j .none) (m.getD j .none)) ⟨_, e1, rfl, n1, rfl⟩ ⟨_, e2, rfl, n2, rfl⟩ hu (Zkx hs r1 r2 _ s)
  have h1 : vs1.toArray.size = l.length := r1.length
  have h2 : vs2.toArray.size = l.length := r2.length.trans hl.symm
  rwa [h1, h2, Nat.min_self, beq_self_eq_true, Bool.and_true, Zkh hl] at this
inductive Cmp : V → V → Bool → Prop
 | sc {a b : V} (c : Sc a b) : Cmp a b (Zil a b)
 | tup {l m : List V} (hl : l.length = m.length) (hs : ∀ (j : Nat) (a b : V), l[j]? = some a → m[j]? = some b → Sc a b) : Cmp (.tup l) (.tup m) (Zq3 l m)
theorem eqC {A : Around} {s : Shared} (hu : A.units < cLine) {a b : V} {k : Bool} {x y : Value} (c : Cmp a b k) (r1 : VR s.heap a x) (r2 : VR s.heap b y) : EqAt A s x y k := by
 cases c with
 | sc c => exact eqS c r1 r2
 | tup hl hs => exact eqT (n := 0) hu hl hs r1 r2
theorem Zv1 {h : Heap} {a b x : V} {k1 k2 : Bool} {y : Value} (c1 : Cmp a x k1) (c2 : Cmp b x k2) (r1 : VR h a y) (r2 : VR h b y) : k1 = k2 := by
 cases c1 with
 | sc c1 =>
  cases c2 with
  | sc c2 => rw [Zt5 c1 c2 r1 r2]
  | tup hl hs => cases c1
 | tup hl hs =>
  cases c2 with
  | sc c2 => cases c2
  | tup hl' hs' =>
   refine r1.tupK fun a vs n e r1 ey => r2.tupK fun a' vs' n' e' r2 ey' => ?_
   cases ey.symm.trans ey'
   rw [Zv2 hl hl' hs hs' r1 ((show vs' = vs from congrArg Array.toList (Data.seq.inj (congrArg Obj.data (Option.some.inj (e'.symm.trans e)))).1) ▸ r2)]
open Classical in
theorem Zod {h : Heap} {x : V} {e : V → Bool} : ∀ {l : List V} {vs : List Value}, (∀ y ∈ l, Cmp y x (e y)) → VRs h l vs → ∃ e' : Value → Bool, (∀ (j : Nat) (a : V) (y : Value), l[j]? = some a → vs[j]? = some y → e' y = e a) := by
 injection (h x e)
 intro l vs hc r
 refine ⟨fun y => decide (∃ a ∈ l, VR h a y ∧ e a = true), fun j a y ha hy => ?_⟩
 refine Zal (r.get j ha) fun y' hy' ra => ?_
 rw [hy] at hy'; cases hy'
 have hm := List.mem_of_getElem? ha
 cases hk : e a with
 | true => simpa using ⟨a, hm, ra, hk⟩
 | false =>
  simp only [decide_eq_false_iff_not]
  rintro ⟨b, hb, rb, kb⟩
  have := Zv1 (hc a hm) (hc b hb) ra rb
  rw [hk, kb] at this; cases this
theorem Zqb {h : Heap} {l : List V} {vs : List Value} (r : VRs h l vs) {y : Value} (hy : y ∈ vs.toArray) : ∃ (j : Nat) (a : V), l[j]? = some a ∧ vs[j]? = some y ∧ VR h a y := by
 obtain ⟨j, hj⟩ := List.getElem?_of_mem (List.mem_toArray.mp hy)
 refine Zal (r.at j hj) fun a ha ra => ?_
 exact ⟨j, a, ha, hj, ra⟩
theorem Zy4 {h : Heap} {e : V → Bool} {e' : Value → Bool} {l : List V} {vs : List Value} (r : VRs h l vs) (k : ∀ (j : Nat) (a : V) (y : Value), l[j]? = some a → vs[j]? = some y → e' y = e a) : vs.any e' = l.any e := by
 induction l generalizing vs with
 | nil => rw [r.nilE]; rfl
 | cons a l ih =>
  refine r.consK fun v ws q r2 ey => ?_
  subst ey
  rw [List.any_cons, List.any_cons, k 0 _ _ rfl rfl, ih r2 fun j => k (j + 1)]
theorem Zdm {a : Addr} {l : List V} {x : V} {K : V → St → Prop} (e : V → Bool) (hl : LkO a (.list l) σ.obs) (k : K (.bool (!(l.any e))) σ) (hc : ∀ y ∈ l, Cmp y x (e y)) (hu : C.A.units + 20 < cLine) : OP2 C VR (compareOp .NotIn) x (.ref a) σ K := fun s v u H r1 r2 => by
 o_facts r2
 refine Zb4 (H.list hl) fun vs n eo r => ?_
 obtain ⟨e', he'⟩ := Zod hc r
 refine .of (notIn_listAt e' ⟨_, eo, rfl, n, rfl⟩ (fun y hy => ?_) ?_)
 ·obtain ⟨j, b, hb, hj, rb⟩ := Zqb r hy
  rw [he' j b y hb hj]
  exact eqC (by show C.A.units + _ < _; lia) (hc b (List.mem_of_getElem? hb)) rb r1
 ·have : vs.toArray.any e' = l.any e := by rw [List.any_toArray]; exact Zy4 r he'
  rw [this]
  exact Pst.here H (.bool _) k
theorem Zrs {a : Addr} {l : List V} {x : V} {K : V → St → Prop} (e : V → Bool) (j : Nat) (hl : LkO a (.list l) σ.obs) (k : K (.int j) σ) (hc : ∀ y ∈ l, Cmp y x (e y)) (hj : ∃ y, l[j]? = some y ∧ e y = true) (hno : ∀ m < j, ∀ y, l[m]? = some y → e y = false) (hz : l.length ≤ sizeLine) (hu : C.A.units + 20 < cLine) :
  CF C (.bi "list.index") [.ref a, x] σ K := fun s fv vs H rf rl => by
 o_facts rf
 refine rl.consK fun v1 _ r rl e0 => rl.consK fun v2 _ r2 rl e1 => ?_
 o_facts rl
 o_facts r
 subst e1; subst e0
 refine Zb4 (H.list hl) fun vs n eo r => ?_
 obtain ⟨e', he'⟩ := Zod hc r
 have hlen := r.length
 have hzz : sizeLine = 16777216 := by decide
 obtain ⟨y, hy, ey⟩ := hj
 refine Zal (r.get j hy) fun v hv rv => ?_
 have hlt : j < vs.length := by
  rcases Nat.lt_or_ge j vs.length with q | q
  ·exact q
  ·rw [List.getElem?_eq_none q] at hv; cases hv
 have hv' : vs.toArray[j] = v := by
  have := List.getElem?_eq_getElem hlt
  rw [hv] at this
  simpa using (Option.some.inj this).symm
 refine .of (call_meets F.slot_list_index ⟨_, eo, rfl⟩ F.entry_list_index (F.args_list_index_2 _ _) (list_indexAt a vs.toArray n none #[] _ e' j (by simpa using hlt) (by lia) ?_ fun m hm hmj => ?_) ⟨eo, fun y hy => ?_, Pst.hereT H (.int _ _) k⟩)
 ·rw [hv', he' j y v hy hv]; exact ey
 ·have hm' : m < vs.length := by simpa using hm
  have hml : m < l.length := by lia
  have := hno m hmj _ (List.getElem?_eq_getElem hml)
  rw [← this]
  refine he' m _ _ (List.getElem?_eq_getElem hml) ?_
  simp [List.getElem?_eq_getElem hm']
 ·obtain ⟨j, b, hb, hj, rb⟩ := Zqb r hy
  rw [he' j b y hb hj]
  exact eqC (by show C.A.units + _ < _; lia) (hc b (List.mem_of_getElem? hb)) rb r2
noncomputable def leq (l m : List V) : Bool := l.length == m.length && Zq3 l m
theorem Zng {a b : Addr} {l m : List V} {K : V → St → Prop} (hl : LkO a (.list l) σ.obs) (hm : LkO b (.list m) σ.obs) (k : K (.bool (leq l m)) σ) (hs : ∀ (j : Nat) (a b : V), l[j]? = some a → m[j]? = some b → Sc a b) (hu : C.A.units + 20 < cLine) : OP2 C VR (compareOp .Eq) (.ref a) (.ref b) σ K := fun s v u H r1 r2 => by
 o_facts r1; o_facts r2
 refine Zb4 (H.list hl) fun vs n e1 r1 => ?_
 refine Zb4 (H.list hm) fun ws n2 e2 r2 => ?_
 have l1 := r1.length
 have l2 := r2.length
 by_cases hz : l.length = m.length
 ·have := eq_listAt (prog := C.G.prog) (w := C.G.w) (A := C.A) (E := C.E) (s := s) (Q := Pst C VR K s) (e := fun j => Zil (l.getD j .none) (m.getD j .none)) (l := a) (b := b) (items := vs.toArray) (items2 := ws.toArray) ⟨_, e1, rfl, n, rfl⟩ ⟨_, e2, rfl, n2, rfl⟩ (by simp [l1, l2, hz]) (by lia) (Zkx hs r1 r2 _ _) (by
   have e3 : ((List.range vs.toArray.size).all fun j => Zil (l.getD j .none) (m.getD j .none)) = leq l m := by
    unfold leq
    rw [← Zkh hz]
    simp [l1, hz]
   rw [e3]
   exact Pst.here H (.bool _) k)
  exact .of this
 ·refine .of (eq_list_lengthsAt (items := vs.toArray) (items2 := ws.toArray) ⟨_, e1, rfl, n, rfl⟩ ⟨_, e2, rfl, n2, rfl⟩ (by simp [l1, l2, hz]) (by lia) ?_)
  have : leq l m = false := by simp [leq, hz]
  rw [this] at k
  exact Pst.here H (.bool _) k
theorem Znp {a b : Addr} {l m : List V} {K : V → St → Prop} (hl : LkO a (.list l) σ.obs) (hm : LkO b (.list m) σ.obs) (k : K (.bool (!(leq l m))) σ) (hs : ∀ (j : Nat) (a b : V), l[j]? = some a → m[j]? = some b → Sc a b) (hu : C.A.units + 20 < cLine) : OP2 C VR (compareOp .NotEq) (.ref a) (.ref b) σ K := fun s v u H r1 r2 => by
 o_facts r1; o_facts r2
 refine Zb4 (H.list hl) fun vs n e1 r1 => ?_
 refine Zb4 (H.list hm) fun ws n2 e2 r2 => ?_
 have l1 := r1.length
 have l2 := r2.length
 by_cases hz : l.length = m.length
 ·have := RcNeAt.lists (A := C.A) (s := s) (e := fun j => Zil (l.getD j .none) (m.getD j .none)) (l := a) (b := b) (items := vs.toArray) (items2 := ws.toArray) ⟨_, e1, rfl, n, rfl⟩ ⟨_, e2, rfl, n2, rfl⟩ (by simp [l1, l2, hz]) (by lia) (Zkx hs r1 r2 _ _) C.G.prog C.G.w C.E (Pst C VR K s) (by
   have e3 : ((List.range vs.toArray.size).all fun j => Zil (l.getD j .none) (m.getD j .none)) = leq l m := by
    unfold leq
    rw [← Zkh hz]
    simp [l1, hz]
   rw [e3]
   exact Pst.here H (.bool _) k)
  exact .of this
 ·refine .of (RcNeAt.lists_lengths (A := C.A) (s := s) (items := vs.toArray) (items2 := ws.toArray) ⟨_, e1, rfl, n, rfl⟩ ⟨_, e2, rfl, n2, rfl⟩ (by simp [l1, l2, hz]) (by lia) C.G.prog C.G.w C.E (Pst C VR K s) ?_)
  have : leq l m = false := by simp [leq, hz]
  rw [this] at k
  exact Pst.here H (.bool _) k
theorem Zpw {a : Addr} {l : List Int} {x : Int} {obs' : List (Addr × AO)} {K : V → St → Prop} (j : Nat) (u : UpO a (.list (l.map V.int)) (.list ((l.eraseIdx j).map V.int)) σ.obs obs') (k : K .none ⟨σ.loc, obs'⟩) (hj : l[j]? = some x) (hno : ∀ m < j, l[m]? ≠ some x) (hz : l.length ≤ sizeLine) : CF C (.bi "list.remove") [.ref a, .int x] σ K := by
 injection (C σ a l x obs' K j) with u k hj hno hz
 intro s fv vs H rf rl
 o_facts rf
 refine rl.consK fun v1 _ r rl e0 => rl.consK fun v2 _ r2 rl e1 => ?_
 o_facts rl
 o_facts r; o_facts r2
 subst e1; subst e0
 refine Zb4 (H.list u.lk) fun vs n e r => ?_
 have hlen := r.length
 rw [List.length_map] at hlen
 have hlt : j < l.length := by
  rcases Nat.lt_or_ge j l.length with q | q
  ·exact q
  ·rw [List.getElem?_eq_none q] at hj; cases hj
 have at_ : ∀ m (hm : m < vs.toArray.size), ∃ t, vs.toArray[m] = .int (l.getD m 0) t := fun m hm => by
  have hm' : m < l.length := by simpa [hlen] using hm
  refine Zal (r.get m (a := .int (l.getD m 0)) (by simp [List.getElem?_eq_getElem hm'])) fun v hv rv => ?_
  have hm2 : m < vs.length := by simpa using hm
  rw [List.getElem?_eq_getElem hm2] at hv
  o_facts rv
  exact ⟨_, by simpa using Option.some.inj hv⟩
 let eb : Value → Bool := fun v => match v with | .int i _ => i == x | _ => false
 have me : (l.eraseIdx j).map V.int = (l.map V.int).eraseIdx j := by
  have gen : ∀ (l : List Int) (j : Nat), (l.eraseIdx j).map V.int = (l.map V.int).eraseIdx j := by
   intro l
   induction l with
   | nil => intro j; rfl
   | cons a l ih => intro j; cases j with
    | zero => rfl
    | succ j => simp [ih j]
  exact gen l j
 obtain ⟨H', tk⟩ := H.mapList u e (fun xs => xs.eraseIdxIfInBounds j) (vs' := vs.eraseIdx j) (by
  have : j < vs.toArray.size := by simpa [hlen] using hlt
  rw [Array.eraseIdxIfInBounds, dif_pos this]; simp) (me ▸ r.erase j)
 refine .of (call_meets F.slot_list_remove ⟨_, e, rfl⟩ F.entry_list_remove (F.args_list_remove_2 _ _) (list_remove a vs.toArray n _ eb (fun y hy => ?_) j (by simpa [hlen] using hlt) ?_ (fun m hm hmj => ?_) (by simpa [hlen] using hz)) ⟨e, _, _, k, .none, H', tk⟩)
 ·obtain ⟨m, hm, rfl⟩ := Array.mem_iff_getElem.mp hy
  obtain ⟨t, ht⟩ := at_ m hm
  rw [ht]
  exact EqGives.int _ _ _ _
 ·obtain ⟨t, ht⟩ := at_ j (by simpa [hlen] using hlt)
  rw [ht]
  have : l.getD j 0 = x := by simp [List.getD, hj]
  show (l.getD j 0 == x) = true
  rw [this]; simp
 ·obtain ⟨t, ht⟩ := at_ m hm
  rw [ht]
  have hml : m < l.length := by lia
  have h1 := hno m hmj
  rw [List.getElem?_eq_getElem hml] at h1
  have : l.getD m 0 = l[m] := by simp [List.getD, List.getElem?_eq_getElem hml]
  show (l.getD m 0 == x) = false
  rw [this, beq_eq_false_iff_ne]
  exact fun q => h1 (by rw [q])
end
end
section
variable {C : Cx} {σ : St}
theorem Zw1 {x y : Expr} {pos : Pos} {env : Env} {K : V → St → Prop}
  (h : EV C (eval x env) σ fun a σ₁ => TR C a σ₁ fun b σ₂ => (b = true → EV C (eval y env) σ₂ K) ∧ (b = false → K a σ₂)) : EV C (eval (.BoolOp .And [x, y] pos) env) σ K := fun s H => by
 show wpP _ _ (do
  let v ← eval x env
  standAt pos
  let t ← holding [v] (truthy v)
  match BoolOp.And, t with
  | .And, false | .Or, true => pure v
  | _, _ => boolOp pos .And [eval y env]) _ _ _
 exact Zaa (h.step H fun a σ₁ va s₁ h₁ ra H₁ k₁ => Zaa (Zac (Zaa (Zad (Zat (h₁ s₁ va H₁ ra) (fun t s₂ b σ₂ k e H₂ k₂ => by
  subst e
  cases t with
  | true => exact Zae (k.1 rfl s₂ H₂) (fun _ _ p => p.tk (k₁.trans k₂)) fun _ _ e => e
  | false => exact Zab ⟨a, σ₂, k.2 rfl, ra.mono k₂, H₂, k₁.trans k₂⟩))))))
theorem Zyt {x y : Expr} {pos : Pos} {env : Env} {K : V → St → Prop}
  (h : EV C (eval x env) σ fun a σ₁ => TR C a σ₁ fun b σ₂ => (b = false → EV C (eval y env) σ₂ K) ∧ (b = true → K a σ₂)) : EV C (eval (.BoolOp .Or [x, y] pos) env) σ K := by
 injection (C σ x y pos env K) with h
 intro s H
 show wpP _ _ (do
  let v ← eval x env
  standAt pos
  let t ← holding [v] (truthy v)
  match BoolOp.Or, t with
  | .And, false | .Or, true => pure v
  | _, _ => boolOp pos .Or [eval y env]) _ _ _
 exact Zaa (h.step H fun a σ₁ va s₁ h₁ ra H₁ k₁ => Zaa (Zac (Zaa (Zad (Zat (h₁ s₁ va H₁ ra) (fun t s₂ b σ₂ k e H₂ k₂ => by
  subst e
  cases t with
  | false => exact Zae (k.1 rfl s₂ H₂) (fun _ _ p => p.tk (k₁.trans k₂)) fun _ _ e => e
  | true => exact Zab ⟨a, σ₂, k.2 rfl, ra.mono k₂, H₂, k₁.trans k₂⟩))))))
theorem Zs9 {test : Expr} {msg : Option Expr} {pos : Pos} {env : Env} {K : Fl → St → Prop}
  (h : BV C (isTrue test env (eval test env)) σ fun b σ₁ => b = true ∧ K .next σ₁) : XV C (exec (.Assert test msg pos) env) σ K := fun s H => by
 rw [arm_exec_Assert]
 exact Zaa (Zac (Zaa (h.step H fun b σ₁ v s₁ k r H₁ k₁ => by
  obtain ⟨rfl, k⟩ := k
  subst r
  exact Zab ⟨.next, σ₁, k, .next, H₁, k₁⟩)))
theorem Zr5 {x : Str} {xp : Pos} {value : Expr} {pos : Pos} {K : V → St → Prop}
  (h : EV C (eval value C.env) σ fun a σ₁ => U1 C (storeName C.env x) a σ₁ fun σ₂ => K a σ₂) : EV C (eval (.NamedExpr (.Name x xp) value pos) C.env) σ K := fun s H => by
 rw [arm_eval_NamedExpr]
 exact Zaa (h.step H fun a σ₁ va s₁ h₁ ra H₁ k₁ => Zaa (Zad (by
  rw [arm_assign_Name]
  exact Zaa (Zac (Zbl (Zat (h₁ s₁ va H₁ ra) (fun _ s₂ _ σ₂ k _ H₂ k₂ => Zab ⟨a, σ₂, k, ra.mono k₂, H₂, k₁.trans k₂⟩)))))))
noncomputable def V.isNone : V → Bool
 | .none => true
 | _ => false
theorem VR.isNone {h : Heap} {a : V} {v : Value} (r : VR h a v) : (v == Value.none) = a.isNone := by
 cases r <;> rfl
theorem Zmz {a : V} {K : V → St → Prop} (k : K (.bool a.isNone) σ) : OP2 C VR (compareOp .Is) a .none σ K := fun s v u H r1 r2 => by
 o_facts r2
 exact .of (is_none_gen (Pst.here H (by rw [r1.isNone]; exact .bool _) k))
theorem Zg5 {a : V} {K : V → St → Prop} (k : K (.bool (!a.isNone)) σ) : OP2 C VR (compareOp .IsNot) a .none σ K := fun s v u H r1 r2 => by
 o_facts r2
 exact .of (isnot_none_gen (Pst.here H (by rw [r1.isNone]; exact .bool _) k))
theorem Zmt {a : Addr} {K : V → St → Prop} (k : K (.bool true) σ) : OP2 C VR (compareOp .Is) (.ref a) (.ref a) σ K := fun s v u H r1 r2 => by
 o_facts r1; o_facts r2
 exact .of (wpAny_is_ref_self (Pst.here H (.bool _) k))
theorem Zhb {a : Addr} {K : V → St → Prop} (k : K (.bool false) σ) : OP2 C VR (compareOp .IsNot) (.ref a) (.ref a) σ K := fun s v u H r1 r2 => by
 o_facts r1; o_facts r2
 exact .of (isnot_ref_same (Pst.here H (.bool _) k))
theorem Zem {x : Str} {a : Addr} {K : V → St → Prop} (k : K (.bool true) σ) : OP2 C VR (compareOp .IsNot) (.str x) (.ref a) σ K := fun s v u H r1 r2 => by
 o_facts r1; o_facts r2
 exact Zab (Pst.here H (.bool _) k)
theorem Zw0 {K : Bool → St → Prop} (k : K false σ) : TR C .none σ K := fun s v H r => by
 o_facts r
 exact .of (truthy_none (Pst.here (a := false) H rfl k))
theorem Zvf {a : Addr} {l : List V} {K : Bool → St → Prop} (hl : LkO a (.list l) σ.obs) (k : K (!l.isEmpty) σ) (hz : l.length ≤ sizeLine) : TR C (.ref a) σ K := fun s v H r => by
 o_facts r
 refine Zb4 (H.list hl) fun vs n e r => ?_
 have hzz : sizeLine = 16777216 := by decide
 have hlen := r.length
 refine .of (wpAny_truthy_list ⟨_, e, rfl, n, rfl⟩ (by simp [hlen]; lia) ?_)
 have : (!vs.toArray.isEmpty) = !l.isEmpty := by
  cases r <;> simp
 rw [this]
 exact Pst.hereT (n := s.toks + 1 + 1) H rfl k
noncomputable def JV (C : Cx) (out : Str) (parts : List (Sem Value)) (σ : St) (K : V → St → Prop) : Prop := W C VR (joinParts out parts) σ K
theorem Zzl {out : Str} {K : V → St → Prop} (k : K (.str out) σ) (hz : out.length ≤ sizeLine) : JV C out [] σ K := fun s H => .of (joinParts_nil (Pst.hereT H (.str _ _) k) hz)
theorem Zv3 {out : Str} {x : Sem Value} {rest : List (Sem Value)} {K : V → St → Prop}
  (h : EV C x σ fun a σ₁ => ∃ y, a = .str y ∧ (out ++ y).length ≤ sizeLine ∧ JV C (out ++ y) rest σ₁ K) : JV C out (x :: rest) σ K := by
 injection (C σ out x rest K) with h
 intro s H
 rw [joinParts]
 refine Zaa (h.step H ?_)
 rintro a σ₁ va s₁ ⟨y, e, hz, hj⟩ ra H₁ k₁
 subst e
 o_facts ra
 have hz' : ¬ (out.length + y.length > sizeLine) := by rw [← strLen_append]; exact Nat.not_lt.mpr hz
 refine Zaa (Zab ?_)
 show wpP _ _ (if out.length + y.length > sizeLine then _ else _) _ _ s₁
 rw [if_neg hz']
 first
  | exact Zae (hj s₁ H₁) (fun _ _ p => p.tk k₁) fun _ _ e => e
  | exact Zaa (Zab (Zae (hj s₁ H₁) (fun _ _ p => p.tk k₁) fun _ _ e => e))
theorem Zo1 {v₁ v₂ : Expr} {rest : List Expr} {pos : Pos} {env : Env} {K : V → St → Prop} (h : JV C Str.empty (eval v₁ env :: eval v₂ env :: evalEach rest env) σ K) : EV C (eval (.JoinedStr (v₁ :: v₂ :: rest) pos) env) σ K := h
theorem Zi4 {value : Expr} {pos : Pos} {env : Env} {K : V → St → Prop}
  (h : EV C (eval value env) σ fun a σ₁ => ∃ x, a = .str x ∧ x.length ≤ sizeLine ∧ K (.str x) σ₁) : EV C (eval (.FormattedValue value (-1) none pos) env) σ K := fun s H => by
 show wpP _ _ (do let v ← eval value env; standAt pos; formatted pos (← holding [v] (converted (-1) v)) none) _ _ _
 refine Zaa (h.step H ?_)
 rintro a σ₁ va s₁ ⟨x, e, hz, k⟩ ra H₁ k₁
 refine Zaa (Zac ?_)
 subst e
 o_facts ra
 show wpP _ _ (do let v' ← holding [_] (pure _); formatField v' Str.empty) _ _ s₁
 exact Zaa (Zad (Zab (.of (formatField_str (fun t' tk => ⟨_, _, k, .str _ _, H₁.toks tk, k₁⟩) hz))))
theorem Zej {a b : Addr} {l l' : List V} {obs' : List (Addr × AO)} {K : V → St → Prop} (u : UpO a (.list l) (.list (l ++ l')) σ.obs obs') (hl : LkO b (.list l') σ.obs) (k : K (.ref a) ⟨σ.loc, obs'⟩) (hz : l.length + l'.length ≤ sizeLine) :
  OP2 C VR (inplaceOp .Add) (.ref a) (.ref b) σ K := by
 injection (C σ a b l l' obs' K) with u hl k hz
 intro s v u' H r1 r2
 o_facts r1; o_facts r2
 refine Zb4 (H.list u.lk) fun vs n e r => ?_
 refine Zb4 (H.list hl) fun vs' n' e' r' => ?_
 have hzz : sizeLine = 16777216 := by decide
 have h1 := r.length; have h2 := r'.length
 refine And.elim (fun H' tk => ?_) (H.mapList u e (fun xs => xs ++ vs'.toArray) (vs' := vs ++ vs') (by simp) (r.append r'))
 have hfi : fillsInplaceSlot (.type "list") "add" (Operator.Add == .Add) = pure false := by
  unfold fillsInplaceSlot
  show (typeLookup (.type "list") (dunderI "add") >>= fun fi => pure (fi.isSome && !isSeqSlot fi)) = pure false
  rw [F.slot_list_iadd.lookup]; rfl
 have hsi : seqSlot? (.type "list") (dunderI "add") = pure (some (.builtin "list.__iadd__")) := PySem.seqSlot_of F.slot_list_iadd.lookup (by decide +kernel)
 have ta : s.TypeIs (.ref a) "list" := ⟨_, e, rfl⟩
 have tb : s.TypeIs (.ref b) "list" := ⟨_, e', rfl⟩
 refine .of ?_
 unfold inplaceOp
 refine wpAny_holding ?_
 refine wpAny_bind (wpAny_typeOf ta (wpAny_bind (wpAny_of_eq hfi ?_)))
 rw [if_neg Bool.false_ne_true]
 refine wpAny_bind (PyProof.Rows.binaryOp1_none (nm := "add") ta tb noFill_list_add ?_)
 refine wpAny_bind (wpAny_of_eq hsi ?_)
 refine wpAny_bind (wpAny_rule ?_)
 have hbig : ¬ (!vs.toArray.isEmpty && Builtin.List.listTooLong (vs.toArray.size + vs'.toArray.size)) = true := by
  have : Builtin.List.listTooLong (vs.toArray.size + vs'.toArray.size) = false := by
   unfold Builtin.List.listTooLong
   simp [h1, h2]; k_units
  rw [this]; simp
 exact (call_meets F.slot_list_iadd ta F.entry_list_iadd (F.args_list_iadd_2 _ _) (AutoSeq1.list___iadd___list_list_0 a vs.toArray n b vs'.toArray n' hbig (by simp [h1]; lia) (by simp [h1, h2]; lia)) ⟨e, e', _, _, k, .ref _, H', tk⟩)
end
section
variable {C : Cx} {σ : St}
theorem Holds.set2 {s : Shared} (H : Holds C σ s) {a b : Addr} {o o' p p' : AO} {l₁ l₂ : List (Addr × AO)} (u : UpO a o o' σ.obs l₁) (u2 : UpO b p p' l₁ l₂) (hab : a ≠ b) (lb : LkO b p σ.obs) {h' : Heap}
  (k : ∀ c ob, c ≠ a → c ≠ b → s.heap.get? c = some ob → h'.get? c = some ob) {Oa Ob : Obj} (ea : h'.get? a = some Oa) (ra : OR h' o' Oa) (eb : h'.get? b = some Ob) (rb : OR h' p' Ob) (n : Nat) :
  Holds C ⟨σ.loc, l₂⟩ { s with heap := h', toks := n } ∧ TK s.heap h' := by
 refine Zal (H.loc) fun m hN hm => ?_
 refine Zal (H.obj u.lk) fun Oa₀ ea₀ ra₀ => ?_
 refine Zal (H.obj lb) fun Ob₀ eb₀ rb₀ => ?_
 have tk : TK s.heap h' := fun c vs n e => by
  refine k c _ (fun q => ?_) (fun q => ?_) e
  ·subst q; rw [ea₀] at e; exact ra₀.noTup vs n (Option.some.inj e)
  ·subst q; rw [eb₀] at e; exact rb₀.noTup vs n (Option.some.inj e)
 have na : C.env.locals ≠ a := fun q => (List.nodup_cons.mp H.nd).1 (q ▸ List.mem_map.mpr ⟨_, u.lk.mem, rfl⟩)
 have nb : C.env.locals ≠ b := fun q => (List.nodup_cons.mp H.nd).1 (q ▸ List.mem_map.mpr ⟨_, lb.mem, rfl⟩)
 have nfz : ∀ c o x, C.fz c = some x → (c, o) ∈ σ.obs → False := fun c o x e hm => by
  have := H.ap c (.tail _ (List.mem_map.mpr ⟨_, hm, rfl⟩))
  rw [e] at this; cases this
 have keys : l₂.map (·.1) = σ.obs.map (·.1) := by rw [u2.keys, u.keys]
 have nd1 : (l₁.map (·.1)).Nodup := by rw [u.keys]; exact (List.nodup_cons.mp H.nd).2
 refine ⟨⟨fun c ob e => k c ob (fun q => nfz c _ _ e (q ▸ u.lk.mem)) (fun q => nfz c _ _ e (q ▸ lb.mem)) (H.frz c ob e), ⟨m, ?_, fun x v hx => ?_⟩, fun q hq => ?_, ?_, ?_, H.nn, H.gens, H.drawn, H.os⟩, tk⟩
 ·obtain ⟨o, es, ep, e1, e2⟩ := hN
  exact ⟨o, es, ep, k _ _ na nb e1, e2⟩
 ·obtain ⟨val, e1, r1⟩ := hm x v hx
  exact ⟨val, e1, r1.mono tk⟩
 ·rcases u2.mem nd1 q hq with e | ⟨hne, hq1⟩
  ·subst e; exact ⟨_, eb, rb⟩
  ·rcases u.mem (List.nodup_cons.mp H.nd).2 q hq1 with e | ⟨hna, hq0⟩
   ·subst e; exact ⟨_, ea, ra⟩
   ·refine Zal (H.obs q hq0) fun O1 e1 r1 => ?_
    exact ⟨O1, k _ _ hna hne e1, r1.mono tk⟩
 ·show (C.env.locals :: l₂.map (·.1)).Nodup
  rw [keys]; exact H.nd
 ·show ∀ b ∈ C.env.locals :: l₂.map (·.1), C.fz b = none
  rw [keys]; exact H.ap
theorem Holds.more {s : Shared} (E : Holds C σ s) {a : Addr} {o : AO} {O : Obj} (e : s.heap.get? a = some O) (r : OR s.heap o O) (h2 : C.env.locals ≠ a) (h3 : a ∉ σ.obs.map (·.1)) (h4 : C.fz a = none) : Holds C ⟨σ.loc, (a, o) :: σ.obs⟩ s := by
 refine ⟨E.frz, E.loc, fun p hp => ?_, ?_, fun b hb => ?_, E.nn, E.gens, E.drawn, E.os⟩
 ·rcases List.mem_cons.mp hp with q | q
  ·subst q; exact ⟨O, e, r⟩
  ·exact E.obs p q
 ·have h1 := E.nd
  rw [List.nodup_cons] at h1 ⊢
  refine ⟨fun hm => ?_, ?_⟩
  ·rcases List.mem_cons.mp hm with q | q
   ·exact h2 q
   ·exact h1.1 q
  ·exact List.nodup_cons.mpr ⟨h3, h1.2⟩
 ·rcases List.mem_cons.mp hb with q | q
  ·exact E.ap b (q ▸ .head _)
  ·rcases List.mem_cons.mp q with z | z
   ·exact z ▸ h4
   ·exact E.ap b (.tail _ z)
noncomputable def oEnum (it : Addr) (i : Nat) : Ob where
 P _ o := ∃ old, o = { cls := .type "enumerate", dict := none, data := .fields #[.none, .bool false, .ref it, rawInt i, .none, old], slots := #[] }
 mono _ _ _ _ h := h
 noTup _ _ h vs n e := by obtain ⟨old, rfl⟩ := h; simp [Zb7] at e
noncomputable abbrev AO.enum (it : Addr) (i : Nat) : AO := .own (oEnum it i)
theorem Zws {a : Addr} {l : List V} {K : V → St → Prop} (hl : LkO a (.list l) σ.obs) (k : ∀ e it, K (.ref e) ⟨σ.loc, (e, .enum it 0) :: (it, .liter a 0) :: σ.obs⟩) : CF C (.ty "enumerate") [.ref a] σ K := fun s fv vs H rf rl => by
 o_facts rf
 revert rl
 intro rl0
 refine VRs.consK rl0 fun _ _ r rl e0 => ?_
 subst e0
 o_facts rl
 o_facts r
 refine Zb4 (H.list hl) fun vs n e r => ?_
 refine .of (call_enumerate_list ⟨_, e, rfl, n, rfl⟩ fun h' he hit hsz kp => ?_)
 obtain ⟨o, ho, hc, hd⟩ := hit
 have H1 := H.alloc (o := .liter a 0) kp (Nat.le_refl _) ho (.liter hc hd) s.toks
 have H2 := H1.more (a := s.heap.objs.size + 1) (o := .enum s.heap.objs.size 0) he (.own ⟨_, rfl⟩) (fun q => by
  have h1 : @LT.lt Nat _ C.env.locals s.heap.objs.size := H.locLt
  have h2 : @Eq Nat C.env.locals (s.heap.objs.size + 1) := q
  lia) (fun hm => by
  obtain ⟨p, hp, q⟩ := List.mem_map.mp hm
  rcases List.mem_cons.mp hp with z | z
  ·subst z
   have q' : @Eq Nat s.heap.objs.size (s.heap.objs.size + 1) := q
   lia
  ·have h1 : @LT.lt Nat _ p.1 s.heap.objs.size := H.ltOf z
   have q' : @Eq Nat p.1 (s.heap.objs.size + 1) := q
   lia) (by
  cases z : C.fz (s.heap.objs.size + 1) with
  | none => rfl
  | some o =>
   have : @LT.lt Nat _ (s.heap.objs.size + 1) s.heap.objs.size := H.fzLt z
   lia)
 exact ⟨_, _, k _ _, .ref _, H2, .of_ext kp⟩
structure Its2 (C : Cx) (target : Expr) (it it2 : Addr) (o o2 : Nat → AO) (n : Nat) (x : Nat → V) (need : List (Addr × AO) → Prop) : Prop where
 turn : ∀ k loc obs, k < n → need obs → NL C target (.ref it) ⟨loc, (it, o k) :: (it2, o2 k) :: obs⟩ (fun v σ' => v = x k ∧ σ' = ⟨loc, (it, o (k + 1)) :: (it2, o2 (k + 1)) :: obs⟩) (fun _ => False)
 stop : ∀ loc obs, need obs → NL C target (.ref it) ⟨loc, (it, o n) :: (it2, o2 n) :: obs⟩ (fun _ _ => False) (fun σ' => σ' = ⟨loc, obs⟩)
theorem Zlx {elts : List Expr} {kt : Nat} {tp : Pos} {e it a : Addr} {l : List V} (hh : C.A.handled = none) : Its2 C (.Tuple elts kt tp) e it (fun k => .enum it k) (fun k => .liter a k) l.length (fun k => .tup [.int k, l.getD k .none]) (fun obs => LkO a (.list l) obs) where
 turn k loc obs hk hl s E H := by
  injection (C elts kt tp e it a l k loc obs s E) with hh hk hl H
  refine Zb4 (H.list (.tail (.tail hl))) fun vs n e0 r => ?_
  refine Zal (H.obj (.tail .head)) fun O eo ro => ?_
  refine Zal (H.obj .head) fun O2 eo2 ro2 => ?_
  have hne : e ≠ it := fun q => by
   have := (List.nodup_cons.mp (List.nodup_cons.mp H.nd).2).1
   exact this (q ▸ .head _)
  refine And.elim (fun c d => ?_) (OR.literE ro)
  have p := OR.ownE ro2
  obtain ⟨old, rfl⟩ := p
  refine Zal (r.get k (a := l.getD k .none) (by simp [List.getElem?_eq_getElem hk])) fun v hv rv => ?_
  refine .of (wpAny_pyNext_enum_item (i := k) eo2 ⟨O, eo, c, d⟩ ⟨_, e0, rfl, n, rfl⟩ (by simpa using hv) hne fun h' he hit ht hsz kp => ?_)
  refine .of (wpAny_letOwnedTupleGo_enum he fun h2 he2 hs2 => ?_)
  obtain ⟨o3, ho3, hc3, hd3⟩ := hit
  have kp2 : ∀ b o, b ≠ e → b ≠ it → s.heap.get? b = some o → h2.get? b = some o := fun b o h1 h3 hb => hs2.extBut b o h1 (kp b o h1 h3 hb)
  have ho4 := hs2.extBut _ _ (Ne.symm hne) ho3
  obtain ⟨H', tk⟩ := H.set2 (o' := .enum it (k + 1)) (p' := .liter a (k + 1)) .head (.tail .head) hne (.tail .head) kp2 he2 (.own ⟨v, rfl⟩) ho4 (.liter hc3 hd3) (s.toks + 1)
  refine ⟨_, _, ⟨rfl, rfl⟩, ?_, H', tk⟩
  have lt : e < s.heap.objs.size := Heap.lt_size eo2
  exact .tup (hs2.extBut _ _ (Nat.ne_of_gt lt) ht) (.cons (.int _ _) (.cons (rv.mono tk) .nil))
 stop loc obs hl s E H := by
  refine Zb4 (H.list (.tail (.tail hl))) fun vs n e0 r => ?_
  refine Zal (H.obj (.tail .head)) fun O eo ro => ?_
  refine Zal (H.obj .head) fun O2 eo2 ro2 => ?_
  refine And.elim (fun c d => ?_) (OR.literE ro)
  have p := OR.ownE ro2
  obtain ⟨old, rfl⟩ := p
  refine .of (wpAny_pyNext_enum_end hh eo2 ⟨O, eo, c, d⟩ ⟨_, e0, rfl, n, rfl⟩ (by simp [r.length]) fun h' hx => ?_)
  refine And.elim (fun H' tk => ?_) (H.dropExt (.tail .head) hx s.toks)
  exact ⟨_, rfl, H'.drop .head, tk⟩
theorem Zq9 {target : Expr} {it it2 : Addr} {o o2 : Nat → AO} {n : Nat} {x : Nat → V} {need : List (Addr × AO) → Prop} {obs : List (Addr × AO)} {body orelse : List Stmt} {K : Fl → St → Prop} (hE : ∀ e s, ¬ C.E e s)
  (T : Its2 C target it it2 o o2 n x need) (I : Nat → List (Str × Option V) → List (Addr × AO) → Prop)
  (p : Sel σ.obs [(it, o 0), (it2, o2 0)] obs) (h0 : I 0 σ.loc obs) (hn : ∀ k loc obs, I k loc obs → need obs)
  (hs : ∀ k loc obs O O2, k < n → I k loc obs → U1 C (assign target C.env) (x k) ⟨loc, (it, O) :: (it2, O2) :: obs⟩ fun σ₃ =>
   XV C (execs body C.env) σ₃ (lpK (fun σ => ∃ obs', Sel σ.obs [(it, O), (it2, O2)] obs' ∧ I (k + 1) σ.loc obs') K))
  (hf : ∀ loc obs, I n loc obs → XV C (execs orelse C.env) ⟨loc, obs⟩ K) : FL C target (.ref it) body orelse σ K := by
 injection (C σ target it it2 o o2 n x need obs body orelse K I) with hE T p h0 hn hs hf
 have main : ∀ m k loc obs, k + m = n → k ≤ n → I k loc obs → FL C target (.ref it) body orelse ⟨loc, (it, o k) :: (it2, o2 k) :: obs⟩ K := by
  intro m
  induction m with
  | zero =>
   intro k loc obs hm hk hI
   have : k = n := hm
   subst this
   refine Zhs hE ((T.stop loc obs (hn _ _ _ hI)).mono (fun _ _ f => f.elim) fun σ e => ?_)
   subst e
   exact hf loc obs hI
  | succ m ih =>
   intro k loc obs hm hk hI
   refine Zhs hE ((T.turn k loc obs (Zc0 hm) (hn _ _ _ hI)).mono (fun v σ' e => ?_) fun σ f => f.elim)
   obtain ⟨rfl, rfl⟩ := e
   refine OP1.mono (hs k loc obs _ _ (Zc0 hm) hI) fun _ σ₃ h₃ => ?_
   refine W.mono h₃ fun fl σ₄ h₄ => ?_
   have next : ∀ σ₄ : St, (∃ obs', Sel σ₄.obs [(it, o (k + 1)), (it2, o2 (k + 1))] obs' ∧ I (k + 1) σ₄.loc obs') → FL C target (.ref it) body orelse σ₄ K := by
    rintro σ₄ ⟨obs', pk, hI'⟩
    exact Zhn pk.perm (ih (k + 1) σ₄.loc obs' (Zmw hm) (Zc0 hm) hI')
   cases fl with
   | next => exact next σ₄ h₄
   | cont => exact next σ₄ h₄
   | brk => exact h₄
   | ret v => exact h₄
 exact Zhn p.perm (main n 0 σ.loc obs (Nat.zero_add n) (Nat.zero_le _) h0)
theorem Zn6 {elt target iter : Expr} {scope : Scope} {pos : Pos} {it it2 acc : Addr} {o o2 : Nat → AO} {n : Nat} {x : Nat → V} {need : List (Addr × AO) → Prop} {obs : List (Addr × AO)} {K : St → Prop} (hE : ∀ e s, ¬ C.E e s) (hz : n ≤ sizeLine)
  (T : Its2 C target it it2 o o2 n x need) (y : Nat → V) (I : Nat → List (Str × Option V) → List (Addr × AO) → Prop)
  (p : Sel σ.obs [(it, o 0), (it2, o2 0), (acc, .list [])] obs) (h0 : I 0 σ.loc obs) (hn : ∀ k loc obs, I k loc obs → need obs)
  (hmono : ∀ obs l, need obs → need ((acc, .list l) :: obs))
  (hs : ∀ k loc obs O O2 l, k < n → I k loc obs → U1 C (assign target C.env) (x k) ⟨loc, (it, O) :: (it2, O2) :: (acc, .list l) :: obs⟩ fun σ₃ =>
   EV C (eval elt C.env) σ₃ fun v σ₄ => v = y k ∧ ∃ obs', Sel σ₄.obs [(it, O), (it2, O2), (acc, .list l)] obs' ∧ I (k + 1) σ₄.loc obs')
  (hf : ∀ loc obs, I n loc obs → K ⟨loc, (acc, .list ((List.range n).map y)) :: obs⟩) : CLP C (.ListComp elt [⟨target, iter, [], 0⟩] scope pos) (.ref it) (.ref acc) σ K := by
 injection (C σ elt target iter scope pos it it2 acc o o2 n x need obs K y I) with hE hz T p h0 hn hmono hs hf
 have main : ∀ m k loc obs, k + m = n → k ≤ n → I k loc obs → CLP C (.ListComp elt [⟨target, iter, [], 0⟩] scope pos) (.ref it) (.ref acc) ⟨loc, (it, o k) :: (it2, o2 k) :: (acc, .list ((List.range k).map y)) :: obs⟩ K := by
  intro m
  induction m with
  | zero =>
   intro k loc obs hm hk hI
   have : k = n := hm
   subst this
   refine Zes hE ((T.stop loc _ (hmono _ _ (hn _ _ _ hI))).mono (fun _ _ f => f.elim) fun σ e => ?_)
   subst e
   exact hf loc obs hI
  | succ m ih =>
   intro k loc obs hm hk hI
   refine Zes hE ((T.turn k loc _ (Zc0 hm) (hmono _ _ (hn _ _ _ hI))).mono (fun v σ' e => ?_) fun σ f => f.elim)
   obtain ⟨rfl, rfl⟩ := e
   refine OP1.mono (hs k loc obs _ _ _ (Zc0 hm) hI) fun _ σ₃ h₃ => ?_
   refine W.mono h₃ ?_
   rintro v σ₄ ⟨hv, obs', sel, hI'⟩
   subst hv
   intro s w H r
   have P := sel.perm
   have H' : Holds C ⟨σ₄.loc, (it, o (k + 1)) :: (it2, o2 (k + 1)) :: (acc, .list ((List.range k).map y)) :: obs'⟩ s := H.perm P
   have ap := Zcn (C := C) (σ := ⟨σ₄.loc, (it, o (k + 1)) :: (it2, o2 (k + 1)) :: (acc, .list ((List.range k).map y)) :: obs'⟩) (v := y k) (K := fun _ σ₅ => CLP C (.ListComp elt [⟨target, iter, [], 0⟩] scope pos) (.ref it) (.ref acc) σ₅ K) (.tail (.tail .head)) (by
    have := ih (k + 1) σ₄.loc obs' (Zmw hm) (Zc0 hm) hI'
    rw [List.range_succ, List.map_append] at this
    exact this) (by simp; lia)
   exact ap s (.builtin "list.append") [.ref acc, w] H' (.bi _) (.cons (.ref _) (.cons r .nil))
 intro s H
 exact main n 0 σ.loc obs (Nat.zero_add n) (Nat.zero_le _) h0 s (H.perm p.perm)
noncomputable def Zx9 (b : List Nat) (i : Nat) : Ob where
 P _ o := ∃ t, o.cls = .type "bytes_iterator" ∧ o.data = .fields #[.bytes (b.map Nat.toUInt8).toArray t, .int i 0] ∧ ∀ x ∈ b, x < 256
 mono _ _ _ _ h := h
 noTup _ _ h vs n e := by obtain ⟨t, h, _⟩ := h; subst e; simp at h
noncomputable abbrev AO.biter (b : List Nat) (i : Nat) : AO := .own (Zx9 b i)
theorem Zri {b : List Nat} {K : Value → St → Prop} (k : ∀ it, K (.ref it) ⟨σ.loc, (it, .biter b 0) :: σ.obs⟩) : IT C (.bytes b) σ K := fun va s H r => by
 refine VR.bytesK r fun t hb e0 => ?_
 subst e0
 exact .of (KBw.pyIter_bytes ⟨_, k _, H.alloc (o := .biter b 0) (fun b o e => Heap.get?_push_of_some _ e) (Nat.le_refl _) (Heap.get?_push_size _ rfl) (.own ⟨t, rfl, rfl, hb⟩) s.toks, .of_ext fun b o e => Heap.get?_push_of_some _ e⟩)
theorem Zmn {it : Addr} {b : List Nat} {i : Nat} {obs' rest : List (Addr × AO)} {Ks : V → St → Prop} {Kn : St → Prop} (hh : C.A.handled = none) (u : UpO it (.biter b i) (.biter b (i + 1)) σ.obs obs')
  (p : Pick (it, .biter b i) σ.obs rest) (ks : ∀ x, b[i]? = some x → Ks (.int x) ⟨σ.loc, obs'⟩) (kn : b[i]? = none → Kn ⟨σ.loc, rest⟩) : NX C (.ref it) σ Ks Kn := fun s E H => by
 refine Zal (H.obj u.lk) fun O eo ro => ?_
 have q := OR.ownE ro
 obtain ⟨t, c, d, hb⟩ := q
 cases hx : b[i]? with
 | some x =>
  have hx' : (b.map Nat.toUInt8).toArray[i]? = some x.toUInt8 := by simp [hx]
  have hlt : x < 256 := hb x (List.mem_of_getElem? hx)
  refine .of <| KBw.next_item ⟨O, eo, c, d⟩ hx' fun h' hi hs => ?_
  obtain ⟨o2, e2, c2, d2⟩ := hi
  refine And.elim (fun H' tk => ?_) (H.set (o' := .biter b (i + 1)) u hs e2 (.own ⟨t, c2, d2, hb⟩) (s.toks + 1))
  refine ⟨.int x, _, ks x hx, ?_, H', tk⟩
  have : ((x.toUInt8).toNat : Int) = x := by
   have : x.toUInt8.toNat = x % 256 := UInt8.toNat_ofNat'
   rw [this]; lia
  rw [this]
  exact .int _ _
 | none =>
  have hx' : (b.map Nat.toUInt8).toArray[i]? = none := by simpa using hx
  refine .of <| KBw.next_end hh ⟨O, eo, c, d⟩ hx' fun h' hx' => ?_
  refine And.elim (fun H' tk => ?_) (H.dropExt p hx' s.toks)
  exact ⟨_, kn hx, H', tk⟩
theorem Zp3 {s : Shared} {it : Addr} {b : List Nat} {i : Nat} {obs : List (Addr × AO)} {loc : List (Str × Option V)} (H : Holds C ⟨loc, (it, .biter b i) :: obs⟩ s) : ∃ O n, s.heap.get? it = some O ∧ O.cls = .type n ∧ ownsTuple.contains n = false := by
 refine Zal (H.obs _ (.head _)) fun O e ro => ?_
 have q := OR.ownE ro
 obtain ⟨t, c, d, hb⟩ := q; exact ⟨_, _, e, c, by decide⟩
theorem Ze3 {target : Expr} {it : Addr} {b : List Nat} (t : Tgt target) (hh : C.A.handled = none) : Its C target it (fun k => .biter b k) b.length (fun k => vi (b.getD k 0)) (fun _ => True) where
 turn k loc obs hk _ := .tgt t (Zmn hh .head .head (fun x hx => ⟨by simp [List.getD, hx], rfl⟩) (fun h => by simp at h; lia)) (by rintro a σ' ⟨_, e⟩ s H; subst e; exact Zp3 H)
 stop loc obs _ := .tgt t (Zmn hh .head .head (fun x hx => by simp at hx) (fun _ => rfl)) fun a σ' f => f.elim
theorem Zaz {it a : Addr} {i : Nat} (h : LkO it (.liter a i) σ.obs) : Zn4 C (.ref it) σ := fun s E Q H q => by
 refine Zal (H.obj h) fun O eo ro => ?_
 refine And.elim (fun c d => ?_) (OR.literE ro)
 exact .of (wpAny_pyIter_listiter ⟨O, eo, c, d⟩ q)
theorem Zsx {it : Addr} {l : List V} {i : Nat} (h : LkO it (.titer l i) σ.obs) : Zn4 C (.ref it) σ := fun s E Q H q => by
 refine Zal (H.obj h) fun O eo ro => ?_
 refine OR.titerK ro fun _ _ _ c d _ _ => ?_
 exact .of (wpAny_pyIter_tupleiter ⟨O, eo, c, d⟩ q)
theorem Zn0 {it : Addr} {x l st : Int} (h : LkO it (.riter x l st) σ.obs) : Zn4 C (.ref it) σ := fun s E Q H q => by
 refine Zal (H.obj h) fun O eo ro => ?_
 cases ro
 exact .of (wpAny_pyIter_rangeiter eo q)
theorem Zit {it j : Addr} {i : Nat} (h : LkO it (.enum j i) σ.obs) : Zn4 C (.ref it) σ := fun s E Q H q => by
 refine Zal (H.obj h) fun O eo ro => ?_
 have p := OR.ownE ro
 obtain ⟨old, rfl⟩ := p
 exact .of (wpAny_pyIter_enum (i := i) eo q)
theorem Zd2 {it : Addr} {b : List Nat} {i : Nat} (h : LkO it (.biter b i) σ.obs) : Zn4 C (.ref it) σ := fun s E Q H q => by
 refine Zal (H.obj h) fun O eo ro => ?_
 have p := OR.ownE ro
 obtain ⟨t, c, d, hb⟩ := p
 exact .of (KBw.pyIter_self ⟨O, eo, c, d⟩ q)
theorem Zvz {e j : Addr} {i : Nat} {K : Value → St → Prop} (h : LkO e (.enum j i) σ.obs) (k : K (.ref e) σ) : IT C (.ref e) σ K := fun va s H r => by
 o_facts r
 exact Zit h s _ _ H ⟨_, k, H, .refl _⟩
end
theorem Zhl : typeOf (.builtin "str.find") = pure (.type "method_descriptor") := by show builtinType _ = _; rw [builtinType_eq_fast]; kernel_rfl
local macro_rules | `(tactic| k_not) => return rd "( ( ( OP2 _ _ ( PyProof.Rows.subscriptTail _ _ ) ( Mine.V.bytes _ ) ( Mine.V.ref _ ) _ _ ) G ( Zha e ? ( ( o i I ( _ rfl E U b > E ; b ? R ; ( Zja ? R ( Zog ? R ( ( OP2 _ _ ( PyProof.Rows.subscriptTail _ _ ) ( Mine.V.str _ ) ( Mine.V.ref _ ) _ _ ) G ( Zko e ? ( ( o i I ( _ rfl E U b > E ; b ? R ; ( ( OP2 _ _ ( PySem.inplaceOp PySem.Operator.Add ) ( Mine.V.ref _ ) ( Mine.V.ref _ ) _ _ ) G ( Zej s t ? ? R ; ( Zem ? R ( Zhb ? R ( Zmt ? R ( Zg5 ? R ( Zmz ? R | W"
local macro_rules | `(tactic| k_few) => return rd "( ( Zvb ? R ( ( CF _ ( Mine.V.ty _ ) ( List.cons ( Mine.V.ref _ ) List.nil ) _ _ ) G ( Zws t ? R ; | W"
local macro_rules | `(tactic| k_acc1) => return rd "( ( Zgr F.slot_str_find Zhl ? R | W"
local macro_rules | `(tactic| k_accG) => return rd "( ( ( IT _ ( Mine.V.ref _ ) _ _ ) G ( ( Zvz t ? R ( Zqx t ? R | ; ( Zri ? R | W"
local macro_rules | `(tactic| k_get) => return rd "( ( Zi4 ? R ( Zo1 ? R ( Zr5 ? R ( Zyt ? R ( Zw1 ? R | W"
local macro_rules | `(tactic| k_accL) => return rd "( ( Zzl ? ? R ( Zv3 ? R | W"
local macro_rules | `(tactic| k_is) => return rd "( ( ( TR _ ( Mine.V.ref _ ) _ _ ) G ( Zvf t ? ? R ; ( Zw0 ? R | W"
local macro_rules | `(tactic| k_put) => return rd "( ( Zs9 ? R | W"
noncomputable def Zgx (p q : Nat) (name : Str) : Bool := decide (Txt.find name ⟨#[p]⟩ ≥ 0) && Zrk ⟨#[q]⟩ (Zfu name (some (Txt.find name ⟨#[p]⟩ + 1)) none)
theorem Zml {P : Params} {G : Gl} (g : G3 P G) (n : Nat) (p q : Nat) (name : Str) (hn : name.length ≤ 100) (obs : List (Addr × AO)) :
  Fn G (.ref 241) (n + 1) [.str ⟨#[p, q]⟩, .str name] obs fun r o => r = .bool (Zgx p q name) ∧ o = obs := by
 refine Zc3 g ["pair", "name"] ["spot"] [("pair", some (.str ⟨#[p, q]⟩)), ("name", some (.str name)), ("spot", none)] rfl rfl rfl rfl rfl (by kpf_rest) (by decide +kernel) (by decide +kernel) (by decide +kernel) (by kernel_rfl) (by kernel_rfl) (by kernel_rfl) ?_ rfl
 intro N R L
 refine XV.opq fun K hKK => ?_
 injection (fun p q name obs L K => 0) with g hn N hKK
 refine Zag ?_
 have hz : sizeLine = 16777216 := by decide
 w_why
 refine Zaq (c := p) ?_ (by intro o i; exact ⟨[o, i], by kernel_rfl⟩) (by decide) (by decide) rfl
 w_why
 refine ⟨fun h => ?_, fun h => ?_⟩
 ·w_why
  refine Zaq (c := q) ?_ (by intro o i; exact ⟨[o, i], by kernel_rfl⟩) (by decide) (by decide) rfl
  w_why
  intro sl
  w_why
  ·refine ⟨?_, rfl⟩
   simp only [Zgx, ch, h, Bool.true_and]
  ·k_strUnr
  ·lia
 ·w_why
  ·refine ⟨?_, rfl⟩
   simp only [Zgx, ch, h, Bool.false_and]
  ·k_strUnr
theorem getD_some {α : Type} {l : List α} {i : Nat} {d : α} (h : i < l.length) : l[i]? = some (l.getD i d) := by simp [List.getD, List.getElem?_eq_getElem h]
theorem Zah {α β : Type} {f : α → β} {l : List α} {i : Nat} {d : α} {e : β} (h : i < l.length) : (l.map f).getD i e = f (l.getD i d) := by simp [List.getD, List.getElem?_eq_getElem h]
theorem Zgk {α β : Type} (f : α → β) (d : α) (l : List α) : (List.range l.length).map (fun k => f (l.getD k d)) = l.map f := by
 apply List.ext_getElem (by simp)
 intro i h1 h2
 have : i < l.length := by simpa using h2
 simp [List.getD, List.getElem?_eq_getElem this]
theorem Ar.room {G : Gl} {n : Nat} (R : Ar G (n + 1)) : R.A.units + 20 < cLine := by have := R.good.u; lia
section
variable {C : Cx} {σ : St}
noncomputable def Zz3 (C : Cx) (scope : Scope) (clo : List (Str × Addr)) : Bool :=
 scope.names.all fun x => match x.2 with
  | .local => match (Zau C scope clo 0).kindOf x.1 with
   | some .local => true
   | _ => false
  | .cell => false
  | _ => true
theorem Zjx {scope : Scope} {clo : List (Str × Addr)} (h : Zz3 C scope clo = true) : ∀ x ∈ scope.names, x.2 ≠ .cell := fun x hx e => by
 have := List.all_eq_true.mp h x hx
 rw [e] at this; cases this
theorem Zgg {scope : Scope} {clo : List (Str × Addr)} (h : Zz3 C scope clo = true) : ∀ x ∈ scope.names, x.2 = .local → (Zau C scope clo 0).kindOf x.1 = some .local := fun x hx e => by
 have := List.all_eq_true.mp h x hx
 rw [e] at this
 simp only at this
 split at this
 ·assumption
 ·cases this
theorem Zf9 {elt target iter : Expr} {ifs : List Expr} {scope : Scope} {pos : Pos} {K : V → St → Prop} (ln : List Str) (clo : List (Str × Addr)) (hE : ∀ e s, ¬ C.E e s)
  (h : EV C (eval iter C.env) σ fun a σ₁ => IT C a σ₁ fun it σ₂ => ∀ (L acc : Addr) (I : In2 C), Zn4 (I.cx (Zau C scope clo L) C.eg C.eb) it ⟨ln.map (·, none), (acc, .list []) :: σ₂.obs⟩ ∧
   CLP (I.cx (Zau C scope clo L) C.eg C.eb) (.ListComp elt [⟨target, iter, ifs, 0⟩] scope pos) it (.ref acc) ⟨ln.map (·, none), (acc, .list []) :: σ₂.obs⟩ fun σ' => K (.ref acc) ⟨σ₂.loc, σ'.obs⟩)
  (hclo : closureFor scope C.env = pure clo) (hs : ∀ x, foldedSetIterable iter C.env x = pure x) (hk : scope.kind = .function) (hok : Zz3 C scope clo = true) (hln : ln.Nodup) :
  EV C (eval (.ListComp elt [⟨target, iter, ifs, 0⟩] scope pos) C.env) σ K := Zwm ln hE hclo hs hk (Zjx hok) (Zgg hok) hln h
theorem Za3 {x : Str} {xp : Pos} {apos : Pos} {elt target iter : Expr} {ifs : List Expr} {scope : Scope} {pos : Pos} {K : Fl → St → Prop} (ln : List Str) (clo : List (Str × Addr)) (hE : ∀ e s, ¬ C.E e s)
  (h : EV C (eval iter C.env) σ fun a σ₁ => IT C a σ₁ fun it σ₂ => ∀ (L acc : Addr) (I : In2 C), Zn4 (I.cx (Zau C scope clo L) C.eg C.eb) it ⟨ln.map (·, none), (acc, .list []) :: σ₂.obs⟩ ∧
   CLP (I.cx (Zau C scope clo L) C.eg C.eb) (.ListComp elt [⟨target, iter, ifs, 0⟩] scope pos) it (.ref acc) ⟨ln.map (·, none), (acc, .list []) :: σ₂.obs⟩ fun σ' =>
    U1 C (storeName C.env x) (.ref acc) ⟨σ₂.loc, (L, .own oNs) :: σ'.obs⟩ fun σ₃ => ∃ obs₃, Pick (L, .own oNs) σ₃.obs obs₃ ∧ K .next ⟨σ₃.loc, obs₃⟩)
  (hsw : swapsWith (.ListComp elt [⟨target, iter, ifs, 0⟩] scope pos) (some (.Name x xp)) apos.line C.env = pure true)
  (hclo : closureFor scope C.env = pure clo) (hs : ∀ x, foldedSetIterable iter C.env x = pure x) (hk : scope.kind = .function) (hok : Zz3 C scope clo = true) (hln : ln.Nodup) :
  XV C (exec (.Assign [.Name x xp] (.ListComp elt [⟨target, iter, ifs, 0⟩] scope pos) apos) C.env) σ K := Zhm ln hE hsw hclo hs hk (Zjx hok) (Zgg hok) hln h
theorem Zci {a : Addr} {l : List Nat} {x j : Nat} {K : V → St → Prop} (hl : LkO a (.list (l.map vi)) σ.obs) (k : K (.int j) σ) (hj : l[j]? = some x) (hnd : l.Nodup) (hz : l.length ≤ sizeLine) (hu : C.A.units + 20 < cLine) : CF C (.bi "list.index") [.ref a, vi x] σ K := by
 refine Zrs (fun y => Zil y (vi x)) j hl k ?_ ⟨vi x, by simp [hj], beq_self_eq_true (x : Int)⟩ ?_ (by simpa using hz) hu
 ·intro y hy
  obtain ⟨n, _, rfl⟩ := List.mem_map.mp hy
  exact .sc (.int _ _)
 ·intro m hm y hy
  rw [List.getElem?_map] at hy
  cases e : l[m]? with
  | none => rw [e] at hy; cases hy
  | some z =>
   rw [e] at hy
   cases hy
   show ((z : Int) == (x : Int)) = false
   have hne : z ≠ x := fun q => by
    subst q
    obtain ⟨h1, e1⟩ := List.getElem?_eq_some_iff.mp e
    obtain ⟨h2, e2⟩ := List.getElem?_eq_some_iff.mp hj
    exact absurd ((List.getElem_inj (h₀ := h1) (h₁ := h2) hnd).mp (e1.trans e2.symm)) (Nat.ne_of_lt hm)
   exact beq_eq_false_iff_ne.mpr (fun q => hne (by have q' : (z : Int) = x := q; lia))
theorem Zed {f : Addr} {n : Nat} {args : List V} {Q : V → Prop} {K : V → St → Prop} (g : Good C.A n) (F : Fn C.G (.ref f) n args [] fun r o => Q r ∧ o = []) (k : ∀ r, Q r → K r σ) : CF C (.ref f) args σ K :=
 Zxu g F .nil (by rintro r o ⟨h, e⟩; subst e; exact k r h)
theorem Zhz : typeLookup (.type "bytes") (dunderI "add") = pure none := by rw [typeLookup_type, builtinLookup_eq_fast]; kernel_rfl
theorem Zm7 {prog : Program} {w : World} {A : Around} {E : Value → Shared → Prop} {s : Shared} {b c : Array UInt8} {t u : Tok} {Q : Value → Shared → Prop} (hsz : b.size + c.size ≤ 16777216) (h : ∀ t' k, Q (.bytes (b ++ c) t') { s with toks := k }) : wpAny (model prog w) A (inplaceOp .Add (.bytes b t) (.bytes c u)) Q E s := by
 refine iconcat_gives (typeIs_bytes s b t) (typeIs_bytes s c u) Zhz KBy.noFill_bytes_add KBy.seq_bytes_add FB.slot_bytes_add FB.entry_bytes_add (FB.args_bytes_add_2 _ _) (KBy.gives_bytes_add (KBy.tooLong_not hsz)) ?_
 by_cases hb : b.isEmpty = true
 ·rw [if_pos hb]
  have e : b = #[] := Array.isEmpty_iff.1 hb
  have h' := h u s.toks
  rw [e, Array.empty_append] at h'
  exact h'
 ·rw [if_neg hb]
  by_cases hc : c.isEmpty = true
  ·rw [if_pos hc]
   have e : c = #[] := Array.isEmpty_iff.1 hc
   have h' := h t s.toks
   rw [e, Array.append_empty] at h'
   exact h'
  ·rw [if_neg hc]
   exact ⟨by rw [Array.size_append, sizeLine_eq]; exact hsz, h s.toks (s.toks + 1)⟩
theorem Zdw {b c : List Nat} {K : V → St → Prop} (k : K (.bytes (b ++ c)) σ) (hz : b.length + c.length ≤ 16777216) : OP2 C VR (inplaceOp .Add) (.bytes b) (.bytes c) σ K := fun s v u H r1 r2 => by
 refine VR.bytesK r1 fun t hb e0 => ?_
 subst e0
 refine VR.bytesK r2 fun t2 hc e0 => ?_
 subst e0
 refine .of (Zm7 (by simpa using hz) fun t' k' => ?_)
 have : (b.map Nat.toUInt8).toArray ++ (c.map Nat.toUInt8).toArray = ((b ++ c).map Nat.toUInt8).toArray := by simp
 rw [this]
 exact Pst.hereT H (.bytes t' fun x hx => (List.mem_append.mp hx).elim (hb x) (hc x)) k
theorem Zas {v sl : Expr} {a : Addr} {l : List Nat} {i : Int} {K : V → St → Prop} (j : Nat) (hl : LkO a (.list (l.map vi)) σ.obs) (hi : i = j) (hj : j < l.length) (k : K (vi (l.getD j 0)) σ) (hs : ∀ o i, ∃ xs, subscripted sl false o i = operate xs (getItem o i))
  (hz : l.length ≤ sizeLine) : OP2 C VR (subscriptTail v sl) (.ref a) (.int i) σ K := by
 have hzz : sizeLine = 16777216 := by decide
 subst hi
 exact Zai hl k hs (by k_units) (by lia) (by
  show (l.map vi)[j]? = _
  rw [List.getElem?_map, getD_some (d := 0) hj]; rfl)
theorem Zhk {e1 e2 : Expr} {k : Nat} {p : Pos} {a b : V} {K : St → Prop} (hh : C.A.handled = none) (h : U1 C (assign e1 C.env) a σ fun σ₁ => U1 C (assign e2 C.env) b σ₁ K)
  (he : assignEach [e1, e2] C.env = [(false, assign e1 C.env), (false, assign e2 C.env)]) : U1 C (assign (.Tuple [e1, e2] k p) C.env) (.tup [a, b]) σ K := by
 refine Zlz hh ?_ (by rw [he]; rfl) (by rw [he]; rfl)
 rw [he]
 exact Zbx (OP1.mono h fun _ σ₂ k₂ => Zbx (OP1.mono k₂ fun _ σ₃ k₃ => Zhq k₃))
theorem Zhv {e1 e2 e3 : Expr} {k : Nat} {p : Pos} {a b c : V} {K : St → Prop} (hh : C.A.handled = none) (h : U1 C (assign e1 C.env) a σ fun σ₁ => U1 C (assign e2 C.env) b σ₁ fun σ₂ => U1 C (assign e3 C.env) c σ₂ K)
  (he : assignEach [e1, e2, e3] C.env = [(false, assign e1 C.env), (false, assign e2 C.env), (false, assign e3 C.env)]) : U1 C (assign (.Tuple [e1, e2, e3] k p) C.env) (.tup [a, b, c]) σ K := by
 refine Zlz hh ?_ (by rw [he]; rfl) (by rw [he]; rfl)
 rw [he]
 exact Zbx (OP1.mono h fun _ σ₂ k₂ => Zbx (OP1.mono k₂ fun _ σ₃ k₃ => Zbx (OP1.mono k₃ fun _ σ₃ k₃ => Zhq k₃)))
end
local macro_rules | `(tactic| kpf_tidy) => `(tactic| simp only [List.cons_append, List.nil_append])
local macro_rules | `(tactic| k_bytesUnr) => return rd "( Sel.nil E ( Sel.cons A ee !PySem.W.tacticK_bytesUnr ; | W"
theorem Zzq {P : Params} {G : Gl} (g : G3 P G) {a : Addr} (h : keepIn (K3 P) (.ref a) = true) : keepIn G.K (.ref a) = true := by rw [g.K]; exact h
local macro_rules | `(tactic| k_exc) => return rd "( ( ( CA _ ( Mine.V.ref _ ) List.nil _ _ _ _ _ ) G ( ca_K0 ( Zzq a u ) E b ? k R ; | W"
local macro_rules | `(tactic| k_get) => return rd "( ( ( EV _ ( PySem.loadName _ _ ) _ _ ) G ( Zlw k k l ? R ; | W"
local macro_rules | `(tactic| k_accS) => return rd "( ( ( _ e ? > R ( ( EV _ ( PySem.eval ( PySem.Expr.Name _ _ ) _ ) _ _ ) G ( Zo0 u t k u k ? R ; | W"
local macro_rules | `(tactic| k_is) => return rd "( ( ( U1 _ ( PySem.storeName _ _ ) _ _ _ ) G ( Zpf u s k u ? R ; | W"
theorem Zh2 {α β : Type} (f : α → β) (l : List α) (lo hi : Option Int) : slc (l.map f) lo hi = (slc l lo hi).map f := by
 unfold slc; simp [List.map_take, List.map_drop]
theorem Zfo (f : Nat → Nat) (l : List Nat) (w m : Nat) (hw : 0 < w) (hm : l.length = m * w) : swapped (l.map f) w = (swapped l w).map f := by
 unfold swapped
 rw [List.map_map, List.length_map]
 apply List.map_congr_left
 intro p hp
 have hp' : p < m * w := by rw [← hm]; simpa using hp
 have h1 : p / w < m := Nat.div_lt_of_lt_mul (by rwa [Nat.mul_comm] at hp')
 have hlt : p / w * w + (w - 1 - p % w) < l.length := hm ▸ Zp9 h1 (Nat.lt_of_le_of_lt (Nat.sub_le _ _) (Nat.sub_lt hw Nat.one_pos))
 simp [List.getD, List.getElem?_eq_getElem hlt]
structure Cd (codes : List Nat) : Prop where
 len : codes.length = 5
 lt : ∀ x ∈ codes, x < 256
 nd : codes.Nodup
noncomputable abbrev cd (codes : List Nat) (r : Nat) : Nat := codes.getD r 0
noncomputable def Zaj (rk : List Nat) : Nat → List Nat × Nat
 | 0 => ([], 0)
 | k + 1 => let s := Zaj rk k; if rk.getD k 0 < rk.getD (k + 1) 0 then (s.1 ++ swapped (slc rk (some s.2) (some (k + 1 : Nat))) (k + 1 - s.2), k + 1) else s
noncomputable def Zcf (rk : List Nat) : List Nat := (Zaj rk 4).1 ++ swapped (slc rk (some (Zaj rk 4).2) none) (5 - (Zaj rk 4).2)
theorem Zdy (rk : List Nat) (k : Nat) : (Zaj rk k).2 ≤ k := by
 induction k with
 | zero => exact Nat.le_refl _
 | succ k ih =>
  simp only [Zaj]
  split
  ·exact Nat.le_refl _
  ·exact Nat.le_succ_of_le ih
theorem Zb1 (l : List Nat) (w : Nat) : (swapped l w).length = l.length := by simp [swapped]
theorem Zc4 (rk : List Nat) (k : Nat) (h : k < rk.length) : (Zaj rk k).1.length = (Zaj rk k).2 := by
 induction k with
 | zero => rfl
 | succ k ih =>
  have hs := Nat.le_succ_of_le (Zdy rk k)
  have ih := ih (Nat.lt_of_succ_lt h)
  simp only [Zaj]
  split
  ·rw [List.length_append, Zb1, ih, Zgn _ _ _ hs (Nat.le_of_lt h)]
   exact Nat.add_sub_cancel' hs
  ·exact ih
theorem Zq0 {α : Type} {l : List α} {lo hi : Option Int} {x : α} (h : x ∈ slc l lo hi) : x ∈ l := List.mem_of_mem_drop (List.mem_of_mem_take h)
theorem Zq1 {P : Params} {G : Gl} (g : G3 P G) (n : Nat) (a : Addr) (codes rk : List Nat) (c : Cd codes) (hr : rk.length = 5) (hk' : ∀ r ∈ rk, r < 5) (obs : List (Addr × AO)) :
  Fn G (.ref 251) (n + 2) [.bytes (rk.map (cd codes)), .ref a] ((a, .list (codes.map vi)) :: obs) fun r o => r = .bytes ((Zcf rk).map (cd codes)) ∧ o = (a, .list (codes.map vi)) :: obs := by
 refine Zk4 g ["row", "codes"] ["ranks", "laid", "start", "place"] [("row", some (.bytes (rk.map (cd codes)))), ("ranks", none), ("laid", none), ("start", none), ("place", none)] (fun L => [(L + 1, .cell (some (.ref a)))]) rfl rfl rfl rfl rfl (by kpf_rest) (by decide +kernel) (by decide +kernel) (by decide +kernel) (by kernel_rfl) (by kernel_rfl) (by kernel_rfl) ?_ (fun L => by kernel_rfl) (by kernel_rfl)
 intro N R L
 refine XV.opq fun K hKK => ?_
 injection (fun a codes rk obs L K => 1) with g c hr hk' N hKK
 have hz : sizeLine = 16777216 := by decide
 kpf_tidy
 refine Zag ?_
 refine Za3 ["octet"] [("codes", L + 1)] (fun _ _ h => h) ?_ (by kernel_rfl) (by kernel_rfl) (by intro _; kernel_rfl) (by kernel_rfl) (by kernel_rfl) (by decide +kernel)
 w_why
 intro it L2 acc I
 injection (it L2 acc I)
 refine ⟨Zd2 (by k_qdec), ?_⟩
 simp only [List.map_cons, List.map_nil]
 refine Za1 (fun _ _ h => h) ?_ (Ze3 .name R.good.h) (fun k => vi (rk.getD k 0)) (fun k loc o => ∃ oz, loc = ([("octet", oz)] : Loc) ∧ o = (L + 1, .cell (some (.ref a))) :: (a, .list (codes.map vi)) :: obs) (by k_bytesUnr) ?_ (fun _ _ _ _ => trivial) (fun _ _ _ => trivial) ?_ ?_
 ·rw [List.length_map]; lia
 ·exact ei1 _ rfl rfl
 ·intro k loc o O l hk hI
  refine ex1 loc o hI fun oz => ?_
  have hk5 : k < rk.length := by simpa using hk
  have e1 : (List.map (cd codes) rk).getD k 0 = cd codes (rk.getD k 0) := Zah hk5
  have hlt : rk.getD k 0 < codes.length := by rw [c.len]; exact hk' _ (Zam hk5)
  w_how
  w_why
  rw [e1]
  refine Zci (j := rk.getD k 0) (by k_qdec) ?_ (getD_some hlt) c.nd (by rw [c.len]; decide) R.room
  k_cls
  exact ⟨rfl, _, by k_bytesUnr, _, rfl, rfl⟩
 ·intro loc o hI
  refine ex1 loc o hI fun oz => ?_
  injection (loc o oz) with hI
  w_why
  simp only [List.length_map, Zgk]
  with_reducible refine Zeb ?_ (by kernel_rfl) (by kernel_rfl)
  w_why
  refine Zhk R.good.h ?_ (by kernel_rfl)
  w_why
  refine Zdt ?_
  intro r
  injection (r)
  w_why
  refine Zbn (by k_listUnr) ?_ (by decide)
  intro it2
  injection (it2)
  refine Zbv .name (fun _ _ h => h) R.good.h 4 (fun k loc o => ∃ oz, loc = ([("row", some (.bytes (rk.map (cd codes)))), ("ranks", some (.ref acc)), ("laid", some (.bytes ((Zaj rk k).1.map (cd codes)))), ("start", some (.int (Zaj rk k).2)), ("place", oz)] : Loc) ∧ o = (acc, .list (rk.map vi)) :: (L + 1, .cell (some (.ref a))) :: (a, .list (codes.map vi)) :: obs) (by k_listUnr) (by decide) ?_ ?_ ?_
  ·exact ei1 _ rfl rfl
  ·intro k loc o O hk hI
   refine ex1 loc o hI fun oz => ?_
   injection (k loc o O oz) with hk hI
   have e2 : (1 + (k : Int) * 1) = ((k + 1 : Nat) : Int) := by rw [Int.mul_one, Int.add_comm]; rfl
   have hs := Zdy rk k
   have hs1 := Nat.le_succ_of_le hs
   have hk1 : k + 1 < rk.length := hr ▸ Nat.succ_lt_succ hk
   have hw2 : k + 1 - (Zaj rk k).2 ≤ 100 := Nat.le_trans (Nat.sub_le _ _) (Nat.le_trans hk (by decide))
   rw [e2]
   w_how
   rename_i xq1 xq2 xq3 xq4
   injection (xq1 xq2) with xq3 xq4
   w_why
   refine Zas k (by k_qdec) (by simp) (by lia) ?_ (by intro o i; exact ⟨[o, i], by kernel_rfl⟩) (by lia)
   w_why
   refine Zas (k + 1) (by k_qdec) (by simp) (by lia) ?_ (by intro o i; exact ⟨[o, i], by kernel_rfl⟩) (by lia)
   w_why
   refine ⟨fun h => ?_, fun h => ?_⟩
   ·w_why
    intro sl
    injection (sl)
    w_why
    ·have e3 : ((k + 1 : Nat) : Int) - (Zaj rk k).2 = ((k + 1 - (Zaj rk k).2 : Nat) : Int) := (Int.ofNat_sub hs1).symm
     have hlen : (slc rk (some ((Zaj rk k).2 : Int)) (some ((k + 1 : Nat) : Int))).length = 1 * (k + 1 - (Zaj rk k).2) := by rw [Zgn _ _ _ hs1 (Nat.le_of_lt hk1), Nat.one_mul]
     rw [e3, Zh2]
     refine Zed R.good (Zkv g n _ _ 1 [] (Nat.sub_pos_of_lt (Nat.lt_succ_of_le hs)) (by rw [List.length_map]; exact hlen) hw2 (by rw [List.length_map, hlen, Nat.one_mul]; exact hw2) ?_) ?_
     ·intro x hx
      obtain ⟨r, hr2, rfl⟩ := List.mem_map.mp hx
      refine c.lt _ (Zam ?_)
      rw [c.len]; exact hk' _ (Zq0 hr2)
     ·rintro r rfl
      rw [Zfo _ _ _ 1 (Nat.sub_pos_of_lt (Nat.lt_succ_of_le hs)) hlen]
      w_why
      refine Zdw ?_ ?_
      ·w_why
       have hf : Zaj rk (k + 1) = ((Zaj rk k).1 ++ swapped (slc rk (some (Zaj rk k).2) (some (k + 1 : Nat))) (k + 1 - (Zaj rk k).2), k + 1) := by
        have h' : rk.getD k 0 < rk.getD (k + 1) 0 := Int.ofNat_lt.mp (of_decide_eq_true h)
        simp only [Zaj, if_pos h']
       rw [hf]
       rw [List.map_append]
       exact ei1 _ rfl rfl
      ·rw [List.length_map, List.length_map, Zc4 _ _ (Nat.lt_of_succ_lt hk1), Zb1, hlen, Nat.one_mul, Nat.add_sub_cancel' hs1]; exact Nat.le_trans hk (by decide)
    ·rw [List.length_map, hr]; decide
   ·w_why
    have hf : Zaj rk (k + 1) = Zaj rk k := by
     have h' : ¬ rk.getD k 0 < rk.getD (k + 1) 0 := fun q => of_decide_eq_false h (Int.ofNat_lt.mpr q)
     simp only [Zaj, if_neg h']
    rw [hf]
    exact ei1 _ rfl rfl
  ·intro loc o hI
   refine ex1 loc o hI fun oz => ?_
   injection (loc o oz) with hI
   have hs := Zdy rk 4
   have hL := Zc4 rk 4 (hr ▸ by decide)
   have hw2 : 5 - (Zaj rk 4).2 ≤ 100 := Nat.le_trans (Nat.sub_le _ _) (by decide)
   have hw0 : 0 < 5 - (Zaj rk 4).2 := Nat.sub_pos_of_lt (Nat.lt_succ_of_le hs)
   w_why
   intro sl
   w_why
   ·have e3 : (5 : Int) - (Zaj rk 4).2 = ((5 - (Zaj rk 4).2 : Nat) : Int) := (Int.ofNat_sub (Nat.le_succ_of_le hs)).symm
    have hlen : (slc rk (some ((Zaj rk 4).2 : Int)) none).length = 1 * (5 - (Zaj rk 4).2) := by rw [Zk9 _ _ (hr ▸ Nat.le_succ_of_le hs), hr, Nat.one_mul]
    rw [e3, Zh2]
    refine Zed R.good (Zkv g n _ _ 1 [] hw0 (by rw [List.length_map]; exact hlen) hw2 (by rw [List.length_map, hlen, Nat.one_mul]; exact hw2) ?_) ?_
    ·intro x hx
     obtain ⟨r, hr2, rfl⟩ := List.mem_map.mp hx
     refine c.lt _ (Zam ?_)
     rw [c.len]; exact hk' _ (Zq0 hr2)
    ·rintro r rfl
     rw [Zfo _ _ _ 1 hw0 hlen]
     w_why
     refine Zec ?_ ?_
     ·w_why
      ·rw [← List.map_append]
       exact ⟨rfl, rfl⟩
      ·k_strUnr
     ·rw [List.length_map, List.length_map, hL, Zb1, hlen, Nat.one_mul, Nat.add_sub_cancel' (Nat.le_succ_of_le hs)]; decide
   ·rw [List.length_map, hr]; decide
section
variable {C : Cx} {σ : St}
theorem Zoj {elt target iter c : Expr} {scope : Scope} {pos : Pos} {it acc : Addr} {a left step : Int} {obs : List (Addr × AO)} {K : St → Prop} (t : Tgt target) (hE : ∀ e s, ¬ C.E e s) (hh : C.A.handled = none) (n : Nat)
  (b : Nat → Bool) (y : Nat → V) (I : Nat → List (Str × Option V) → List (Addr × AO) → Prop)
  (p : Sel σ.obs [(it, .riter a left step), (acc, .list [])] obs) (hl : left = n) (hz : n ≤ sizeLine) (h0 : I 0 σ.loc obs)
  (hs : ∀ k loc obs O l, k < n → I k loc obs → U1 C (assign target C.env) (.int (a + k * step)) ⟨loc, (it, O) :: (acc, .list l) :: obs⟩ fun σ₃ =>
   BV C (isTrue c C.env (eval c C.env)) σ₃ fun t σ₄ => t = b k ∧
    (b k = true → EV C (eval elt C.env) σ₄ fun v σ₄ => v = y k ∧ ∃ obs', Sel σ₄.obs [(it, O), (acc, .list l)] obs' ∧ I (k + 1) σ₄.loc obs') ∧
    (b k = false → ∃ obs', Sel σ₄.obs [(it, O), (acc, .list l)] obs' ∧ I (k + 1) σ₄.loc obs'))
  (hf : ∀ loc obs, I n loc obs → K ⟨loc, (acc, .list (((List.range n).filter b).map y)) :: obs⟩) : CLP C (.ListComp elt [⟨target, iter, [c], 0⟩] scope pos) (.ref it) (.ref acc) σ K := by
 injection (C σ elt target iter c scope pos it acc a left step obs K n b y I) with t hE hh p hl hz h0 hs hf
 exact Zev hE hz (Zjl (n := n) (a := a) (step := step) t hh) b y I (by subst hl; simpa using p) h0 (fun _ _ _ _ => trivial) (fun _ _ _ => trivial) hs hf
theorem OP2.drp {α β : Type} {R : Heap → β → α → Prop} {f : Value → Value → Sem α} {a b : V} {K : β → St → Prop} (h : OP2 C R f a b σ fun v σ' => ∃ x rest, Pick x σ'.obs rest ∧ K v ⟨σ'.loc, rest⟩) : OP2 C R f a b σ K := fun s v u H r1 r2 =>
 Zae (h s v u H r1 r2) (by rintro _ _ ⟨a, σ', ⟨x, rest, p, k⟩, r, H', t⟩; exact ⟨a, _, k, r, H'.drop p, t⟩) fun _ _ e => e
theorem Zid {a b : Addr} {l l' : List V} {obs' rest : List (Addr × AO)} {K : V → St → Prop} (u : UpO a (.list l) (.list (l ++ l')) σ.obs obs') (hl : LkO b (.list l') σ.obs) (p : Pick (b, .list l') obs' rest) (k : K (.ref a) ⟨σ.loc, rest⟩) (hz : l.length + l'.length ≤ sizeLine) :
  OP2 C VR (inplaceOp .Add) (.ref a) (.ref b) σ K := .drp (Zej u hl ⟨_, _, p, k⟩ hz)
theorem Zf0 : typeOf (.type "bytes") = pure (.type "type") := by kernel_rfl
theorem Zjc {b : List Nat} {K : V → St → Prop} (k : K (.bool true) σ) : CF C (.bi "isinstance") [.bytes b, .ty "bytes"] σ K := fun s fv vs H rf rl => by
 o_facts rf
 revert rl
 intro rl0
 refine VRs.consK rl0 fun _ _ r rl e0 => ?_
 subst e0
 revert rl
 intro rl0
 refine VRs.consK rl0 fun _ _ r2 rl e0 => ?_
 subst e0
 o_facts rl
 o_facts r2
 refine VR.bytesK r fun t hb e0 => ?_
 subst e0
 exact .of (call_isinstance (isinstance_true (Tx := "bytes") Zf0 F.sub_bytes_bytes) ⟨rfl, Pst.here H (.bool _) k⟩)
theorem Zn1 {x : Str} {K : V → St → Prop} (k : K (.bool true) σ) : CF C (.bi "isinstance") [.str x, .ty "str"] σ K := fun s fv vs H rf rl => by
 o_facts rf
 revert rl
 intro rl0
 refine VRs.consK rl0 fun _ _ r rl e0 => ?_
 subst e0
 revert rl
 intro rl0
 refine VRs.consK rl0 fun _ _ r2 rl e0 => ?_
 subst e0
 o_facts rl
 o_facts r2
 o_facts r
 exact .of (call_isinstance (isinstance_true (Tx := "str") F.isi_meta_str F.sub_str_str) ⟨rfl, Pst.here H (.bool _) k⟩)
end
section
variable {C : Cx} {σ : St}
theorem Zu1 {f : Expr} {args : List Expr} {kw : List Keyword} {pos : Pos} {env : Env} {t : Sem Value} {K : Bool → St → Prop} (h : EV C t σ fun a σ₁ => TR C a σ₁ K) : BV C (isTrue (.Call f args kw pos) env t) σ K := Zdf h (by rfl)
theorem Zww {x : Str} {pos : Pos} {env : Env} {t : Sem Value} {K : Bool → St → Prop} (h : EV C t σ fun a σ₁ => TR C a σ₁ K) : BV C (isTrue (.Name x pos) env t) σ K := Zdf h (by rfl)
theorem Zrf {a b : Expr} {op : Operator} {pos : Pos} {env : Env} {t : Sem Value} {K : Bool → St → Prop} (h : EV C t σ fun a σ₁ => TR C a σ₁ K) : BV C (isTrue (.BinOp a op b pos) env t) σ K := Zdf h (by rfl)
theorem Zrl {c : Const} {k : Nat} {pos : Pos} {env : Env} {t : Sem Value} {K : Bool → St → Prop} (h : EV C t σ fun a σ₁ => TR C a σ₁ K) : BV C (isTrue (.Constant c k pos) env t) σ K := Zdf h (by rfl)
theorem Zl0 {e : Expr} {gs : List Comprehension} {sc : Scope} {pos : Pos} {env : Env} {t : Sem Value} {K : Bool → St → Prop} (h : EV C t σ fun a σ₁ => TR C a σ₁ K) : BV C (isTrue (.ListComp e gs sc pos) env t) σ K := Zdf h (by rfl)
end
local macro_rules | `(tactic| k_node) => return rd "( ( Zqw ? R ( Zmq ? R ( bv_or ? R ( Zx5 ? R ( Zl0 ? R ( Zrl ? R ( Zrf ? R ( Zww ? R ( Zu1 ? R | W"
local macro_rules | `(tactic| k_few) => return rd "( ( Zn1 ? R ( Zjc ? R ( ( CF _ ( Mine.V.bi _ ) ( List.cons ( Mine.V.ref _ ) List.nil ) _ _ ) G ( Zka t ? ? R ; ( Zcj ? ? R ( Zmr ? ? R | W"
local macro_rules | `(tactic| k_is) => return rd "( ( Zy3 ? ? R | W"
local macro_rules | `(tactic| k_not) => return rd "( ( Zpx ? R ( Zqg ? R ( Znj ? ? R ( Zki ? R ( Zdw ? ? R ( Zec ? ? R ( ( OP2 _ _ ( PySem.inplaceOp PySem.Operator.Add ) ( Mine.V.ref _ ) ( Mine.V.ref _ ) _ _ ) G ( Zid s t e ? ? R ; | W"
noncomputable def falls (rk : List Nat) : List Nat := (List.range 4).filter fun p => decide (rk.getD p 0 > rk.getD (p + 1) 0)
noncomputable def Zek (rk : List Nat) : List (List Nat) := (falls rk).map fun p => rk.take p ++ [rk.getD (p + 1) 0, rk.getD p 0] ++ rk.drop (p + 2)
theorem Zhg (rk : List Nat) : ∀ p ∈ falls rk, p < 4 := fun p h => by simpa using (List.mem_filter.mp h).1
theorem Zbj {α β : Type} (f g : α → β) : ∀ l : List α, (l.flatMap fun p => [f p, g p]).length = 2 * l.length
 | [] => rfl
 | a :: l => by rw [List.flatMap_cons, List.length_append, Zbj f g l]; simp; lia
theorem Zis (rk : List Nat) : (falls rk).length ≤ 4 := by
 have := List.length_filter_le (fun p => decide (rk.getD p 0 > rk.getD (p + 1) 0)) (List.range 4)
 simpa [falls] using this
theorem Zib (x y : Nat) (l : List Nat) : swapped (x :: y :: l) 2 = y :: x :: swapped l 2 := by
 unfold swapped
 apply List.ext_getElem (by simp)
 intro i h1 h2
 match i with
 | 0 => simp
 | 1 => simp
 | i + 2 =>
  have e1 : (i + 2) / 2 = i / 2 + 1 := by simp
  have e2 : (i + 2) % 2 = i % 2 := by simp
  have e3 : (i / 2 + 1) * 2 + (1 - i % 2) = (i / 2 * 2 + (1 - i % 2)) + 2 := by lia
  simp [e1, e2, e3, List.getD]
theorem Zdj {α : Type} (f g : α → Nat) : ∀ l : List α, swapped (l.flatMap fun p => [f p, g p]) 2 = l.flatMap fun p => [g p, f p]
 | [] => rfl
 | a :: l => by
  rw [List.flatMap_cons, List.flatMap_cons, ← Zdj f g l]
  exact Zib _ _ _
theorem Zwq {α : Type} (l : List α) (j : Nat) (h : j ≤ l.length) : slc l none (some (j : Int)) = l.take j := by
 simp only [slc, Option.elim_some, Option.elim_none, Zet h, List.drop_zero, Nat.sub_zero]
theorem Zg7 {α : Type} (l : List α) (j : Nat) (h : j ≤ l.length) : slc l (some (j : Int)) none = l.drop j := Zl4 l j h
theorem Zvd {α : Type} (l : List α) (i j : Nat) (h : i ≤ j) (hj : j ≤ l.length) : slc l (some (i : Int)) (some (j : Int)) = (l.drop i).take (j - i) := Zk3 l i j (Nat.le_trans h hj) hj
theorem Zgt {α β : Type} (f g : α → β) : ∀ (l : List α) (k : Nat), (l.flatMap fun p => [f p, g p]).drop (2 * k) = (l.drop k).flatMap fun p => [f p, g p]
 | _, 0 => rfl
 | [], k + 1 => by simp
 | a :: l, k + 1 => by
  rw [List.flatMap_cons, show 2 * (k + 1) = 2 * k + 2 by lia]
  exact Zgt f g l k
theorem Zp8 {α β : Type} (f g : α → β) (l : List α) (k : Nat) (d : α) (h : k < l.length) : slc (l.flatMap fun p => [f p, g p]) (some (2 * (k : Int))) (some (2 * (k : Int) + 2)) = [f (l.getD k d), g (l.getD k d)] := by
 have hl := Zbj f g l
 rw [show (2 * (k : Int)) = ((2 * k : Nat) : Int) by simp, show (((2 * k : Nat) : Int) + 2) = ((2 * k + 2 : Nat) : Int) by simp, Zvd _ _ _ (by simp) (by lia), Zgt]
 have e : l.drop k = l.getD k d :: l.drop (k + 1) := by
  rw [List.drop_eq_getElem_cons h]
  simp [List.getD, List.getElem?_eq_getElem h]
 rw [e, show 2 * k + 2 - 2 * k = 2 by simp]
 rfl
theorem Zqj {P : Params} {G : Gl} (g : G3 P G) (n : Nat) (a : Addr) (codes rk : List Nat) (c : Cd codes) (hr : rk.length = 5) (hk' : ∀ r ∈ rk, r < 5) (obs : List (Addr × AO)) :
  Fn G (.ref 246) (n + 2) [.bytes (rk.map (cd codes)), .ref a] ((a, .list (codes.map vi)) :: obs) fun r o => ∃ b, r = .ref b ∧ o = (b, .list ((Zek rk).map fun q => .bytes (q.map (cd codes)))) :: (a, .list (codes.map vi)) :: obs := by
 refine Zk4 g ["row", "codes"] ["octets", "rows", "place", "falls", "turned", "step"] [("row", some (.bytes (rk.map (cd codes)))), ("octets", none), ("rows", none), ("place", none), ("falls", none), ("turned", none), ("step", none)] (fun L => [(L + 1 + 1, .cell none), (L + 1, .cell (some (.ref a)))]) rfl rfl rfl rfl rfl (by kpf_rest) (by decide +kernel) (by decide +kernel) (by decide +kernel) (by kernel_rfl) (by kernel_rfl) (by kernel_rfl) ?_ (fun L => by kernel_rfl) (by kernel_rfl)
 intro N R L
 refine XV.opq fun K hKK => ?_
 injection (fun a codes rk obs L K => 1) with g c hr hk' N hKK
 have hz : sizeLine = 16777216 := by decide
 kpf_tidy
 refine Zag ?_
 with_reducible refine Zeb ?_ (by with_unfolding_all exact rfl) (by with_unfolding_all exact rfl)
 w_why
 refine Zf9 ["octet"] [("codes", L + 1)] (fun _ _ h => h) ?_ (by kernel_rfl) (by intro _; kernel_rfl) (by kernel_rfl) (by kernel_rfl) (by decide +kernel)
 w_why
 intro it L2 acc I
 injection (it L2 acc I)
 refine ⟨Zd2 (by k_qdec), ?_⟩
 simp only [List.map_cons, List.map_nil]
 refine Za1 (fun _ _ h => h) ?_ (Ze3 .name R.good.h) (fun k => vi (rk.getD k 0)) (fun k loc o => ∃ oz, loc = ([("octet", oz)] : Loc) ∧ o = (L + 1 + 1, .cell none) :: (L + 1, .cell (some (.ref a))) :: (a, .list (codes.map vi)) :: obs) (by k_bytesUnr) ?_ (fun _ _ _ _ => trivial) (fun _ _ _ => trivial) ?_ ?_
 ·rw [List.length_map]; lia
 ·exact ei1 _ rfl rfl
 ·intro k loc o O l hk hI
  refine ex1 loc o hI fun oz => ?_
  have hk5 : k < rk.length := by simpa using hk
  have e1 : (List.map (cd codes) rk).getD k 0 = cd codes (rk.getD k 0) := Zah hk5
  have hlt : rk.getD k 0 < codes.length := by rw [c.len]; exact hk' _ (Zam hk5)
  w_how
  w_why
  rw [e1]
  refine Zci (j := rk.getD k 0) (by k_qdec) ?_ (getD_some hlt) c.nd (by rw [c.len]; decide) R.room
  k_cls
  exact ⟨rfl, _, by k_bytesUnr, _, rfl, rfl⟩
 ·intro loc o hI
  refine ex1 loc o hI fun oz => ?_
  injection (loc o oz) with hI
  simp only [List.length_map, Zgk]
  w_why
  intro b1
  injection (b1)
  w_why
  intro b2
  injection (b2)
  w_why
  refine Zhv R.good.h ?_ (by kernel_rfl)
  w_why
  refine Za3 ["place"] [("ranks", L + 1 + 1)] (fun _ _ h => h) ?_ (by kernel_rfl) (by kernel_rfl) (by intro _; kernel_rfl) (by kernel_rfl) (by kernel_rfl) (by decide +kernel)
  w_why
  refine Zfc ?_
  intro r
  injection (r)
  refine Zbn (by k_listUnr) ?_ (Zd8 (by simp) (by simp))
  intro it3 L3 acc3 I3
  injection (it3 L3 acc3 I3)
  refine ⟨Zn0 (by k_qdec), ?_⟩
  simp only [List.map_cons, List.map_nil]
  refine Zoj .name (fun _ _ h => h) R.good.h 4 (fun p => decide (rk.getD p 0 > rk.getD (p + 1) 0)) (fun k => vi k) (fun k loc o => ∃ oz, loc = ([("place", oz)] : Loc) ∧ o = (b2, .list []) :: (b1, .list []) :: (acc, .list (rk.map vi)) :: (L + 1 + 1, .cell (some (.ref acc))) :: (L + 1, .cell (some (.ref a))) :: (a, .list (codes.map vi)) :: obs) (by k_bytesUnr) (by decide) (by decide) ?_ ?_ ?_
  ·exact ei1 _ rfl rfl
  ·intro k loc o O l hk hI
   refine ex1 loc o hI fun oz => ?_
   have e0 : (0 : Int) + k * 1 = k := by simp
   rw [e0]
   w_how
   rename_i xq1 xq2 xq3 xq4
   injection (k loc o O l oz xq1 xq2) with hk hI e0 xq3 xq4
   w_why
   refine Zas k (by k_qdec) rfl (by lia) ?_ (by intro o i; exact ⟨[o, i], by kernel_rfl⟩) (by lia)
   w_why
   refine Zas (k + 1) (by k_qdec) (by simp) (by lia) ?_ (by intro o i; exact ⟨[o, i], by kernel_rfl⟩) (by lia)
   w_why
   refine ⟨by show decide ((rk.getD k 0 : Int) > (rk.getD (k + 1) 0 : Int)) = _; simp, fun hb => ?_, fun hb => ?_⟩
   ·w_why
    exact ⟨rfl, _, by k_bytesUnr, _, rfl, rfl⟩
   ·k_cls
    exact ⟨_, by k_bytesUnr, _, rfl, rfl⟩
  ·intro loc o hI
   refine ex1 loc o hI fun oz => ?_
   injection (loc o oz) with hI
   have ef : (List.filter (fun p => decide (rk.getD p 0 > rk.getD (p + 1) 0)) (List.range 4)) = falls rk := rfl
   rw [ef]
   w_why
   intro itf
   injection (itf)
   refine Zbr (fun _ _ h => h) (Zav (l := (falls rk).map vi) .name R.good.h) (fun k loc o => ∃ oz, loc = ([("row", some (.bytes (rk.map (cd codes)))), ("octets", some (.ref b1)), ("rows", some (.ref b2)), ("place", oz), ("falls", some (.ref acc3)), ("turned", none), ("step", none)] : Loc) ∧ o = (acc3, .list ((falls rk).map vi)) :: (b2, .list []) :: (b1, .list ((((falls rk).take k).flatMap fun p => [cd codes (rk.getD p 0), cd codes (rk.getD (p + 1) 0)]).map vi)) :: (acc, .list (rk.map vi)) :: (L + 1 + 1, .cell (some (.ref acc))) :: (L + 1, .cell (some (.ref a))) :: (a, .list (codes.map vi)) :: obs) (by k_listUnr) ?_ ?_ ?_ ?_
   ·exact ei1 _ rfl rfl
   ·intro k loc o hI
    refine ex1 loc o hI fun oz => ?_
    k_qdec
   ·intro k loc o O hk hI
    refine ex1 loc o hI fun oz => ?_
    injection (k loc o O oz) with hk hI
    have hk2 : k < (falls rk).length := by simpa using hk
    have e1 : ((falls rk).map vi).getD k V.none = vi ((falls rk).getD k 0) := Zah hk2
    have h4 : (falls rk).getD k 0 < 4 := Zhg _ _ (Zam hk2)
    rw [e1]
    w_how
    rename_i xq5 xq6 xq7 xq8
    injection (xq5 xq6) with xq7 xq8
    w_why
    ·intro a1
     w_why
     ·have et : (falls rk).take (k + 1) = (falls rk).take k ++ [(falls rk).getD k 0] := by rw [List.take_add_one, getD_some (d := 0) hk2]; rfl
      have x1 : (((falls rk).getD k 0 : Nat) : Int).toNat = (falls rk).getD k 0 := by simp
      have x2 : ((((falls rk).getD k 0 : Nat) : Int) + 1).toNat = (falls rk).getD k 0 + 1 := by simp
      rw [et, x1, x2, Zah (d := 0) (show (falls rk).getD k 0 < rk.length by lia), Zah (d := 0) (show (falls rk).getD k 0 + 1 < rk.length by lia), List.flatMap_append, List.map_append]
      rfl
     ·rw [List.length_map]
      have := Zbj (fun p => cd codes (rk.getD p 0)) (fun p => cd codes (rk.getD (p + 1) 0)) ((falls rk).take k)
      have h2 := List.length_take_le k (falls rk)
      have h3 : (falls rk).length ≤ 4 := by
       have := List.length_filter_le (fun p => decide (rk.getD p 0 > rk.getD (p + 1) 0)) (List.range 4)
       simpa [falls] using this
      rw [this]
      show _ + 2 ≤ _
      lia
    all_goals first | (rw [List.length_map]; lia) | lia | skip
   ·intro loc o hI
    refine ex1 loc o hI fun oz => ?_
    injection (loc o oz) with hI
    rw [List.length_map, List.take_length]
    have h3 := Zis rk
    have hol := Zbj (fun p => cd codes (rk.getD p 0)) (fun p => cd codes (rk.getD (p + 1) 0)) (falls rk)
    have hb : ∀ x ∈ (falls rk).flatMap fun p => [cd codes (rk.getD p 0), cd codes (rk.getD (p + 1) 0)], x < 256 := by
     intro x hx
     obtain ⟨p, hp, hx⟩ := List.mem_flatMap.mp hx
     have hp4 := Zhg _ _ hp
     have q : ∀ j, j < 5 → cd codes (rk.getD j 0) < 256 := fun j hj => c.lt _ (Zam (by rw [c.len]; exact hk' _ (Zam (by lia))))
     rcases List.mem_cons.mp hx with e | e
     ·subst e; exact q _ (by lia)
     ·rcases List.mem_cons.mp e with e | e
      ·subst e; exact q _ (by lia)
      ·cases e
    w_why
    refine Zb9 (by k_qdec) ?_ hb (by rw [hol]; lia) R.good.h
    w_why
    refine Zed R.good (Zkv g n _ 2 (falls rk).length [] (by simp) (by rw [hol]; lia) (by k_units) (by rw [hol]; lia) hb) ?_
    rintro r rfl
    rw [Zdj]
    w_why
    intro e ite
    injection (e ite)
    w_why
    refine Zq9 (fun _ _ h => h) (Zlx (l := (falls rk).map vi) R.good.h) (fun k loc o => ∃ oz os, loc = ([("row", some (.bytes (rk.map (cd codes)))), ("octets", some (.ref b1)), ("rows", some (.ref b2)), ("place", oz), ("falls", some (.ref acc3)), ("turned", some (.bytes ((falls rk).flatMap fun p => [cd codes (rk.getD (p + 1) 0), cd codes (rk.getD p 0)]))), ("step", os)] : Loc) ∧ ∃ l, o = (acc3, .list ((falls rk).map vi)) :: (b2, .list (((falls rk).take k).map fun p => .bytes ((rk.take p ++ [rk.getD (p + 1) 0, rk.getD p 0] ++ rk.drop (p + 2)).map (cd codes)))) :: (b1, l) :: (acc, .list (rk.map vi)) :: (L + 1 + 1, .cell (some (.ref acc))) :: (L + 1, .cell (some (.ref a))) :: (a, .list (codes.map vi)) :: obs) (by k_bytesUnr) ?_ ?_ ?_ ?_
    ·exact ⟨_, _, rfl, _, rfl⟩
    ·rintro k loc o ⟨oz, os, rfl, l, rfl⟩; k_qdec
    ·intro k loc o O O2 hk hI
     obtain ⟨oz, os, rfl, l, rfl⟩ := hI
     injection (k O O2 oz os l) with hk
     have hk2 : k < (falls rk).length := by simpa using hk
     have e1 : ((falls rk).map vi).getD k V.none = vi ((falls rk).getD k 0) := Zah hk2
     have h4 : (falls rk).getD k 0 < 4 := Zhg _ _ (Zam hk2)
     rw [e1]
     have h1 := Zje ((List.map (cd codes) rk)) none (some (((falls rk).getD k 0 : Nat) : Int))
     have h2 := Zje ((falls rk).flatMap fun p => [cd codes (rk.getD (p + 1) 0), cd codes (rk.getD p 0)]) (some (2 * (k : Int))) (some (2 * (k : Int) + 2))
     have h5 := Zje ((List.map (cd codes) rk)) (some ((((falls rk).getD k 0 : Nat) : Int) + 2)) none
     have h6 := Zbj (fun p => cd codes (rk.getD (p + 1) 0)) (fun p => cd codes (rk.getD p 0)) (falls rk)
     w_how
     rename_i xq9 xq10 xq11 xq12
     injection (xq9 xq10) with xq11 xq12
     refine Zhk R.good.h ?_ (by kernel_rfl)
     w_why
     intro sl
     w_why
     ·intro sl2
      w_why
      ·intro sl3
       w_why
       ·kpf_tidy
        refine ⟨_, by k_bytesUnr, _, _, rfl, l, ?_⟩
        have et : (falls rk).take (k + 1) = (falls rk).take k ++ [(falls rk).getD k 0] := by rw [List.take_add_one, getD_some (d := 0) hk2]; rfl
        rw [et, List.map_append, Zwq _ _ (by rw [List.length_map]; lia), Zp8 _ _ _ k 0 hk2, show ((((falls rk).getD k 0 : Nat) : Int) + 2) = (((falls rk).getD k 0 + 2 : Nat) : Int) by simp, Zg7 _ _ (by rw [List.length_map]; lia)]
        simp only [List.map_append, List.map_cons, List.map_nil, List.map_take, List.map_drop]
       ·rw [List.length_map]; have := List.length_take_le k (falls rk); lia
       ·rw [List.length_append]
        rw [List.length_map] at h1 h5
        lia
       all_goals (rw [List.length_map]; lia)
      all_goals first | (rw [List.length_map] at h1; lia) | k_units
     all_goals first | k_units | (rw [List.length_map]; lia) | exact IntMulOk.of_left (intBits_le_64 (by decide) (by decide))
    ·rintro loc o ⟨oz, os, rfl, l, rfl⟩
     w_why
     refine ⟨fun _ => ?_, fun h => by cases h⟩
     w_why
     ·rfl
     ·rw [List.length_map, List.take_length]
      simp only [Zek, List.map_map, Function.comp_def]
      k_strUnr
noncomputable def oInst (C dx : Addr) : Ob where
 P _ o := o = instObj C dx
 mono _ _ _ _ h := h
 noTup _ _ h vs n e := by subst h; simp [Zb7] at e
noncomputable abbrev AO.inst (C dx : Addr) : AO := .own (oInst C dx)
inductive ORl (h : Heap) : List (Option V) → List (Option Value) → Prop
 | nil : ORl h [] []
 | no {l : List (Option V)} {vs : List (Option Value)} (r : ORl h l vs) : ORl h (none :: l) (none :: vs)
 | so {a : V} {v : Value} {l : List (Option V)} {vs : List (Option Value)} (x : VR h a v) (r : ORl h l vs) : ORl h (some a :: l) (some v :: vs)
theorem ORl.mono {h h' : Heap} (k : TK h h') {l : List (Option V)} {vs : List (Option Value)} (r : ORl h l vs) : ORl h' l vs := by
 induction r with
 | nil => exact .nil
 | no _ ih => exact .no ih
 | so x _ ih => exact .so (x.mono k) ih
theorem ORl.length {h : Heap} {l : List (Option V)} {vs : List (Option Value)} (r : ORl h l vs) : vs.length = l.length := by
 induction r with
 | nil => rfl
 | no _ ih => exact congrArg (· + 1) ih
 | so _ _ ih => exact congrArg (· + 1) ih
theorem ORl.get {h : Heap} {l : List (Option V)} {vs : List (Option Value)} {i : Nat} {a : V} (r : ORl h l vs) (e : l[i]? = some (some a)) : ∃ v, vs[i]? = some (some v) ∧ VR h a v := by
 induction r generalizing i with
 | nil => exact nomatch e
 | no _ ih =>
  cases i with
  | zero => exact nomatch e
  | succ i => exact ih (i := i) e
 | so x _ ih =>
  cases i with
  | zero => exact ⟨_, rfl, Option.some.inj (Option.some.inj e) ▸ x⟩
  | succ i => exact ih (i := i) e
theorem ORl.set {h : Heap} {a : V} {v : Value} (x : VR h a v) {l : List (Option V)} {vs : List (Option Value)} (i : Nat) (r : ORl h l vs) : ORl h (l.set i (some a)) (vs.set i (some v)) := by
 induction r generalizing i with
 | nil => exact .nil
 | no r ih =>
  cases i with
  | zero => exact .so x r
  | succ i => exact .no (ih i)
 | so y r ih =>
  cases i with
  | zero => exact .so x r
  | succ i => exact .so y (ih i)
theorem ORl.pad {h : Heap} {l : List (Option V)} {vs : List (Option Value)} (n : Nat) (r : ORl h l vs) : ORl h (l ++ List.replicate n none) (vs ++ List.replicate n none) := by
 induction l generalizing vs with
 | nil =>
  o_facts r
  induction n with
  | zero => exact .nil
  | succ n ih => exact .no ih
 | cons a l ih =>
  cases r with
  | no r => exact .no (ih r)
  | so x r => exact .so x (ih r)
noncomputable def Zyk (C dx : Addr) (l : List (Option V)) : Ob where
 P h o := ∃ ws : List (Option Value), o = { instObj C dx with slots := ws.toArray } ∧ ORl h l ws
 mono _ _ _ k h := (by obtain ⟨ws, e, r⟩ := h; exact ⟨ws, e, r.mono k⟩)
 noTup _ _ h vs n e := by obtain ⟨ws, rfl, r⟩ := h; simp [Zb7] at e
noncomputable abbrev AO.slots (C dx : Addr) (l : List (Option V)) : AO := .own (Zyk C dx l)
inductive AtR (h : Heap) : List (Str × V) → List DictEntry → Prop
 | nil : AtR h [] []
 | cons {x : Str} {a : V} {t : Tok} {e : DictEntry} {l : List (Str × V)} {es : List DictEntry} (k : e.key = .str x t) (r : VR h a e.val) (rest : AtR h l es) : AtR h ((x, a) :: l) (e :: es)
theorem AtR.mono {h h' : Heap} (k : TK h h') {l : List (Str × V)} {es : List DictEntry} (r : AtR h l es) : AtR h' l es := by
 induction r with
 | nil => exact .nil
 | cons e r _ ih => exact .cons e (r.mono k) ih
theorem AtR.length {h : Heap} {l : List (Str × V)} {es : List DictEntry} (r : AtR h l es) : es.length = l.length := by
 induction r with
 | nil => rfl
 | cons _ _ _ ih => exact congrArg (· + 1) ih
theorem Zj5 {e : DictEntry} {x y : Str} {t : Tok} (k : e.key = .str x t) : e.key.isStr y = (x == y) := by rw [k]; rfl
noncomputable def Zwo (x : Str) (a : V) : List (Str × V) → List (Str × V)
 | [] => [(x, a)]
 | (y, b) :: l => if y == x then (y, a) :: l else (y, b) :: Zwo x a l
theorem AtR.find {h : Heap} (x : Str) {l : List (Str × V)} {es : List DictEntry} (R : AtR h l es) : match l.lookup x with
  | some a => ∃ e, es.find? (·.key.isStr x) = some e ∧ VR h a e.val
  | none => es.find? (·.key.isStr x) = none := by
 induction R with
 | nil => rfl
 | @cons y b t e l es k r rest ih =>
  rw [List.lookup_cons, List.find?_cons, Zj5 k]
  by_cases hx : y = x
  ·subst hx
   simp only [beq_self_eq_true]
   exact ⟨e, rfl, r⟩
  ·rw [beq_false_of_ne hx, beq_false_of_ne (Ne.symm hx)]
   exact ih
theorem AtR.noRef {h : Heap} {l : List (Str × V)} {es : List DictEntry} (R : AtR h l es) : es.any (·.refKey) = false := by
 induction R with
 | nil => rfl
 | cons k r rest ih =>
  rw [List.any_cons, ih, Bool.or_false]
  unfold DictEntry.refKey
  rw [k]
theorem AtR.put {h : Heap} {x : Str} {a : V} {v : Value} {hs : Int} {t : Tok} (ra : VR h a v) {l : List (Str × V)} {es : List DictEntry} (R : AtR h l es) : match es.findIdx? (·.key.isStr x) with
  | some i => AtR h (Zwo x a l) (es.modify i fun e => { e with val := v })
  | none => AtR h (Zwo x a l) (es ++ [⟨hs, .str x t, v⟩]) := by
 induction R with
 | nil => exact .cons rfl ra .nil
 | @cons y b t' e l es k r rest ih =>
  rw [List.findIdx?_cons, Zj5 k]
  unfold Zwo
  cases hx : y == x with
  | true =>
   simp only [if_true]
   exact .cons k ra rest
  | false =>
   simp only [Bool.false_eq_true, if_false]
   cases hi : es.findIdx? (·.key.isStr x) with
   | some i =>
    rw [hi] at ih
    simpa using AtR.cons k r ih
   | none =>
    rw [hi] at ih
    simpa using AtR.cons k r ih
noncomputable def Zxy (l : List (Str × V)) : Ob where
 P h o := ∃ (es : List DictEntry) (n : Nat), o = { cls := .type "dict", data := .dict es.toArray n } ∧ AtR h l es
 mono _ _ _ k h := (by obtain ⟨es, n, e, r⟩ := h; exact ⟨es, n, e, r.mono k⟩)
 noTup _ _ h vs n e := by obtain ⟨es, n', rfl, r⟩ := h; simp [Zb7] at e
noncomputable abbrev AO.attrs (l : List (Str × V)) : AO := .own (Zxy l)
theorem Zgc {h : Heap} {l : List (Str × V)} {es : List DictEntry} {n : Nat} {x : Str} (r : AtR h l es) : match l.lookup x with
  | some a => ∃ v, lookIn x { cls := .type "dict", data := .dict es.toArray n } = some (some v) ∧ VR h a v
  | none => lookIn x { cls := .type "dict", data := .dict es.toArray n } = some none := by
 injection (h l es n x) with r
 have f := r.find x
 have nr := r.noRef
 unfold lookIn
 cases hl : l.lookup x with
 | some a =>
  rw [hl] at f
  obtain ⟨e, h1, h2⟩ := f
  exact ⟨e.val, by simp only [h1], h2⟩
 | none =>
  rw [hl] at f
  simp only [f, nr, Bool.false_eq_true, if_false]
section
variable {C : Cx} {σ : St} {α β : Type}
noncomputable def Zcu (K : Frag) (Cl : Addr) : Bool := findIn K (.ref Cl) "__getattribute__" == some (some (.builtin "object.__getattribute__")) && findIn K (.ref Cl) "__getattr__" == some none
noncomputable def Zhu (K : Frag) (Cl : Addr) (name : Str) : Bool := Zcu K Cl && (clsIn K Cl).any (·.hasDict) && findIn K (.ref Cl) name == some none
noncomputable def Zjw (K : Frag) (Cl : Addr) (name : Str) (f : Addr) : Bool := Zcu K Cl && findIn K (.ref Cl) name == some (some (.ref f)) && typeIn K (.ref f) == some (.type "function")
theorem Holds.inst {s : Shared} (H : Holds C σ s) {x Cl dx : Addr} {l : List (Str × V)} (hx : LkO x (.inst Cl dx) σ.obs) (hd : LkO dx (.attrs l) σ.obs) : ∃ es n, AtR s.heap l es ∧ s.heap.get? dx = some { cls := .type "dict", data := .dict es.toArray n } ∧
  InstAt s.heap x (instObj Cl dx) Cl (some { cls := .type "dict", data := .dict es.toArray n }) := by
 injection (C σ s x Cl dx l) with H hx hd
 refine Zal (H.obj hx) fun O e r => ?_
 refine Zal (H.obj hd) fun O2 e2 r2 => ?_
 have p := OR.ownE r
 have p' : O = instObj Cl dx := p
 subst p'
 have p2 := OR.ownE r2
 obtain ⟨es, n, rfl, ra⟩ := p2
 exact ⟨es, n, ra, e2, e, rfl, rfl, e2⟩
theorem VR.handed {h : Heap} {a : V} {v : Value} (r : VR h a v) (hb : ∀ n, a ≠ .bi n) : handedIn v = true := by
 cases r <;> first | rfl | exact absurd rfl (hb _)
noncomputable abbrev GA (C : Cx) (name : Str) (a : V) (σ : St) (K : V → St → Prop) : Prop := OP1 C VR (fun v => getAttr v name true) a σ K
noncomputable abbrev SA (C : Cx) (name : Str) (a b : V) (σ : St) (K : St → Prop) : Prop := OP2 C (fun _ (_ : Unit) _ => True) (fun o v => setAttr o name v) a b σ fun _ σ => K σ
theorem Zls {x Cl dx : Addr} {l : List (Str × V)} {name : Str} {a : V} {K : V → St → Prop} (hx : LkO x (.inst Cl dx) σ.obs) (hd : LkO dx (.attrs l) σ.obs) (k : K a σ) (hs : Zhu C.G.K Cl name = true) (hl : l.lookup name = some a) (hb : ∀ n, a ≠ .bi n) : GA C name (.ref x) σ K := fun s v H r => by
 o_facts r
 obtain ⟨es, n, ra, ed, I⟩ := H.inst hx hd
 simp only [Zhu, Zcu, Bool.and_eq_true, beq_iff_eq] at hs
 obtain ⟨⟨⟨h1, h2⟩, h3⟩, h4⟩ := hs
 have lk := Zgc (n := n) (x := name) ra
 rw [hl] at lk
 obtain ⟨v, hv, rv⟩ := lk
 obtain ⟨cd, hcd, hh⟩ := any_some h3
 have hf : findObj C.G.K Cl (some { cls := .type "dict", data := .dict es.toArray n }) name = some (.value v) := by
  have ho : W.ownOf cd (some { cls := .type "dict", data := .dict es.toArray n }) name = some (some v) := by
   unfold W.ownOf
   simp only [hh, if_true, hv, Option.bind_some]
  unfold findObj
  rw [hcd]
  show ((findIn C.G.K (.ref Cl) name).bind _) = _
  rw [h4]
  show ((W.ownOf cd _ name).bind _) = _
  rw [ho]; rfl
 refine .of (get_value H.inK I h1 hf (rv.handed hb) (Pst.hereT H rv k))
theorem Zdo {x Cl dx : Addr} {l : List (Str × V)} {name : Str} {K : V → List V → St → Prop} (f : Addr) (hx : LkO x (.inst Cl dx) σ.obs) (hd : LkO dx (.attrs l) σ.obs) (k : K (.ref f) [.ref x] σ) (hs : Zjw C.G.K Cl name f = true) (hl : l.lookup name = none) : GM C (.ref x) name σ K := fun s v pl H r => by
 o_facts r
 obtain ⟨es, n, ra, ed, I⟩ := H.inst hx hd
 simp only [Zjw, Zcu, Bool.and_eq_true, beq_iff_eq] at hs
 obtain ⟨⟨⟨h1, h2⟩, h3⟩, h4⟩ := hs
 have lk : lookIn name { cls := .type "dict", data := .dict es.toArray n } = some none := by
  have z := Zgc (n := n) (x := name) ra
  rw [hl] at z
  exact z
 exact .of (method_fn H.inK I h1 h2 h3 h4 (by show Option.map (fun x => x.isSome) (lookIn name _) = _; rw [lk]; rfl) ⟨_, _, _, k, .ref _, .cons (.ref _) .nil, H, .refl _⟩)
theorem Zwt {o : Expr} {name : Str} {pos : Pos} {env : Env} {K : V → St → Prop} (h : EV C (eval o env) σ fun a σ₁ => GA C name a σ₁ K) (hb : attributeBase o name env (eval o env) = eval o env) : EV C (eval (.Attribute o name pos) env) σ K := fun s H => by
 rw [arm_eval_Attribute, hb]
 exact Zaa (h.step H fun a σ₁ v s₁ k r H₁ t => Zaa (Zac (Zaa (Zad (Zae (k s₁ v H₁ r) (fun w s₂ p => Zaa (Zby (Zab (p.tk t)))) fun _ _ e => e)))))
theorem Zug {o : Expr} {name : Str} {pos : Pos} {a : V} {K : St → Prop} (h : EV C (eval o C.env) σ fun b σ₁ => SA C name b a σ₁ K) : U1 C (assign (.Attribute o name pos) C.env) a σ K := fun s v H r => by
 rw [arm_assign_Attribute]
 exact Zaa (Zad (h.step H fun b σ₁ w s₁ k rw H₁ t => Zaa (Zac (Zaa (Zad (Zae (k s₁ w v H₁ rw (r.mono t)) (fun _ s₂ p => Zbp (p.tk t)) fun _ _ e => e))))))
theorem Zh0 {o : Expr} {name : Str} {pos pos' : Pos} {value : Expr} {K : Fl → St → Prop} (h : EV C (eval value C.env) σ fun a σ₁ => U1 C (assign (.Attribute o name pos') C.env) a σ₁ fun σ => K .next σ)
  (hs : swapsWith value (some (.Attribute o name pos')) pos.line C.env = pure false) : XV C (exec (.Assign [.Attribute o name pos'] value pos) C.env) σ K := fun s H => by
 rw [plainObj_exec_Assign_Attribute o name pos' value pos hs]
 exact Zaa (Zac (Zaa (h.step H fun a σ₁ v s₁ k r H₁ t => Zaa (Zat (k s₁ v H₁ r) (fun _ s₂ _ σ₂ k₂ _ H₂ t₂ => Zab ⟨.next, σ₂, k₂, .next, H₂, t.trans t₂⟩)))))
theorem Znz {o : Expr} {name : Str} {tpos pos : Pos} {op : Operator} {value : Expr} {K : Fl → St → Prop}
  (h : EV C (eval o C.env) σ fun b σ₁ => GA C name b σ₁ fun a σ₂ => EV C (eval value C.env) σ₂ fun c σ₃ => OP2 C VR (inplaceOp op) a c σ₃ fun d σ₄ => SA C name b d σ₄ fun σ => K .next σ) :
  XV C (exec (.AugAssign (.Attribute o name tpos) op value pos) C.env) σ K := by
 injection (C σ o name tpos pos op value K) with h
 intro s H
 rw [arm_exec_AugAssign_2]
 refine Zaa (Zac (Zaa (h.step H fun b σ₁ vb s₁ k₁ r₁ H₁ t₁ => Zaa (Zad (Zaa (Zac (Zaa ?_)))))))
 refine Zat (k₁ s₁ vb H₁ r₁) (fun va s₂ a σ₂ k₂ r₂ H₂ t₂ => ?_)
 refine Zaa (Zad (k₂.step H₂ fun c σ₃ vc s₃ k₃ r₃ H₃ t₃ => Zaa (Zac (Za4 ?_))))
 refine Zat (k₃ s₃ va vc H₃ (r₂.mono t₃) r₃) (fun vd s₄ d σ₄ k₄ r₄ H₄ t₄ => ?_)
 refine Zaa (Zac (Zaa (Zad ?_)))
 refine Zat (k₄ s₄ vb vd H₄ (r₁.mono ((t₂.trans t₃).trans t₄)) r₄) (fun _ s₅ _ σ₅ k₅ _ H₅ t₅ => ?_)
 exact Zaa (Zbp (Zab ⟨.next, σ₅, k₅, .next, H₅, (((t₁.trans t₂).trans t₃).trans t₄).trans t₅⟩))
noncomputable def Zcv (K : Frag) (Cl : Addr) : Bool := plainOver K Cl && findIn K (.ref Cl) "__setattr__" == some (some (.builtin "object.__setattr__"))
noncomputable def Zex (K : Frag) (Cl : Addr) (name : Str) : Bool := Zcv K Cl && takerIn K Cl name == some none && (clsIn K Cl).any (·.hasDict)
theorem Ze7 {x Cl dx : Addr} {l : List (Str × V)} {name : Str} {a : V} {obs' : List (Addr × AO)} {K : St → Prop} (hx : LkO x (.inst Cl dx) σ.obs) (u : UpO dx (.attrs l) (.attrs (Zwo name a l)) σ.obs obs') (k : K ⟨σ.loc, obs'⟩) (hs : Zex C.G.K Cl name = true) (hz : l.length ≤ 1000) : SA C name (.ref x) a σ K := by
 injection (C σ x Cl dx l name a obs' K) with hx u k hs hz
 intro s v w H r1 r2
 o_facts r1
 obtain ⟨es, n, ra, ed, I⟩ := H.inst hx u.lk
 simp only [Zex, Zcv, Bool.and_eq_true, beq_iff_eq] at hs
 obtain ⟨⟨⟨h1, h2⟩, h3⟩, h4⟩ := hs
 obtain ⟨cd, hcd, hh⟩ := any_some h4
 have H1 : Holds C σ { s with toks := s.toks + 1 } := H.toks _
 refine .of (set_plain H.inK I h2 (osa_open (s := { s with toks := s.toks + 1 }) H.inK I h1 h3 fun b => ?_))
 have hz' : sizeLine = 16777216 := by decide
 obtain ⟨hI, -, -, -⟩ := I
 refine wpAny_bind (wpAny_pure (wpAny_bind (wpAny_bind (wpAny_loadPart hI (wpAny_bind (Looks.here (looks_clsIn H.inK hcd) ?_))))))
 rw [hh]
 refine wpAny_pure (a := some dx) (wpAny_bind (wpAny_pure (wpAny_bind ?_)))
 unfold nsSet
 refine wpAny_bind (wpAny_bind (wpAny_askSetting (wpAny_pure (wpAny_bind (wpAny_mkText (wpAny_bind (wpAny_loadPart ed ?_)))))))
 dsimp only
 have c : (!es.toArray.any (·.key.isStr name) && es.toArray.any (·.refKey)) = false := by
  have : es.toArray.any (·.refKey) = false := by rw [List.any_toArray]; exact ra.noRef
  rw [this, Bool.and_false]
 rw [aRefKeyMayBeTheName_at, c]
 refine wpAny_updatePart ed ?_
 have hput := ra.put (x := name) (a := a) (v := w) (hs := PyData.keyHash C.G.w.params name) (t := s.toks + 1) r2
 have new : ∃ (es' : List DictEntry) (n' : Nat), Obj.putName name (PyData.keyHash C.G.w.params name) (.str name (s.toks + 1)) w { cls := .type "dict", data := .dict es.toArray n } = { cls := .type "dict", data := .dict es'.toArray n' } ∧ AtR s.heap (Zwo name a l) es' ∧ es'.length ≤ es.length + 1 := by
  rw [Obj.putName_eq]
  unfold Obj.putNameByArray
  have hidx : es.toArray.findIdx? (·.key.isStr name) = es.findIdx? (·.key.isStr name) := by simp
  dsimp only
  rw [hidx]
  cases hi : es.findIdx? (·.key.isStr name) with
  | some i =>
   rw [hi] at hput
   exact ⟨es.modify i fun e => { e with val := w }, n, by simp, hput, by simp⟩
  | none =>
   rw [hi] at hput
   exact ⟨es ++ [⟨PyData.keyHash C.G.w.params name, .str name (s.toks + 1), w⟩], n + 1, by simp, hput, by simp⟩
 obtain ⟨es', n', e1, e2, e3⟩ := new
 have eg : (s.heap.update dx (Obj.putName name (PyData.keyHash C.G.w.params name) (.str name (s.toks + 1)) w)).get? dx = some { cls := .type "dict", data := .dict es'.toArray n' } := by
  rw [← e1]
  exact Heap.get?_update_self _ ed (by rw [e1]; rfl)
 refine And.elim (fun H' tk => ?_) (H.set (o' := .attrs (Zwo name a l)) u (Heap.SameBut.update ..) eg (.own ⟨es', n', rfl, e2⟩) (s.toks + 1 + 1))
 refine wpAny_bind (wpAny_lookBehind eg (pastItsLine_dict (by
  have := ra.length
  rw [List.size_toArray]; lia)) ?_)
 exact wpAny_pure ⟨(), _, k, trivial, H', tk⟩
end
section
variable {prog : Program} {w : World} {A : Around} {E : Value → Shared → Prop} {s : Shared} {R : Result → Shared → Prop}
theorem Zck {id : String} {args : Args} {b : Builtin} (hq : (Code.builtin id args).quiet = true) (hb : entryFor table id = some b) (hbad : Zr0 (.builtin id args) = false)
  (h : wpP (model prog w) A.in1 (checkBuiltinCall id args) (fun _ s₁ => wpP (model prog w) (A.under (.builtin id args)) (b args)
   (fun fin s' => match fin with | .done f => R (.ok f) s' | .again c' => c'.quiet = true ∧ codeP (model prog w) A c' R s') (fun e s' => R (.error e) s') s₁)
   (fun e s' => R (.error e) s') s) : codeP (model prog w) A (.call (.builtin id) args) R s := by
 refine Zaf rfl ?_
 show wpP _ A.in1 (do checkBuiltinCall id args; again (.builtin id args)) _ _ s
 exact Zaa (Zae h (fun _ s₁ h₁ => Zab (And.intro hq (Zbm hb hbad h₁))) fun _ _ h' => h')
theorem Zub (C : Addr) (rest : List Value) : Builtin.«type.__call__» ⟨.ref C :: rest, []⟩ = (do
  if (← mroOf (.ref C)).isEmpty then rule "type.call.half-made"; raiseError "TypeError" s!"cannot create '{← typeName (.ref C)}' instances"
  let new ← match ← Bind.madeBy (.ref C) with
   | some id => pure (.builtin id)
   | none => getAttr (.ref C) "__new__"
  let obj ← holding [new] (call new (.ref C :: rest) [])
  if !(← isInstance obj (.ref C)) then rule "type.call.new-gave-other-type"; return ← ret obj
  match ← holding [obj] (callSpecial? obj "__init__" rest []) with
  | none => ret obj
  | some r =>
   if r != .none then
    rule "type.call.init-returned-value"
    raiseError "TypeError" s!"__init__() should return None, not '{← typeNameOf r}'"
   ret obj) := by kernel_rfl
theorem Zpt {K : Frag} {Cl fI : Addr} {rest : List Value} {Q : Value → Shared → Prop} (X : K.In s.heap) (hm : makesIn K Cl = true) (hi : findIn K (.ref Cl) "__init__" = some (some (.ref fI))) (hf : typeIn K (.ref fI) = some (.type "function"))
  (h : wpP (model prog w) (A.under (.builtin "type.__call__" ⟨.ref Cl :: rest, []⟩)) (call (.ref fI) (.ref (s.heap.objs.size + 1) :: rest)) (fun v s' => v = .none ∧ Q (.ref (s.heap.objs.size + 1)) s') E
   { s with heap := (s.heap.push emptyDict).push (instObj Cl s.heap.objs.size) }) : wpP (model prog w) A (call (.ref Cl) rest) Q E s := by
 injection (prog w A E s K Cl fI rest Q) with X hm hi hf h
 obtain ⟨hh, g, d, t, os⟩ := s
 have Y := makes_of (M := model prog w) X hm
 have Y' := Y
 obtain ⟨⟨oc, od, cd, sl, hC, e1, e2, e4⟩, made, base, self, top, call, typ⟩ := Y
 injection (hh g d t os oc od cd sl) with X h Y' made base self top call typ hC e1 e2 e4
 have hi' := looks_findIn (M := model prog w) X hi
 have hb' := fun self => bind_fn (M := model prog w) X self hf
 refine Za0 (Zaf rfl ?_)
 have L : ∀ E', wpAny (model prog w) A.in1 (callAny (.ref Cl) ⟨rest, []⟩) (fun fin s' => fin = .again (.call (.builtin "type.__call__") ⟨.ref Cl :: rest, []⟩) ∧ s' = ⟨hh, g, d, t, os⟩) E' ⟨hh, g, d, t, os⟩ := fun E' => by
  refine nd_load hC ?_
  show wpAny _ _ (callAny.viaDunder (.ref Cl) _) _ _ _
  unfold callAny.viaDunder
  refine wpAny_bind (call.at ?_)
  dsimp only
  rw [tc_bind]
  refine wpAny_bind (wpAny_pure (wpAny_bind (wpAny_pure ?_)))
  exact wpAny_pure ⟨rfl, rfl⟩
 refine Zae (.of (L _)) ?_ fun _ _ e => e
 rintro fin s' ⟨a, b⟩
 subst a; subst b
 refine ⟨rfl, Zck (Code.quiet_builtin _ (by decide +kernel)) entry_typeCall rfl (.of (check_slot tc_kind tc_split typ (tc_args _ _ _) ?_))⟩
 rw [Zub]
 have hmro : Looks (model prog w) hh (mroOf (.ref Cl)) cd.mro := ((Looks.ld (part := none) hC).andThen .now).andThen .now
 refine Zaa (.of (hmro.at ?_))
 simp only [e4, Bool.false_eq_true, if_false]
 refine Zaa (.of (made.at ?_))
 refine Zaa (Zab (Zaa (Zad (Za0 (.of (new_K Y' hi' (.inl rfl) ?_))))))
 have k : ∀ b o, hh.get? b = some o → ((hh.push emptyDict).push (instObj Cl hh.objs.size)).get? b = some o := fun b o e => Heap.get?_push_of_some _ (Heap.get?_push_of_some _ e)
 have hx : ((hh.push emptyDict).push (instObj Cl hh.objs.size)).get? (hh.objs.size + 1) = some (instObj Cl hh.objs.size) := by heap_get
 have t1 : Looks (model prog w) ((hh.push emptyDict).push (instObj Cl hh.objs.size)) (typeOf (.ref (hh.objs.size + 1))) (.ref Cl) := (Looks.ld hx).andThen .now
 have s1 := self.keeps k
 have i1 := hi'.keeps k
 have b1 := (hb' (.ref (hh.objs.size + 1))).keeps k
 refine Zaa (.of (wpAny_bind (t1.at (s1.at ?_))))
 simp only [Bool.not_true, Bool.false_eq_true, if_false]
 refine Zaa (Zad ?_)
 unfold callSpecial? specialOf
 refine Zaa (.of (wpAny_bind (t1.at (i1.at ?_))))
 refine Zad (Zaa (.of (b1.at ?_)))
 refine Zaa (Zae h ?_ fun _ _ e => e)
 rintro v s' ⟨a, q⟩
 subst a
 exact Zab (Zab q)
end
section
theorem Good.creation {A : Around} {n : Nat} (g : Good A (n + 1)) (Cl : Addr) (rest : List Value) : Good (A.under (.builtin "type.__call__" ⟨.ref Cl :: rest, []⟩)) n := by
 obtain ⟨d, u, h, ⟨l, f⟩, gg⟩ := g
 have hw : (Code.builtin "type.__call__" ⟨.ref Cl :: rest, []⟩).weight = 1 := by kernel_rfl
 have hu : (Code.builtin "type.__call__" ⟨.ref Cl :: rest, []⟩).cUnits = 1 := by kernel_rfl
 refine ⟨?_, ?_, h, ⟨l, ?_⟩, ?_⟩
 ·show A.depth + (Code.builtin "type.__call__" ⟨.ref Cl :: rest, []⟩).weight + n < _
  rw [hw]; lia
 ·show A.units + (Code.builtin "type.__call__" ⟨.ref Cl :: rest, []⟩).cUnits + 20 * n < _
  rw [hu]; lia
 ·exact f
 ·exact gg
section
open Builtin Builtin.ObjectAttr Builtin.Getset_descriptor
variable {C : Cx} {σ : St} {α β : Type}
theorem Holds.at {s : Shared} (A : Around) (H : Holds C σ s) : Holds { C with A := A } σ s := ⟨H.frz, H.loc, H.obs, H.nd, H.ap, H.nn, H.gens, H.drawn, H.os⟩
theorem Holds.ofAt {s : Shared} {A : Around} (H : Holds { C with A := A } σ s) : Holds C σ s := ⟨H.frz, H.loc, H.obs, H.nd, H.ap, H.nn, H.gens, H.drawn, H.os⟩
noncomputable def Zeh (K : Frag) (Cl fI : Addr) : Bool := makesIn K Cl && findIn K (.ref Cl) "__init__" == some (some (.ref fI)) && typeIn K (.ref fI) == some (.type "function")
theorem Zlt {Cl fI : Addr} {n : Nat} {args : List V} {sel rest : List (Addr × AO)} {oi od : Addr → AO} {K' : Addr → Addr → V → List (Addr × AO) → Prop} {K : V → St → Prop} (hoi : ∀ h dx, OR h (oi dx) (instObj Cl dx)) (hod : ∀ h dx, OR h (od dx) emptyDict) (g : Good C.A (n + 1)) (hs : Zeh C.G.K Cl fI = true)
  (F : ∀ x dx, Fn C.G (.ref fI) n (.ref x :: args) ((x, oi dx) :: (dx, od dx) :: sel) (K' x dx)) (S : Sel σ.obs sel rest) (k : ∀ x dx r obs', K' x dx r obs' → r = .none ∧ K (.ref x) ⟨σ.loc, obs' ++ rest⟩) : CF C (.ref Cl) args σ K := fun s fv vs H rf rl => by
 o_facts rf
 simp only [Zeh, Bool.and_eq_true, beq_iff_eq] at hs
 obtain ⟨⟨h1, h2⟩, h3⟩ := hs
 refine Zpt H.inK h1 h2 h3 ?_
 have k1 : ∀ b o, s.heap.get? b = some o → (s.heap.push emptyDict).get? b = some o := fun b o e => Heap.get?_push_of_some _ e
 have k2 : ∀ b o, (s.heap.push emptyDict).get? b = some o → ((s.heap.push emptyDict).push (instObj Cl s.heap.objs.size)).get? b = some o := fun b o e => Heap.get?_push_of_some _ e
 have szA : (s.heap.push emptyDict).objs.size = s.heap.objs.size + 1 := Heap.size_push _ _
 have H1 := H.alloc (o := od s.heap.objs.size) k1 (Nat.le_refl _) (Heap.get?_push_size _ rfl) (hod _ _) s.toks
 have e2 : ((s.heap.push emptyDict).push (instObj Cl s.heap.objs.size)).get? (s.heap.objs.size + 1) = some (instObj Cl s.heap.objs.size) := by
  rw [← szA]; exact Heap.get?_push_size _ rfl
 have H2 := H1.alloc (o := oi s.heap.objs.size) (a := s.heap.objs.size + 1) k2 (by show (s.heap.push emptyDict).objs.size ≤ _; rw [szA]; exact Nat.le_refl _) e2 (hoi _ _) s.toks
 have tk : TK s.heap ((s.heap.push emptyDict).push (instObj Cl s.heap.objs.size)) := .of_ext fun b o e => k2 _ _ (k1 _ _ e)
 have main := Zoq (C := { C with A := C.A.under (.builtin "type.__call__" ⟨.ref Cl :: vs, []⟩) }) (σ := ⟨σ.loc, (s.heap.objs.size + 1, oi s.heap.objs.size) :: (s.heap.objs.size, od s.heap.objs.size) :: σ.obs⟩)
  (K := fun a σ' => a = .none ∧ K (.ref (s.heap.objs.size + 1)) σ') (F (s.heap.objs.size + 1) s.heap.objs.size) (g.creation Cl vs) (.cons .head (.cons .head S)) (k _ _)
  _ (.ref (s.heap.objs.size + 1) :: vs) (H2.at _) (.cons (.ref _) (rl.mono tk))
 refine Zae main ?_ fun _ _ e => e
 rintro v s' ⟨a, σ', ⟨e, hK⟩, r, H', t⟩
 subst e
 refine ⟨?_, .ref _, σ', hK, .ref _, H'.ofAt, tk.trans t⟩
 o_facts r; rfl
theorem Zrv {Cl : Addr} (fI : Addr) {n : Nat} {args : List V} {sel rest : List (Addr × AO)} {K' : Addr → Addr → V → List (Addr × AO) → Prop} {K : V → St → Prop} (g : Good C.A (n + 1)) (hs : Zeh C.G.K Cl fI = true)
  (F : ∀ x dx, Fn C.G (.ref fI) n (.ref x :: args) ((x, .inst Cl dx) :: (dx, .attrs []) :: sel) (K' x dx)) (S : Sel σ.obs sel rest) (k : ∀ x dx r obs', K' x dx r obs' → r = .none ∧ K (.ref x) ⟨σ.loc, obs' ++ rest⟩) : CF C (.ref Cl) args σ K :=
 Zlt (oi := fun dx => .inst Cl dx) (od := fun _ => .attrs []) (fun _ _ => .own rfl) (fun _ _ => .own ⟨[], 0, rfl, .nil⟩) g hs F S k
theorem Zrc {Cl : Addr} (fI : Addr) {n : Nat} {args : List V} {sel rest : List (Addr × AO)} {K' : Addr → Addr → V → List (Addr × AO) → Prop} {K : V → St → Prop} (g : Good C.A (n + 1)) (hs : Zeh C.G.K Cl fI = true)
  (F : ∀ x dx, Fn C.G (.ref fI) n (.ref x :: args) ((x, .slots Cl dx []) :: (dx, .raw emptyDict) :: sel) (K' x dx)) (S : Sel σ.obs sel rest) (k : ∀ x dx r obs', K' x dx r obs' → r = .none ∧ K (.ref x) ⟨σ.loc, obs' ++ rest⟩) : CF C (.ref Cl) args σ K :=
 Zlt (oi := fun dx => .slots Cl dx []) (od := fun _ => .raw emptyDict) (fun _ _ => .own ⟨[], rfl, .nil⟩) (fun _ _ => .raw _ (fun vs n e => by simp [Zb7] at e)) g hs F S k
noncomputable def Zts (p : Addr) (r : Option Found) : Bool := match r with | some (.bind g q) => g == .builtin "member_descriptor.__get__" && q == .ref p | _ => false
theorem Zwj {p : Addr} {r : Option Found} (h : Zts p r = true) : r = some (.bind (.builtin "member_descriptor.__get__") (.ref p)) := by
 cases r with
 | none => cases h
 | some f =>
  cases f with
  | bind g q =>
   obtain ⟨h1, h2⟩ := Bool.and_eq_true_iff.mp h
   rw [eq_of_beq h1, eq_of_beq h2]
  | _ => cases h
noncomputable def Zmk (K : Frag) (Cl p : Addr) (name : Str) (i : Nat) : Bool := Zcu K Cl && Zts p (findObj K Cl (some emptyDict) name) && slotIn K p Cl == some i
theorem Holds.slot {s : Shared} (H : Holds C σ s) {x Cl dx : Addr} {l : List (Option V)} (hx : LkO x (.slots Cl dx l) σ.obs) (hd : LkO dx (.raw emptyDict) σ.obs) : ∃ ws : List (Option Value), ORl s.heap l ws ∧ s.heap.get? x = some { instObj Cl dx with slots := ws.toArray } ∧
  InstAt s.heap x { instObj Cl dx with slots := ws.toArray } Cl (some emptyDict) := by
 injection (C σ s x Cl dx l) with H hx hd
 refine Zal (H.obj hx) fun O e r => ?_
 refine Zal (H.obj hd) fun O2 e2 r2 => ?_
 have p := OR.ownE r
 obtain ⟨ws, rfl, rs⟩ := p
 cases r2 with
 | raw => exact ⟨ws, rs, e, e, rfl, rfl, e2⟩
theorem Zkm {x Cl dx : Addr} {l : List (Option V)} {name : Str} {a : V} {K : V → St → Prop} (p : Addr) (i : Nat) (hx : LkO x (.slots Cl dx l) σ.obs) (hd : LkO dx (.raw emptyDict) σ.obs) (k : K a σ) (hs : Zmk C.G.K Cl p name i = true) (hl : l[i]? = some (some a)) (hb : ∀ n, a ≠ .bi n) : GA C name (.ref x) σ K := fun s v H r => by
 o_facts r
 obtain ⟨ws, rs, ex, I⟩ := H.slot hx hd
 simp only [Zmk, Zcu, Bool.and_eq_true, beq_iff_eq] at hs
 obtain ⟨⟨⟨h1, h2⟩, h3⟩, h4⟩ := hs
 have hq := Zwj h3
 refine Zal (rs.get hl) fun w hw rw' => ?_
 refine .of (get_bind H.inK I h1 hq h2 (wpAny_call (slot_get (s := { s with toks := s.toks + 1 }) H.inK I h4 (v := w) ?_ ?_)))
 ·show (ws.toArray[i]?).join = some w
  rw [List.getElem?_toArray, hw]; rfl
 ·show wpAny _ _ (handedOut w) _ _ _
  rw [handedOut_of (rw'.handed hb)]
  exact wpAny_pure (Pst.hereT H rw' k)
noncomputable def Zdx (K : Frag) (Cl p : Addr) (name : Str) (i : Nat) : Bool := Zcv K Cl && takerIn K Cl name == some (some (.ref p)) && typeIn K (.ref p) == some (.type "member_descriptor") && slotIn K p Cl == some i
noncomputable def putS (i : Nat) (a : V) (l : List (Option V)) : List (Option V) := (l ++ List.replicate (i + 1 - l.length) none).set i (some a)
theorem Zh5 {x Cl dx : Addr} {l : List (Option V)} {name : Str} {a : V} {obs' : List (Addr × AO)} {K : St → Prop} (p : Addr) (i : Nat) (u : UpO x (.slots Cl dx l) (.slots Cl dx (putS i a l)) σ.obs obs') (hd : LkO dx (.raw emptyDict) σ.obs) (k : K ⟨σ.loc, obs'⟩) (hs : Zdx C.G.K Cl p name i = true) (hi : i < 1000) : SA C name (.ref x) a σ K := by
 injection (C σ x Cl dx l name a obs' K p i) with u hd k hs hi
 intro s v w H r1 r2
 o_facts r1
 obtain ⟨ws, rs, ex, I⟩ := H.slot u.lk hd
 simp only [Zdx, Zcv, Bool.and_eq_true, beq_iff_eq] at hs
 obtain ⟨⟨⟨⟨h1, h2⟩, h3⟩, h4⟩, h5⟩ := hs
 injection (s w ws) with H r2 r1 rs ex I
 have X := H.inK
 refine .of (set_plain X I h2 (osa_descr (s := { s with toks := s.toks + 1 }) KF.slot_mset X I h1 h3 h4 ?_))
 obtain ⟨n, tn, owner, behind, tb, d, sl, cd, ho, hc, hm, hb, rfl⟩ := slot_of X h5
 have hlen := rs.length
 have eg : (s.heap.update x fun o => { o with slots := (o.slots ++ Array.replicate (cd.slotNames.length - 1 - behind.toNat + 1 - o.slots.size) none).setIfInBounds (cd.slotNames.length - 1 - behind.toNat) (some w) }).get? x =
   some { instObj Cl dx with slots := ((ws ++ List.replicate (cd.slotNames.length - 1 - behind.toNat + 1 - ws.length) none).set (cd.slotNames.length - 1 - behind.toNat) (some w)).toArray } := by
  have := Heap.get?_update_self (fun o : Obj => { o with slots := (o.slots ++ Array.replicate (cd.slotNames.length - 1 - behind.toNat + 1 - o.slots.size) none).setIfInBounds (cd.slotNames.length - 1 - behind.toNat) (some w) }) ex rfl
  rw [this]
  simp only [List.size_toArray]
  congr 2
  apply Array.toList_inj.mp
  simp
 obtain ⟨H', tk⟩ := H.set (o' := .slots Cl dx (putS (cd.slotNames.length - 1 - behind.toNat) a l)) u (Heap.SameBut.update ..) eg (.own ⟨_, rfl, by
  unfold putS
  rw [hlen]
  exact (rs.pad _).set r2 _⟩) (s.toks + 1)
 obtain ⟨hh, g, dr, t, os⟩ := s
 have L0 := I.type (M := model C.G.prog C.G.w)
 have L1 := looks_mroIn (M := model C.G.prog C.G.w) X hm
 have L2 : Looks (model C.G.prog C.G.w) hh (Slots.slotNamesOf (.ref Cl)) cd.slotNames := (looks_clsIn X hc).andThen .now
 have hx := I.at_
 dsimp only at ho hx L0 L1
 have f0 := looks_field (M := model C.G.prog C.G.w) ho 0 (v := .str n tn) rfl
 have f1 := looks_field (M := model C.G.prog C.G.w) ho 1 (v := owner) rfl
 have f3 := looks_field (M := model C.G.prog C.G.w) ho 3 (v := .builtin "proto.slot#set") rfl
 have f4 := looks_field (M := model C.G.prog C.G.w) ho 4 (v := .int behind tb) rfl
 refine codeAny_call_builtin KF.slot_mset.plain KF.entry_mset (KF.slot_mset.check _ _ _ _ _ _ _ _ ⟨_, ho, rfl⟩ (KF.args_mset _ _ _) ?_)
 unfold Builtin.«member_descriptor.__set__» descrSet descrStoreThrough descrCheckInstance descrNameAndClass isInstance
 have f5 : Looks (model C.G.prog C.G.w) hh (descrItself (.ref p)) [.ref p] := ((Looks.ld (part := none) ho).andThen .now).andThen (Looks.of_pure (by kernel_rfl))
 repeat (first
  | with_reducible refine Looks.at (by assumption) ?_
  | with_reducible refine wpAny_bind ?_ | with_reducible refine nd_bind ?_ | with_reducible refine wpAny_holding ?_ | with_reducible refine wpAny_onRaise ?_
  | k_node)
 refine ⟨Code.quiet_builtin _ (by decide +kernel), codeAny_builtin KF.entry_slotset ?_⟩
 unfold Builtin.«proto.slot#set» Slots.target
 repeat (first
  | with_reducible refine Looks.at (by assumption) ?_
  | with_reducible refine wpAny_bind ?_ | with_reducible refine nd_bind ?_ | with_reducible refine wpAny_holding ?_ | with_reducible refine wpAny_onRaise ?_
  | k_node)
 rw [if_neg hb]
 refine wpAny_pure (wpAny_bind ?_)
 unfold setSlotAt
 dsimp only
 rw [if_neg (by rw [sizeLine_eq]; lia)]
 exact wpAny_updatePart hx (wpAny_pure ⟨(), _, k, trivial, H', tk⟩)
end
end
inductive KvR (h : Heap) : List (Int × V) → List (Int × Value) → Prop
 | nil : KvR h [] []
 | cons {k : Int} {a : V} {v : Value} {l : List (Int × V)} {m : List (Int × Value)} (x : VR h a v) (r : KvR h l m) : KvR h ((k, a) :: l) ((k, v) :: m)
theorem KvR.mono {h h' : Heap} (t : TK h h') {l : List (Int × V)} {m : List (Int × Value)} (r : KvR h l m) : KvR h' l m := by
 induction r with
 | nil => exact .nil
 | cons x _ ih => exact .cons (x.mono t) ih
theorem KvR.length {h : Heap} {l : List (Int × V)} {m : List (Int × Value)} (r : KvR h l m) : m.length = l.length := by
 induction r with
 | nil => rfl
 | cons _ _ ih => exact congrArg (· + 1) ih
theorem KvR.get {h : Heap} {l : List (Int × V)} {m : List (Int × Value)} {i : Nat} {k : Int} {a : V} (r : KvR h l m) (e : l[i]? = some (k, a)) : ∃ v, m[i]? = some (k, v) ∧ VR h a v := by
 induction r generalizing i with
 | nil => exact nomatch e
 | cons x _ ih =>
  cases i with
  | zero => cases e; exact ⟨_, rfl, x⟩
  | succ i => exact ih (i := i) e
noncomputable def Zwu (k : Int) (a : V) (l : List (Int × V)) : List (Int × V) := if l.any (fun kv => kv.1 = k) then l.map (fun kv => if kv.1 = k then (kv.1, a) else kv) else l ++ [(k, a)]
theorem KvR.any {h : Heap} (p : Int → Bool) {l : List (Int × V)} {m : List (Int × Value)} (r : KvR h l m) : m.any (fun kv => p kv.1) = l.any (fun kv => p kv.1) := by
 induction r with
 | nil => rfl
 | cons _ _ ih => exact congrArg (p _ || ·) ih
theorem KvR.append {h : Heap} {l' : List (Int × V)} {m' : List (Int × Value)} (y : KvR h l' m') {l : List (Int × V)} {m : List (Int × Value)} (r : KvR h l m) : KvR h (l ++ l') (m ++ m') := by
 induction r with
 | nil => exact y
 | cons x _ ih => exact .cons x ih
theorem KvR.map {h : Heap} {k : Int} {a : V} {v : Value} (y : VR h a v) {l : List (Int × V)} {m : List (Int × Value)} (r : KvR h l m) : KvR h (l.map (fun kv => if kv.1 = k then (kv.1, a) else kv)) (m.map (fun kv => if kv.1 = k then (kv.1, v) else kv)) := by
 induction r with
 | nil => exact .nil
 | cons x _ ih =>
  simp only [List.map_cons]
  split
  ·exact .cons y ih
  ·exact .cons x ih
theorem KvR.put {h : Heap} {k : Int} {a : V} {v : Value} {l : List (Int × V)} {m : List (Int × Value)} (y : VR h a v) (r : KvR h l m) : KvR h (Zwu k a l) (stored m k v) := by
 unfold Zwu stored
 have e : (m.any fun kv => decide (kv.1 = k)) = l.any fun kv => decide (kv.1 = k) := r.any fun i => decide (i = k)
 rw [e]
 split
 ·exact r.map y
 ·exact KvR.append (.cons y .nil) r
noncomputable def Zoo (k : Int) (l : List (Int × V)) : List (Int × V) := l.filter fun kv => decide (kv.1 ≠ k)
theorem KvR.without {h : Heap} {k : Int} {l : List (Int × V)} {m : List (Int × Value)} (r : KvR h l m) : KvR h (Zoo k l) (PySem.without m k) := by
 induction r with
 | nil => exact .nil
 | cons x _ ih =>
  unfold Zoo PySem.without at ih ⊢
  simp only [List.filter_cons]
  split
  ·exact .cons x ih
  ·exact ih
theorem KvR.val {h : Heap} (k : Int) {l : List (Int × V)} {m : List (Int × Value)} (R : KvR h l m) : match l.lookup k with
  | some a => ∃ v, valueAt m k = some v ∧ VR h a v
  | none => valueAt m k = none := by
 induction R with
 | nil => rfl
 | @cons k' a v l m x r ih =>
  rw [List.lookup_cons]
  unfold valueAt at ih ⊢
  rw [List.find?_cons]
  by_cases e : k = k'
  ·subst e
   simp only [beq_self_eq_true, decide_true]
   exact ⟨v, rfl, x⟩
  ·rw [beq_false_of_ne e, decide_eq_false (Ne.symm e)]
   exact ih
theorem Zmy {p p' : Program} {w w' : World} {es : List DictEntry} {kv : List (Int × Value)} (h : Pairs (intKind p w) es kv) : Pairs (intKind p' w') es kv := by
 induction h with
 | nil => exact .nil
 | cons a b _ ih => exact .cons a b ih
theorem Zso {p p' : Program} {w w' : World} {o : Obj} {kv : List (Int × Value)} {ep : Nat} (h : KdkAt (intKind p w) o kv ep) : KdkAt (intKind p' w') o kv ep :=
 (by obtain ⟨es, h1, h2, h3, h4, h5⟩ := h; exact ⟨es, h1, h2, h3, Zmy h4, h5⟩)
noncomputable def oDict (oe : Option Nat) (l : List (Int × V)) : Ob where
 P h o := o.ExactDict ∧ ∃ ep kv, (∀ e, oe = some e → e = ep) ∧ (∀ p w, KdkAt (intKind p w) o kv ep) ∧ KvR h l kv
 mono _ _ _ k h := (by obtain ⟨x, ep, kv, a, b, c⟩ := h; exact ⟨x, ep, kv, a, b, c.mono k⟩)
 noTup _ _ h vs n e := by obtain ⟨⟨x, _⟩, _⟩ := h; subst e; simp at x
noncomputable abbrev AO.dictE (oe : Option Nat) (l : List (Int × V)) : AO := .own (oDict oe l)
noncomputable abbrev AO.dict (l : List (Int × V)) : AO := .dictE none l
section
variable {C : Cx} {σ : St} {α β : Type}
theorem Holds.sm {s : Shared} (H : Holds C σ s) {a : Addr} (ha : a ∈ σ.obs.map (·.1)) : (a == sysModules) = false := by
 obtain ⟨o, e⟩ := C.ok.sm
 have := H.ap a (.tail _ ha)
 rw [beq_eq_false_iff_ne]
 rintro rfl
 rw [e] at this; cases this
theorem LkO.key {a : Addr} {o : AO} {l : List (Addr × AO)} (h : LkO a o l) : a ∈ l.map (·.1) := List.mem_map.mpr ⟨_, h.mem, rfl⟩
theorem Holds.dict {s : Shared} (H : Holds C σ s) {d : Addr} {oe : Option Nat} {l : List (Int × V)} (h : LkO d (.dictE oe l) σ.obs) : ∃ o ep kv, s.heap.get? d = some o ∧ (∀ e, oe = some e → e = ep) ∧ (∀ p w, KdkAt (intKind p w) o kv ep) ∧ KvR s.heap l kv := by
 injection (C σ s d oe l) with H h
 refine Zal (H.obj h) fun O e r => ?_
 have p := OR.ownE r
 obtain ⟨x, ep, kv, a, b, c⟩ := p; exact ⟨O, ep, kv, e, a, b, c⟩
theorem Zdn {prog : Program} {w : World} {h : Heap} {d : Addr} {o : Obj} {kv : List (Int × Value)} {ep : Nat} (e : h.get? d = some o) (k : ∀ p w, KdkAt (intKind p w) o kv ep) : h.DictOf (intKind prog w) d kv := (KdkAt.dictAt (k prog w) e).dictOf
theorem Zwc {d : Addr} {oe : Option Nat} {l : List (Int × V)} (h : LkO d (.dictE oe l) σ.obs) (s : Shared) (va : Value) (r : VR s.heap (.ref d) va) (H : Holds C σ s) : s.TypeIs va "dict" := by
 o_facts r
 obtain ⟨o, ep, kv, e, a, b, c⟩ := H.dict h
 exact (Zdn (prog := C.G.prog) (w := C.G.w) e b).typeIs
theorem Zll {d : Addr} {oe : Option Nat} {l : List (Int × V)} {k : Int} {x : V} {K : V → St → Prop} (h : LkO d (.dictE oe l) σ.obs) (hx : l.lookup k = some x) (kk : K x σ) : OP2 C VR getItem (.ref d) (.int k) σ K := fun s v u H r1 r2 => by
 o_facts r1; o_facts r2
 obtain ⟨o, ep, kv, e, a, b, c⟩ := H.dict h
 have z := c.val k
 rw [hx] at z
 obtain ⟨w, hw, rw'⟩ := z
 exact .of (wpAny_getItem_of (intKind_is _ _ _ _) (Zdn (prog := C.G.prog) (w := C.G.w) e b).mapOf hw (Pst.hereT H rw' kk))
theorem Zdb {v sl : Expr} {d : Addr} {oe : Option Nat} {l : List (Int × V)} {k : Int} {x : V} {K : V → St → Prop} (h : LkO d (.dictE oe l) σ.obs) (kk : K x σ) (hs : ∀ o i, ∃ xs, subscripted sl false o i = operate xs (getItem o i)) (hx : l.lookup k = some x) : OP2 C VR (subscriptTail v sl) (.ref d) (.int k) σ K :=
 Zca "dict" (Zwc h) slot_dict_getitem.lookup (Zll h hx kk) hs
theorem Zlb {d : Addr} {oe : Option Nat} {l : List (Int × V)} {name : Str} {id : String} {K : V → List V → St → Prop} (h : LkO d (.dictE oe l) σ.obs) (slot : Slot "dict" name id) (hty : typeOf (.builtin id) = pure (.type "method_descriptor")) (k : K (.bi id) [.ref d] σ) : GM C (.ref d) name σ K := fun s v pl H r => by
 o_facts r
 obtain ⟨o, ep, kv, e, a, b, c⟩ := H.dict h
 have hD := Zdn (prog := C.G.prog) (w := C.G.w) e b
 exact .of (getMethod_builtin hD.typeIs PySem.F.plainAttrs_dict slot hty hD.mapOf.noDict ⟨_, _, _, k, .bi _, .cons (.ref d) .nil, H, .refl _⟩)
theorem Ze9 {d : Addr} {oe : Option Nat} {l : List (Int × V)} {k : Int} {K : V → St → Prop} (h : LkO d (.dictE oe l) σ.obs) (kk : K ((l.lookup k).getD .none) σ) : CF C (.bi "dict.get") [.ref d, .int k] σ K := by
 injection (C σ d oe l k K) with h kk
 intro s fv vs H rf rl
 injection (s fv vs) with H rf rl
 o_facts rf
 revert rl
 intro rl0
 refine VRs.consK rl0 fun _ _ r rl e0 => ?_
 subst e0
 revert rl
 intro rl0
 refine VRs.consK rl0 fun _ _ r2 rl e0 => ?_
 subst e0
 o_facts rl
 o_facts r; o_facts r2
 obtain ⟨o, ep, kv, e, a, b, c⟩ := H.dict h
 rename_i zq139_1 zq139_2
 injection (zq139_1 o ep kv) with r2 zq139_2 rl0 e a b c
 have hD := Zdn (prog := C.G.prog) (w := C.G.w) e b
 refine .of (call_meetsIn PySem.F.slot_dict_get hD.typeIs PySem.F.entry_dict_get (PySem.F.args_dict_get_2 _ _) (meets_dict_get (intKind C.G.prog C.G.w) d (intKind_is _ _ _ _) (H.sm h.key)) ⟨_, hD.mapOf, ?_⟩)
 have z := c.val k
 cases hl : l.lookup k with
 | some x =>
  rw [hl] at z kk
  obtain ⟨w, hw, rw'⟩ := z
  rw [hw]
  exact Pst.hereT H rw' kk
 | none =>
  rw [hl] at z kk
  have z' : valueAt kv k = none := z
  rw [z']
  exact Pst.hereT H .none kk
theorem Znn {d : Addr} {oe : Option Nat} {l : List (Int × V)} {k : Int} {K : V → St → Prop} (h : LkO d (.dictE oe l) σ.obs) (kk : K (.bool (l.lookup k).isSome) σ) : OP2 C VR (compareOp .In) (.int k) (.ref d) σ K := fun s v u H r1 r2 => by
 o_facts r1; o_facts r2
 obtain ⟨o, ep, kv, e, a, b, c⟩ := H.dict h
 have hD := Zdn (prog := C.G.prog) (w := C.G.w) e b
 refine .of (wpAny_in_of (intKind_is _ _ _ _) (H.sm h.key) hD.mapOf ?_)
 have z := c.val k
 have : (valueAt kv k).isSome = (l.lookup k).isSome := by
  cases hl : l.lookup k with
  | some x => rw [hl] at z; obtain ⟨w, hw, _⟩ := z; rw [hw]; rfl
  | none => rw [hl] at z; have z' : valueAt kv k = none := z; rw [z']; rfl
 rw [this]
 exact Pst.hereT H (.bool _) kk
theorem Zg8 {p : Program} {w : World} {h : Heap} {o : Obj} {kv : List (Int × Value)} {l : List (Int × V)} (hd : o.IsDictOf (intKind p w) kv) (r : KvR h l kv) : OR h (.dict l) o := by
 obtain ⟨ep, k⟩ := KdkAt.of hd
 obtain ⟨es, h1, _⟩ := id k
 exact .own ⟨h1, ep, kv, ⟨(fun _ e => nomatch e), fun _ _ => Zso k, r⟩⟩
theorem Zff {d : Addr} {l : List (Int × V)} {k : Int} {a : V} {obs' : List (Addr × AO)} {K : St → Prop} (u : UpO d (.dict l) (.dict (Zwu k a l)) σ.obs obs') (kk : K ⟨σ.loc, obs'⟩) (hz : l.length ≤ sizeLine) : OP3 C (fun _ (_ : Unit) _ => True) setItem (.ref d) (.int k) a σ (fun _ σ => K σ) := fun s v1 v2 v3 H r1 r2 r3 => by
 o_facts r1; o_facts r2
 obtain ⟨o, ep, kv, e, _, b, c⟩ := H.dict u.lk
 have hD := Zdn (prog := C.G.prog) (w := C.G.w) e b
 refine .of (wpAny_setItem_pairs (hsz := by rw [c.length]; exact hz) (intKind_is _ _ _ _) hD fun h' hmm hs => ?_)
 obtain ⟨o', ho', hd'⟩ := Heap.dictOf_iff.mp hmm
 have r' := c.put (k := k) r3
 refine And.elim (fun H' tk => ?_) (H.set u hs ho' (Zg8 hd' r') (s.toks + 1))
 exact ⟨(), _, kk, trivial, H', tk⟩
theorem Zlf {d : Addr} {l : List (Int × V)} {k : Int} {obs' : List (Addr × AO)} {K : St → Prop} (u : UpO d (.dict l) (.dict (Zoo k l)) σ.obs obs') (kk : K ⟨σ.loc, obs'⟩) (hx : (l.lookup k).isSome = true) (hz : l.length ≤ sizeLine) : OP2 C (fun _ (_ : Unit) _ => True) delItem (.ref d) (.int k) σ (fun _ σ => K σ) := fun s v1 v2 H r1 r2 => by
 o_facts r1; o_facts r2
 obtain ⟨o, ep, kv, e, _, b, c⟩ := H.dict u.lk
 have hD := Zdn (prog := C.G.prog) (w := C.G.w) e b
 have hl : (valueAt kv k).isSome = true := by
  have z := c.val k
  cases hq : l.lookup k with
  | some x => rw [hq] at z; obtain ⟨w, hw, _⟩ := z; rw [hw]; rfl
  | none => rw [hq] at hx; cases hx
 refine .of ?_
 unfold delItem
 try with_reducible refine wpAny_holding ?_
 refine wpAny_bind (wpAny_sequenceKey hD.typeIs (by decide) ?_)
 refine wpAny_bind (wpAny_callSpecial?_slot (name := Str.ofString "__delitem__") hD.typeIs PySem.F.slot_dict_delitem
  (call_meetsIn PySem.F.slot_dict_delitem hD.typeIs PySem.F.entry_dict_delitem (PySem.F.args_dict_delitem_2 _ _) (meets_dict_delitem_pairs (intKind C.G.prog C.G.w) d (intKind_is _ _ _ _)) ⟨kv, hD, by rw [c.length]; exact hz, hl, fun h' hmm hs => ?_⟩))
 obtain ⟨o', ho', hd'⟩ := Heap.dictOf_iff.mp hmm
 refine And.elim (fun H' tk => ?_) (H.set u hs ho' (Zg8 hd' c.without) (s.toks + 1))
 exact wpAny_pure ⟨(), _, kk, trivial, H', tk⟩
theorem Zqd {o i : Expr} {pos pos' : Pos} {K : Fl → St → Prop} (h : EV C (eval o C.env) σ fun a σ₁ => EV C (eval i C.env) σ₁ fun b σ₂ => OP2 C (fun _ (_ : Unit) _ => True) delItem a b σ₂ fun _ σ => K .next σ) : XV C (exec (.Delete [.Subscript o i pos'] pos) C.env) σ K := fun s H => by
 rw [arm_exec_Delete]
 refine Zaa (Zac ?_)
 rw [arm_deleteEach_cons, arm_delete_Subscript, arm_deleteEach_nil]
 refine Zaa (Zaa (Zaa (h.step H fun a σ₁ va s₁ k₁ r₁ H₁ t₁ => Zaa (Zad (k₁.step H₁ fun b σ₂ vb s₂ k₂ r₂ H₂ t₂ => Zaa (Zac (Zaa (Zad ?_))))))))
 refine Zat (k₂ s₂ va vb H₂ (r₁.mono t₂) r₂) (fun _ s₃ _ σ₃ k₃ _ H₃ t₃ => ?_)
 exact Zbp (Zab (Zab ⟨.next, σ₃, k₃, .next, H₃, (t₁.trans t₂).trans t₃⟩))
theorem Zth {pos : Pos} {env : Env} {K : V → St → Prop} (h : ∀ d, K (.ref d) ⟨σ.loc, (d, .dict []) :: σ.obs⟩) : EV C (eval (.Dict [] [] pos) env) σ K := fun s H => by
 rw [arm_eval_Dict]
 refine Zaa (Zac ?_)
 have kp : ∀ b o, s.heap.get? b = some o → (s.heap.push emptyDict).get? b = some o := fun b o e => Heap.get?_push_of_some _ e
 have fin : Pst C VR K s (.ref s.heap.objs.size) { s with heap := s.heap.push emptyDict } := by
  refine ⟨_, _, h _, .ref _, H.alloc (n := s.toks) kp (Nat.le_refl _) (Heap.get?_push_size _ rfl) ?_, .of_ext kp⟩
  obtain ⟨o, ho, hd⟩ := Heap.dictOf_iff.mp (Heap.DictOf.new (knd := intKind C.G.prog C.G.w) s.heap)
  have e : (s.heap.push emptyDict).get? s.heap.objs.size = some emptyDict := Heap.get?_push_size _ rfl
  have e2 : (s.heap.push emptyDict).get? s.heap.objs.size = some o := ho
  rw [e] at e2; cases e2
  exact Zg8 hd .nil
 refine .of ?_
 unfold dictDisplay
 repeat (first
  | exact wpAny_pure fin
  | with_reducible refine wpAny_bind ?_ | with_reducible refine nd_bind ?_ | with_reducible refine wpAny_holding ?_ | with_reducible refine wpAny_onRaise ?_
  | k_node)
end
section
variable {prog : Program} {w : World} {A : Around} {R : Result → Shared → Prop} {s : Shared}
theorem Zcm {a : Addr} {o : Obj} {fd : FuncData} {body : List Stmt} {args : Args}
  (hroom : A.depth < recursionLimit) (ho : s.heap.get? a = some o) (hdata : o.data = .func fd) (hcd : s.heap.CodeRec fd.code fd.qualname)
  (hbody : fd.body = .stmts body) (hcell : ∀ x ∈ fd.scope.names, x.2 ≠ .cell)
  (h : wpP (model prog w) A.in1 (bindArgs fd args) (fun binds s₁ => (∀ x ∈ binds, fd.scope.names.lookup x.1 = some .local) ∧ s₁.heap.NoLimit ∧
   ∀ h₀, h₀.Ns s₁.heap.objs.size (fun x => binds.reverse.lookup x) → (∀ b o, s₁.heap.get? b = some o → h₀.get? b = some o) →
   wpP (model prog w) (A.deeper (callEnv fd s₁.heap.objs.size a)) (execs body (callEnv fd s₁.heap.objs.size a)) (fun f s' => R (.ok (.ret (match f with | .ret v => v | _ => .none))) s')
    (fun e s' => wpP (model prog w) (A.deeper (callEnv fd s₁.heap.objs.size a)) (leaving (callEnv fd s₁.heap.objs.size a) e) (fun _ s'' => R (.error e) s'') (fun e' s'' => R (.error e') s'') s')
    { s₁ with heap := h₀, toks := s₁.toks + binds.length }) (fun e s' => R (.error e) s') s)
  (hco : fd.scope.isCoroutine = false) (hgen : fd.scope.isGenerator = false) (hk : fd.scope.kind = .function) :
  codeP (model prog w) A (.call (.ref a) args) R s := by
 refine Za2 hroom ho hdata hco hgen hbody hcd (Zae h ?_ fun _ _ e => e)
 rintro binds s₁ ⟨h1, h2, h3⟩
 refine .of (wpAny_newFunctionEnv hcell h1 (fun h₀ hns₀ hsb₀ => ⟨h2.fresh _ hsb₀, Zd4 (h3 h₀ hns₀ fun b o e => ?_)⟩) hk)
 exact hsb₀.extBut b o (Nat.ne_of_lt (Heap.lt_size e)) (Heap.get?_push_of_some _ e)
end
noncomputable def Binds (G : Gl) (fd : FuncData) (names : List Str) (args args' : List V) : Prop :=
 ∀ (A : Around) (E : Value → Shared → Prop) (Q : List (Str × Value) → Shared → Prop) (s : Shared) (vs : List Value), VRs s.heap args vs → G.K.In s.heap →
  (∀ (h1 : Heap) (vs' : List Value), (∀ b o, s.heap.get? b = some o → h1.get? b = some o) → VRs h1 args' vs' → Q (names.zip vs') { s with heap := h1 }) → wpP (model G.prog G.w) A (bindArgs fd ⟨vs, []⟩) Q E s
theorem Binds.plain {G : Gl} {fd : FuncData} {names : List Str} {args : List V} (hnl : names.length = args.length) (hb : ∀ vs : List Value, vs.length = names.length → bindArgs fd ⟨vs, []⟩ = pure (names.zip vs)) : Binds G fd names args args := fun A E Q s vs r _ k => by
 rw [hb vs (by rw [r.length, hnl])]
 exact Zab (k s.heap vs (fun _ _ e => e) r)
theorem VRs.split {h : Heap} {l : List V} : ∀ {l' : List V} {vs : List Value}, VRs h (l ++ l') vs → ∃ ws ws', vs = ws ++ ws' ∧ VRs h l ws ∧ VRs h l' ws' := by
 induction l with
 | nil => intro _ _ r; exact ⟨[], _, rfl, .nil, r⟩
 | cons a l ih =>
  intro _ _ r
  cases r with
  | cons x r =>
   obtain ⟨ws, ws', e, r1, r2⟩ := ih r
   exact ⟨_ :: ws, ws', by rw [e]; rfl, .cons x r1, r2⟩
theorem Binds.star {G : Gl} {fd : FuncData} {names : List Str} {x : Str} {args more : List V} (hnl : names.length = args.length) (hz : more.length ≤ sizeLine)
  (hb : ∀ vs ws : List Value, vs.length = names.length → ws.length = more.length → bindArgs fd ⟨vs ++ ws, []⟩ = (newTuple ws >>= fun t => pure (names.zip vs ++ [(x, t)]))) : Binds G fd (names ++ [x]) (args ++ more) (args ++ [.tup more]) := fun A E Q s vs r _ k => by
 obtain ⟨ws, ws', e, r1, r2⟩ := r.split
 subst e
 have l1 := r1.length
 have l2 := r2.length
 rw [hb ws ws' (by rw [l1, hnl]) l2]
 refine Zaa (.of (wpAny_newTuple ?_ (by rw [l2]; exact hz)))
 have kp : ∀ b o, s.heap.get? b = some o → (s.heap.push { cls := .type "tuple", data := .seq ws'.toArray }).get? b = some o := fun b o e => Heap.get?_push_of_some _ e
 have tk : TK s.heap (s.heap.push { cls := .type "tuple", data := .seq ws'.toArray }) := .of_ext kp
 have := k _ (ws ++ [.ref s.heap.objs.size]) kp ((r1.mono tk).append (.cons (.tup (Heap.get?_push_size _ rfl) (r2.mono tk)) .nil))
 rw [List.zip_append (by rw [l1, hnl])] at this
 exact Zab this
theorem Zqq {G : Gl} {f c : Addr} {n : Nat} {args args' : List V} {obs : List (Addr × AO)} {K : V → List (Addr × AO) → Prop} {o oc : Obj} {fd : FuncData} {body : List Stmt} {cvs : Array Value} {ct : Tok} {names rest : List Str} {loc : List (Str × Option V)}
  (ho : G.K.lookup f = some o) (hd : o.data = .func fd) (hb : fd.body = .stmts body) (hcl : fd.closure = []) (hg : fd.globals = mainGlobals) (hbt : fd.builtins = builtinsNs)
  (hc : fd.code = .ref c) (hoc : G.K.lookup c = some oc) (hdc : oc.data = .fields cvs) (hcv : cvs[1]? = some (.str fd.qualname ct))
  (hnl : names.length = args'.length) (hbind : Binds G fd names args args')
  (hloc : ∀ x ∈ names, fd.scope.names.lookup x = some .local) (hcell : ∀ x ∈ fd.scope.names, x.2 ≠ .cell) (hnn : (names ++ rest).Nodup)
  (hco : fd.scope.isCoroutine = false) (hgen : fd.scope.isGenerator = false) (hk : fd.scope.kind = .function)
  (h : ∀ (R : Ar G n) (L : Addr), XV (R.cx (callEnv fd L f) hg hbt) (execs body (callEnv fd L f)) ⟨loc, obs⟩ (fnK K)) (hl : names.zip (args'.map some) ++ rest.map (·, none) = loc) :
  Fn G (.ref f) (n + 1) args obs K := by
 injection (G f c n args args' obs K o oc fd body cvs ct names rest loc) with ho hd hb hcl hg hbt hc hoc hdc hcv hnl hbind hloc hcell hnn hco hgen hk h hl
 intro A fz s vs E g ok L R
 injection (A fz s vs E) with g ok L R
 subst hl
 have nn : names.Nodup := (List.nodup_append.mp hnn).1
 refine Za0 (Zcm (fd := fd) (body := body) (by have := g.d; lia) (L.frz _ _ (ok.sub _ _ ho)) hd
  ⟨c, oc, cvs, ct, hc, L.frz _ _ (ok.sub _ _ hoc), hdc, hcv⟩ hb hcell (hbind _ _ _ _ _ R (fun a o e => L.frz _ _ (ok.sub _ _ e)) fun h1 ws k1 R1 => ?_) hco hgen hk)
 have hlen := R1.length
 refine ⟨fun x hx => hloc x.1 (List.of_mem_zip hx).1, (ok.top _ fun b o e => k1 _ _ (L.frz b o e)).2.2, fun h₀ hns hkeep => ?_⟩
 injection (h1 ws h₀) with k1 R1 hlen hns hkeep
 have kk : ∀ b o, s.heap.get? b = some o → h₀.get? b = some o := fun b o e => hkeep _ _ (k1 _ _ e)
 let Ra : Ar G n := ⟨A.deeper (callEnv fd h1.objs.size f), fz, s.gens, s.drawn, s.os, ok, g.deeper _⟩
 have H : Holds (Ra.cx (callEnv fd h1.objs.size f) hg hbt) ⟨names.zip (args'.map some) ++ rest.map (·, none), obs⟩ { s with heap := h₀, toks := s.toks + (names.zip ws).length } := by
  have lts : ∀ p ∈ obs, p.1 < h1.objs.size := fun p hp => (by obtain ⟨O, e, _⟩ := L.has p hp; exact Heap.lt_size (k1 _ _ e))
  refine ⟨fun b o' e => kk _ _ (L.frz b o' e), ⟨_, hns, fun x v hx => ?_⟩, fun p hp => (by obtain ⟨O, e, r⟩ := L.has p hp; exact ⟨O, kk _ _ e, r.mono (.of_ext kk)⟩), ?_, fun a ha => ?_, ?_, GK.refl _, rfl, rfl⟩
  ·rcases List.mem_append.mp hx with hx | hx
   ·exact Zbf (binds := []) (R1.mono (.of_ext hkeep)) hnl nn x v hx
   ·obtain ⟨y, _, e⟩ := List.mem_map.mp hx; cases e
  ·show (h1.objs.size :: obs.map (·.1)).Nodup
   refine List.nodup_cons.mpr ⟨fun hm => ?_, L.nd⟩
   obtain ⟨p, hp, q⟩ := List.mem_map.mp hm
   exact absurd (lts p hp) (by rw [q]; exact Nat.lt_irrefl _)
  ·rcases List.mem_cons.mp ha with q | q
   ·have q' : a = h1.objs.size := q
    subst q'
    cases e : fz h1.objs.size with
    | none => exact e
    | some o2 => exact absurd (Heap.lt_size (k1 _ _ (L.frz _ _ e))) (Nat.lt_irrefl _)
   ·exact L.ap a q
  ·show ((names.zip (args'.map some) ++ rest.map fun x => ((x, none) : Str × Option V)).map fun x : Str × Option V => x.1).Nodup
   have e1 : (names.zip (args'.map some)).map (fun x : Str × Option V => x.1) = names := List.map_fst_zip (by rw [List.length_map, hnl]; exact Nat.le_refl _)
   rw [List.map_append, e1, List.map_map]
   have e2 : rest.map ((fun x : Str × Option V => x.1) ∘ fun x : Str => ((x, none) : Str × Option V)) = rest := by simp [Function.comp_def]
   rw [e2]; exact hnn
 refine Zae (h Ra h1.objs.size _ H) ?_ fun _ _ e => e.elim
 rintro fl s' ⟨a, σ', hK, r, H', tk⟩
 have hK2 : ∃ l, K a.val l ∧ Drp σ'.obs l := by cases a <;> exact hK
 obtain ⟨l, hKl, hd⟩ := hK2
 refine ⟨a.val, l, hKl, ?_, ⟨H'.frz, fun p hp => H'.obs p (hd.mem hp), hd.nd (List.nodup_cons.mp H'.nd).2, fun a ha => H'.ap a (.tail _ (hd.keys ha))⟩, (TK.of_ext kk).trans tk, H'.gens, H'.drawn, H'.os⟩
 cases r <;> first | exact VR.none | assumption
theorem LkO.of_mem {a : Addr} {o : AO} : ∀ {l : List (Addr × AO)}, (a, o) ∈ l → LkO a o l
 | (b, p) :: l, h => by
  rcases List.mem_cons.mp h with e | h
  ·cases e; exact .head
  ·exact .tail (LkO.of_mem h)
theorem Holds.sharp {C : Cx} {σ : St} {s : Shared} (H : Holds C σ s) {a : Addr} {o o' : AO} {l' : List (Addr × AO)} (u : UpO a o o' σ.obs l') (k : ∀ O, s.heap.get? a = some O → OR s.heap o O → OR s.heap o' O) : Holds C ⟨σ.loc, l'⟩ s := by
 refine ⟨H.frz, H.loc, fun p hp => ?_, ?_, ?_, H.nn, H.gens, H.drawn, H.os⟩
 ·rcases u.mem (List.nodup_cons.mp H.nd).2 p hp with q | ⟨q, hp'⟩
  ·subst q
   refine Zal (H.obj u.lk) fun O e r => ?_
   exact ⟨O, e, k O e r⟩
  ·exact H.obs p hp'
 ·show (C.env.locals :: l'.map (·.1)).Nodup
  rw [u.keys]; exact H.nd
 ·show ∀ b ∈ C.env.locals :: l'.map (·.1), C.fz b = none
  rw [u.keys]; exact H.ap
theorem Holds.dictFix {C : Cx} {σ : St} {s : Shared} (H : Holds C σ s) {d : Addr} {l : List (Int × V)} {obs : Option Nat → List (Addr × AO)} (u : ∀ oe, UpO d (.dict l) (.dictE oe l) σ.obs (obs oe)) : ∃ ep, Holds C ⟨σ.loc, obs (some ep)⟩ s := by
 refine Zal (H.obj (u none).lk) fun O e r => ?_
 have p := OR.ownE r
 obtain ⟨x, ep, kv, a, b, c⟩ := p
 refine ⟨ep, H.sharp (u (some ep)) fun O' e' _ => ?_⟩
 rw [e] at e'; cases e'
 exact .own ⟨x, ep, kv, fun q h => (Option.some.inj h).symm, b, c⟩
section
variable {C : Cx} {σ : St} {α β : Type}
theorem Zga {h : Heap} {oe : Option Nat} {l : List (Int × V)} {O : Obj} (r : OR h (.dictE oe l) O) : OR h (.dict l) O := by
 have p := OR.ownE r
 obtain ⟨x, ep, kv, a, b, c⟩ := p; exact .own ⟨x, ep, kv, (fun _ e => nomatch e), b, c⟩
theorem W.dictLoose {R : Heap → β → α → Prop} {t : Sem α} {K : β → St → Prop} {d : Addr} {oe : Option Nat} {l : List (Int × V)} {l' : List (Addr × AO)} (u : UpO d (.dictE oe l) (.dict l) σ.obs l') (h : W C R t ⟨σ.loc, l'⟩ K) : W C R t σ K := fun s H => h s (H.sharp u fun _ _ r => Zga r)
noncomputable def Zw8 (d : Addr) (i n ep : Nat) : Ob where
 P _ o := o.cls = .type "dict_keyiterator" ∧ o.data = .fields #[.ref d, .int i 0, .int n 0, .int ep 0]
 mono _ _ _ _ h := h
 noTup _ _ h vs n e := by obtain ⟨h, _⟩ := h; subst e; simp at h
noncomputable abbrev AO.kiter (d : Addr) (i n ep : Nat) : AO := .own (Zw8 d i n ep)
noncomputable def Zxq (d : Addr) (i n ep : Nat) : Ob where
 P _ o := o.cls = .type "dict_valueiterator" ∧ o.data = .fields #[.ref d, .int i 0, .int n 0, .int ep 0]
 mono _ _ _ _ h := h
 noTup _ _ h vs n e := by obtain ⟨h, _⟩ := h; subst e; simp at h
noncomputable abbrev AO.viter (d : Addr) (i n ep : Nat) : AO := .own (Zxq d i n ep)
noncomputable def Zxe (d : Addr) : Ob where
 P _ o := o.cls = .type "dict_values" ∧ o.data = .fields #[.ref d]
 mono _ _ _ _ h := h
 noTup _ _ h vs n e := by obtain ⟨h, _⟩ := h; subst e; simp at h
noncomputable abbrev AO.vview (d : Addr) : AO := .own (Zxe d)
theorem Holds.dictEp {s : Shared} (H : Holds C σ s) {d : Addr} {ep : Nat} {l : List (Int × V)} (h : LkO d (.dictE (some ep) l) σ.obs) : ∃ kv, s.heap.DictAt (intKind C.G.prog C.G.w) d kv ep ∧ KvR s.heap l kv := by
 injection (C σ s d ep l) with H h
 obtain ⟨o, ep', kv, e, a, b, c⟩ := H.dict h
 have := a ep rfl
 subst this
 exact ⟨kv, KdkAt.dictAt (b _ _) e, c⟩
theorem Zvv {d : Addr} {l : List (Int × V)} {obs : Option Nat → List (Addr × AO)} {K : Value → St → Prop} (u : ∀ oe, UpO d (.dict l) (.dictE oe l) σ.obs (obs oe)) (k : ∀ it ep, K (.ref it) ⟨σ.loc, (it, .kiter d 0 l.length ep) :: obs (some ep)⟩) : IT C (.ref d) σ K := fun va s H r => by
 o_facts r
 obtain ⟨ep, H'⟩ := H.dictFix u
 have lk : LkO d (.dictE (some ep) l) (obs (some ep)) := by
  have : ∀ {p q : List (Addr × AO)} {o' : AO}, UpO d (.dict l) o' p q → LkO d o' q := by
   intro p q o' h
   induction h with
   | head => exact .head
   | tail _ ih => exact .tail ih
  exact this (u (some ep))
 refine Zal (H'.dictEp lk) fun kv hD c => ?_
 refine .of (wpAny_pyIter_dict (H'.sm lk.key) hD ⟨_, k _ ep, H'.alloc (n := s.toks) (o := .kiter d 0 l.length ep) (fun b o e => Heap.get?_push_of_some _ e) (Nat.le_refl _) (Heap.get?_push_size _ rfl) (.own ⟨rfl, ?_⟩), .of_ext fun b o e => Heap.get?_push_of_some _ e⟩)
 rw [c.length]; rfl
theorem Zoe {it d : Addr} {l : List (Int × V)} {i ep : Nat} {obs' rest : List (Addr × AO)} {Ks : V → St → Prop} {Kn : St → Prop} (hh : C.A.handled = none) (hl : LkO d (.dictE (some ep) l) σ.obs) (u : UpO it (.kiter d i l.length ep) (.kiter d (i + 1) l.length ep) σ.obs obs')
  (p : Pick (it, .kiter d i l.length ep) σ.obs rest) (ks : ∀ k x, l[i]? = some (k, x) → Ks (.int k) ⟨σ.loc, obs'⟩) (kn : l[i]? = none → Kn ⟨σ.loc, rest⟩) : NX C (.ref it) σ Ks Kn := fun s E H => by
 refine Zal (H.dictEp hl) fun kv hD c => ?_
 refine Zal (H.obj u.lk) fun O eo ro => ?_
 have q := OR.ownE ro
 obtain ⟨q1, q2⟩ := q
 have hI : s.heap.IsKeyIter it d i kv.length ep := ⟨O, eo, q1, by rw [c.length]; exact q2⟩
 cases hx : l[i]? with
 | some x =>
  obtain ⟨k, x⟩ := x
  refine Zal (c.get hx) fun v hv rv => ?_
  refine .of (wpAny_pyNext_dict_item hI hD hv fun key h' hkey hit' hs' => ?_)
  obtain ⟨t, rfl⟩ := Value.isInt_shape hkey
  obtain ⟨o2, e2, c2, d2⟩ := hit'
  obtain ⟨H', tk⟩ := H.set (o' := .kiter d (i + 1) l.length ep) u hs' e2 (.own ⟨c2, by rw [← c.length]; exact d2⟩) s.toks
  exact ⟨.int k, _, ks k x hx, .int _ _, H', tk⟩
 | none =>
  have : kv[i]? = none := by
   have h1 : l.length ≤ i := by simpa using hx
   have := c.length
   simp; lia
  refine .of (wpAny_pyNext_dict_end hh hI hD this fun h' he => ?_)
  refine And.elim (fun H' tk => ?_) (H.dropExt p he s.toks)
  exact ⟨_, kn hx, H', tk⟩
theorem Zp0 {s : Shared} {it d : Addr} {i n ep : Nat} {obs : List (Addr × AO)} {loc : List (Str × Option V)} (H : Holds C ⟨loc, (it, .kiter d i n ep) :: obs⟩ s) : ∃ O n, s.heap.get? it = some O ∧ O.cls = .type n ∧ ownsTuple.contains n = false := by
 refine Zal (H.obs _ (.head _)) fun O e ro => ?_
 have q := OR.ownE ro
 exact ⟨_, _, e, q.1, by decide⟩
theorem Zpv {s : Shared} {it d : Addr} {i n ep : Nat} {obs : List (Addr × AO)} {loc : List (Str × Option V)} (H : Holds C ⟨loc, (it, .viter d i n ep) :: obs⟩ s) : ∃ O n, s.heap.get? it = some O ∧ O.cls = .type n ∧ ownsTuple.contains n = false := by
 refine Zal (H.obs _ (.head _)) fun O e ro => ?_
 have q := OR.ownE ro
 exact ⟨_, _, e, q.1, by decide⟩
theorem Zr9 {target : Expr} {it d : Addr} {l : List (Int × V)} {ep : Nat} (t : Tgt target) (hh : C.A.handled = none) : Its C target it (fun k => .kiter d k l.length ep) l.length (fun k => .int (l.getD k (0, .none)).1) (fun obs => LkO d (.dictE (some ep) l) obs) where
 turn k loc obs hk hl := .tgt t (Zoe hh (.tail hl) .head .head (fun i x hx => ⟨by simp [List.getD, hx], rfl⟩) (fun h => by simp at h; lia)) (by rintro a σ' ⟨_, e⟩ s H; subst e; exact Zp0 H)
 stop loc obs hl := .tgt t (Zoe hh (.tail hl) .head .head (fun i x hx => by simp at hx) (fun _ => rfl)) fun a σ' f => f.elim
theorem Zpo {d : Addr} {oe : Option Nat} {l : List (Int × V)} {K : V → St → Prop} (h : LkO d (.dictE oe l) σ.obs) (k : ∀ v, K (.ref v) ⟨σ.loc, (v, .vview d) :: σ.obs⟩) : CF C (.bi "dict.values") [.ref d] σ K := fun s fv vs H rf rl => by
 o_facts rf
 revert rl
 intro rl0
 refine VRs.consK rl0 fun _ _ r rl e0 => ?_
 subst e0
 o_facts rl
 o_facts r
 obtain ⟨o, ep, kv, e, a, b, c⟩ := H.dict h
 have hD := Zdn (prog := C.G.prog) (w := C.G.w) e b
 exact .of (call_meetsIn PySem.F.slot_dict_values hD.typeIs PySem.F.entry_dict_values (PySem.F.args_dict_values_1 _) (meets_dict_values (intKind C.G.prog C.G.w) d (H.sm h.key)) ⟨⟨kv, hD⟩, .ref s.heap.objs.size, _, k _, .ref _, H.alloc (n := s.toks) (o := .vview d) (fun b o e => Heap.get?_push_of_some _ e) (Nat.le_refl _) (Heap.get?_push_size _ rfl) (.own ⟨rfl, rfl⟩), .of_ext fun b o e => Heap.get?_push_of_some _ e⟩)
theorem Zpb {v d : Addr} {l : List (Int × V)} {rest : List (Addr × AO)} {obs : Option Nat → List (Addr × AO)} {K : Value → St → Prop} (p : Pick (v, .vview d) σ.obs rest) (u : ∀ oe, UpO d (.dict l) (.dictE oe l) rest (obs oe)) (k : ∀ it ep, K (.ref it) ⟨σ.loc, (it, .viter d 0 l.length ep) :: obs (some ep)⟩) : IT C (.ref v) σ K := fun va s H r => by
 o_facts r
 refine Zal (H.obs _ p.mem) fun O eo ro => ?_
 obtain ⟨ep, H'⟩ := (H.drop p).dictFix (σ := ⟨σ.loc, rest⟩) u
 have lk : LkO d (.dictE (some ep) l) (obs (some ep)) := by
  have : ∀ {p q : List (Addr × AO)} {o' : AO}, UpO d (.dict l) o' p q → LkO d o' q := by
   intro p q o' h
   induction h with
   | head => exact .head
   | tail _ ih => exact .tail ih
  exact this (u (some ep))
 refine Zal (H'.dictEp lk) fun kv hD c => ?_
 have q := OR.ownE ro
 refine .of (wpAny_pyIter_values ⟨O, eo, q.1, q.2⟩ hD ⟨_, k _ ep, H'.alloc (n := s.toks) (o := .viter d 0 l.length ep) (fun b o e => Heap.get?_push_of_some _ e) (Nat.le_refl _) (Heap.get?_push_size _ rfl) (.own ⟨rfl, ?_⟩), .of_ext fun b o e => Heap.get?_push_of_some _ e⟩)
 rw [c.length]; rfl
theorem Zqu {it d : Addr} {l : List (Int × V)} {i ep : Nat} {obs' rest : List (Addr × AO)} {Ks : V → St → Prop} {Kn : St → Prop} (hh : C.A.handled = none) (hl : LkO d (.dictE (some ep) l) σ.obs) (u : UpO it (.viter d i l.length ep) (.viter d (i + 1) l.length ep) σ.obs obs')
  (p : Pick (it, .viter d i l.length ep) σ.obs rest) (ks : ∀ k x, l[i]? = some (k, x) → Ks x ⟨σ.loc, obs'⟩) (kn : l[i]? = none → Kn ⟨σ.loc, rest⟩) : NX C (.ref it) σ Ks Kn := fun s E H => by
 refine Zal (H.dictEp hl) fun kv hD c => ?_
 refine Zal (H.obj u.lk) fun O eo ro => ?_
 have q := OR.ownE ro
 obtain ⟨q1, q2⟩ := q
 have hI : s.heap.IsValIter it d i kv.length ep := ⟨O, eo, q1, by rw [c.length]; exact q2⟩
 cases hx : l[i]? with
 | some x =>
  obtain ⟨k, x⟩ := x
  refine Zal (c.get hx) fun v hv rv => ?_
  refine .of (wpAny_pyNext_values_item hI hD hv fun h' hit' hs' => ?_)
  obtain ⟨o2, e2, c2, d2⟩ := hit'
  obtain ⟨H', tk⟩ := H.set (o' := .viter d (i + 1) l.length ep) u hs' e2 (.own ⟨c2, by rw [← c.length]; exact d2⟩) s.toks
  exact ⟨x, _, ks k x hx, rv.mono tk, H', tk⟩
 | none =>
  have : kv[i]? = none := by
   have h1 : l.length ≤ i := by simpa using hx
   have := c.length
   simp; lia
  refine .of (wpAny_pyNext_values_end hh hI hD this fun h' he => ?_)
  refine And.elim (fun H' tk => ?_) (H.dropExt p he s.toks)
  exact ⟨_, kn hx, H', tk⟩
theorem Zse {target : Expr} {it d : Addr} {l : List (Int × V)} {ep : Nat} (t : Tgt target) (hh : C.A.handled = none) : Its C target it (fun k => .viter d k l.length ep) l.length (fun k => (l.getD k (0, .none)).2) (fun obs => LkO d (.dictE (some ep) l) obs) where
 turn k loc obs hk hl := .tgt t (Zqu hh (.tail hl) .head .head (fun i x hx => ⟨by simp [List.getD, hx], rfl⟩) (fun h => by simp at h; lia)) (by rintro a σ' ⟨_, e⟩ s H; subst e; exact Zpv H)
 stop loc obs hl := .tgt t (Zqu hh (.tail hl) .head .head (fun i x hx => by simp at hx) (fun _ => rfl)) fun a σ' f => f.elim
theorem Zn3 {it d : Addr} {i n ep : Nat} (h : LkO it (.viter d i n ep) σ.obs) : Zn4 C (.ref it) σ := fun s E Q H q => by
 refine Zal (H.obj h) fun O eo ro => ?_
 have p := OR.ownE ro
 exact .of (wpAny_pyIter_valiter ⟨O, eo, p.1, p.2⟩ q)
noncomputable def oSet (l : List Int) : Ob where
 P _ o := o.cls = .type "set" ∧ ∃ n, n ≤ l.length ∧ o.IntSetOf (fun k => decide (k ∈ l)) n
 mono _ _ _ _ h := h
 noTup _ _ h vs n e := by obtain ⟨h, _⟩ := h; subst e; simp at h
noncomputable abbrev AO.set (l : List Int) : AO := .own (oSet l)
theorem Zuj {K : V → St → Prop} (k : ∀ a, K (.ref a) ⟨σ.loc, (a, .set []) :: σ.obs⟩) : CF C (.ty "set") [] σ K := fun s fv vs H rf rl => by
 o_facts rf
 o_facts rl
 refine .of (call_set_0 fun led => ?_)
 refine ⟨_, _, k _, .ref _, H.alloc (n := s.toks) (o := .set []) (fun b o e => Heap.get?_push_of_some _ e) (Nat.le_refl _) (Heap.get?_push_size _ rfl) (.own ⟨rfl, 0, Nat.le_refl _, ?_⟩), .of_ext fun b o e => Heap.get?_push_of_some _ e⟩
 have : (fun k : Int => decide (k ∈ ([] : List Int))) = fun _ => false := by funext k; simp
 rw [this]
 exact intSetOf_fresh led
theorem Holds.setOf {s : Shared} (H : Holds C σ s) {a : Addr} {l : List Int} (h : LkO a (.set l) σ.obs) (hz : l.length < 4096) : ∃ n, n ≤ l.length ∧ s.heap.SetOf (intKind C.G.prog C.G.w) a (fun k => decide (k ∈ l)) n := by
 injection (C σ s a l) with H h hz
 refine Zal (H.obj h) fun O e r => ?_
 have p := OR.ownE r
 obtain ⟨_, n, hn, hS⟩ := p
 exact ⟨n, hn, (hS C.G.prog C.G.w).setOf e (by show n < 4096; lia)⟩
theorem Zm8 {a : Addr} {l : List Int} {K : V → List V → St → Prop} (h : LkO a (.set l) σ.obs) (k : K (.bi "set.add") [.ref a] σ) (hz : l.length < 4096) : GM C (.ref a) "add" σ K := fun s v pl H r => by
 o_facts r
 obtain ⟨n, hn, hS⟩ := H.setOf h hz
 exact .of (getMethod_set_add hS ⟨_, _, _, k, .bi _, .cons (.ref a) .nil, H, .refl _⟩)
theorem Zmx {a : Addr} {l : List Int} {k : Int} {obs' : List (Addr × AO)} {K : V → St → Prop} (u : UpO a (.set l) (.set (k :: l)) σ.obs obs') (kk : K .none ⟨σ.loc, obs'⟩) (hz : l.length + 1 < 4096) : CF C (.bi "set.add") [.ref a, .int k] σ K := by
 injection (C σ a l k obs' K) with u kk hz
 intro s fv vs H rf rl
 o_facts rf
 injection (s vs) with H rl rf
 revert rl
 intro rl0
 refine VRs.consK rl0 fun _ _ r rl e0 => ?_
 subst e0
 revert rl
 intro rl0
 refine VRs.consK rl0 fun _ _ r2 rl e0 => ?_
 subst e0
 o_facts rl
 o_facts r; o_facts r2
 obtain ⟨n, hn, hS⟩ := H.setOf u.lk (by lia)
 refine .of (call_set_add (intKind_is _ _ _ _) rfl hS (by show n + 1 < 4096; lia) fun h' hsb hS' => ?_)
 obtain ⟨so', ho', hso'⟩ := hS'.objOf
 have e : (fun k' => decide (k' ∈ l) || decide (k' = k)) = fun k' : Int => decide (k' ∈ k :: l) := by
  funext k'
  rw [Bool.eq_iff_iff]
  simp [or_comm]
 rw [e] at hso'
 obtain ⟨H', tk⟩ := H.set (o' := .set (k :: l)) u hsb ho' (.own ⟨hso'.1.1, _, by
  simp only [List.length_cons]
  split <;> lia, hso'.intSetOf⟩) (s.toks + 1)
 exact ⟨_, _, kk, .none, H', tk⟩
theorem Zo6 {a : Addr} {l : List Int} {k : Int} {K : V → St → Prop} (h : LkO a (.set l) σ.obs) (kk : K (.bool (decide (k ∈ l))) σ) (hz : l.length < 4096) : OP2 C VR (compareOp .In) (.int k) (.ref a) σ K := fun s v u H r1 r2 => by
 o_facts r1; o_facts r2
 obtain ⟨n, hn, hS⟩ := H.setOf h hz
 exact .of (wpAny_inSet_of (intKind_is _ _ _ _) rfl hS (Pst.hereT H (.bool _) kk))
theorem Zht {a : Addr} {l : List V} {K : V → St → Prop} (h : LkO a (.list l) σ.obs) (k : K (.tup l) σ) (hz : l.length ≤ sizeLine) : CF C (.ty "tuple") [.ref a] σ K := fun s fv vs H rf rl => by
 o_facts rf
 revert rl
 intro rl0
 refine VRs.consK rl0 fun _ _ r rl e0 => ?_
 subst e0
 o_facts rl
 o_facts r
 refine Zb4 (H.list h) fun ws n e r => ?_
 refine .of (call_tuple_list ⟨_, e, rfl, n, rfl⟩ (fun h' hk => ?_) (by simpa [r.length] using hz))
 have kp : ∀ b o, s.heap.get? b = some o → (h'.push { cls := .type "tuple", data := .seq ws.toArray }).get? b = some o := fun b o e => Heap.get?_push_of_some _ (hk _ _ e)
 exact ⟨.tup l, _, k, .tup (Heap.get?_push_size _ rfl) (r.mono (.of_ext kp)), H.ext kp s.toks, .of_ext kp⟩
theorem Zrz {a : Addr} {l : List V} {obs' : List (Addr × AO)} {K : V → St → Prop} (u : UpO a (.list l) (.list []) σ.obs obs') (k : K .none ⟨σ.loc, obs'⟩) (hz : l.length ≤ sizeLine) : CF C (.bi "list.clear") [.ref a] σ K := fun s fv vs H rf rl => by
 o_facts rf
 revert rl
 intro rl0
 refine VRs.consK rl0 fun _ _ r rl e0 => ?_
 subst e0
 o_facts rl
 o_facts r
 refine Zb4 (H.list u.lk) fun ws n e r => ?_
 refine And.elim (fun H' tk => ?_) (H.mapList u e (fun _ => #[]) (vs' := []) rfl .nil)
 exact .of (call_meets F.slot_list_clear ⟨_, e, rfl⟩ F.entry_list_clear (F.args_list_clear_1 _) (AutoSeq1.list_clear_list_0 a ws.toArray n (by simpa [r.length] using hz)) ⟨e, _, _, k, .none, H', tk⟩)
theorem Zjd {a : Addr} {l : List V} {K : V → St → Prop} (h : LkO a (.list l) σ.obs) (k : K (.bool (!l.isEmpty)) σ) (hz : l.length ≤ sizeLine) : CF C (.ty "bool") [.ref a] σ K := by
 injection (C σ a l K) with h k hz
 intro s fv vs H rf rl
 o_facts rf
 revert rl
 intro rl0
 refine VRs.consK rl0 fun _ _ r rl e0 => ?_
 subst e0
 o_facts rl
 o_facts r
 refine Zb4 (H.list h) fun ws n e r => ?_
 have hzz : sizeLine = 16777216 := by decide
 have hlen := r.length
 have eq : (!ws.toArray.isEmpty) = !l.isEmpty := by cases r <;> simp
 have fin : Pst C VR K s (.bool (!ws.toArray.isEmpty)) { s with toks := s.toks + 1 + 1 } := by rw [eq]; exact Pst.hereT H (.bool _) k
 have M : Meets (Builtin.«bool.__new__» ⟨[.type "bool", .ref a], []⟩) (fun _ R s => s.heap.get? a = some (listOf ws.toArray n) ∧ R (.ok (.ret (.bool (!ws.toArray.isEmpty)))) { s with toks := s.toks + 1 + 1 }) :=
  Meets.of_wp <| by
   rintro prog w A R s ⟨he, hs⟩
   have f1 := F.conv_sub_bool
   have ht := wpAny_truthy_list (prog := prog) (w := w) (A := A.in1) (E := fun e s' => R (.error e) s') (s := s) (Q := fun b s' => R (.ok (.ret (.bool b))) s') (l := a) (items := ws.toArray) ⟨_, he, rfl, n, rfl⟩ (by simp [hlen]; lia) hs
   obtain ⟨hp, g, d, tk, os⟩ := s
   repeat (any_goals (first | assumption | (refine wpAny_bind (wpAny_mono ht (fun b s' z => ?_) fun _ _ e => e)) | wp_step))
   all_goals first | exact ⟨_, rfl, z⟩ | skip
 exact .of (call_bool_1 M (show _ ∧ _ from ⟨e, ⟨rfl, fin⟩⟩))
end
section
variable {C : Cx} {σ : St} {α β : Type}
theorem Zw9 {o i : Expr} {pos : Pos} {a : V} {K : St → Prop} (h : EV C (eval o C.env) σ fun b σ₁ => EV C (eval i C.env) σ₁ fun c σ₂ => OP3 C (fun _ (_ : Unit) _ => True) setItem b c a σ₂ fun _ σ => K σ) : U1 C (assign (.Subscript o i pos) C.env) a σ K := fun s v H r => by
 rw [arm_assign_Subscript]
 refine Zaa (Zad (h.step H fun b σ₁ vb s₁ k₁ r₁ H₁ t₁ => Zaa (Zad (k₁.step H₁ fun c σ₂ vc s₂ k₂ r₂ H₂ t₂ => Zaa (Zac (Zaa (Zad ?_)))))))
 exact Zae (k₂ s₂ vb vc v H₂ (r₁.mono t₂) r₂ (r.mono (t₁.trans t₂))) (fun _ s₃ p => Zbp (p.tk (t₁.trans t₂))) fun _ _ e => e
theorem Zox {t1 t2 value : Expr} {pos : Pos} {K : Fl → St → Prop} (h : EV C (eval value C.env) σ fun a σ₁ => U1 C (assign t1 C.env) a σ₁ fun σ₂ => U1 C (assign t2 C.env) a σ₂ fun σ => K .next σ)
  (he : ∀ v, assignAll v ((assignEach [t1, t2] C.env).map (·.2)) = (do holding [v] (assign t1 C.env v); assign t2 C.env v)) (hs : swapsWithSole [t1, t2] value pos.line C.env = pure false) (hw : swappedStores [t1, t2] value C.env = pure none) : XV C (exec (.Assign [t1, t2] value pos) C.env) σ K := fun s H => by
 rw [exec_Assign]
 refine Zaa (Zac ?_)
 rw [hs]
 refine Zaa (Zab ?_)
 rw [if_neg (by decide)]
 refine Zaa (h.step H fun a σ₁ v s₁ k r H₁ t => ?_)
 rw [hw]
 refine Zaa (Zab ?_)
 show wpP (α := Flow) _ _ (do assignAll v ((assignEach [t1, t2] C.env).map (·.2)); pure Flow.next) _ _ s₁
 rw [he]
 refine Zaa (Zaa (Zad (Zat (k s₁ v H₁ r) (fun _ s₂ _ σ₂ k₂ _ H₂ t₂ => ?_))))
 exact Zat (k₂ s₂ v H₂ (r.mono t₂)) (fun _ s₃ _ σ₃ k₃ _ H₃ t₃ => Zab ⟨.next, σ₃, k₃, .next, H₃, (t.trans t₂).trans t₃⟩)
theorem Zm4 {l : List V} {K : V → St → Prop} (k : K (.int l.length) σ) (hz : l.length ≤ sizeLine) : CF C (.bi "len") [.tup l] σ K := fun s fv vs H rf rl => by
 o_facts rf
 revert rl
 intro rl0
 refine VRs.consK rl0 fun _ _ r rl e0 => ?_
 subst e0
 o_facts rl
 revert r
 intro r0
 refine VR.tupK r0 fun _ _ _ e r e0 => ?_
 subst e0
 have hzz : sizeLine = 16777216 := by decide
 have := r.length
 exact .of (len_tuple ⟨_, e, rfl, _, rfl⟩ (by simp [r.length]; lia) (by simpa [r.length] using Pst.hereT H (.int _ _) k))
end
noncomputable abbrev A4 (a b c d : V) : List (Str × V) := [("_node2info", a), ("_ready_nodes", b), ("_npassedout", c), ("_nfinished", d)]
noncomputable abbrev N3 (a b c : V) : List (Option V) := [some a, some b, some c]
section
variable {P : Params} {G : Gl}
theorem Zz0 (g : G3 P G) {Cl : Addr} {x : Str} (h : Zhu (K3 P) Cl x = true) : Zhu G.K Cl x = true := by rw [g.K]; exact h
theorem Zh8 (g : G3 P G) {Cl f : Addr} {x : Str} (h : Zjw (K3 P) Cl x f = true) : Zjw G.K Cl x f = true := by rw [g.K]; exact h
theorem Ze1 (g : G3 P G) {Cl : Addr} {x : Str} (h : Zex (K3 P) Cl x = true) : Zex G.K Cl x = true := by rw [g.K]; exact h
theorem Zv9 (g : G3 P G) {Cl p : Addr} {x : Str} {i : Nat} (h : Zmk (K3 P) Cl p x i = true) : Zmk G.K Cl p x i = true := by rw [g.K]; exact h
theorem Zlu (g : G3 P G) {Cl p : Addr} {x : Str} {i : Nat} (h : Zdx (K3 P) Cl p x i = true) : Zdx G.K Cl p x i = true := by rw [g.K]; exact h
theorem Zyp (g : G3 P G) {Cl f : Addr} (h : Zeh (K3 P) Cl f = true) : Zeh G.K Cl f = true := by rw [g.K]; exact h
end
section
variable {P : Params} {C : Cx} {σ : St} {x dx : Addr} {a b c d a' : V} {obs' : List (Addr × AO)} {K : V → St → Prop} {K' : St → Prop}
theorem Zyz (g : G3 P C.G) (hx : LkO x (.inst 199 dx) σ.obs) (hd : LkO dx (.attrs (A4 a b c d)) σ.obs) (k : K a σ) (hb : ∀ n, a ≠ .bi n) : GA C "_node2info" (.ref x) σ K := Zls hx hd k (Zz0 g (by with_unfolding_all exact rfl)) (by rfl) hb
theorem Zrm (g : G3 P C.G) (hx : LkO x (.inst 199 dx) σ.obs) (hd : LkO dx (.attrs (A4 a b c d)) σ.obs) (k : K b σ) (hb : ∀ n, b ≠ .bi n) : GA C "_ready_nodes" (.ref x) σ K := Zls hx hd k (Zz0 g (by with_unfolding_all exact rfl)) (by rfl) hb
theorem Zyi (g : G3 P C.G) (hx : LkO x (.inst 199 dx) σ.obs) (hd : LkO dx (.attrs (A4 a b c d)) σ.obs) (k : K c σ) (hb : ∀ n, c ≠ .bi n) : GA C "_npassedout" (.ref x) σ K := Zls hx hd k (Zz0 g (by with_unfolding_all exact rfl)) (by rfl) hb
theorem Zvj (g : G3 P C.G) (hx : LkO x (.inst 199 dx) σ.obs) (hd : LkO dx (.attrs (A4 a b c d)) σ.obs) (k : K d σ) (hb : ∀ n, d ≠ .bi n) : GA C "_nfinished" (.ref x) σ K := Zls hx hd k (Zz0 g (by with_unfolding_all exact rfl)) (by rfl) hb
theorem Zs4 (g : G3 P C.G) (hx : LkO x (.inst 199 dx) σ.obs) (u : UpO dx (.attrs (A4 a b c d)) (.attrs (A4 a a' c d)) σ.obs obs') (k : K' ⟨σ.loc, obs'⟩) : SA C "_ready_nodes" (.ref x) a' σ K' := Ze7 hx u k (Ze1 g (by with_unfolding_all exact rfl)) (Nat.le_of_ble_eq_true rfl)
theorem Zxw (g : G3 P C.G) (hx : LkO x (.inst 199 dx) σ.obs) (u : UpO dx (.attrs (A4 a b c d)) (.attrs (A4 a b a' d)) σ.obs obs') (k : K' ⟨σ.loc, obs'⟩) : SA C "_npassedout" (.ref x) a' σ K' := Ze7 hx u k (Ze1 g (by with_unfolding_all exact rfl)) (Nat.le_of_ble_eq_true rfl)
theorem Zwi (g : G3 P C.G) (hx : LkO x (.inst 199 dx) σ.obs) (u : UpO dx (.attrs (A4 a b c d)) (.attrs (A4 a b c a')) σ.obs obs') (k : K' ⟨σ.loc, obs'⟩) : SA C "_nfinished" (.ref x) a' σ K' := Ze7 hx u k (Ze1 g (by with_unfolding_all exact rfl)) (Nat.le_of_ble_eq_true rfl)
theorem Zu5 (g : G3 P C.G) (hx : LkO x (.inst 199 dx) σ.obs) (u : UpO dx (.attrs []) (.attrs [("_node2info", a')]) σ.obs obs') (k : K' ⟨σ.loc, obs'⟩) : SA C "_node2info" (.ref x) a' σ K' := Ze7 hx u k (Ze1 g (by with_unfolding_all exact rfl)) (Nat.le_of_ble_eq_true rfl)
theorem Zql (g : G3 P C.G) (hx : LkO x (.inst 199 dx) σ.obs) (u : UpO dx (.attrs [("_node2info", a)]) (.attrs [("_node2info", a), ("_ready_nodes", a')]) σ.obs obs') (k : K' ⟨σ.loc, obs'⟩) : SA C "_ready_nodes" (.ref x) a' σ K' := Ze7 hx u k (Ze1 g (by with_unfolding_all exact rfl)) (Nat.le_of_ble_eq_true rfl)
theorem Zuh (g : G3 P C.G) (hx : LkO x (.inst 199 dx) σ.obs) (u : UpO dx (.attrs [("_node2info", a), ("_ready_nodes", b)]) (.attrs [("_node2info", a), ("_ready_nodes", b), ("_npassedout", a')]) σ.obs obs') (k : K' ⟨σ.loc, obs'⟩) : SA C "_npassedout" (.ref x) a' σ K' := Ze7 hx u k (Ze1 g (by with_unfolding_all exact rfl)) (Nat.le_of_ble_eq_true rfl)
theorem Zte (g : G3 P C.G) (hx : LkO x (.inst 199 dx) σ.obs) (u : UpO dx (.attrs [("_node2info", a), ("_ready_nodes", b), ("_npassedout", c)]) (.attrs (A4 a b c a')) σ.obs obs') (k : K' ⟨σ.loc, obs'⟩) : SA C "_nfinished" (.ref x) a' σ K' := Ze7 hx u k (Ze1 g (by with_unfolding_all exact rfl)) (Nat.le_of_ble_eq_true rfl)
theorem Zwy (g : G3 P C.G) (hx : LkO x (.slots 102 dx (N3 a b c)) σ.obs) (hd : LkO dx (.raw emptyDict) σ.obs) (k : K a σ) (hb : ∀ n, a ≠ .bi n) : GA C "node" (.ref x) σ K := Zkm 103 0 hx hd k (Zv9 g (by with_unfolding_all exact rfl)) rfl hb
theorem Zdp (g : G3 P C.G) (hx : LkO x (.slots 102 dx (N3 a b c)) σ.obs) (hd : LkO dx (.raw emptyDict) σ.obs) (k : K b σ) (hb : ∀ n, b ≠ .bi n) : GA C "npredecessors" (.ref x) σ K := Zkm 104 1 hx hd k (Zv9 g (by with_unfolding_all exact rfl)) rfl hb
theorem Zlk (g : G3 P C.G) (hx : LkO x (.slots 102 dx (N3 a b c)) σ.obs) (hd : LkO dx (.raw emptyDict) σ.obs) (k : K c σ) (hb : ∀ n, c ≠ .bi n) : GA C "successors" (.ref x) σ K := Zkm 105 2 hx hd k (Zv9 g (by with_unfolding_all exact rfl)) rfl hb
theorem Zeu (g : G3 P C.G) (u : UpO x (.slots 102 dx (N3 a b c)) (.slots 102 dx (N3 a a' c)) σ.obs obs') (hd : LkO dx (.raw emptyDict) σ.obs) (k : K' ⟨σ.loc, obs'⟩) : SA C "npredecessors" (.ref x) a' σ K' := Zh5 104 1 u hd k (Zlu g (by with_unfolding_all exact rfl)) (by decide)
theorem Ztc (g : G3 P C.G) (u : UpO x (.slots 102 dx []) (.slots 102 dx [some a']) σ.obs obs') (hd : LkO dx (.raw emptyDict) σ.obs) (k : K' ⟨σ.loc, obs'⟩) : SA C "node" (.ref x) a' σ K' := Zh5 103 0 u hd k (Zlu g (by with_unfolding_all exact rfl)) (by decide)
theorem Zoz (g : G3 P C.G) (u : UpO x (.slots 102 dx [some a]) (.slots 102 dx [some a, some a']) σ.obs obs') (hd : LkO dx (.raw emptyDict) σ.obs) (k : K' ⟨σ.loc, obs'⟩) : SA C "npredecessors" (.ref x) a' σ K' := Zh5 104 1 u hd k (Zlu g (by with_unfolding_all exact rfl)) (by decide)
theorem Zs0 (g : G3 P C.G) (u : UpO x (.slots 102 dx [some a, some b]) (.slots 102 dx (N3 a b a')) σ.obs obs') (hd : LkO dx (.raw emptyDict) σ.obs) (k : K' ⟨σ.loc, obs'⟩) : SA C "successors" (.ref x) a' σ K' := Zh5 105 2 u hd k (Zlu g (by with_unfolding_all exact rfl)) (by decide)
end
example (P : Params) : Zjw (K3 P) 199 "_get_nodeinfo" 142 = true := by with_unfolding_all exact rfl
example (P : Params) : Zeh (K3 P) 199 135 = true := by with_unfolding_all exact rfl
example (P : Params) : Zeh (K3 P) 102 98 = true := by with_unfolding_all exact rfl
example (P : Params) : keepIn (K3 P) (.ref 102) = true := by with_unfolding_all exact rfl
theorem Zc5 {P : Params} {G : Gl} (g : G3 P G) {f c : Addr} {n : Nat} {args args' : List V} {obs : List (Addr × AO)} {K : V → List (Addr × AO) → Prop} {oc : Obj} {d : Fd} {q m : String} {t : Tok} {dfl : Value} {cvs : Array Value} {ct : Tok} (names rest : List Str) (loc : List (Str × Option V))
  (ho : (K3 P).lookup f = some (Zbt d q m t c dfl)) (hoc : (K3 P).lookup c = some oc) (hdc : oc.data = .fields cvs) (hcv : cvs[1]? = some (.str (q : Str) ct))
  (hnl : names.length = args'.length) (hbind : Binds G (Zsy d q m t c dfl) names args args')
  (hloc : ∀ x ∈ names, d.scope.names.lookup x = some .local) (hcell : ∀ x ∈ d.scope.names, x.2 ≠ .cell) (hnn : (names ++ rest).Nodup)
  (hco : d.scope.isCoroutine = false) (hgen : d.scope.isGenerator = false) (hk : d.scope.kind = .function)
  (h : Nm G gl3 bl3 → ∀ (R : Ar G n) (L : Addr), XV (R.cx (callEnv (Zsy d q m t c dfl) L f) rfl rfl) (execs d.body (callEnv (Zsy d q m t c dfl) L f)) ⟨loc, obs⟩ (fnK K)) (hl : names.zip (args'.map some) ++ rest.map (·, none) = loc) :
  Fn G (.ref f) (n + 1) args obs K :=
 Zqq (o := Zbt d q m t c dfl) (by rw [g.K]; exact ho) rfl rfl rfl rfl rfl rfl (by rw [g.K]; exact hoc) hdc hcv hnl hbind hloc hcell hnn hco hgen hk (h g.N) hl
local macro_rules | `(tactic| k_exc) => return rd "( ( Zv6 ? R ( ( CA _ ( Mine.V.ref _ ) ( List.cons _ List.nil ) _ _ _ _ _ ) G ( ca_K1 ( Zzq a u ) E b ? k R ; | W"
local macro_rules | `(tactic| k_accL) => return rd "( ( Zxm ? R ( Zuz ? R | W"
local macro_rules | `(tactic| k_acc1) => return rd "( ( Zgr F.slot_str_join F.type_str_join ? R ( ( GM _ ( Mine.V.ref _ ) _ _ _ ) G ( Zc7 t F.slot_list_clear F.type_list_clear ? R ; | W"
local macro_rules | `(tactic| k_few) => return rd "( ( Zuj ? R ( ( CF _ ( Mine.V.bi _ ) ( List.cons ( Mine.V.ref _ ) List.nil ) _ _ ) G ( Zrz s ? ? R ; ( ( CF _ ( Mine.V.ty _ ) ( List.cons ( Mine.V.ref _ ) List.nil ) _ _ ) G ( ( Zjd t ? ? R ( Zht t ? ? R | ; ( Zm4 ? ? R | W"
local macro_rules | `(tactic| k_not) => return rd "( ( ( OP2 _ _ ( PySem.compareOp PySem.CmpOp.In ) ( Mine.V.int _ ) ( Mine.V.ref _ ) _ _ ) G ( ( Znn t ? R ( Zo6 t ? ? R | ; | W"
local macro_rules | `(tactic| k_accD) => return rd "( ( ( SA _ _ ( Mine.V.ref _ ) _ _ _ ) G ( ( Zs0 a s t ? R ( Zoz a s t ? R ( Ztc a s t ? R ( Zte a t s ? R ( Zuh a t s ? R ( Zql a t s ? R ( Zu5 a t s ? R ( Zwi a t s ? R ( Zxw a t s ? R ( Zs4 a t s ? R | ; | W"
local macro_rules | `(tactic| k_is) => return rd "( ( ( GA _ _ ( Mine.V.ref _ ) _ _ ) G ( ( Zvj a t t ? ( _ h h N λ E U b R ( Zyi a t t ? ( _ h h N λ E U b R ( Zrm a t t ? ( _ h h N λ E U b R ( Zyz a t t ? ( _ h h N λ E U b R | ; ( Zug ? R ( Zw9 ? R | W"
local macro_rules | `(tactic| k_get) => return rd "( ( Zth ? R ( ( EV _ ( PySem.eval ( PySem.Expr.Attribute _ _ _ ) _ ) _ _ ) G ( Zwt ? u R ; | W"
local macro_rules | `(tactic| k_put) => return rd "( ( Znz ? R ( ( XV _ ( PySem.exec ( PySem.Stmt.Assign ( List.cons ( PySem.Expr.Attribute _ _ _ ) List.nil ) _ _ ) _ ) _ _ ) G ( Zh0 ? u R ; ( Zqd ? R ( ( XV _ ( PySem.exec ( PySem.Stmt.Assign ( List.cons _ ( List.cons _ List.nil ) ) _ _ ) _ ) _ _ ) G ( Zox ? ( ( v I kr ; b k k R ; | W"
theorem Zr1 {P : Params} {G : Gl} (g : G3 P G) (n : Nat) (x dx : Addr) (a : V) (obs : List (Addr × AO)) (hb : ∀ n, a ≠ .bi n) :
  Fn G (.ref 98) (n + 1) [.ref x, a] ((x, .slots 102 dx []) :: (dx, .raw emptyDict) :: obs) fun r o => r = .none ∧ ∃ s, o = (s, .list []) :: (x, .slots 102 dx (N3 a (.int 0) (.ref s))) :: (dx, .raw emptyDict) :: obs := by
 refine Zc5 g ["self", "node"] [] [("self", some (.ref x)), ("node", some a)] rfl rfl rfl rfl rfl (Binds.plain rfl (by kpf_rest)) (by decide +kernel) (by decide +kernel) (by decide +kernel) (by kernel_rfl) (by kernel_rfl) (by kernel_rfl) ?_ rfl
 intro N R L
 w_how
 refine Zag ?_
 w_why
 intro s
 w_why
 ·exact ⟨rfl, s, rfl⟩
 ·k_strUnr
theorem Zr6 {P : Params} {G : Gl} (g : G3 P G) (n : Nat) (x dx : Addr) (obs : List (Addr × AO)) :
  Fn G (.ref 135) (n + 1) [.ref x] ((x, .inst 199 dx) :: (dx, .attrs []) :: obs) fun r o => r = .none ∧ ∃ d, o = (d, .dict []) :: (x, .inst 199 dx) :: (dx, .attrs (A4 (.ref d) .none (.int 0) (.int 0))) :: obs := by
 refine Zc5 g (args' := [.ref x, .none]) ["self", "graph"] ["node", "predecessors"] [("self", some (.ref x)), ("graph", some .none), ("node", none), ("predecessors", none)] rfl rfl rfl rfl rfl ?_ (by decide +kernel) (by decide +kernel) (by decide +kernel) (by kernel_rfl) (by kernel_rfl) (by kernel_rfl) ?_ rfl
 ·intro A E Q s vs r X k
  revert r
  intro r0
  refine VRs.consK r0 fun v _ r rl e0 => ?_
  subst e0
  o_facts rl
  refine .of (BindsTo.of_defaults (T := 128) (binds := [("self", v), ("graph", .none)]) rfl (X 128 { cls := .type "tuple", data := .seq #[.none] } (by rw [g.K]; rfl)) rfl (by with_unfolding_all exact rfl) (by with_unfolding_all exact rfl) _ _ _ _ ?_)
  exact k s.heap [v, .none] (fun _ _ e => e) (.cons r (.cons .none .nil))
 ·intro N R L
  refine Zag ?_
  w_why
  intro d
  w_why
  refine ⟨fun h => (by cases h), fun _ => ?_⟩
  w_why
  ·exact ⟨rfl, d, rfl⟩
  ·k_strUnr
section
variable {C : Cx} {σ : St}
theorem Zjv {f : Addr} {n : Nat} {args : List V} {sel rest : List (Addr × AO)} {K' : V → List (Addr × AO) → Prop} {K : V → St → Prop} (g : Good C.A n) (F : Fn C.G (.ref f) n args sel K') (p : σ.obs.Perm (sel ++ rest))
  (k : ∀ r obs', K' r obs' → K r ⟨σ.loc, obs' ++ rest⟩) : CF C (.ref f) args σ K := fun s fv vs H rf rl => by
 have S : ∀ (sel rest : List (Addr × AO)), Sel (sel ++ rest) sel rest := by
  intro sel rest
  induction sel with
  | nil => exact .nil
  | cons x l ih => exact .cons .head ih
 exact Zxu (σ := ⟨σ.loc, sel ++ rest⟩) g F (S sel rest) k s fv vs (H.perm p) rf rl
theorem Zqm {f : Addr} {n : Nat} {args : List V} {K' : V → List (Addr × AO) → Prop} {K : V → St → Prop} (g : Good C.A n) (F : Fn C.G (.ref f) n args σ.obs K') (k : ∀ r obs', K' r obs' → K r ⟨σ.loc, obs'⟩) : CF C (.ref f) args σ K :=
 Zjv (rest := []) g F (by rw [List.append_nil]) fun r o h => by rw [List.append_nil]; exact k r o h
theorem Zn7 {f : Addr} {n : Nat} {args : List V} {sel : List (Addr × AO)} {K' : V → List (Addr × AO) → Prop} {K : V → St → Prop} (rest : List (Addr × AO)) (g : Good C.A n) (F : Fn C.G (.ref f) n args sel K') (p : σ.obs.Perm (rest ++ sel))
  (k : ∀ r obs', K' r obs' → K r ⟨σ.loc, rest ++ obs'⟩) : CF C (.ref f) args σ K := fun s fv vs H rf rl => by
 refine Zae (Zjv (sel := sel) (rest := rest) (K := fun r σ' => ∃ obs', K' r obs' ∧ σ' = ⟨σ.loc, obs' ++ rest⟩) g F (p.trans List.perm_append_comm) (fun r o h => ⟨o, h, rfl⟩) s fv vs H rf rl) ?_ fun _ _ e => e
 rintro v s' ⟨a, σ', ⟨o, h, e⟩, r, H', t⟩
 subst e
 exact ⟨a, _, k a o h, r, H'.perm List.perm_append_comm, t⟩
theorem LkO.app {a : Addr} {o : AO} {p l : List (Addr × AO)} (h : LkO a o l) : LkO a o (p ++ l) := by
 induction p with
 | nil => exact h
 | cons x p ih => exact .tail ih
theorem UpO.app {a : Addr} {o o' : AO} {p l l' : List (Addr × AO)} (h : UpO a o o' l l') : UpO a o o' (p ++ l) (p ++ l') := by
 induction p with
 | nil => exact h
 | cons x p ih => exact .tail ih
end
structure Nd where
 k : Int
 x : Addr
 dx : Addr
 sx : Addr
 np : Int
 su : List Int
theorem neNd : Nonempty Nd := ⟨⟨0, 0, 0, 0, 0, []⟩⟩
structure Nq where
 k : Int
 np : Int
 su : List Int
noncomputable def Nd.q (d : Nd) : Nq := ⟨d.k, d.np, d.su⟩
noncomputable def Nd.ob (d : Nd) : List (Addr × AO) := [(d.x, .slots 102 d.dx (N3 (.int d.k) (.int d.np) (.ref d.sx))), (d.dx, .raw emptyDict), (d.sx, .list (d.su.map V.int))]
noncomputable def Zcw (l : List Nd) : List (Addr × AO) := l.flatMap Nd.ob
noncomputable def dk (l : List Nd) : List (Int × V) := l.map fun d => (d.k, .ref d.x)
theorem Zgy (p : List Nd) (d : Nd) (q : List Nd) : Zcw (p ++ d :: q) = Zcw p ++ ((d.x, .slots 102 d.dx (N3 (.int d.k) (.int d.np) (.ref d.sx))) :: (d.dx, .raw emptyDict) :: (d.sx, .list (d.su.map V.int)) :: Zcw q) := by
 simp [Zcw, Nd.ob]
theorem Zqh (p : List Nd) (d : Nd) : Zcw (p ++ [d]) = Zcw p ++ [(d.x, .slots 102 d.dx (N3 (.int d.k) (.int d.np) (.ref d.sx))), (d.dx, .raw emptyDict), (d.sx, .list (d.su.map V.int))] := by
 simp [Zcw, Nd.ob]
theorem Zi3 (l : List Nd) (k : Int) : (dk l).lookup k = (l.find? fun d => d.k == k).map fun d => V.ref d.x := by
 induction l with
 | nil => rfl
 | cons d l ih =>
  simp only [dk, List.map_cons, List.lookup_cons, List.find?_cons] at ih ⊢
  by_cases h : k = d.k
  ·subst h; simp
  ·have h1 : (k == d.k) = false := by simpa using h
   have h2 : (d.k == k) = false := by simpa using fun q => h q.symm
   rw [h1, h2]; exact ih
noncomputable def sob (x dx n2i : Addr) (rd : V) (npo nfin : Int) (l : List Nd) (obs : List (Addr × AO)) : List (Addr × AO) :=
 (x, .inst 199 dx) :: (dx, .attrs (A4 (.ref n2i) rd (.int npo) (.int nfin))) :: (n2i, .dict (dk l)) :: (Zcw l ++ obs)
theorem Zsg {l : List Nd} {k : Int} (h : (l.find? fun d => d.k == k) = none) (x dx sx : Addr) : Zwu k (.ref x) (dk l) = dk (l ++ [⟨k, x, dx, sx, 0, []⟩]) := by
 unfold Zwu
 have : ((dk l).any fun kv => decide (kv.1 = k)) = false := by
  rw [List.any_eq_false]
  intro kv hkv
  obtain ⟨d, hd, rfl⟩ := List.mem_map.mp hkv
  have := List.find?_eq_none.mp h d hd
  simpa using this
 rw [this]
 simp [dk]
theorem Zom {l : List Nd} {k : Int} (h : (l.find? fun d => d.k == k) = none) (d : Nd) (hd : d.k = k) : ((l ++ [d]).find? fun d => d.k == k) = some d := by
 rw [List.find?_append, h]
 simp [hd]
theorem Zsw {α : Type} (a b c x y z : α) (n o : List α) : (a :: b :: c :: x :: y :: z :: (n ++ o)).Perm (x :: y :: z :: ((n ++ [b, c, a]) ++ o)) := by
 exact Zew [[_], [_], [_], [_], [_], [_], n, o] [[0], [1], [2], [3], [4], [5], [6], [7]] [[3], [4], [5], [6, 1, 2, 0], [7]] rfl
noncomputable def Zf3 (l : List Nq) (k : Int) : List Nq := if l.any (fun d => d.k == k) then l else l ++ [⟨k, 0, []⟩]
theorem Zrr {l : List Nd} {k : Int} : (l.find? fun d => d.k == k).isSome = (l.map Nd.q).any fun d => d.k == k := by
 induction l with
 | nil => rfl
 | cons d l ih =>
  rw [List.find?_cons, List.map_cons, List.any_cons]
  show _ = (d.k == k || _)
  cases h : d.k == k with
  | true => rfl
  | false => rw [Bool.false_or]; exact ih
theorem Zgq {P : Params} {G : Gl} (g : G3 P G) (n : Nat) (x dx n2i : Addr) (rd : V) (npo nfin : Int) (l : List Nd) (k : Int) (obs : List (Addr × AO)) (hz : l.length ≤ 1000) :
  Fn G (.ref 142) (n + 4) [.ref x, .int k] (sob x dx n2i rd npo nfin l obs) fun r o => ∃ l' d, l'.map Nd.q = Zf3 (l.map Nd.q) k ∧ (l'.find? fun d => d.k == k) = some d ∧ r = .ref d.x ∧ o = sob x dx n2i rd npo nfin l' obs := by
 refine Zc5 g ["self", "node"] ["result"] [("self", some (.ref x)), ("node", some (.int k)), ("result", none)] rfl rfl rfl rfl rfl (Binds.plain rfl (by kpf_rest)) (by decide +kernel) (by decide +kernel) (by decide +kernel) (by kernel_rfl) (by kernel_rfl) (by kernel_rfl) ?_ rfl
 intro N R L
 refine XV.opq fun K hKK => ?_
 injection (fun x dx n2i rd npo nfin l k obs L K => 3) with g hz N hKK
 have hzz : sizeLine = 16777216 := by decide
 unfold sob
 refine Zag ?_
 w_why
 refine Zlb (by k_qdec) PySem.F.slot_dict_get PySem.F.type_dict_get ?_
 w_why
 refine Ze9 (by k_qdec) ?_
 rw [Zi3]
 w_why
 have hany := Zrr (l := l) (k := k)
 cases hf : l.find? fun d => d.k == k with
 | some d =>
  rw [hf] at hany
  refine ⟨fun h => (by cases h), fun _ => ?_⟩
  w_why
  ·refine ⟨l, d, ?_, hf, rfl, rfl⟩
   unfold Zf3
   rw [← hany]; rfl
  ·unfold sob; k_strUnr
 | none =>
  rw [hf] at hany
  refine ⟨fun _ => ?_, fun h => (by cases h)⟩
  w_why
  refine Zrc 98 R.good (Zyp g (by with_unfolding_all exact rfl)) (fun x' dx' => Zr1 g (n + 1) x' dx' (.int k) [] (by intro n h; cases h)) .nil ?_
  rintro x' dx' r o ⟨rfl, sx', rfl⟩
  refine ⟨rfl, ?_⟩
  kpf_tidy
  w_why
  refine Zff (by k_closed) ?_ (by simp [dk]; lia)
  w_why
  ·refine ⟨l ++ [⟨k, x', dx', sx', 0, []⟩], ⟨k, x', dx', sx', 0, []⟩, ?_, Zom hf _ rfl, rfl, rfl⟩
   unfold Zf3
   rw [← hany]; simp [Nd.q]
  ·unfold sob
   rw [Zsg hf x' dx' sx', Zqh]
   refine .perm ?_ .refl
   exact Zsw ..
noncomputable def Zft (k : Int) (f : Nq → Nq) (l : List Nq) : List Nq := l.map fun d => if d.k == k then f d else d
noncomputable def Zt8 (l : List Nq) (k : Int) (ps : List Int) : List Nq :=
 ps.foldl (fun l p => Zft p (fun d => { d with su := d.su ++ [k] }) (Zf3 l p)) (Zft k (fun d => { d with np := d.np + ps.length }) (Zf3 l k))
theorem Zix (l : List Nq) (k : Int) (h : (l.map (·.k)).Nodup) : ((Zf3 l k).map (·.k)).Nodup := by
 unfold Zf3
 split
 ·exact h
 ·rename_i hn
  rw [List.map_append, List.nodup_append]
  refine ⟨h, by simp, ?_⟩
  intro a ha b hb
  simp at hb
  subst hb
  rintro rfl
  apply hn
  obtain ⟨d, hd, e⟩ := List.mem_map.mp ha
  rw [List.any_eq_true]
  exact ⟨d, hd, by simpa using e⟩
theorem Zmh (l : List Nq) (k : Int) : (Zf3 l k).length ≤ l.length + 1 := by unfold Zf3; split <;> simp
theorem Zdr {l : List Nd} {k : Int} {d : Nd} (h : (l.find? fun d => d.k == k) = some d) : ∃ p q, l = p ++ d :: q ∧ d.k = k := by
 have hm := List.mem_of_find?_eq_some h
 obtain ⟨p, q, e⟩ := List.append_of_mem hm
 exact ⟨p, q, e, by simpa using List.find?_some h⟩
theorem Zjt {p q : List Nd} {d d' : Nd} {f : Nq → Nq} (hn : ((p ++ d :: q).map (·.k)).Nodup) (hd : d'.q = f d.q) : (p ++ d' :: q).map Nd.q = Zft d.k f ((p ++ d :: q).map Nd.q) := by
 have key : ∀ l : List Nd, (∀ e ∈ l, e.k ≠ d.k) → Zft d.k f (l.map Nd.q) = l.map Nd.q := by
  intro l hl
  unfold Zft
  rw [List.map_map]
  apply List.map_congr_left
  intro e he
  have : (e.q.k == d.k) = false := by simpa [Nd.q] using hl e he
  simp only [Function.comp_def, this]
  rfl
 rw [List.map_append, List.map_cons] at hn
 have hp : ∀ e ∈ p, e.k ≠ d.k := fun e he q' => by
  have := (List.nodup_append.mp hn).2.2 e.k (List.mem_map.mpr ⟨e, he, rfl⟩) d.k (.head _)
  exact this q'
 have hq : ∀ e ∈ q, e.k ≠ d.k := fun e he q' => by
  have := (List.nodup_cons.mp (List.nodup_append.mp hn).2.1).1
  exact this (List.mem_map.mpr ⟨e, he, q'⟩)
 have e0 : Zft d.k f ((p ++ d :: q).map Nd.q) = Zft d.k f (p.map Nd.q) ++ Zft d.k f [d.q] ++ Zft d.k f (q.map Nd.q) := by
  simp [Zft]
 rw [e0, key p hp, key q hq]
 have : Zft d.k f [d.q] = [d'.q] := by
  simp [Zft, Nd.q] at hd ⊢
  exact hd.symm
 rw [this]
 simp
theorem Zs2 (l : List Nd) : (l.map Nd.q).map (·.k) = l.map (·.k) := by rw [List.map_map]; rfl
theorem Zdg (x dx n2i : Addr) (rd : V) (npo nfin : Int) (p q : List Nd) (d : Nd) (obs : List (Addr × AO)) : sob x dx n2i rd npo nfin (p ++ d :: q) obs =
  (x, .inst 199 dx) :: (dx, .attrs (A4 (.ref n2i) rd (.int npo) (.int nfin))) :: (n2i, .dict (dk (p ++ d :: q))) :: (Zcw p ++ ((d.x, .slots 102 d.dx (N3 (.int d.k) (.int d.np) (.ref d.sx))) :: (d.dx, .raw emptyDict) :: (d.sx, .list (d.su.map V.int)) :: (Zcw q ++ obs))) := by
 unfold sob
 rw [Zgy, List.append_assoc]
 rfl
theorem Zpl (p q : List Nd) (d d' : Nd) (h1 : d'.k = d.k) (h2 : d'.x = d.x) : dk (p ++ d' :: q) = dk (p ++ d :: q) := by simp [dk, h1, h2]
theorem Zoi {l cur : List Nd} {k : Int} {B : Nat} (h : ∀ e ∈ l, e.su.length ≤ B) (e : cur.map Nd.q = Zf3 (l.map Nd.q) k) : ∀ e ∈ cur, e.su.length ≤ B := by
 intro d hd
 have hm : d.q ∈ Zf3 (l.map Nd.q) k := e ▸ List.mem_map.mpr ⟨d, hd, rfl⟩
 have key : ∀ y ∈ l.map Nd.q, y.su.length ≤ B := by
  intro y hy
  obtain ⟨z, hz, rfl⟩ := List.mem_map.mp hy
  exact h z hz
 unfold Zf3 at hm
 split at hm
 ·exact key _ hm
 ·rcases List.mem_append.mp hm with q | q
  ·exact key _ q
  ·simp at q
   show d.q.su.length ≤ B
   rw [q]; simp
local macro_rules | `(tactic| kin_val) => return rd "( ( LkO.app LkO.head ) E ( LkO.app ( LkO.tail LkO.head ) ) E ( LkO.app ( LkO.tail ( LkO.tail LkO.head ) ) ) E | W"
local macro_rules | `(tactic| k_newsList) => return rd "( ln ( LkO.tail A W !PySem.W.tacticK_newsList ; |"
local macro_rules | `(tactic| kxw_bool) => return rd "( ( UpO.app UpO.head ) E ( UpO.app ( UpO.tail UpO.head ) ) E ( UpO.app ( UpO.tail ( UpO.tail UpO.head ) ) ) E | W"
local macro_rules | `(tactic| k_stores12) => return rd "( un ( UpO.tail A W !PySem.W.tacticK_stores12 ; |"
theorem Ztr {P : Params} {G : Gl} (g : G3 P G) (n : Nat) (x dx n2i : Addr) (npo nfin : Int) (l : List Nd) (k : Int) (ps : List Int) (obs : List (Addr × AO)) (hz : l.length + ps.length ≤ 500) (hn : (l.map (·.k)).Nodup) (hs : ∀ d ∈ l, d.su.length ≤ 500) :
  Fn G (.ref 149) (n + 5) (.ref x :: .int k :: ps.map V.int) (sob x dx n2i .none npo nfin l obs) fun r o => r = .none ∧ ∃ l', l'.map Nd.q = Zt8 (l.map Nd.q) k ps ∧ o = sob x dx n2i .none npo nfin l' obs := by
 refine Zc5 g (args' := [.ref x, .int k, .tup (ps.map V.int)]) ["self", "node", "predecessors"] ["nodeinfo", "pred", "pred_info"] [("self", some (.ref x)), ("node", some (.int k)), ("predecessors", some (.tup (ps.map V.int))), ("nodeinfo", none), ("pred", none), ("pred_info", none)] rfl rfl rfl rfl rfl
  (Binds.star (names := ["self", "node"]) (args := [.ref x, .int k]) rfl (by simp; have : sizeLine = 16777216 := (by decide); lia) ?_) (by decide +kernel) (by decide +kernel) (by decide +kernel) (by kernel_rfl) (by kernel_rfl) (by kernel_rfl) ?_ rfl
 ·intro vs ws h1 h2
  obtain ⟨a, b, rfl⟩ := len2 h1
  cases ws <;> kernel_rfl
 intro N R L
 refine XV.opq fun K hKK => ?_
 injection (fun x dx n2i npo nfin l k ps obs L K => 4) with g hz hn hs N hKK
 have hzz : sizeLine = 16777216 := by decide
 refine Zag ?_
 unfold sob
 w_why
 refine ⟨fun h => (by cases h), fun _ => ?_⟩
 w_why
 refine Zdo 142 (by k_qdec) (by k_qdec) ?_ (Zh8 g (by with_unfolding_all exact rfl)) (by rfl)
 w_why
 refine Zqm R.good (Zgq g n x dx n2i .none npo nfin l k obs (by lia)) ?_
 rintro r o ⟨l', d, e1, e2, rfl, rfl⟩
 obtain ⟨p, q, rfl, hdk⟩ := Zdr e2
 injection (d p q) with hdk e1 e2
 rw [← hdk] at e1 ⊢
 rw [Zdg]
 w_why
 refine Zdp g (by k_newsList) (by k_newsList) ?_ (by intro n h; cases h)
 w_why
 ·refine Zeu g (by k_stores12) (by k_newsList) ?_
  w_why
  intro it
  injection (it)
  have hn' : ((p ++ d :: q).map (·.k)).Nodup := by rw [← Zs2, e1]; exact Zix _ _ (by rw [Zs2]; exact hn)
  injection (d p q it) with hdk e1 e2 hn'
  refine Zbr (fun _ _ h => h) (Ze0 .name R.good.h) (fun j loc o => ∃ oi op cur, loc = ([("self", some (.ref x)), ("node", some (.int d.k)), ("predecessors", some (.tup (ps.map V.int))), ("nodeinfo", some (.ref d.x)), ("pred", op), ("pred_info", oi)] : Loc) ∧
   cur.map Nd.q = (ps.take j).foldl (fun l p => Zft p (fun e => { e with su := e.su ++ [d.k] }) (Zf3 l p)) (Zft d.k (fun e => { e with np := e.np + ps.length }) (Zf3 (l.map Nd.q) d.k)) ∧
   cur.length ≤ l.length + 1 + j ∧ (cur.map (·.k)).Nodup ∧ (∀ e ∈ cur, e.su.length ≤ 500 + j) ∧ o = sob x dx n2i .none npo nfin cur obs) (by k_listUnr) ?_ (fun _ _ _ _ => trivial) ?_ ?_
  ·refine ⟨_, _, p ++ { d with np := d.np + ps.length } :: q, rfl, ?_, ?_, ?_, ?_, ?_⟩
   ·rw [List.take_zero, List.foldl_nil, ← e1]
    exact Zjt hn' rfl
   ·have := Zmh (l.map Nd.q) d.k
    rw [← e1] at this
    simpa using this
   ·simpa using hn'
   ·have b1 := Zoi hs e1
    intro e he
    rcases List.mem_append.mp he with h | h
    ·exact b1 e (List.mem_append_left _ h)
    ·rcases List.mem_cons.mp h with h | h
     ·subst h; exact b1 d (List.mem_append_right _ (.head _))
     ·exact b1 e (List.mem_append_right _ (.tail _ h))
   ·rw [Zdg, Zpl p q d { d with np := d.np + ps.length } rfl rfl]
    simp only [List.length_map]
  ·intro j loc o O hj hI
   injection (j loc o O) with hj hI
   obtain ⟨oi, op, cur, rfl, e3, e4, e5, e6, rfl⟩ := hI
   injection (j O oi op cur) with hj e3 e4 e5 e6
   have hj' : j < ps.length := by simpa using hj
   have e7 : (ps.map V.int).getD j V.none = V.int (ps.getD j 0) := Zah hj'
   rw [e7]
   unfold sob
   w_how
   rename_i xq1 xq2 xq3 xq4
   injection (j O oi op cur xq1 xq2) with hj e3 e4 e5 e6 hj' e7 xq3 xq4
   w_why
   refine Zdo 142 (by k_qdec) (by k_qdec) ?_ (Zh8 g (by with_unfolding_all exact rfl)) (by rfl)
   w_why
   refine Zn7 [(it, O)] R.good (Zgq g n x dx n2i .none npo nfin cur (ps.getD j 0) obs (by lia)) (.refl _) ?_
   rintro r o ⟨cur', d2, f1, f2, rfl, rfl⟩
   obtain ⟨p2, q2, rfl, f3⟩ := Zdr f2
   injection (d2 p2 q2) with f3 f1 f2
   rw [Zdg]
   kpf_tidy
   w_why
   refine Zlk g (by k_newsList) (by k_newsList) ?_ (by intro n h; cases h)
   refine Zc7 (by k_newsList) F.slot_list_append Zaw ?_
   w_why
   refine Zcn (by k_stores12) ?_ ?_
   ·w_why
    have hk2 : ((p2 ++ d2 :: q2).map (·.k)).Nodup := by rw [← Zs2, f1]; exact Zix _ _ (by rw [Zs2]; exact e5)
    refine ⟨_, _, p2 ++ { d2 with su := d2.su ++ [d.k] } :: q2, rfl, ?_, ?_, ?_, ?_, ?_⟩
    ·have et : ps.take (j + 1) = ps.take j ++ [ps.getD j 0] := by rw [List.take_add_one, getD_some (d := 0) hj']; rfl
     rw [et, List.foldl_append, ← e3]
     simp only [List.foldl_cons, List.foldl_nil]
     rw [← f1, ← f3]
     exact Zjt hk2 rfl
    ·have := Zmh (cur.map Nd.q) (ps.getD j 0)
     rw [← f1] at this
     simp at this ⊢
     lia
    ·simpa using hk2
    ·have b1 := Zoi e6 f1
     intro e he
     rcases List.mem_append.mp he with h | h
     ·have := b1 e (List.mem_append_left _ h); lia
     ·rcases List.mem_cons.mp h with h | h
      ·subst h
       have := b1 d2 (List.mem_append_right _ (.head _))
       simp; lia
      ·have := b1 e (List.mem_append_right _ (.tail _ h)); lia
    ·have := Zdg x dx n2i .none npo nfin p2 q2 { d2 with su := d2.su ++ [d.k] } obs
     rw [Zpl p2 q2 d2 { d2 with su := d2.su ++ [d.k] } rfl rfl, List.map_append] at this
     exact this.symm
   ·have b1 := Zoi e6 f1 d2 (List.mem_append_right _ (.head _))
    rw [List.length_map]; lia
  ·rintro loc o ⟨oi, op, cur, rfl, e3, e4, e5, e6, rfl⟩
   w_why
   ·refine ⟨rfl, cur, ?_, rfl⟩
    rw [e3, List.length_map, List.take_length, hdk]
    rfl
   ·exact Drp.refl
 all_goals (simp; lia)
noncomputable def Zfv (x dx n2i r : Addr) (rd : List Int) (npo nfin : Int) (l : List Nd) (obs : List (Addr × AO)) : List (Addr × AO) :=
 (x, .inst 199 dx) :: (dx, .attrs (A4 (.ref n2i) (.ref r) (.int npo) (.int nfin))) :: (n2i, .dict (dk l)) :: (r, .list (rd.map V.int)) :: (Zcw l ++ obs)
theorem Zct (x dx n2i r : Addr) (rd : List Int) (npo nfin : Int) (p q : List Nd) (d : Nd) (obs : List (Addr × AO)) : Zfv x dx n2i r rd npo nfin (p ++ d :: q) obs =
  (x, .inst 199 dx) :: (dx, .attrs (A4 (.ref n2i) (.ref r) (.int npo) (.int nfin))) :: (n2i, .dict (dk (p ++ d :: q))) :: (r, .list (rd.map V.int)) :: (Zcw p ++ ((d.x, .slots 102 d.dx (N3 (.int d.k) (.int d.np) (.ref d.sx))) :: (d.dx, .raw emptyDict) :: (d.sx, .list (d.su.map V.int)) :: (Zcw q ++ obs))) := by
 unfold Zfv
 rw [Zgy, List.append_assoc]
 rfl
theorem Zp5 {P : Params} {G : Gl} (g : G3 P G) (n : Nat) (x dx n2i r : Addr) (rd : List Int) (npo nfin : Int) (l : List Nd) (obs : List (Addr × AO)) (hz : rd.length ≤ 500) :
  Fn G (.ref 168) (n + 1) [.ref x] (Zfv x dx n2i r rd npo nfin l obs) fun v o => v = .bool (decide (nfin < npo) || !rd.isEmpty) ∧ o = Zfv x dx n2i r rd npo nfin l obs := by
 refine Zc5 g ["self"] [] [("self", some (.ref x))] rfl rfl rfl rfl rfl (Binds.plain rfl (by kpf_grow)) (by decide +kernel) (by decide +kernel) (by decide +kernel) (by kernel_rfl) (by kernel_rfl) (by kernel_rfl) ?_ rfl
 intro N R L
 have hzz : sizeLine = 16777216 := by decide
 w_how
 refine Zag ?_
 unfold Zfv
 w_why
 refine ⟨fun h => (by cases h), fun _ => ?_⟩
 w_why
 refine ⟨fun h => ?_, fun h => ?_⟩
 ·w_why
  ·refine ⟨?_, rfl⟩
   rw [h]; simp
  ·exact Drp.refl
  ·rw [List.length_map]; lia
 ·w_why
  ·exact ⟨by rw [h]; simp, rfl⟩
  ·exact Drp.refl
noncomputable def Zfx (k : Int) (f : Int → Int) (l : List Nq) : List Nq := Zft k (fun d => { d with np := f d.np }) l
noncomputable def Zif (k : Int) (f : Int → Int) (l : List Nd) : List Nd := l.map fun d => if d.k == k then { d with np := f d.np } else d
theorem Zmj (k : Int) (f : Int → Int) (l : List Nd) : (Zif k f l).map Nd.q = Zfx k f (l.map Nd.q) := by
 unfold Zif Zfx Zft
 rw [List.map_map, List.map_map]
 apply List.map_congr_left
 intro d _
 by_cases h : d.k = k <;> simp [Nd.q, h]
theorem Znq (f : Int → Int) (p q : List Nd) (d : Nd) (hn : ((p ++ d :: q).map (·.k)).Nodup) : Zif d.k f (p ++ d :: q) = p ++ { d with np := f d.np } :: q := by
 have key : ∀ l : List Nd, (∀ e ∈ l, e.k ≠ d.k) → Zif d.k f l = l := by
  intro l hl
  unfold Zif
  conv => rhs; rw [← List.map_id l]
  apply List.map_congr_left
  intro e he
  have : (e.k == d.k) = false := by simpa using hl e he
  simp [this]
 rw [List.map_append, List.map_cons] at hn
 have hp : ∀ e ∈ p, e.k ≠ d.k := fun e he q' => (List.nodup_append.mp hn).2.2 e.k (List.mem_map.mpr ⟨e, he, rfl⟩) d.k (.head _) q'
 have hq : ∀ e ∈ q, e.k ≠ d.k := fun e he q' => (List.nodup_cons.mp (List.nodup_append.mp hn).2.1).1 (List.mem_map.mpr ⟨e, he, q'⟩)
 have e0 : Zif d.k f (p ++ d :: q) = Zif d.k f p ++ Zif d.k f [d] ++ Zif d.k f q := by simp [Zif]
 rw [e0, key p hp, key q hq]
 simp [Zif]
noncomputable def Nd.st (d : Nd) : Int × Addr × Addr × Addr × List Int := (d.k, d.x, d.dx, d.sx, d.su)
theorem Zhf (k : Int) (f : Int → Int) (l : List Nd) : (Zif k f l).map Nd.st = l.map Nd.st := by
 unfold Zif
 rw [List.map_map]
 apply List.map_congr_left
 intro d _
 simp only [Function.comp_def, Nd.st]
 split <;> rfl
theorem Zdc {l l' : List Nd} (h : l'.map Nd.st = l.map Nd.st) : l'.map (·.k) = l.map (·.k) := by
 have : (l'.map Nd.st).map (·.1) = (l.map Nd.st).map (·.1) := by rw [h]
 simpa [List.map_map, Function.comp_def, Nd.st] using this
theorem Zy6 {l l' : List Nd} (h : l'.map Nd.st = l.map Nd.st) {d : Nd} (hd : d ∈ l) : ∃ e ∈ l', e.st = d.st := by
 have : d.st ∈ l'.map Nd.st := h ▸ List.mem_map.mpr ⟨d, hd, rfl⟩
 obtain ⟨e, he, q⟩ := List.mem_map.mp this
 exact ⟨e, he, q⟩
theorem Zon {l : List Nd} {k : Int} (h : k ∈ l.map (·.k)) : ∃ p d q, l = p ++ d :: q ∧ d.k = k := by
 obtain ⟨d, hd, e⟩ := List.mem_map.mp h
 obtain ⟨p, q, r⟩ := List.append_of_mem hd
 exact ⟨p, d, q, r, e⟩
theorem Zvm {p q : List Nd} {d : Nd} (hn : ((p ++ d :: q).map (·.k)).Nodup) : (dk (p ++ d :: q)).lookup d.k = some (.ref d.x) := by
 rw [Zi3]
 have : ((p ++ d :: q).find? fun e => e.k == d.k) = some d := by
  rw [List.find?_append]
  have : (p.find? fun e => e.k == d.k) = none := by
   rw [List.find?_eq_none]
   intro e he
   rw [List.map_append, List.map_cons] at hn
   have := (List.nodup_append.mp hn).2.2 e.k (List.mem_map.mpr ⟨e, he, rfl⟩) d.k (.head _)
   simpa using this
  rw [this]
  simp
 rw [this]; rfl
theorem Zhi (x dx n2i r : Addr) (rd : List Int) (npo nfin : Int) (p q : List Nd) (d : Nd) (obs : List (Addr × AO)) (f : Int → Int) (hn : ((p ++ d :: q).map (·.k)).Nodup) : Zfv x dx n2i r rd npo nfin (Zif d.k f (p ++ d :: q)) obs =
  (x, .inst 199 dx) :: (dx, .attrs (A4 (.ref n2i) (.ref r) (.int npo) (.int nfin))) :: (n2i, .dict (dk (p ++ d :: q))) :: (r, .list (rd.map V.int)) :: (Zcw p ++ ((d.x, .slots 102 d.dx (N3 (.int d.k) (.int (f d.np)) (.ref d.sx))) :: (d.dx, .raw emptyDict) :: (d.sx, .list (d.su.map V.int)) :: (Zcw q ++ obs))) := by
 rw [Znq _ _ _ _ hn, Zct, Zpl p q d { d with np := f d.np } rfl rfl]
theorem Zrg {P : Params} {G : Gl} (g : G3 P G) (n : Nat) (x dx n2i r : Addr) (rd : List Int) (npo nfin : Int) (l : List Nd) (obs : List (Addr × AO)) (hz : rd.length ≤ 500) (hn : (l.map (·.k)).Nodup) (hr : ∀ k ∈ rd, k ∈ l.map (·.k)) :
  Fn G (.ref 161) (n + 1) [.ref x] (Zfv x dx n2i r rd npo nfin l obs) fun v o => v = .tup (rd.map V.int) ∧ ∃ l', l'.map Nd.q = rd.foldl (fun l k => Zfx k (fun _ => -1) l) (l.map Nd.q) ∧ l'.map Nd.st = l.map Nd.st ∧ o = Zfv x dx n2i r [] (npo + rd.length) nfin l' obs := by
 refine Zc5 g ["self"] ["result", "n2i", "node"] [("self", some (.ref x)), ("result", none), ("n2i", none), ("node", none)] rfl rfl rfl rfl rfl (Binds.plain rfl (by kpf_grow)) (by decide +kernel) (by decide +kernel) (by decide +kernel) (by kernel_rfl) (by kernel_rfl) (by kernel_rfl) ?_ rfl
 intro N R L
 refine XV.opq fun K hKK => ?_
 injection (fun x dx n2i r rd npo nfin l obs L K => 0) with g hz hn hr N hKK
 have hzz : sizeLine = 16777216 := by decide
 refine Zag ?_
 unfold Zfv
 w_why
 refine ⟨fun h => (by cases h), fun _ => ?_⟩
 w_why
 ·intro it
  refine Zbr (fun _ _ h => h) (Ze0 .name R.good.h) (fun j loc o => ∃ op cur, loc = ([("self", some (.ref x)), ("result", some (.tup (rd.map V.int))), ("n2i", some (.ref n2i)), ("node", op)] : Loc) ∧
   cur.map Nd.q = (rd.take j).foldl (fun l k => Zfx k (fun _ => -1) l) (l.map Nd.q) ∧ cur.map Nd.st = l.map Nd.st ∧ o = Zfv x dx n2i r rd npo nfin cur obs) (by k_listUnr) ?_ (fun _ _ _ _ => trivial) ?_ ?_
  ·exact ⟨_, l, rfl, rfl, rfl, rfl⟩
  ·intro j loc o O hj hI
   obtain ⟨op, cur, rfl, e1, e2, rfl⟩ := hI
   have hj' : j < rd.length := by simpa using hj
   have e7 : (rd.map V.int).getD j V.none = V.int (rd.getD j 0) := Zah hj'
   rw [e7]
   obtain ⟨p, d, q, rfl, hd⟩ := Zon (l := cur) (k := rd.getD j 0) (by rw [Zdc e2]; exact hr _ (Zam hj'))
   have hn2 : ((p ++ d :: q).map (·.k)).Nodup := by rw [Zdc e2]; exact hn
   rw [Zct, ← hd]
   w_how
   w_why
   refine Zdb (by k_qdec) ?_ (by intro o i; exact ⟨[o, i], by kernel_rfl⟩) (Zvm hn2)
   refine Zeu g (by k_stores12) (by k_newsList) ?_
   w_why
   refine ⟨_, Zif d.k (fun _ => -1) (p ++ d :: q), rfl, ?_, ?_, ?_⟩
   ·have et : rd.take (j + 1) = rd.take j ++ [rd.getD j 0] := by rw [List.take_add_one, getD_some (d := 0) hj']; rfl
    rw [Zmj, et, List.foldl_append, ← e1, ← hd]
    rfl
   ·rw [Zhf, e2]
   ·rw [Zhi _ _ _ _ _ _ _ _ _ _ _ _ hn2]
  ·rintro loc o ⟨op, cur, rfl, e1, e2, rfl⟩
   unfold Zfv
   w_why
   ·refine ⟨rfl, cur, ?_, e2, rfl⟩
    rw [e1, List.length_map, List.take_length]
   ·simp only [List.length_map]
    exact Drp.refl
   all_goals (rw [List.length_map]; lia)
 all_goals (rw [List.length_map]; lia)
noncomputable abbrev Qs := List Nq × List Int
noncomputable def Zpq (st : Qs) (s : Int) : Option Qs := match st.1.find? (fun d => d.k == s) with
 | none => none
 | some d => some (Zfx s (· - 1) st.1, if d.np - 1 == 0 then st.2 ++ [s] else st.2)
noncomputable def Zbe {α : Type} (f : Qs → α → Option Qs) (l : List α) (st : Option Qs) : Option Qs := l.foldl (fun st a => st.bind fun st => f st a) st
noncomputable def Zd0 (st : Qs) (k : Int) : Option Qs := match st.1.find? (fun d => d.k == k) with
 | none => none
 | some d => if d.np = -1 then Zbe Zpq d.su (some (Zfx k (fun _ => -2) st.1, st.2)) else none
theorem Zgo {α : Type} (f : Qs → α → Option Qs) (l : List α) : Zbe f l none = none := by
 induction l with
 | nil => rfl
 | cons a l ih => exact ih
theorem Zel {α : Type} (f : Qs → α → Option Qs) (l m : List α) (st : Option Qs) : Zbe f (l ++ m) st = Zbe f m (Zbe f l st) := by
 unfold Zbe; rw [List.foldl_append]
theorem Zgz {α : Type} {f : Qs → α → Option Qs} {l : List α} {st : Option Qs} {b : Qs} (h : Zbe f l st = some b) (j : Nat) : ∃ c, Zbe f (l.take j) st = some c ∧ Zbe f (l.drop j) (some c) = some b := by
 have e : Zbe f (l.drop j) (Zbe f (l.take j) st) = some b := by rw [← Zel, List.take_append_drop]; exact h
 cases hc : Zbe f (l.take j) st with
 | none => rw [hc, Zgo] at e; cases e
 | some c => exact ⟨c, rfl, by rw [← hc]; exact e⟩
theorem Zgw {α : Type} {f : Qs → α → Option Qs} {l : List α} {st : Option Qs} {j : Nat} {d : α} {c : Qs} (hj : j < l.length) (h : Zbe f (l.take j) st = some c) : Zbe f (l.take (j + 1)) st = f c (l.getD j d) := by
 rw [List.take_add_one, getD_some (d := d) hj, Zel, h]
 rfl
theorem Zh6 {α : Type} {f : Qs → α → Option Qs} (hf : ∀ st a st', f st a = some st' → st.2.length ≤ st'.2.length) {l : List α} : ∀ {c b : Qs}, Zbe f l (some c) = some b → c.2.length ≤ b.2.length := by
 induction l with
 | nil => intro c b h; cases h; exact Nat.le_refl _
 | cons a l ih =>
  intro c b h
  cases hc : f c a with
  | none =>
   have h' : Zbe f l (f c a) = some b := h
   rw [hc, Zgo] at h'; cases h'
  | some c' =>
   have h' : Zbe f l (f c a) = some b := h
   rw [hc] at h'
   exact Nat.le_trans (hf _ _ _ hc) (ih h')
theorem Zp4 : ∀ (st : Qs) (a : Int) (st' : Qs), Zpq st a = some st' → st.2.length ≤ st'.2.length := by
 intro st a st' h
 unfold Zpq at h
 split at h
 ·cases h
 ·cases h
  dsimp only
  split <;> simp
theorem Zsr : ∀ (st : Qs) (a : Int) (st' : Qs), Zd0 st a = some st' → st.2.length ≤ st'.2.length := by
 intro st a st' h
 unfold Zd0 at h
 split at h
 ·cases h
 ·split at h
  ·have := Zh6 (f := Zpq) Zp4 h
   exact this
  ·cases h
theorem Zt1 {l : List Nd} {k : Int} {d : Nq} (h : (l.map Nd.q).find? (fun d => d.k == k) = some d) : ∃ p e q, l = p ++ e :: q ∧ e.k = k ∧ e.q = d := by
 have hm := List.mem_of_find?_eq_some h
 have hk := List.find?_some h
 obtain ⟨e, he, rfl⟩ := List.mem_map.mp hm
 obtain ⟨p, q, r⟩ := List.append_of_mem he
 have hk' : e.k = k := by simpa [Nd.q] using hk
 exact ⟨p, e, q, r, hk', rfl⟩
theorem Zrh {l : List Nd} {d : Nd} (h : d ∈ l) : (d.sx, AO.list (d.su.map V.int)) ∈ Zcw l := by
 unfold Zcw
 exact List.mem_flatMap.mpr ⟨d, h, by simp [Nd.ob]⟩
theorem Zv7 {P : Params} {G : Gl} (g : G3 P G) (n : Nat) (x dx n2i r : Addr) (rd : List Int) (npo nfin : Int) (l : List Nd) (ks : List Int) (res : Qs) (obs : List (Addr × AO)) (hk : ks.length ≤ 500) (hn : (l.map (·.k)).Nodup)
  (hd : Zbe Zd0 ks (some (l.map Nd.q, rd)) = some res) (hz : res.2.length ≤ 500) :
  Fn G (.ref 182) (n + 1) (.ref x :: ks.map V.int) (Zfv x dx n2i r rd npo nfin l obs) fun v o => v = .none ∧ ∃ l', l'.map Nd.q = res.1 ∧ l'.map Nd.st = l.map Nd.st ∧ o = Zfv x dx n2i r res.2 npo (nfin + ks.length) l' obs := by
 refine Zc5 g (args' := [.ref x, .tup (ks.map V.int)]) ["self", "nodes"] ["n2i", "node", "nodeinfo", "stat", "successor", "successor_info"] [("self", some (.ref x)), ("nodes", some (.tup (ks.map V.int))), ("n2i", none), ("node", none), ("nodeinfo", none), ("stat", none), ("successor", none), ("successor_info", none)] rfl rfl rfl rfl rfl
  (Binds.star (names := ["self"]) (args := [.ref x]) rfl (by simp; have : sizeLine = 16777216 := (by decide); lia) ?_) (by decide +kernel) (by decide +kernel) (by decide +kernel) (by kernel_rfl) (by kernel_rfl) (by kernel_rfl) ?_ rfl
 ·intro vs ws h1 h2
  obtain ⟨a, rfl⟩ := len1 h1
  cases ws <;> kernel_rfl
 intro N R L
 refine XV.opq fun K hKK => ?_
 injection (fun x dx n2i r rd npo nfin l ks res obs L K => 0) with g hk hn hd hz N hKK
 have hzz : sizeLine = 16777216 := by decide
 refine Zag ?_
 unfold Zfv
 w_why
 refine ⟨fun h => (by cases h), fun _ => ?_⟩
 w_why
 intro it
 injection (it)
 refine Zbr (fun _ _ h => h) (Ze0 .name R.good.h) (fun j loc o => ∃ a1 a2 a3 a4 a5 cur rdj, loc = ([("self", some (.ref x)), ("nodes", some (.tup (ks.map V.int))), ("n2i", some (.ref n2i)), ("node", a1), ("nodeinfo", a2), ("stat", a3), ("successor", a4), ("successor_info", a5)] : Loc) ∧
   Zbe Zd0 (ks.take j) (some (l.map Nd.q, rd)) = some (cur.map Nd.q, rdj) ∧ cur.map Nd.st = l.map Nd.st ∧ o = Zfv x dx n2i r rdj npo (nfin + j) cur obs) (by k_listUnr) ?_ (fun _ _ _ _ => trivial) ?_ ?_
 ·exact ⟨_, _, _, _, _, l, rd, rfl, rfl, rfl, by simp [Zfv]⟩
 ·intro j loc o O hj hI
  obtain ⟨a1, a2, a3, a4, a5, cur, rdj, rfl, e1, e2, rfl⟩ := hI
  injection (j O a1 a2 a3 a4 a5 cur rdj) with hj e1 e2
  have hj' : j < ks.length := by simpa using hj
  have e7 : (ks.map V.int).getD j V.none = V.int (ks.getD j 0) := Zah hj'
  rw [e7]
  have hnext := Zgw (d := 0) hj' e1
  obtain ⟨c', hc1, hc2⟩ := Zgz hd (j + 1)
  injection (j O a1 a2 a3 a4 a5 cur rdj c') with hj e1 e2 hj' e7 hnext hc1 hc2
  rw [hnext] at hc1
  have hle := Zh6 Zsr hc2
  unfold Zd0 at hc1
  w_how
  rename_i xq1 xq2 xq3 xq4
  injection (j O a1 a2 a3 a4 a5 cur rdj c' xq1 xq2) with hj e1 e2 hj' e7 hnext hc1 hc2 hle xq3 xq4
  cases hf : (cur.map Nd.q).find? (fun d => d.k == ks.getD j 0) with
  | none => rw [hf] at hc1; cases hc1
  | some dq =>
   rw [hf] at hc1
   dsimp only at hc1
   by_cases hnp : dq.np = -1
   ·rw [if_pos hnp] at hc1
    obtain ⟨p, d, q, rfl, hdk, rfl⟩ := Zt1 hf
    injection (p d q) with e1 e2 hnext hdk hnp hc1 hf
    have hn2 : ((p ++ d :: q).map (·.k)).Nodup := by rw [Zdc e2]; exact hn
    have hc1' : Zbe Zpq d.su (some (Zfx (ks.getD j 0) (fun _ => -2) ((p ++ d :: q).map Nd.q), rdj)) = some c' := hc1
    have hnp' : d.np = -1 := hnp
    rw [Zct, ← hdk]
    w_why
    refine Zlb (by k_qdec) PySem.F.slot_dict_get PySem.F.type_dict_get ?_
    w_why
    refine Ze9 (by k_qdec) ?_
    rw [Zvm hn2]
    w_why
    refine ⟨fun h => (by cases h), fun _ => ?_⟩
    w_why
    refine Zdp g (by k_newsList) (by k_newsList) ?_ (by intro n h; cases h)
    w_why
    refine ⟨fun h => (by rw [hnp'] at h; cases h), fun _ => ?_⟩
    w_why
    refine Zeu g (by k_stores12) (by k_newsList) ?_
    w_why
    refine Zlk g (by k_newsList) (by k_newsList) ?_ (by intro n h; cases h)
    refine Zqx (by k_newsList) ?_
    intro it2
    injection (it2)
    rename_i xq5 xq6
    injection (p d q it2) with e1 e2 hnext hdk hnp hc1 hf hn2 hc1' hnp' xq5 xq6
    refine Zbr (fun _ _ h => h) (Zav (l := d.su.map V.int) .name R.good.h) (fun i loc o => ∃ b1 b2 cur2 rd2, loc = ([("self", some (.ref x)), ("nodes", some (.tup (ks.map V.int))), ("n2i", some (.ref n2i)), ("node", some (.int d.k)), ("nodeinfo", some (.ref d.x)), ("stat", some (.int d.np)), ("successor", b1), ("successor_info", b2)] : Loc) ∧
     Zbe Zpq (d.su.take i) (some (Zfx (ks.getD j 0) (fun _ => -2) ((p ++ d :: q).map Nd.q), rdj)) = some (cur2.map Nd.q, rd2) ∧ cur2.map Nd.st = (p ++ d :: q).map Nd.st ∧ o = (it, O) :: Zfv x dx n2i r rd2 npo (nfin + j) cur2 obs) (by k_listUnr) ?_ ?_ ?_ ?_
    ·refine ⟨_, _, Zif d.k (fun _ => -2) (p ++ d :: q), rdj, rfl, ?_, ?_, ?_⟩
     ·rw [Zmj, ← hdk]; rfl
     ·rw [Zhf]
     ·rw [Zhi _ _ _ _ _ _ _ _ _ _ _ _ hn2]
    ·rintro i loc o ⟨b1, b2, cur2, rd2, rfl, f1, f2, rfl⟩
     obtain ⟨e, he, hst⟩ := Zy6 f2 (d := d) (List.mem_append_right _ (.head _))
     have h1 : e.sx = d.sx := congrArg (fun t => t.2.2.2.1) hst
     have h2 : e.su = d.su := congrArg (fun t => t.2.2.2.2) hst
     have hm := Zrh he
     rw [h1, h2] at hm
     exact LkO.of_mem (.tail _ (.tail _ (.tail _ (.tail _ (.tail _ (List.mem_append_left _ hm))))))
    ·intro i loc o O2 hi hI
     obtain ⟨b1, b2, cur2, rd2, rfl, f1, f2, rfl⟩ := hI
     have hi' : i < d.su.length := by simpa using hi
     have e8 : (d.su.map V.int).getD i V.none = V.int (d.su.getD i 0) := Zah hi'
     rw [e8]
     have hnx := Zgw (d := 0) hi' f1
     obtain ⟨c2, hd1, hd2⟩ := Zgz hc1' (i + 1)
     injection (i O2 b1 b2 cur2 rd2 c2) with hi f1 f2 hi' e8 hnx hd1 hd2
     have hd1' := hd1
     rw [hnx] at hd1'
     have hle2 := Zh6 Zp4 hd2
     unfold Zpq at hd1'
     w_how
     rename_i xq7 xq8 xq9 xq10
     injection (i O2 b1 b2 cur2 rd2 c2 xq7 xq8) with hi f1 f2 hi' e8 hnx hd1 hd2 hd1' hle2 xq9 xq10
     cases hf2 : (cur2.map Nd.q).find? (fun e => e.k == d.su.getD i 0) with
     | none => rw [hf2] at hd1'; cases hd1'
     | some dq2 =>
      rw [hf2] at hd1'
      obtain ⟨p2, e, q2, rfl, hek, rfl⟩ := Zt1 hf2
      injection (p2 e q2) with f1 f2 hnx hek hd1' hf2
      have hn3 : ((p2 ++ e :: q2).map (·.k)).Nodup := by rw [Zdc f2]; exact hn2
      rw [Zct, ← hek]
      w_why
      refine Zdb (by k_qdec) ?_ (by intro o i; exact ⟨[o, i], by kernel_rfl⟩) (Zvm hn3)
      w_why
      refine Zdp g (by k_newsList) (by k_newsList) ?_ (by intro n h; cases h)
      w_why
      refine Zeu g (by k_stores12) (by k_newsList) ?_
      w_why
      refine Zdp g (by k_newsList) (by k_newsList) ?_ (by intro n h; cases h)
      w_why
      have hd3 : some (Zfx (d.su.getD i 0) (· - 1) ((p2 ++ e :: q2).map Nd.q), if e.np - 1 == 0 then rd2 ++ [d.su.getD i 0] else rd2) = some c2 := hd1'
      refine ⟨fun h => ?_, fun h => ?_⟩
      ·rw [if_pos h] at hd3
       cases hd3
       w_why
       ·refine ⟨_, _, Zif e.k (· - 1) (p2 ++ e :: q2), rd2 ++ [e.k], rfl, ?_, ?_, ?_⟩
        ·rw [hd1, Zmj, hek]
        ·rw [Zhf, f2]
        ·rw [Zhi _ _ _ _ _ _ _ _ _ _ _ _ hn3, List.map_append]
         rfl
       ·rw [List.length_map]
        have h5 : rd2.length + 1 ≤ c'.2.length := by simpa using hle2
        lia
      ·rw [if_neg (by rw [h]; decide)] at hd3
       cases hd3
       w_why
       refine ⟨_, _, Zif e.k (· - 1) (p2 ++ e :: q2), rd2, rfl, ?_, ?_, ?_⟩
       ·rw [hd1, Zmj, hek]
       ·rw [Zhf, f2]
       ·rw [Zhi _ _ _ _ _ _ _ _ _ _ _ _ hn3]
    ·rintro loc o ⟨b1, b2, cur2, rd2, rfl, f1, f2, rfl⟩
     rw [List.length_map, List.take_length] at f1
     unfold Zfv
     w_why
     refine ⟨_, _, _, _, _, cur2, rd2, rfl, ?_, ?_, ?_⟩
     ·rw [hnext]
      unfold Zd0
      rw [hf]
      dsimp only
      rw [if_pos hnp]
      exact f1
     ·rw [f2, e2]
     ·rw [show nfin + (j : Int) + 1 = nfin + ((j + 1 : Nat) : Int) by lia]
      rfl
   ·rw [if_neg hnp] at hc1; cases hc1
 ·rintro loc o ⟨a1, a2, a3, a4, a5, cur, rdj, rfl, e1, e2, rfl⟩
  rw [List.length_map, List.take_length, hd] at e1
  have e1' := Option.some.inj e1
  w_why
  ·rw [e1']
   exact ⟨rfl, cur, rfl, e2, rfl⟩
  ·rw [List.length_map]
   exact Drp.refl
theorem Zwh : hookBefore (.type "list") = pure none := by kernel_rfl
theorem Zi0 : Slot "list" "__getattribute__" "list.__getattribute__" :=
 .of (owner := "list") (n := "__getattribute__") (by rw [typeLookup_type, builtinLookup_eq_fast]; kernel_rfl) (by decide +kernel) (by decide +kernel) (by decide +kernel)
  (by first | exact .inl (by decide +kernel) | exact .inr (by decide +kernel)) (by rw [isSubtype_type]; kernel_rfl)
theorem Zho : entryFor table "list.__getattribute__" = some Builtin.«object.__getattribute__» := entryFor_alias (id' := "object.__getattribute__") (by kernel_rfl) rfl (by decide +kernel) (by kernel_rfl)
theorem Zju (a b : Value) : argsOk "list.__getattribute__" ⟨[a, b], []⟩ := by unfold argsOk; kernel_rfl
theorem Zti : hookBefore (.type "list_iterator") = pure none := by kernel_rfl
theorem Zg9 : Slot "list_iterator" "__getattribute__" "object.__getattribute__" :=
 .of (owner := "object") (n := "__getattribute__") (by rw [typeLookup_type, builtinLookup_eq_fast]; kernel_rfl) (by decide +kernel) (by decide +kernel) (by decide +kernel)
  (by first | exact .inl (by decide +kernel) | exact .inr (by decide +kernel)) (by rw [isSubtype_type]; kernel_rfl)
theorem Zjg : entryFor table "object.__getattribute__" = some Builtin.«object.__getattribute__» := by first | exact entryFor_of_tree (by kernel_rfl) | exact entryFor_of_fast (by kernel_rfl)
theorem Zj7 (a b : Value) : argsOk "object.__getattribute__" ⟨[a, b], []⟩ := by unfold argsOk; kernel_rfl
theorem Zt2 {id T : String} (h : typeOf (.builtin id) = pure (.type T)) {r : Option Value} (e : typeLookup (.type T) "__get__" = pure r) : Builtin.ObjectAttr.getOf (some (.builtin id)) = pure r := by
 show (do typeLookup (← typeOf (.builtin id)) "__get__") = _
 rw [h]
 exact e
theorem Zi8 {id T : String} (h : typeOf (.builtin id) = pure (.type T)) (e1 : typeLookup (.type T) "__set__" = pure none) (e2 : typeLookup (.type T) "__delete__" = pure none) : Builtin.ObjectAttr.takesStores (.builtin id) = pure false := by
 have h1 : specialOf (.builtin id) "__set__" = pure none := by
  show (do typeLookup (← typeOf (.builtin id)) "__set__") = _
  rw [h]
  exact e1
 have h2 : specialOf (.builtin id) "__delete__" = pure none := by
  show (do typeLookup (← typeOf (.builtin id)) "__delete__") = _
  rw [h]
  exact e2
 unfold Builtin.ObjectAttr.takesStores
 rw [h1]
 show (do return (← specialOf (.builtin id) "__delete__").isSome) = _
 rw [h2]; rfl
section
variable {prog : Program} {w : World} {A : Around} {E : Value → Shared → Prop} {s : Shared}
theorem Zly {a : Addr} {T gaId id gid kind : String} {o : Obj} {name : Str} {Q : Value → Shared → Prop} (e : s.heap.get? a = some o) (hc : o.cls = .type T) (hd : o.dict = none) (hno : notCls o = true)
  (sl : Slot T "__getattribute__" gaId) (en : entryFor table gaId = some Builtin.«object.__getattribute__») (ar : ∀ a b, argsOk gaId ⟨[a, b], []⟩)
  (hb : hookBefore (.type T) = pure none) (lk : typeLookup (.type T) name = pure (some (.builtin id))) (g1 : Builtin.ObjectAttr.getOf (some (.builtin id)) = pure (some (.builtin gid))) (g2 : Builtin.ObjectAttr.takesStores (.builtin id) = pure false)
  (hcop : (["__module__", "__name__", "__qualname__", "__doc__", "__annotations__"] : List Str).contains name = false)
  (hget : ∀ (A : Around) (E : Value → Shared → Prop) (tk : Nat) (Q : Value → Shared → Prop), (Q (.ref s.heap.objs.size) { s with toks := tk, heap := s.heap.push { cls := .type kind, data := .fields #[.builtin id, .ref a] } }) → wpAny (model prog w) A (call (.builtin gid) [.builtin id, .ref a, .type T]) Q E { s with toks := tk })
  (hq : Q (.ref s.heap.objs.size) { s with toks := s.toks + 1, heap := s.heap.push { cls := .type kind, data := .fields #[.builtin id, .ref a] } }) : wpAny (model prog w) A (getAttr (.ref a) name true) Q E s := by
 injection (prog w A E s a T gaId id gid kind o name Q) with e hc hd hno sl en ar hb lk g1 g2 hcop hget hq
 obtain ⟨hh, g, d, t, os⟩ := s
 injection (hh g d t os) with e hget hq
 have ht : ∀ tk, Shared.TypeIs ⟨hh, g, d, tk, os⟩ (.ref a) T := fun _ => ⟨_, e, hc⟩
 unfold getAttr
 refine wpAny_bind (wpAny_mkText ?_)
 unfold getAttrBy
 refine wpAny_holding (wpAny_bind (wpAny_typeOf (ht _) (wpAny_bind (wpAny_of_eq sl.lookup ?_))))
 show wpAny _ _ (if (onTheHeap (.type T) && (Value.builtin gaId == .builtin "object.__getattribute__")) = true then _ else getAttrByItsOwn _ _ _ _ _ _) _ _ _
 rw [if_neg (by simp [onTheHeap])]
 unfold getAttrByItsOwn callGetattribute
 refine wpAny_bind (wpAny_of_eq hb ?_)
 refine wpAny_bind (wpAny_attempt (wpAny_holding ?_))
 show wpAny _ _ (if (true && onTheHeap (.builtin gaId)) = true then _ else _) _ _ _
 rw [if_neg (by simp [onTheHeap])]
 unfold boundAndCalled
 rw [sl.bind]
 refine wpAny_bind (wpAny_pure ?_)
 refine wpAny_call_entry sl (ht _) en ?_ (ar _ _)
 refine wpAny_bind (wpAny_pure ?_)
 refine wpAny_bind (wpAny_pure ?_)
 refine wpAny_bind (wpAny_typeOf (ht _) ?_)
 refine wpAny_bind ?_
 unfold Builtin.ObjectAttr.find
 refine wpAny_bind (wpAny_of_eq lk (wpAny_bind (wpAny_of_eq g1 (wpAny_bind ?_))))
 show wpAny _ _ (Builtin.ObjectAttr.takesStores (.builtin id) >>= fun b => if b = true then _ else _) _ _ _
 refine wpAny_bind (wpAny_of_eq g2 ?_)
 refine wpAny_pure ?_
 show wpAny _ _ (Builtin.ObjectAttr.ownThenClass _ _ _ _) _ _ _
 unfold Builtin.ObjectAttr.ownThenClass
 refine wpAny_bind ?_
 unfold Builtin.ObjectAttr.inOwnDict
 refine wpAny_bind ?_
 unfold Builtin.ObjectAttr.ownDict
 refine wpAny_bind (wpAny_loadPart e ?_)
 obtain ⟨oc, od, oda, osl⟩ := o
 injection (oc od oda osl) with hc hd hno e
 dsimp only at hc hd
 subst hc; subst hd
 have inst : ∀ {Q' : Option Value → Shared → Prop} {E' : Value → Shared → Prop} {A'}, Q' none ⟨hh, g, d, t + 1, os⟩ → wpAny (model prog w) A' (instanceDict a false) (fun x s' => wpAny (model prog w) A' (Builtin.ObjectAttr.inDict name x) Q' E' s') E' ⟨hh, g, d, t + 1, os⟩ := by
  intro Q' E' A' hq
  unfold instanceDict
  refine wpAny_bind (wpAny_loadPart e ?_)
  exact wpAny_pure (wpAny_pure hq)
 cases oda
 case cls => cases hno
 all_goals
  refine inst ?_
  dsimp only
  refine wpAny_bind ?_
  unfold Builtin.ObjectAttr.copiedAttributeGuard
  dsimp only
  rw [hcop]
  refine wpAny_pure ?_
  refine wpAny_bind (wpAny_rule (wpAny_pure ?_))
  dsimp only
  unfold Builtin.ObjectAttr.bindTo
  dsimp only
  refine wpAny_bind (wpAny_holding (hget _ _ _ _ ?_))
  refine wpAny_pure ⟨_, rfl, ?_⟩
  show wpAny _ _ (handedOut _) _ _ _
  exact wpAny_pure hq
theorem Zpn : typeLookup (.type "method_descriptor") "__get__" = pure (some (.builtin "method_descriptor.__get__")) := by rw [typeLookup_type, builtinLookup_eq_fast]; kernel_rfl
theorem Zpi : typeLookup (.type "wrapper_descriptor") "__get__" = pure (some (.builtin "wrapper_descriptor.__get__")) := by rw [typeLookup_type, builtinLookup_eq_fast]; kernel_rfl
theorem Zk7 : Slot "method_descriptor" "__get__" "method_descriptor.__get__" :=
 .of (owner := "method_descriptor") (n := "__get__") (by rw [typeLookup_type, builtinLookup_eq_fast]; kernel_rfl) (by decide +kernel) (by decide +kernel) (by decide +kernel)
  (by first | exact .inl (by decide +kernel) | exact .inr (by decide +kernel)) (by rw [isSubtype_type]; kernel_rfl)
theorem Zke : Slot "wrapper_descriptor" "__get__" "wrapper_descriptor.__get__" :=
 .of (owner := "wrapper_descriptor") (n := "__get__") (by rw [typeLookup_type, builtinLookup_eq_fast]; kernel_rfl) (by decide +kernel) (by decide +kernel) (by decide +kernel)
  (by first | exact .inl (by decide +kernel) | exact .inr (by decide +kernel)) (by rw [isSubtype_type]; kernel_rfl)
theorem Zjb : entryFor table "method_descriptor.__get__" = some Builtin.«method_descriptor.__get__» := entryFor_of_tree (by kernel_rfl)
theorem Zij : entryFor table "wrapper_descriptor.__get__" = some Builtin.«wrapper_descriptor.__get__» := entryFor_of_tree (by kernel_rfl)
theorem Zld (a b c : Value) : argsOk "method_descriptor.__get__" ⟨[a, b, c], []⟩ := by unfold argsOk; kernel_rfl
theorem Zk0 (a b c : Value) : argsOk "wrapper_descriptor.__get__" ⟨[a, b, c], []⟩ := by unfold argsOk; kernel_rfl
theorem Zbq : typeOf (.builtin "list_iterator.__next__") = pure (.type "wrapper_descriptor") := by show builtinType _ = _; rw [builtinType_eq_fast]; kernel_rfl
theorem Zf7 {a : Addr} {Q : Value → Shared → Prop} (hs : s.TypeIs (.ref a) "list") (hq : Q (.ref s.heap.objs.size) { s with heap := s.heap.push { cls := .type "builtin_function_or_method", data := .fields #[.builtin "list.append", .ref a] } }) : wpAny (model prog w) A (call (.builtin "method_descriptor.__get__") [.builtin "list.append", .ref a, .type "list"]) Q E s := by
 injection (prog w A E s a Q) with hs hq
 have hl := F.slot_list_append.lookup
 have sub : isSubtype (.type "list") (.type "list") = pure true := by rw [isSubtype_type]; kernel_rfl
 refine wpAny_call_entry Zk7 (self := .builtin "list.append") ?_ Zjb ?_ (Zld _ _ _)
 ·exact Zaw
 unfold Builtin.«method_descriptor.__get__»
 refine wpAny_bind (wpAny_pure ?_)
 have e1 : (Value.ref a == Value.none) = false := rfl
 have e2 : (Value.type "list" == Value.none) = false := rfl
 have e3 : Manifest.toldItsClass.contains "list.append" = false := by decide +kernel
 simp only [e1, e2, e3, Bool.false_eq_true, if_false]
 refine wpAny_bind (wpAny_bind (wpAny_pure ?_))
 refine wpAny_bind (wpAny_isInstance hs (by exact sub) ?_)
 rw [if_neg (by decide)]
 exact wpAny_pure (wpAny_bind (wpAny_newObj_type (wpAny_pure ⟨_, rfl, hq⟩) (by size_fits)))
theorem Zjp {a : Addr} {Q : Value → Shared → Prop} (hs : s.TypeIs (.ref a) "list_iterator") (hq : Q (.ref s.heap.objs.size) { s with heap := s.heap.push { cls := .type "method-wrapper", data := .fields #[.builtin "list_iterator.__next__", .ref a] } }) : wpAny (model prog w) A (call (.builtin "wrapper_descriptor.__get__") [.builtin "list_iterator.__next__", .ref a, .type "list_iterator"]) Q E s := by
 have sub : isSubtype (.type "list_iterator") (.type "list_iterator") = pure true := by rw [isSubtype_type]; kernel_rfl
 refine wpAny_call_entry Zke (self := .builtin "list_iterator.__next__") ?_ Zij ?_ (Zk0 _ _ _)
 ·exact Zbq
 unfold Builtin.«wrapper_descriptor.__get__»
 refine wpAny_bind (wpAny_pure ?_)
 dsimp only
 refine wpAny_bind (wpAny_bind (wpAny_pure ?_))
 refine wpAny_bind (wpAny_isInstance hs (by exact sub) ?_)
 rw [if_neg (by decide)]
 exact wpAny_pure (wpAny_bind (wpAny_newObj_type (wpAny_pure ⟨_, rfl, hq⟩) (by size_fits)))
theorem Zp2 {a : Addr} {xs : Array Value} {n : Nat} {Q : Value → Shared → Prop} (e : s.heap.get? a = some (listOf xs n)) (hq : Q (.ref s.heap.objs.size) { s with toks := s.toks + 1, heap := s.heap.push { cls := .type "builtin_function_or_method", data := .fields #[.builtin "list.append", .ref a] } }) : wpAny (model prog w) A (getAttr (.ref a) "append" true) Q E s :=
 Zly e rfl rfl rfl Zi0 Zho Zju Zwh F.slot_list_append.lookup (Zt2 Zaw Zpn) (Zi8 Zaw (by rw [typeLookup_type, builtinLookup_eq_fast]; kernel_rfl) (by rw [typeLookup_type, builtinLookup_eq_fast]; kernel_rfl)) (by decide +kernel)
  (fun A E tk Q h => Zf7 ⟨_, e, rfl⟩ h) hq
theorem Zup {a : Addr} {o : Obj} {Q : Value → Shared → Prop} (e : s.heap.get? a = some o) (hc : o.cls = .type "list_iterator") (hd : o.dict = none) (hno : notCls o = true) (hq : Q (.ref s.heap.objs.size) { s with toks := s.toks + 1, heap := s.heap.push { cls := .type "method-wrapper", data := .fields #[.builtin "list_iterator.__next__", .ref a] } }) : wpAny (model prog w) A (getAttr (.ref a) "__next__" true) Q E s :=
 Zly e hc hd hno Zg9 Zjg Zj7 Zti slot_listiter_next.lookup (Zt2 Zbq Zpi) (Zi8 Zbq (by rw [typeLookup_type, builtinLookup_eq_fast]; kernel_rfl) (by rw [typeLookup_type, builtinLookup_eq_fast]; kernel_rfl)) (by decide +kernel)
  (fun A E tk Q h => Zjp ⟨_, e, hc⟩ h) hq
theorem Zd7 {m self : Addr} {kind id : String} {vs : List Value} {R : Result → Shared → Prop} (hk : kind = "builtin_function_or_method" ∨ kind = "method-wrapper") (e : s.heap.get? m = some { cls := .type kind, data := .fields #[.builtin id, .ref self] })
  (hck : wpAny (model prog w) A.in1 (checkBoundCall id ⟨.ref self :: vs, []⟩) (fun _ s₁ => s₁ = s) (fun e s' => R (.error e) s') s) (hq : (Code.builtin id ⟨.ref self :: vs, []⟩).quiet = true) (h : codeAny (model prog w) A (.builtin id ⟨.ref self :: vs, []⟩) R s) : codeAny (model prog w) A (.call (.ref m) ⟨vs, []⟩) R s := by
 injection (prog w A s m self kind id vs R) with hk e hck hq h
 refine codeAny_of_tree ?_
 show wpAny _ A.in1 (callAny (.ref m) _) _ _ _
 refine wpAny_bind (wpAny_load e ?_)
 dsimp only
 have hc : (Value.type kind == .type "method" || Value.type kind == .type "builtin_function_or_method" || Value.type kind == .type "method-wrapper") = true := by
  rcases hk with rfl | rfl <;> decide
 rw [if_pos hc]
 have hm : (Value.type kind != .type "method") = true := by rcases hk with rfl | rfl <;> decide
 show wpAny _ _ (if (Value.type kind != .type "method") = true then (do checkBoundCall id ⟨.ref self :: vs, []⟩; again (.builtin id ⟨.ref self :: vs, []⟩)) else _) _ _ _
 rw [if_pos hm]
 exact wpAny_bind (wpAny_mono hck (fun _ s₁ e₁ => by subst e₁; exact wpAny_pure ⟨hq, h⟩) fun _ _ e => e)
theorem Zn8 (f : String) (hf : f = "list.append") (a v : Value) : (match Manifest.signature? "list.append" with | some sig => Bind.checkArgs "list.append" { sig with full := f } ⟨[a, v], []⟩ | none => pure ()) = pure () := by subst hf; kernel_rfl
theorem Zwz (a : Value) : (match Manifest.signature? "list_iterator.__next__" with | some sig => Bind.checkArgs "list_iterator.__next__" sig ⟨[a], []⟩ | none => pure ()) = pure () := by kernel_rfl
theorem Znb {a : Addr} {v : Value} {xs : Array Value} {n : Nat} (e : s.heap.get? a = some (listOf xs n)) : wpAny (model prog w) A (checkBoundCall "list.append" ⟨[.ref a, v], []⟩) (fun _ s₁ => s₁ = s) E s := by
 injection (prog w A E s a v xs n) with e
 have hs : s.TypeIs (.ref a) "list" := ⟨_, e, rfl⟩
 have k : builtinKind "list.append" = some .method := by decide +kernel
 have s1 : isSubtype (.type "list") (.type "module") = pure false := by rw [isSubtype_type]; kernel_rfl
 have vm : Manifest.varargsMethods.contains "list.append" = false := by decide +kernel
 have ca := fun f hf => Zn8 f hf (.ref a) v
 unfold checkBoundCall
 cases hsig : Manifest.signature? "list.append" with
 | none => exact wpAny_pure rfl
 | some sig =>
  rw [hsig] at ca
  simp only [k]
  rw [if_neg (by decide)]
  refine wpAny_bind (wpAny_isInstance hs s1 ?_)
  rw [vm, if_neg (by decide)]
  refine wpAny_bind (wpAny_bind (wpAny_loadPart e (wpAny_pure ?_)))
  rw [if_neg (by exact Bool.false_ne_true)]
  refine wpAny_bind (wpAny_typeOf hs ?_)
  dsimp only
  exact wpAny_of_eq (ca _ (by decide +kernel)) rfl
theorem Zln {a : Addr} : wpAny (model prog w) A (checkBoundCall "list_iterator.__next__" ⟨[.ref a], []⟩) (fun _ s₁ => s₁ = s) E s := by
 injection (prog w A E s a)
 have k : builtinKind "list_iterator.__next__" = some .slot := by decide +kernel
 have ca := Zwz (.ref a)
 unfold checkBoundCall
 cases hsig : Manifest.signature? "list_iterator.__next__" with
 | none => exact wpAny_pure rfl
 | some sig =>
  rw [hsig] at ca
  simp only [k]
  rw [if_pos (by decide)]
  exact wpAny_of_eq ca rfl
theorem Zd3 {m a : Addr} {v : Value} {xs : Array Value} {n : Nat} {Q : Value → Shared → Prop} (em : s.heap.get? m = some { cls := .type "builtin_function_or_method", data := .fields #[.builtin "list.append", .ref a] }) (e : s.heap.get? a = some (listOf xs n)) (hz : xs.size ≤ sizeLine)
  (h : Q .none { s with heap := s.heap.update a (Obj.mapSeq fun x => x.push v) }) : wpAny (model prog w) A (call (.ref m) [v]) Q E s := by
 refine wpAny_call (Zd7 (.inl rfl) em (Znb e) (Code.quiet_builtin _ (by decide +kernel)) (codeAny_builtin F.entry_list_append ?_))
 rw [Around.under_plainId (by decide +kernel) _]
 exact list_append a xs n v hz prog w _ (fun r s' => match r with | .ok (.ret v) => Q v s' | .ok _ => False | .error e => E e s') _ ⟨e, h⟩
theorem Zfb {m it l : Addr} {i : Nat} {items : Array Value} {v : Value} {Q : Value → Shared → Prop} (em : s.heap.get? m = some { cls := .type "method-wrapper", data := .fields #[.builtin "list_iterator.__next__", .ref it] })
  (hit : s.heap.IsListIter it l i) (hl : s.heap.IsList l items) (hx : items[i]? = some v) (h : ∀ h', h'.IsListIter it l (i + 1) → Heap.SameBut it s.heap h' → Q v { s with heap := h' }) : wpAny (model prog w) A (call (.ref m) []) Q E s := by
 obtain ⟨o, ho, hc, hd⟩ := id hit
 obtain ⟨ol, hol, _, nl, hdl⟩ := hl
 refine wpAny_call (Zd7 (.inr rfl) em Zln (Code.quiet_builtin _ (by decide +kernel)) (codeAny_builtin entry_listiter_next ?_))
 rw [Around.under_plainId (by decide +kernel) _]
 show wpAny _ _ (field (.ref it) 0 >>= _) _ _ s
 refine wpAny_bind (wpAny_field ho hd (x := .ref l) rfl ?_)
 show wpAny _ _ (if (Value.ref l == Value.none) = true then _ else _) _ _ s
 rw [if_neg (show ¬ ((Value.ref l == Value.none) = true) from Bool.false_ne_true)]
 show wpAny _ _ (field (.ref it) 1 >>= _) _ _ s
 refine wpAny_bind (wpAny_field ho hd (x := .int i 0) rfl ?_)
 show wpAny _ _ (seqItems? (.ref l) >>= _) _ _ s
 refine wpAny_bind (wpAny_seqItems hol hdl ?_)
 simp only [Int.toNat_natCast, hx]
 refine wpAny_bind (wpAny_setField ho hd (by simp) (wpAny_pure (h _ ⟨_, Heap.get?_update_self _ ho (Obj.isFreed_of_fields (Obj.data_mapFields hd _)), (Obj.cls_mapFields ..).trans hc, by
  rw [Obj.data_mapFields hd]; simp [rawInt]⟩ (Heap.SameBut.update ..))))
theorem Zfy {m it l : Addr} {i : Nat} {items : Array Value} {Q : Value → Shared → Prop} (hh : A.handled = none) (em : s.heap.get? m = some { cls := .type "method-wrapper", data := .fields #[.builtin "list_iterator.__next__", .ref it] })
  (hit : s.heap.IsListIter it l i) (hl : s.heap.IsList l items) (hx : items[i]? = none) (h : ∀ h' e h1, Heap.SameBut it s.heap h1 → Heap.MadeExc h1 h' e "StopIteration" [] → E (.ref e) { s with heap := h' }) : wpAny (model prog w) A (call (.ref m) []) Q E s := by
 injection (prog w A E s m it l i items Q) with hh em hit hl hx h
 obtain ⟨o, ho, hc, hd⟩ := id hit
 obtain ⟨ol, hol, _, nl, hdl⟩ := hl
 refine wpAny_call (Zd7 (.inr rfl) em Zln (Code.quiet_builtin _ (by decide +kernel)) (codeAny_builtin entry_listiter_next ?_))
 rw [Around.under_plainId (by decide +kernel) _]
 show wpAny _ _ (field (.ref it) 0 >>= _) _ _ s
 refine wpAny_bind (wpAny_field ho hd (x := .ref l) rfl ?_)
 show wpAny _ _ (if (Value.ref l == Value.none) = true then _ else _) _ _ s
 rw [if_neg (show ¬ ((Value.ref l == Value.none) = true) from Bool.false_ne_true)]
 show wpAny _ _ (field (.ref it) 1 >>= _) _ _ s
 refine wpAny_bind (wpAny_field ho hd (x := .int i 0) rfl ?_)
 show wpAny _ _ (seqItems? (.ref l) >>= _) _ _ s
 refine wpAny_bind (wpAny_seqItems hol hdl ?_)
 simp only [Int.toNat_natCast, hx]
 refine wpAny_bind (wpAny_rule (wpAny_bind (wpAny_setField (i := 0) ho hd (by simp) ?_)))
 show wpAny _ _ (newExc (.type "StopIteration") [] >>= _) _ _ _
 refine wpAny_bind ?_
 unfold newExc newTuple
 refine wpAny_bind (wpAny_newObj_type ?_ (by size_fits))
 refine wpAny_bind (m := firstArgMember _ _) (wpAny_of_eq (a := Value.none) (by first | rfl | (simp only [firstArgMember]; rfl)) ?_)
 refine wpAny_newObj_type ?_ (by size_fits)
 refine wpAny_raiseNew_none hh (h _ _ _ (Heap.SameBut.update ..) ⟨fun b o hb => Heap.get?_push_of_some _ (Heap.get?_push_of_some _ hb), Heap.get?_none_of_le (by simp), (s.heap.update it _).objs.size, ?_, Heap.get?_none_of_le (Nat.le_refl _), ?_⟩)
 ·exact Heap.get?_push_size _ rfl
 ·exact Heap.get?_push_of_some _ (Heap.get?_push_size _ rfl)
end
theorem Zpy : builtinKind "iter" = none := by decide +kernel
theorem Zm1 : entryFor table "iter" = some Builtin.«iter» := by first | exact entryFor_of_fast (by kernel_rfl) | exact entryFor_of_tree (by kernel_rfl)
theorem Znf : plainId "iter" = true := by decide +kernel
theorem Zqp (v : Value) : argsOk "iter" ⟨[v], []⟩ := by unfold argsOk; kernel_rfl
section
variable {C : Cx} {σ : St}
noncomputable def Zyw (kind id : String) (a : Addr) : Ob where
 P _ o := o = { cls := .type kind, data := .fields #[.builtin id, .ref a] }
 mono _ _ _ _ h := h
 noTup _ _ h vs n e := by subst h; simp [Zb7] at e
noncomputable abbrev AO.bound (kind id : String) (a : Addr) : AO := .own (Zyw kind id a)
noncomputable def oLit (l : Addr) : Ob where
 P _ o := o = { cls := .type "list_iterator", data := .fields #[.ref l, .int 0 0] }
 mono _ _ _ _ h := h
 noTup _ _ h vs n e := by subst h; simp [Zb7] at e
theorem Zt9 {a : Addr} {l : List V} {K : V → St → Prop} (h : LkO a (.list l) σ.obs) (k : ∀ m, K (.ref m) ⟨σ.loc, (m, .bound "builtin_function_or_method" "list.append" a) :: σ.obs⟩) : GA C "append" (.ref a) σ K := fun s v H r => by
 o_facts r
 refine Zb4 (H.list h) fun vs n e _ => ?_
 exact .of (Zp2 e ⟨_, _, k _, .ref _, H.alloc (n := s.toks + 1) (fun b o e => Heap.get?_push_of_some _ e) (Nat.le_refl _) (Heap.get?_push_size _ rfl) (.own rfl), .of_ext fun b o e => Heap.get?_push_of_some _ e⟩)
theorem Zzk {it a : Addr} {obs' : List (Addr × AO)} {K : V → St → Prop} (u : UpO it (.own (oLit a)) (.liter a 0) σ.obs obs') (k : ∀ m, K (.ref m) ⟨σ.loc, (m, .bound "method-wrapper" "list_iterator.__next__" it) :: obs'⟩) : GA C "__next__" (.ref it) σ K := fun s v H r => by
 o_facts r
 refine Zal (H.obj u.lk) fun O e ro => ?_
 have q := OR.ownE ro
 have q' : O = _ := q
 have H' := H.sharp u (fun O _ ro => by
  have q := OR.ownE ro
  have q' : O = _ := q
  subst q'
  exact .liter rfl rfl)
 refine .of (Zup e (by rw [q']) (by rw [q']) (by rw [q']; rfl) ⟨_, _, k _, .ref _, H'.alloc (n := s.toks + 1) (fun b o e => Heap.get?_push_of_some _ e) (Nat.le_refl _) (Heap.get?_push_size _ rfl) (.own rfl), .of_ext fun b o e => Heap.get?_push_of_some _ e⟩)
theorem Zum {a : Addr} {l : List V} {K : V → St → Prop} (h : LkO a (.list l) σ.obs) (k : ∀ it, K (.ref it) ⟨σ.loc, (it, .own (oLit a)) :: σ.obs⟩) : CF C (.bi "iter") [.ref a] σ K := fun s fv vs H rf rl => by
 o_facts rf
 revert rl
 intro rl0
 refine VRs.consK rl0 fun _ _ r rl e0 => ?_
 subst e0
 o_facts rl
 o_facts r
 refine Zb4 (H.list h) fun vs n e r => ?_
 refine .of (Calls.call_function_entry Zpy Znf Zm1 (Zqp _) ?_)
 unfold Builtin.«iter»
 refine wpAny_bind (wpAny_pure ?_)
 refine wpAny_bind (wpAny_pyIter_list ⟨_, e, rfl, n, rfl⟩ (wpAny_pure ⟨_, rfl, ?_⟩))
 exact ⟨_, _, k _, .ref _, H.alloc (n := s.toks) (fun b o e => Heap.get?_push_of_some _ e) (Nat.le_refl _) (Heap.get?_push_size _ rfl) (.own rfl), .of_ext fun b o e => Heap.get?_push_of_some _ e⟩
theorem Zbb {m a : Addr} {kind id : String} {args : List Expr} {pos : Pos} {env : Env} {K : V → St → Prop} (hk : kind = "builtin_function_or_method" ∨ kind = "method-wrapper")
  (h : LV C (spliced (backTo pos (starEach args env))) σ fun l σ₁ => LkO m (.bound kind id a) σ₁.obs ∧ CF C (.ref m) l σ₁ K) (hplain : (backTo pos (starEach args env)).any (·.1) = false) : CA C (.ref m) [] args pos env σ K :=
 Zss hplain (h.mono fun l σ₁ k => ⟨fun s fv H r => by
  o_facts r
  refine Zal (H.obj k.1) fun O e ro => ?_
  have q := OR.ownE ro
  have q' : O = _ := q
  subst q'
  refine ⟨.machine, .inr (.inl rfl), ?_⟩
  refine (Looks.ld (part := none) e).andThen ?_
  rcases hk with rfl | rfl <;> exact Looks.now, k.2⟩)
theorem Zb3 {m a : Addr} {l : List V} {x : V} {obs' : List (Addr × AO)} {K : V → St → Prop} (h : LkO m (.bound "builtin_function_or_method" "list.append" a) σ.obs) (u : UpO a (.list l) (.list (l ++ [x])) σ.obs obs') (k : K .none ⟨σ.loc, obs'⟩) (hz : l.length ≤ sizeLine) : CF C (.ref m) [x] σ K := fun s fv vs H rf rl => by
 o_facts rf
 revert rl
 intro rl0
 refine VRs.consK rl0 fun _ _ r rl e0 => ?_
 subst e0
 o_facts rl
 refine Zal (H.obj h) fun O em ro => ?_
 rename_i xv
 refine Zb4 (H.list u.lk) fun ws n e rw' => ?_
 have q := OR.ownE ro
 have q' : O = _ := q
 subst q'
 refine .of (Zd3 em e (by simpa [rw'.length] using hz) ?_)
 refine And.elim (fun H' tk => ?_) (H.mapList u e (fun x => x.push xv) (by simp) (rw'.append (.cons r .nil)))
 exact ⟨.none, _, k, .none, H', tk⟩
theorem Zsi {m it a : Addr} {l : List V} {i : Nat} {x : V} {obs' : List (Addr × AO)} {K : V → St → Prop} (h : LkO m (.bound "method-wrapper" "list_iterator.__next__" it) σ.obs) (hl : LkO a (.list l) σ.obs) (u : UpO it (.liter a i) (.liter a (i + 1)) σ.obs obs')
  (hx : l[i]? = some x) (k : K x ⟨σ.loc, obs'⟩) : CF C (.ref m) [] σ K := fun s fv vs H rf rl => by
 o_facts rf
 o_facts rl
 refine Zal (H.obj h) fun O em ro => ?_
 refine Zb4 (H.list hl) fun ws n e rw' => ?_
 refine Zal (H.obj u.lk) fun O2 e2 ro2 => ?_
 have q := OR.ownE ro
 have q' : O = _ := q
 subst q'
 refine And.elim (fun c d => ?_) (OR.literE ro2)
 refine Zal (rw'.get i hx) fun v hv rv => ?_
 refine .of (Zfb em ⟨O2, e2, c, d⟩ ⟨_, e, rfl, n, rfl⟩ (by simpa using hv) fun h' hi hs => ?_)
 obtain ⟨o3, e3, c3, d3⟩ := hi
 refine And.elim (fun H' tk => ?_) (H.set u hs e3 (.liter c3 d3) s.toks)
 exact ⟨x, _, k, rv.mono tk, H', tk⟩
noncomputable def Zs6 (cls : String) (e : Addr) (s : Shared) : Prop := ∃ t, s.heap.get? e = some { cls := .type cls, data := .fields #[.ref t, .none, .none, .none, .bool false, .none] }
theorem Ztd {m it a : Addr} {l : List V} {i : Nat} {rest : List (Addr × AO)} {K : V → St → Prop} (hh : C.A.handled = none) (h : LkO m (.bound "method-wrapper" "list_iterator.__next__" it) σ.obs) (hl : LkO a (.list l) σ.obs) (p : Pick (it, .liter a i) σ.obs rest)
  (hx : l[i]? = none) (k : ∀ e s', Holds C ⟨σ.loc, rest⟩ s' → Zs6 "StopIteration" e s' → (∀ p ∈ rest, p.1 ≠ e) → C.env.locals ≠ e → C.fz e = none → C.E (.ref e) s') : CF C (.ref m) [] σ K := fun s fv vs H rf rl => by
 o_facts rf
 o_facts rl
 refine Zal (H.obj h) fun O em ro => ?_
 refine Zb4 (H.list hl) fun ws n e rw' => ?_
 refine Zal (H.obs _ p.mem) fun O2 e2 ro2 => ?_
 have q := OR.ownE ro
 have q' : O = _ := q
 subst q'
 refine And.elim (fun c d => ?_) (OR.literE ro2)
 have : ws.toArray[i]? = none := by
  have h1 : l.length ≤ i := by simpa using hx
  have := rw'.length
  simp; lia
 refine .of (Zfy hh em ⟨O2, e2, c, d⟩ ⟨_, e, rfl, n, rfl⟩ this fun h' ex h1 hs hm => ?_)
 have ext : Heap.ExtBut it s.heap h' := fun b o hb eb => hm.keeps b o ((hs.extBut) b o hb eb)
 have fresh : ∀ b o, b ≠ it → s.heap.get? b = some o → b ≠ ex := fun b o hb eb q => by
  have := hs.extBut b o hb eb
  rw [q, hm.new] at this; cases this
 refine And.elim (fun H' tk => ?_) (H.dropExt p ext s.toks)
 obtain ⟨t, ht, _⟩ := hm.there
 have nd := (List.nodup_cons.mp H.nd)
 have nd2 := ((p.perm).map (fun x : Addr × AO => x.1)).nodup_iff.mp nd.2
 refine k ex _ H' ⟨t, ht⟩ (fun p' hp' => ?_) ?_ ?_
 ·refine Zal (H.obs p' (p.perm.mem_iff.mpr (.tail _ hp'))) fun O' e' _ => ?_
  exact fresh _ _ (fun q => (List.nodup_cons.mp nd2).1 (List.mem_map.mpr ⟨p', hp', q⟩)) e'
 ·obtain ⟨m', ⟨o', es, ep, e1, _⟩, _⟩ := H.loc
  exact fresh _ _ (fun q => nd.1 (q ▸ List.mem_map.mpr ⟨_, p.mem, rfl⟩)) e1
 ·cases z : C.fz ex with
  | none => rfl
  | some o' =>
   refine absurd rfl (fresh ex o' (fun q => ?_) (H.frz _ _ z))
   have := H.ap it (.tail _ (List.mem_map.mpr ⟨_, p.mem, rfl⟩))
   rw [← q, z] at this; cases this
end
noncomputable def FnA (G : Gl) (PA : Around → Prop) (f : Value) (n : Nat) (args : List V) (obs : List (Addr × AO)) (K : V → List (Addr × AO) → Prop) : Prop :=
 ∀ (A : Around) (fz : Addr → Option Obj) (s : Shared) (vs : List Value) (E : Value → Shared → Prop), PA A → Good A n → G.Ok fz → Led fz obs s → VRs s.heap args vs →
  wpP (model G.prog G.w) A (call f vs) (fun v s' => ∃ r obs', K r obs' ∧ VR s'.heap r v ∧ Led fz obs' s' ∧ TK s.heap s'.heap ∧ GK s.gens s'.gens ∧ s'.drawn = s.drawn ∧ s'.os = s.os) E s
theorem Znl {G : Gl} {PA : Around → Prop} {f c : Addr} {n : Nat} {args args' : List V} {obs : List (Addr × AO)} {K : V → List (Addr × AO) → Prop} {o oc : Obj} {fd : FuncData} {body : List Stmt} {cvs : Array Value} {ct : Tok} {names rest : List Str} {loc : List (Str × Option V)}
  (ho : G.K.lookup f = some o) (hd : o.data = .func fd) (hb : fd.body = .stmts body) (hcl : fd.closure = []) (hg : fd.globals = mainGlobals) (hbt : fd.builtins = builtinsNs)
  (hc : fd.code = .ref c) (hoc : G.K.lookup c = some oc) (hdc : oc.data = .fields cvs) (hcv : cvs[1]? = some (.str fd.qualname ct))
  (hnl : names.length = args'.length) (hbind : Binds G fd names args args')
  (hloc : ∀ x ∈ names, fd.scope.names.lookup x = some .local) (hcell : ∀ x ∈ fd.scope.names, x.2 ≠ .cell) (hnn : (names ++ rest).Nodup)
  (hco : fd.scope.isCoroutine = false) (hgen : fd.scope.isGenerator = false) (hk : fd.scope.kind = .function)
  (h : ∀ (R : Ar G n) (L : Addr) (A0 : Around), PA A0 → R.A = A0.deeper (callEnv fd L f) → XV (R.cx (callEnv fd L f) hg hbt) (execs body (callEnv fd L f)) ⟨loc, obs⟩ (fnK K)) (hl : names.zip (args'.map some) ++ rest.map (·, none) = loc) :
  FnA G PA (.ref f) (n + 1) args obs K := by
 injection (G PA f c n args args' obs K o oc fd body cvs ct names rest loc) with ho hd hb hcl hg hbt hc hoc hdc hcv hnl hbind hloc hcell hnn hco hgen hk h hl
 intro A fz s vs E hA g ok L R
 injection (A fz s vs E) with hA g ok L R
 subst hl
 have nn : names.Nodup := (List.nodup_append.mp hnn).1
 refine Za0 (Zcm (fd := fd) (body := body) (by have := g.d; lia) (L.frz _ _ (ok.sub _ _ ho)) hd
  ⟨c, oc, cvs, ct, hc, L.frz _ _ (ok.sub _ _ hoc), hdc, hcv⟩ hb hcell (hbind _ _ _ _ _ R (fun a o e => L.frz _ _ (ok.sub _ _ e)) fun h1 ws k1 R1 => ?_) hco hgen hk)
 have hlen := R1.length
 refine ⟨fun x hx => hloc x.1 (List.of_mem_zip hx).1, (ok.top _ fun b o e => k1 _ _ (L.frz b o e)).2.2, fun h₀ hns hkeep => ?_⟩
 injection (h1 ws h₀) with k1 R1 hlen hns hkeep
 have kk : ∀ b o, s.heap.get? b = some o → h₀.get? b = some o := fun b o e => hkeep _ _ (k1 _ _ e)
 let Ra : Ar G n := ⟨A.deeper (callEnv fd h1.objs.size f), fz, s.gens, s.drawn, s.os, ok, g.deeper _⟩
 have H : Holds (Ra.cx (callEnv fd h1.objs.size f) hg hbt) ⟨names.zip (args'.map some) ++ rest.map (·, none), obs⟩ { s with heap := h₀, toks := s.toks + (names.zip ws).length } := by
  have lts : ∀ p ∈ obs, p.1 < h1.objs.size := fun p hp => (by obtain ⟨O, e, _⟩ := L.has p hp; exact Heap.lt_size (k1 _ _ e))
  refine ⟨fun b o' e => kk _ _ (L.frz b o' e), ⟨_, hns, fun x v hx => ?_⟩, fun p hp => (by obtain ⟨O, e, r⟩ := L.has p hp; exact ⟨O, kk _ _ e, r.mono (.of_ext kk)⟩), ?_, fun a ha => ?_, ?_, GK.refl _, rfl, rfl⟩
  ·rcases List.mem_append.mp hx with hx | hx
   ·exact Zbf (binds := []) (R1.mono (.of_ext hkeep)) hnl nn x v hx
   ·obtain ⟨y, _, e⟩ := List.mem_map.mp hx; cases e
  ·show (h1.objs.size :: obs.map (·.1)).Nodup
   refine List.nodup_cons.mpr ⟨fun hm => ?_, L.nd⟩
   obtain ⟨p, hp, q⟩ := List.mem_map.mp hm
   exact absurd (lts p hp) (by rw [q]; exact Nat.lt_irrefl _)
  ·rcases List.mem_cons.mp ha with q | q
   ·have q' : a = h1.objs.size := q
    subst q'
    cases e : fz h1.objs.size with
    | none => exact e
    | some o2 => exact absurd (Heap.lt_size (k1 _ _ (L.frz _ _ e))) (Nat.lt_irrefl _)
   ·exact L.ap a q
  ·show ((names.zip (args'.map some) ++ rest.map fun x => ((x, none) : Str × Option V)).map fun x : Str × Option V => x.1).Nodup
   have e1 : (names.zip (args'.map some)).map (fun x : Str × Option V => x.1) = names := List.map_fst_zip (by rw [List.length_map, hnl]; exact Nat.le_refl _)
   rw [List.map_append, e1, List.map_map]
   have e2 : rest.map ((fun x : Str × Option V => x.1) ∘ fun x : Str => ((x, none) : Str × Option V)) = rest := by simp [Function.comp_def]
   rw [e2]; exact hnn
 refine Zae (h Ra h1.objs.size A hA rfl _ H) ?_ fun _ _ e => e.elim
 rintro fl s' ⟨a, σ', hK, r, H', tk⟩
 have hK2 : ∃ l, K a.val l ∧ Drp σ'.obs l := by cases a <;> exact hK
 obtain ⟨l, hKl, hd⟩ := hK2
 refine ⟨a.val, l, hKl, ?_, ⟨H'.frz, fun p hp => H'.obs p (hd.mem hp), hd.nd (List.nodup_cons.mp H'.nd).2, fun a ha => H'.ap a (.tail _ (hd.keys ha))⟩, (TK.of_ext kk).trans tk, H'.gens, H'.drawn, H'.os⟩
 cases r <;> first | exact VR.none | assumption
theorem Zmu {G : Gl} {PA : Around → Prop} {f c : Addr} {n : Nat} {args : List V} {obs : List (Addr × AO)} {K : V → List (Addr × AO) → Prop} {o oc : Obj} {fd : FuncData} {body : List Stmt} {cvs : Array Value} {ct : Tok} {names rest : List Str} {loc : List (Str × Option V)} {cobs : Addr → List (Addr × AO)}
  (ho : G.K.lookup f = some o) (hd : o.data = .func fd) (hb : fd.body = .stmts body) (hcl : fd.closure = []) (hg : fd.globals = mainGlobals) (hbt : fd.builtins = builtinsNs)
  (hc : fd.code = .ref c) (hoc : G.K.lookup c = some oc) (hdc : oc.data = .fields cvs) (hcv : cvs[1]? = some (.str fd.qualname ct))
  (hnl : names.length = args.length) (hbind : ∀ vs : List Value, vs.length = names.length → bindArgs fd ⟨vs, []⟩ = pure (names.zip vs))
  (hloc : ∀ x ∈ names, fd.scope.names.lookup x = some .local ∨ (x, NameKind.cell) ∈ fd.scope.names) (hsn : (fd.scope.names.map (·.1)).Nodup) (hnn : (names ++ rest).Nodup)
  (hco : fd.scope.isCoroutine = false) (hgen : fd.scope.isGenerator = false) (hk : fd.scope.kind = .function)
  (h : ∀ (R : Ar G n) (L : Addr) (A0 : Around), PA A0 → R.A = A0.deeper (callEnvC fd L f) → XV (R.cx (callEnvC fd L f) hg hbt) (execs body (callEnvC fd L f)) ⟨loc, cobs L ++ obs⟩ (fnK K))
  (hcs : ∀ L, (cellsFrom (L + 1) fd.scope.names []).map (fun p => (p.2, AO.cell ((names.zip args).lookup p.1))) = cobs L)
  (hl : (names.zip (args.map some)).filter (fun p => fd.scope.names.lookup p.1 == some .local) ++ rest.map (·, none) = loc) :
  FnA G PA (.ref f) (n + 1) args obs K := by
 injection (G PA f c n args obs K o oc fd body cvs ct names rest loc cobs) with ho hd hb hcl hg hbt hc hoc hdc hcv hnl hbind hloc hsn hnn hco hgen hk h hcs hl
 intro A fz s vs E hA g ok L R
 injection (A fz s vs E) with hA g ok L R
 subst hl
 have hlen := R.length
 have nn : names.Nodup := (List.nodup_append.mp hnn).1
 have hbn : ((names.zip vs).map (·.1)).Nodup := by rw [List.map_fst_zip (by rw [hlen, hnl]; exact Nat.le_refl _)]; exact nn
 have hcn := Zcl (n := s.heap.objs.size + 1) (acc := []) hsn (by simp) (fun _ _ y hy => by cases hy)
 have cellKind : ∀ x, (x, NameKind.cell) ∈ fd.scope.names → fd.scope.names.lookup x = some .cell := fun x hx => Zbo hsn hx
 refine Za0 (Zcc (fd := fd) (body := body) (binds := names.zip vs) (by have := g.d; lia) (L.frz _ _ (ok.sub _ _ ho)) hd (ok.top _ L.frz).2.2
  ⟨c, oc, cvs, ct, hc, L.frz _ _ (ok.sub _ _ hoc), hdc, hcv⟩ hb (hbind vs (by rw [hlen, hnl])) hcl (fun x hx => ?_) (fun s₁ X => ?_) hco hgen hk)
 ·rcases hloc x.1 (List.of_mem_zip hx).1 with q | q
  ·exact .inl q
  ·refine .inr ⟨cellKind _ q, ?_⟩
   obtain ⟨c', hc'⟩ := Zdu (n := s.heap.objs.size + 1) (acc := []) (.inl q)
   rw [Zbo hcn hc']; rfl
 obtain ⟨h₀, tk₀, rfl⟩ := X.toInCall.same
 injection (h₀ tk₀) with X
 have hkeep := X.toInCall.keep
 let Ra : Ar G n := ⟨A.deeper (callEnvC fd s.heap.objs.size f), fz, s.gens, s.drawn, s.os, ok, g.deeper _⟩
 have lts : ∀ p ∈ obs, p.1 < s.heap.objs.size := fun p hp => (by obtain ⟨O, e, _⟩ := L.has p hp; exact Heap.lt_size e)
 have hcge : ∀ p ∈ cobs s.heap.objs.size, s.heap.objs.size < p.1 := fun p hp => by
  rw [← hcs] at hp
  obtain ⟨q, hq, rfl⟩ := List.mem_map.mp hp
  rcases Zay hq with z | ⟨z, _⟩
  ·cases z
  ·exact z
 have hfzn : ∀ b, s.heap.objs.size ≤ b → fz b = none := fun b hb => by
  cases e : fz b with
  | none => rfl
  | some o2 => exact absurd (Heap.lt_size (L.frz _ _ e)) (Nat.not_lt.mpr hb)
 have H : Holds (Ra.cx (callEnvC fd s.heap.objs.size f) hg hbt) ⟨(names.zip (args.map some)).filter (fun p => fd.scope.names.lookup p.1 == some .local) ++ rest.map (·, none), cobs s.heap.objs.size ++ obs⟩ { s with heap := h₀, toks := tk₀ } := by
  refine ⟨fun b o' e => hkeep _ _ (L.frz b o' e), ⟨_, X.toInCall.ns, fun x v hx => ?_⟩, fun p hp => ?_, ?_, fun a ha => ?_, ?_, GK.refl _, rfl, rfl⟩
  ·rcases List.mem_append.mp hx with hx | hx
   ·obtain ⟨hm, hlk⟩ := List.mem_filter.mp hx
    obtain ⟨val, e, r⟩ := Zbf (binds := []) R hnl nn x v hm
    have hkl0 : fd.scope.names.lookup x = some .local := by simpa using hlk
    have hkl : (callEnvC fd s.heap.objs.size f).kindOf x = some .local := hkl0
    have hmem : (x, val) ∈ names.zip vs := List.mem_reverse.mp (mem_of_lookup e)
    exact ⟨val, Zjf hbn hmem hkl, r.mono (.of_ext hkeep)⟩
   ·obtain ⟨y, _, e⟩ := List.mem_map.mp hx
    cases e
  ·rcases List.mem_append.mp hp with hp | hp
   ·rw [← hcs] at hp
    obtain ⟨⟨y, cy⟩, hq, rfl⟩ := List.mem_map.mp hp
    obtain ⟨O, e, d⟩ := X.cell y cy (Zbo hcn hq)
    rename_i zq110_1
    injection (y cy O) with hq zq110_1 hp e d
    have hyc : (y, NameKind.cell) ∈ fd.scope.names := by
     rcases Zay hq with z | ⟨_, z⟩
     ·cases z
     ·exact z
    have hky : (callEnvC fd s.heap.objs.size f).kindOf y ≠ some .local := by
     show fd.scope.names.lookup y ≠ some .local
     rw [cellKind _ hyc]; decide
    refine ⟨O, e, ?_⟩
    have z := Zgs y R hnl
    dsimp only
    cases hlk : (names.zip args).lookup y with
    | some v =>
     rw [hlk] at z
     obtain ⟨val, hm, r⟩ := z
     rw [Zj0 hbn hm hky] at d
     exact .cell d (r.mono (.of_ext hkeep))
    | none =>
     rw [hlk] at z
     rw [Zcs z] at d
     exact .cell d trivial
   ·obtain ⟨O, e, r⟩ := L.has p hp
    exact ⟨O, hkeep _ _ e, r.mono (.of_ext hkeep)⟩
  ·show (s.heap.objs.size :: (cobs s.heap.objs.size ++ obs).map (·.1)).Nodup
   rw [List.map_append, List.nodup_cons, List.mem_append, List.nodup_append]
   refine ⟨?_, ?_, L.nd, fun a ha b hb e => ?_⟩
   ·rintro (q | q)
    ·obtain ⟨p, hp, e⟩ := List.mem_map.mp q
     have := hcge p hp
     rw [e] at this; exact Nat.lt_irrefl _ this
    ·obtain ⟨p, hp, e⟩ := List.mem_map.mp q
     have := lts p hp
     rw [e] at this; exact Nat.lt_irrefl _ this
   ·rw [← hcs, List.map_map]
    have := X.apart
    exact List.Pairwise.map _ (fun _ _ h => h) this
   ·subst e
    obtain ⟨p, hp, e1⟩ := List.mem_map.mp ha
    obtain ⟨p', hp', e2⟩ := List.mem_map.mp hb
    have h1 := hcge p hp
    have h2 := lts p' hp'
    rw [e1] at h1; rw [e2] at h2
    exact Nat.lt_asymm h1 h2
  ·rcases List.mem_cons.mp ha with q | q
   ·exact hfzn a (by rw [q]; exact Nat.le_refl _)
   ·rw [List.map_append] at q
    rcases List.mem_append.mp q with q | q
    ·obtain ⟨p, hp, e⟩ := List.mem_map.mp q
     exact hfzn a (e ▸ Nat.le_of_lt (hcge p hp))
    ·exact L.ap a q
  ·show (((names.zip (args.map some)).filter (fun p => fd.scope.names.lookup p.1 == some .local) ++ rest.map fun x => ((x, none) : Str × Option V)).map fun x : Str × Option V => x.1).Nodup
   have e1 : (names.zip (args.map some)).map (fun x : Str × Option V => x.1) = names := List.map_fst_zip (by rw [List.length_map, hnl]; exact Nat.le_refl _)
   have sb : (((names.zip (args.map some)).filter (fun p => fd.scope.names.lookup p.1 == some .local) ++ rest.map fun x => ((x, none) : Str × Option V))).Sublist ((names.zip (args.map some)) ++ rest.map fun x => ((x, none) : Str × Option V)) :=
    List.Sublist.append (List.filter_sublist) (List.Sublist.refl _)
   refine List.Nodup.sublist (sb.map _) ?_
   rw [List.map_append, e1, List.map_map]
   have e2 : rest.map ((fun x : Str × Option V => x.1) ∘ fun x : Str => ((x, none) : Str × Option V)) = rest := by simp [Function.comp_def]
   rw [e2]; exact hnn
 refine Zae (h Ra s.heap.objs.size A hA rfl _ H) ?_ fun _ _ e => e.elim
 rintro fl s' ⟨a, σ', hK, r, H', tk⟩
 have hK2 : ∃ l, K a.val l ∧ Drp σ'.obs l := by cases a <;> exact hK
 obtain ⟨l, hKl, hd⟩ := hK2
 refine ⟨a.val, l, hKl, ?_, ⟨H'.frz, fun p hp => H'.obs p (hd.mem hp), hd.nd (List.nodup_cons.mp H'.nd).2, fun a ha => H'.ap a (.tail _ (hd.keys ha))⟩, (TK.of_ext hkeep).trans tk, H'.gens, H'.drawn, H'.os⟩
 cases r <;> first | exact VR.none | assumption
noncomputable def oFrm (m : Str → Option Value) : Ob where
 P _ o := ∃ es ep, o.data = .dict es ep ∧ StrKeys es ∧ ∀ name, nsFind es name = m name
 mono _ _ _ _ h := h
 noTup _ _ h vs n e := by obtain ⟨es, ep, h, _⟩ := h; subst e; simp [Zb7] at h
noncomputable abbrev AO.frm (m : Str → Option Value) : AO := .own (oFrm m)
noncomputable abbrev Frs := List (Addr × (Str → Option Value))
noncomputable def Zax (fr : Frs) : List (Addr × AO) := fr.map fun p => (p.1, .frm p.2)
noncomputable def Zrj (fr : Frs) (env : Env) : Prop := env.scope.kind ≠ .module ∧ ∃ L, env.frame = some L ∧ L ∈ fr.map (·.1)
noncomputable def FrOf (fr : Frs) (A : Around) : Prop := ∃ l, A.frames = some l ∧ ∀ env ∈ l, Zrj fr env
noncomputable def FrIn (C : Cx) (fr : Frs) : Prop := ∃ l, C.A.frames = some (C.env :: l) ∧ C.env.scope.kind ≠ .module ∧ C.env.frame = some C.env.locals ∧ ∀ env ∈ l, Zrj fr env
noncomputable def FnR (G : Gl) (f : Value) (n : Nat) (args : List V) (obs : List (Addr × AO)) (K : V → List (Addr × AO) → Prop) : Prop :=
 ∀ fr : Frs, FnA G (FrOf fr) f n args (obs ++ Zax fr) fun r o => ∃ o2, o = o2 ++ Zax fr ∧ K r o2
theorem FrOf.deeper {fr : Frs} {A : Around} (h : FrOf fr A) (env : Env) : ∃ l, (A.deeper env).frames = some (env :: l) ∧ ∀ e ∈ l, Zrj fr e := by
 obtain ⟨l, a, b⟩ := h
 exact ⟨l, by show A.frames.map _ = _; rw [a]; rfl, b⟩
section
variable {C : Cx} {σ : St}
theorem FrIn.of (fr : Frs) : FrIn C fr → ∀ m, FrOf ((C.env.locals, m) :: fr) C.A := fun ⟨l, a, b, c, d⟩ m => ⟨_, a, fun env he => by
 rcases List.mem_cons.mp he with e | e
 ·subst e; exact ⟨b, _, c, .head _⟩
 ·obtain ⟨x, L, y, z⟩ := d env e
  exact ⟨x, L, y, .tail _ z⟩⟩
theorem Ns.ofrm {h : Heap} {a : Addr} {m : Str → Option Value} (x : h.Ns a m) : ∃ O, h.get? a = some O ∧ OR h (.frm m) O := (by obtain ⟨o, es, ep, e, r⟩ := x; exact ⟨o, e, .own ⟨es, ep, r⟩⟩)
theorem Ns.unfrm {h : Heap} {a : Addr} {m : Str → Option Value} {O : Obj} (e : h.get? a = some O) (r : OR h (.frm m) O) : h.Ns a m := by
 have q := OR.ownE r
 obtain ⟨es, ep, r⟩ := q; exact ⟨O, es, ep, e, r⟩
open Classical in
theorem Zsm {f : Value} {n : Nat} {args : List V} {sel rest : List (Addr × AO)} {fr : Frs} {K' : V → List (Addr × AO) → Prop} {K : V → St → Prop} (F : FnR C.G f n args sel K') (g : Good C.A n) (hf : FrIn C fr)
  (P : σ.obs.Perm (sel ++ (Zax fr ++ rest))) (k : ∀ r obs', K' r obs' → K r ⟨σ.loc, obs' ++ (Zax fr ++ rest)⟩) : OPL C VR (fun vs => call f vs) args σ K := by
 injection (C σ f n args sel rest fr K' K) with F g hf P k
 intro s vs H R
 refine Zal (H.loc) fun m hN hm => ?_
 have hNo := hN
 obtain ⟨oL, _, _, eL, _⟩ := hNo
 rename_i zq212_1 zq212_2 zq212_3
 injection (s vs m oL zq212_1 zq212_2) with H R hN hm eL zq212_3
 let fr' : Frs := (C.env.locals, m) :: fr
 have hfo : Zax fr' = (C.env.locals, .frm m) :: Zax fr := rfl
 have ND : (C.env.locals :: (sel ++ (Zax fr ++ rest)).map (·.1)).Nodup := by
  refine List.nodup_cons.mpr ⟨fun q => (List.nodup_cons.mp H.nd).1 ((P.map (fun x : Addr × AO => x.1)).mem_iff.mpr q), (P.map (fun x : Addr × AO => x.1)).nodup_iff.mp (List.nodup_cons.mp H.nd).2⟩
 have P2 : (C.env.locals :: (sel ++ (Zax fr ++ rest)).map (·.1)).Perm ((sel ++ Zax fr').map (·.1) ++ rest.map (·.1)) := by
  simp only [hfo, List.map_append, List.map_cons, List.append_assoc, List.cons_append]
  exact (List.perm_middle).symm
 have ND2 := P2.nodup_iff.mp ND
 let S := (sel ++ Zax fr').map (·.1)
 let fz' : Addr → Option Obj := fun b => if b ∈ S then none else s.heap.get? b
 have inAll : ∀ b, b ∈ S → b ∈ C.env.locals :: σ.obs.map (·.1) := fun b hb => by
  have : b ∈ C.env.locals :: (sel ++ (Zax fr ++ rest)).map (·.1) := P2.mem_iff.mpr (List.mem_append_left _ hb)
  rcases List.mem_cons.mp this with q | q
  ·subst q; exact .head _
  ·exact .tail _ ((P.map (fun x : Addr × AO => x.1)).mem_iff.mpr q)
 have up : ∀ b o, C.fz b = some o → fz' b = some o := fun b o e => by
  have hb : b ∉ S := fun hm => by
   have := H.ap b (inAll b hm)
   rw [e] at this; cases this
  show (if b ∈ S then none else s.heap.get? b) = some o
  rw [if_neg hb]; exact H.frz b o e
 have ok' : C.G.Ok fz' := ⟨fun a o e => up a o (C.ok.sub a o e), fun h hk => C.ok.top h fun b o e => hk b o (up b o e), (by obtain ⟨o, e⟩ := C.ok.sm; exact ⟨o, up _ _ e⟩)⟩
 have L : Led fz' (sel ++ Zax fr') s := by
  refine ⟨fun b o e => ?_, fun p hp => ?_, (List.nodup_append.mp ND2).1, fun a ha => if_pos ha⟩
  ·by_cases hb : b ∈ S
   ·have : fz' b = none := if_pos hb
    rw [this] at e; cases e
   ·have : fz' b = s.heap.get? b := if_neg hb
    rw [this] at e; exact e
  ·rcases List.mem_append.mp hp with hp | hp
   ·exact H.obs p (P.mem_iff.mpr (List.mem_append_left _ hp))
   ·rw [hfo] at hp
    rcases List.mem_cons.mp hp with q | q
    ·subst q; exact Ns.ofrm hN
    ·exact H.obs p (P.mem_iff.mpr (List.mem_append_right _ (List.mem_append_left _ q)))
 refine Zae (F fr' C.A fz' s vs C.E (hf.of _ m) g ok' L R) ?_ fun _ _ e => e
 rintro v s' ⟨r, obs', ⟨o2, ho2, hK⟩, hr, L', tk, h1, h2, h3⟩
 refine ⟨r, _, k r o2 hK, hr, ?_, tk⟩
 subst ho2
 have kept : ∀ b o, b ∉ S → s.heap.get? b = some o → s'.heap.get? b = some o := fun b o hb e => L'.frz b o (by show (if b ∈ S then none else s.heap.get? b) = some o; rw [if_neg hb]; exact e)
 have some_of : ∀ b o, b ∉ S → s.heap.get? b = some o → b ∉ (o2 ++ Zax fr').map (·.1) := fun b o hb e hm => by
  have := L'.ap b hm
  have q : fz' b = s.heap.get? b := if_neg hb
  rw [q, e] at this; cases this
 have rest_ne : ∀ p ∈ rest, p.1 ∉ S := fun p hp hm => (List.nodup_append.mp ND2).2.2 _ hm _ (List.mem_map.mpr ⟨p, hp, rfl⟩) rfl
 have nd' := L'.nd
 rw [hfo, List.map_append, List.map_cons] at nd'
 have nd2 : (C.env.locals :: (o2 ++ Zax fr).map (·.1)).Nodup := by
  rw [List.map_append]
  exact List.perm_middle.nodup_iff.mp nd'
 refine ⟨fun b o e => L'.frz b o (up b o e), ?_, fun p hp => ?_, ?_, fun a ha => ?_, H.nn, H.gens.trans h1, h2.trans H.drawn, h3.trans H.os⟩
 ·obtain ⟨O, e, r⟩ := L'.has (C.env.locals, .frm m) (List.mem_append_right _ (.head _))
  exact ⟨m, Ns.unfrm e r, fun x v hx => (by obtain ⟨val, e, r⟩ := hm x v hx; exact ⟨val, e, r.mono tk⟩)⟩
 ·rcases List.mem_append.mp hp with hp | hp
  ·exact L'.has p (List.mem_append_left _ hp)
  ·rcases List.mem_append.mp hp with hp | hp
   ·exact L'.has p (List.mem_append_right _ (.tail _ hp))
   ·refine Zal (H.obs p (P.mem_iff.mpr (List.mem_append_right _ (List.mem_append_right _ hp)))) fun O e ro => ?_
    exact ⟨O, kept _ _ (rest_ne p hp) e, ro.mono tk⟩
 ·show (C.env.locals :: (o2 ++ (Zax fr ++ rest)).map (·.1)).Nodup
  rw [← List.append_assoc, List.map_append, ← List.cons_append, List.nodup_append]
  refine ⟨nd2, (List.nodup_append.mp ND2).2.1, fun a ha b hb e => ?_⟩
  subst e
  obtain ⟨p, hp, rfl⟩ := List.mem_map.mp hb
  refine Zal (H.obs p (P.mem_iff.mpr (List.mem_append_right _ (List.mem_append_right _ hp)))) fun O e _ => ?_
  refine some_of _ _ (rest_ne p hp) e ?_
  rw [hfo, List.map_append, List.map_cons]
  rw [List.map_append] at ha
  exact List.perm_middle.mem_iff.mpr ha
 ·rcases List.mem_cons.mp ha with q | q
  ·subst q; exact H.ap _ (.head _)
  ·have q' : a ∈ (o2 ++ (Zax fr ++ rest)).map (·.1) := q
   rw [← List.append_assoc, List.map_append] at q'
   rcases List.mem_append.mp q' with q | q
   ·cases e : C.fz a with
    | none => rfl
    | some o2' =>
     have := L'.ap a (by
      rw [hfo, List.map_append, List.map_cons]
      rw [List.map_append] at q
      exact List.perm_middle.mem_iff.mpr (.tail _ q))
     rw [up a o2' e] at this; cases this
   ·obtain ⟨p, hp, rfl⟩ := List.mem_map.mp q
    exact H.ap _ (.tail _ (List.mem_map.mpr ⟨p, P.mem_iff.mpr (List.mem_append_right _ (List.mem_append_right _ hp)), rfl⟩))
end
theorem Zsa : isSubtype (.type "StopIteration") (.type "BaseException") = pure true := by rw [isSubtype_type]; kernel_rfl
theorem Zuc : isSubtype (.type ((Manifest.find? "StopIteration").elim "type" fun x => x.metatype)) (.type "tuple") = pure false := by rw [isSubtype_type]; kernel_rfl
section
variable {M : Model} {A : Around} {E : Value → Shared → Prop} {s : Shared}
theorem Zfk {base : Heap} {env : Env} {outer : List Env} {L e : Addr} {oe : Obj} {vs : Array Value} {a0 : Value} {Q : Unit → Shared → Prop}
  (hfr : A.frames = some (env :: outer)) (hl : s.heap.FunFrames base (env :: outer)) (hf : env.frame = some L)
  (he : s.heap.get? e = some oe) (hkb : base.StaysIn s.heap) (hen : base.get? e = none) (hd : oe.data = .fields vs) (h1 : vs[1]? = some .none) (h0 : vs[0]? = some a0)
  (h : ∀ h', Heap.NotedW base (env :: outer) e oe.cls a0 (rawInt L) s.heap h' → Q () { s with heap := h' }) : wpAny M A (noteFrame (.ref e) env) Q E s := by
 unfold noteFrame
 simp only [hf]
 refine wpAny_bind (wpAny_field he hd h1 ?_)
 rw [if_neg (by decide)]
 exact wpAny_entryW hfr hl hf he hkb hen hd (Array.getElem?_eq_some_iff.mp h1).1 h0 h
end
section
variable {C : Cx} {σ : St}
noncomputable def hid (C : Cx) (fr : Frs) (e : Addr) : List Addr := C.env.locals :: e :: fr.map (·.1)
theorem Holds.slots {s : Shared} (H : Holds C σ s) {fr : Frs} (hsub : ∀ p ∈ Zax fr, p ∈ σ.obs) {cls : String} {e : Addr} (he : Zs6 cls e s) (hne : ∀ p ∈ σ.obs, p.1 ≠ e) (hl : C.env.locals ≠ e) (hz : C.fz e = none)
  {h' : Heap} (st : (hideAll s.heap (hid C fr e)).StaysIn h') (us : s.heap.UpToSlots h') : Holds C σ { s with heap := h' } ∧ TK s.heap h' := by
 refine Zal (H.loc) fun m hN hm => ?_
 have kept : ∀ b o, b ∉ hid C fr e → s.heap.get? b = some o → h'.get? b = some o := fun b o hb eb => st b o (hideAll_get _ eb hb)
 have frk : ∀ b, b ∈ fr.map (·.1) → ∃ m, (b, AO.frm m) ∈ σ.obs := fun b hb => by
  obtain ⟨p, hp, rfl⟩ := List.mem_map.mp hb
  exact ⟨p.2, hsub _ (List.mem_map.mpr ⟨p, hp, rfl⟩)⟩
 have tk : TK s.heap h' := fun b vs n eb => by
  by_cases hb : b ∈ hid C fr e
  ·exfalso
   rcases List.mem_cons.mp hb with q | hb
   ·obtain ⟨o, es, ep, e1, e2, _⟩ := hN
    have e1' : s.heap.get? b = some o := by rw [q]; exact e1
    rw [eb] at e1'; cases e1'; cases e2
   rcases List.mem_cons.mp hb with q | hb
   ·obtain ⟨t, ht⟩ := he
    rw [q, ht] at eb; cases eb
   ·obtain ⟨m', hm'⟩ := frk b hb
    refine Zal (H.obs _ hm') fun O e1 r => ?_
    have e1' : s.heap.get? b = some O := e1
    rw [eb] at e1'; cases e1'
    exact r.noTup vs n rfl
  ·exact kept b _ hb eb
 have ndk := (List.nodup_cons.mp H.nd)
 have outer : ∀ p ∈ σ.obs, p.1 ∉ fr.map (·.1) → p.1 ∉ hid C fr e := fun p hp hf hm => by
  rcases List.mem_cons.mp hm with q | hm
  ·exact ndk.1 (q ▸ List.mem_map.mpr ⟨p, hp, rfl⟩)
  rcases List.mem_cons.mp hm with q | hm
  ·exact hne p hp q
  ·exact hf hm
 refine ⟨⟨fun b o eb => kept b o (fun hm => ?_) (H.frz b o eb), ⟨m, us.ns hN, fun x v hx => (by obtain ⟨val, e, r⟩ := hm x v hx; exact ⟨val, e, r.mono tk⟩)⟩, fun p hp => ?_, H.nd, H.ap, H.nn, H.gens, H.drawn, H.os⟩, tk⟩
 ·rcases List.mem_cons.mp hm with q | hm
  ·have := H.ap b (q ▸ .head _); rw [eb] at this; cases this
  rcases List.mem_cons.mp hm with q | hm
  ·rw [q, hz] at eb; cases eb
  ·obtain ⟨m', hm'⟩ := frk b hm
   have := H.ap b (.tail _ (List.mem_map.mpr ⟨_, hm', rfl⟩)); rw [eb] at this; cases this
 ·by_cases hf : p.1 ∈ fr.map (·.1)
  ·obtain ⟨m', hm'⟩ := frk _ hf
   have hp' : p = (p.1, AO.frm m') := by
    have key : ∀ (l : List (Addr × AO)), (l.map (·.1)).Nodup → p ∈ l → (p.1, AO.frm m') ∈ l → p = (p.1, AO.frm m') := by
     intro l
     induction l with
     | nil => intro _ h; cases h
     | cons y l ih =>
      intro nd h1 h2
      have nd' := List.nodup_cons.mp nd
      rcases List.mem_cons.mp h1 with q1 | q1
      ·rcases List.mem_cons.mp h2 with q2 | q2
       ·rw [q1, ← q2]
       ·exact absurd (List.mem_map.mpr ⟨_, q2, by rw [← q1]⟩) nd'.1
      ·rcases List.mem_cons.mp h2 with q2 | q2
       ·exact absurd (List.mem_map.mpr ⟨_, q1, by rw [← q2]⟩) nd'.1
       ·exact ih nd'.2 q1 q2
    exact key _ ndk.2 hp hm'
   refine Zal (H.obs p hp) fun O e1 r => ?_
   rw [hp'] at r
   obtain ⟨sl, e2⟩ := us p.1 O e1 (fun vs q => by
    have z := OR.ownE r
    obtain ⟨es, ep, z, _⟩ := z; rw [z] at q; cases q)
   refine ⟨_, e2, ?_⟩
   rw [hp']
   have z := OR.ownE r
   exact .own z
  ·refine Zal (H.obs p hp) fun O e1 r => ?_
   exact ⟨O, kept _ _ (outer p hp hf) e1, r.mono tk⟩
theorem FrIn.fun {fr : Frs} {l : List Env} {s : Shared} (H : Holds C σ s) (hsub : ∀ p ∈ Zax fr, p ∈ σ.obs) {e : Addr} (hk : C.env.scope.kind ≠ .module) (hfr : C.env.frame = some C.env.locals) (hl : ∀ env ∈ l, Zrj fr env) :
  s.heap.FunFrames (hideAll s.heap (hid C fr e)) (C.env :: l) := by
 injection (C σ fr l s e) with H hsub hk hfr hl
 obtain ⟨m, ⟨o, es, ep, e1, e2, _⟩, _⟩ := H.loc
 refine ⟨hk, ⟨_, o, hfr, hideAll_none _ (.head _), e1, fun vs q => by rw [e2] at q; cases q⟩, ?_⟩
 induction l with
 | nil => trivial
 | cons env l ih =>
  obtain ⟨hk', L, hf, hL⟩ := hl env (.head _)
  refine ⟨hk', ?_, ih fun env he => hl env (.tail _ he)⟩
  obtain ⟨p, hp, rfl⟩ := List.mem_map.mp hL
  refine Zal (H.obs _ (hsub _ (List.mem_map.mpr ⟨p, hp, rfl⟩))) fun O e3 r => ?_
  refine ⟨p.1, O, hf, hideAll_none _ (.tail _ (.tail _ (List.mem_map.mpr ⟨p, hp, rfl⟩))), e3, fun vs q => ?_⟩
  have z := OR.ownE r
  obtain ⟨es, ep, z, _⟩ := z; rw [z] at q; cases q
open Classical in
noncomputable def fzT (C : Cx) (h : Heap) : Addr → Option Obj := fun b => match C.fz b with
 | some o => some o
 | none => match h.get? b with
  | some o => if ∃ vs n, o = Zb7 vs n then some o else none
  | none => none
theorem Zgj (C : Cx) (h : Heap) {b : Addr} {o : Obj} (e : C.fz b = some o) : fzT C h b = some o := by unfold fzT; rw [e]
theorem Zx0 {C : Cx} {σ : St} {s : Shared} (H : Holds C σ s) {b : Addr} {o : Obj} (e : fzT C s.heap b = some o) : s.heap.get? b = some o := by
 injection (C σ s b o) with H e
 unfold fzT at e
 cases z : C.fz b with
 | some o' => rw [z] at e; cases e; exact H.frz b o z
 | none =>
  rw [z] at e
  cases y : s.heap.get? b with
  | none => rw [y] at e; cases e
  | some o' =>
   rw [y] at e
   dsimp only at e
   split at e
   ·exact e
   ·cases e
theorem Zuy {C : Cx} {σ : St} {s : Shared} (H : Holds C σ s) {b : Addr} {vs : Array Value} {n : Nat} (e : s.heap.get? b = some (Zb7 vs n)) : fzT C s.heap b = some (Zb7 vs n) := by
 unfold fzT
 cases z : C.fz b with
 | some o' => have := H.frz b o' z; rw [e] at this; rw [← this]
 | none =>
  dsimp only
  rw [e]
  dsimp only
  rw [if_pos ⟨vs, n, rfl⟩]
theorem Zs3 {C : Cx} {s : Shared} {b : Addr} (z : C.fz b = none) (h : ∀ vs n, s.heap.get? b ≠ some (Zb7 vs n)) : fzT C s.heap b = none := by
 unfold fzT
 rw [z]
 dsimp only
 cases y : s.heap.get? b with
 | none => rfl
 | some o' =>
  dsimp only
  rw [if_neg]
  rintro ⟨vs, n, rfl⟩
  exact h vs n y
noncomputable abbrev Cx.sw (C : Cx) (fz : Addr → Option Obj) (E : Value → Shared → Prop) (ok : C.G.Ok fz) : Cx := ⟨C.G, C.A, C.env, fz, C.gens, C.drawn, C.os, E, ok, C.eg, C.eb⟩
theorem okT {C : Cx} (h : Heap) : C.G.Ok (fzT C h) := ⟨fun a o e => Zgj C h (C.ok.sub a o e), fun g hk => C.ok.top g fun b o e => hk b o (Zgj C h e), (by obtain ⟨o, e⟩ := C.ok.sm; exact ⟨o, Zgj C h e⟩)⟩
theorem Holds.toT {C : Cx} {σ : St} {s : Shared} (H : Holds C σ s) (E : Value → Shared → Prop) : Holds (C.sw (fzT C s.heap) E (okT s.heap)) σ s := by
 refine ⟨fun b o e => Zx0 H e, H.loc, H.obs, H.nd, fun a ha => Zs3 (H.ap a ha) fun vs n e => ?_, H.nn, H.gens, H.drawn, H.os⟩
 rcases List.mem_cons.mp ha with q | q
 ·obtain ⟨m, ⟨o, es, ep, e1, e2, _⟩, _⟩ := H.loc
  have e1' : s.heap.get? a = some o := by rw [q]; exact e1
  rw [e] at e1'; cases e1'; cases e2
 ·obtain ⟨p, hp, rfl⟩ := List.mem_map.mp q
  refine Zal (H.obs p hp) fun O e1 r => ?_
  rw [e] at e1; cases e1
  exact r.noTup vs n rfl
theorem Holds.ofT {C : Cx} {σ σ' : St} {s s' : Shared} (H : Holds C σ s) {E : Value → Shared → Prop} (H' : Holds (C.sw (fzT C s.heap) E (okT s.heap)) σ' s') : Holds C σ' s' ∧ TK s.heap s'.heap :=
 ⟨⟨fun b o e => H'.frz b o (Zgj C _ e), H'.loc, H'.obs, H'.nd, fun a ha => (by
  cases z : C.fz a with
  | none => rfl
  | some o => (have := H'.ap a ha; rw [show (C.sw (fzT C s.heap) E (okT s.heap)).fz a = some o from Zgj C _ z] at this; cases this)), H'.nn, H'.gens, H'.drawn, H'.os⟩,
  fun b vs n e => H'.frz b _ (Zuy H e)⟩
noncomputable abbrev Cx.hd (C : Cx) (e : Addr) : Cx := { C with A := C.A.mark (some (.ref e)), E := fun _ _ => False }
theorem Holds.hd {C : Cx} {σ : St} {s : Shared} (H : Holds C σ s) (e : Addr) : Holds (C.hd e) σ s := ⟨H.frz, H.loc, H.obs, H.nd, H.ap, H.nn, H.gens, H.drawn, H.os⟩
theorem Holds.unhd {C : Cx} {σ : St} {s : Shared} {e : Addr} (H : Holds (C.hd e) σ s) : Holds C σ s := ⟨H.frz, H.loc, H.obs, H.nd, H.ap, H.nn, H.gens, H.drawn, H.os⟩
theorem x_try {body suite : List Stmt} {b0 : Stmt} {x : Str} {px pos' pos : Pos} {fr : Frs} {K2 : St → Prop} {K : Fl → St → Prop} (hf : FrIn C fr)
  (hb : ∀ (fz : Addr → Option Obj) (ok : C.G.Ok fz) (E : Value → Shared → Prop),
   (∀ e σe s', K2 σe → Holds (C.sw fz E ok) σe s' → Zs6 "StopIteration" e s' → (∀ p ∈ σe.obs, p.1 ≠ e) → C.env.locals ≠ e → fz e = none → E (.ref e) s') → XV (C.sw fz E ok) (execs body C.env) σ K)
  (hs : ∀ σe, K2 σe → (∀ p ∈ Zax fr, p ∈ σe.obs) ∧ ∀ e, XV (C.hd e) (execs (b0 :: suite) C.env) σe K)
  (hk : C.env.scope.kind = .function) (hx : C.env.kindOf x = some .globalImplicit) (hm : C.G.mg x = none) (hv : C.G.mb x = some (.type "StopIteration")) (hd : (x == ("__debug__" : Str)) = false := by decide) :
  XV C (exec (.Try body [.ExceptHandler (some (.Name x px)) none (b0 :: suite) pos'] [] [] pos) C.env) σ K := by
 injection (C σ body suite b0 x px pos' pos fr K2 K) with hf hb hs hk hx hm hv hd
 intro s H
 injection (s) with H
 rw [arm_exec_Try]
 refine Zaa (Zac ?_)
 unfold tryStmt
 simp only [List.isEmpty_nil, if_true, List.isEmpty_cons, Bool.false_and, Bool.false_eq_true, if_false]
 let E0 : Value → Shared → Prop := fun v s' => ∃ e σe, v = .ref e ∧ K2 σe ∧ Holds (C.sw (fzT C s.heap) C.E (okT s.heap)) σe s' ∧ Zs6 "StopIteration" e s' ∧ (∀ p ∈ σe.obs, p.1 ≠ e) ∧ C.env.locals ≠ e ∧ fzT C s.heap e = none
 have hb' := hb (fzT C s.heap) (okT s.heap) E0 (fun e σe s' k2 H' h1 h2 h3 h4 => ⟨e, σe, rfl, k2, ⟨H'.frz, H'.loc, H'.obs, H'.nd, H'.ap, H'.nn, H'.gens, H'.drawn, H'.os⟩, h1, h2, h3, h4⟩) s (H.toT E0)
 refine Zaa (Zda (Zae hb' (fun f s₁ p => ?_) fun v s₁ p => ?_))
 ·obtain ⟨a, σ', k, r, H', tk⟩ := p
  obtain ⟨H1, t1⟩ := H.ofT H'
  cases r with
  | next =>
   exact .of (wpAny_execs_nil ⟨.next, σ', k, .next, H1, t1⟩)
  | brk => exact Zab ⟨.brk, σ', k, .brk, H1, t1⟩
  | cont => exact Zab ⟨.cont, σ', k, .cont, H1, t1⟩
  | ret r => exact Zab ⟨.ret _, σ', k, .ret r, H1, t1⟩
 ·obtain ⟨e, σe, rfl, k2, H', hex, h2, h3, h4⟩ := p
  obtain ⟨H1, t1⟩ := H.ofT H'
  injection (s₁ e σe) with k2 H' hex h2 h3 h4 H1 t1
  have hze : C.fz e = none := by
   cases z : C.fz e with
   | none => rfl
   | some o => rw [Zgj C _ z] at h4; cases h4
  obtain ⟨l, hfr, hmod, hfl, hin⟩ := hf
  obtain ⟨hsub, hs'⟩ := hs σe k2
  obtain ⟨t, ht⟩ := hex
  have FF := FrIn.fun (e := e) H1 hsub hmod hfl hin
  refine Zaa (.of (Zfk hfr FF hfl ht (fun b o eb => of_hideAll _ eb) (hideAll_none _ (.tail _ (.head _))) rfl rfl rfl fun h2' N => ?_))
  injection (l t h2') with hfr hin ht FF N
  obtain ⟨n1, n2, n3, n4⟩ := N
  injection (l t h2') with hfr hin ht FF n1 n2 n3 n4
  refine Zaa (.of (wpAny_landsW (base := hideAll s₁.heap (hid C fr e)) (l := C.env :: l) (L := C.env.locals) ⟨n1, hideAll_none _ (.tail _ (.head _)), n2, n3⟩ fun h3' fly us => ?_))
  injection (h3') with fly us
  have us' : s₁.heap.UpToSlots h3' := Heap.UpToSlots.trans n4 us
  obtain ⟨H2, t2⟩ := H1.slots hsub ⟨t, ht⟩ h2 h3 hze fly.1 us'
  have fly0 := fly
  obtain ⟨f1, f2, f3, f4⟩ := fly
  obtain ⟨oe, e1, e2⟩ := (Heap.TracedW.at f4).there
  injection (h3' oe) with us us' H2 t2 fly0 f1 f3 f4 e1 e2
  have tt := (t1.trans t2)
  have hmk : (some (Value.ref e) : Option Value) ≠ some byPass := by intro q; cases q
  rw [handleBy]
  refine Zaa (Zad ?_)
  have HM := H2.hd e
  unfold runOwn
  refine Zak (Zh3 (A := C.A) (h := some (.ref e)) ?_ hmk)
  refine Zaf rfl ?_
  rw [Za5 rfl rfl]
  show wpP _ _ (do return Fin.done (← (handleWith (.ref e) C.env [.ExceptHandler (some (.Name x px)) none [] pos']).onRaise (fun x => do noteFrame x C.env; theTreesLotGoes x))) _ _ _
  refine Zaa (Zak ?_)
  unfold handleWith
  refine Zaa (Zac (Zaa (.of (Name_function_global hk hx (loadGlobal_builtin (Cx.glo C H2) hm (Cx.blt C H2) hv ?_) hd))))
  refine Zaa (Zac (Zaa (.of (wpAny_excMatches_type ⟨oe, e1, e2⟩ Zsa Zuc isSubtype_stop ?_))))
  refine Zab (Zab ?_)
  simp only [if_true]
  refine Zaa (Zab ?_)
  simp only [Bool.not_true, Bool.false_eq_true, if_false]
  refine Zaa (Zad (Zak (Zh3 (A := C.A) (h := some (.ref e)) ?_ hmk)))
  refine Zaf rfl ?_
  rw [Za5 rfl rfl]
  show wpP _ _ (do return Fin.done (← (handleWith (.ref e) C.env [.ExceptHandler none none (b0 :: suite) pos']).onRaise (fun x => do noteFrame x C.env; theTreesLotGoes x))) _ _ _
  refine Zaa (Zak ?_)
  unfold handleWith
  refine Zaa (Zac (Zaa (.of (wpAny_setFlight_noneW f1 f3 (Heap.TracedW.at f4) fun h4' k1 k2' k3 k4 => ?_))))
  have us4 : s₁.heap.UpToSlots h4' := Heap.UpToSlots.trans us' fun b o hb hn => ⟨o.slots, k4 b o hb hn⟩
  obtain ⟨H3, t3⟩ := H1.slots hsub ⟨t, ht⟩ h2 h3 hze k1 us4
  refine Zae (hs' e _ (H3.hd e)) (fun f s₅ p => ?_) fun _ _ q => q.elim
  obtain ⟨a, σ', k, r, H', tk⟩ := p
  exact Zab (Zab ⟨a, σ', k, r, H'.unhd, (t1.trans t3).trans tk⟩)
end
section
variable {C : Cx} {σ : St} {α β : Type}
theorem Zc1 {test : Expr} {body orelse : List Stmt} {K : Fl → St → Prop} (hE : ∀ e s, ¬ C.E e s) (J : Nat → St → Prop) (h0 : ∀ σ, ¬ J 0 σ)
  (step : ∀ n σ, J (n + 1) σ → BV C (isTrue test C.env (eval test C.env)) σ fun b σ₁ => (b = true → XV C (execs body C.env) σ₁ (lpK (fun σ₂ => J n σ₂) K)) ∧ (b = false → XV C (execs orelse C.env) σ₁ K)) :
  ∀ n σ, J n σ → WL C test body orelse σ K := by
 intro n
 induction n with
 | zero => intro σ h; exact absurd h (h0 σ)
 | succ n ih =>
  intro σ h
  refine Zv8 hE (W.mono (step n σ h) fun b σ₁ ⟨h1, h2⟩ => ⟨fun e => W.mono (h1 e) fun fl σ₂ h₂ => ?_, h2⟩)
  cases fl with
  | next => exact ih σ₂ h₂
  | cont => exact ih σ₂ h₂
  | brk => exact h₂
  | ret v => exact h₂
end
theorem Zpp {P : Params} {G : Gl} (g : G3 P G) {f c : Addr} {n : Nat} {args args' : List V} {obs : List (Addr × AO)} {K : V → List (Addr × AO) → Prop} {oc : Obj} {d : Fd} {q m : String} {t : Tok} {dfl : Value} {cvs : Array Value} {ct : Tok} (names rest : List Str) (loc : List (Str × Option V))
  (ho : (K3 P).lookup f = some (Zbt d q m t c dfl)) (hoc : (K3 P).lookup c = some oc) (hdc : oc.data = .fields cvs) (hcv : cvs[1]? = some (.str (q : Str) ct))
  (hnl : names.length = args'.length) (hbind : Binds G (Zsy d q m t c dfl) names args args')
  (hloc : ∀ x ∈ names, d.scope.names.lookup x = some .local) (hcell : ∀ x ∈ d.scope.names, x.2 ≠ .cell) (hnn : (names ++ rest).Nodup)
  (hco : d.scope.isCoroutine = false) (hgen : d.scope.isGenerator = false) (hk : d.scope.kind = .function)
  (h : Nm G gl3 bl3 → ∀ (R : Ar G n) (L : Addr) (fr : Frs), FrIn (R.cx (callEnv (Zsy d q m t c dfl) L f) rfl rfl) fr → XV (R.cx (callEnv (Zsy d q m t c dfl) L f) rfl rfl) (execs d.body (callEnv (Zsy d q m t c dfl) L f)) ⟨loc, obs ++ Zax fr⟩ (fnK fun r o => ∃ o2, o = o2 ++ Zax fr ∧ K r o2)) (hl : names.zip (args'.map some) ++ rest.map (·, none) = loc) :
  FnR G (.ref f) (n + 1) args obs K := fun fr =>
 Znl (o := Zbt d q m t c dfl) (by rw [g.K]; exact ho) rfl rfl rfl rfl rfl rfl (by rw [g.K]; exact hoc) hdc hcv hnl hbind hloc hcell hnn hco hgen hk (fun R L A0 hA e => h g.N R L fr (by
  obtain ⟨l, h1, h2⟩ := hA.deeper (callEnv (Zsy d q m t c dfl) L f)
  refine ⟨l, ?_, ?_, rfl, h2⟩
  ·show R.A.frames = _
   rw [e]; exact h1
  ·show d.scope.kind ≠ _
   rw [hk]; decide)) hl
theorem W.drp {C : Cx} {α β : Type} {R : Heap → β → α → Prop} {t : Sem α} {loc : List (Str × Option V)} {o o' : List (Addr × AO)} {K : β → St → Prop} (d : Drp o o') (h : W C R t ⟨loc, o'⟩ K) : W C R t ⟨loc, o⟩ K := fun s H =>
 h s ⟨H.frz, H.loc, fun p hp => H.obs p (d.mem hp), List.nodup_cons.mpr ⟨fun hm => (List.nodup_cons.mp H.nd).1 (d.keys hm), d.nd (List.nodup_cons.mp H.nd).2⟩, fun a ha => H.ap a (by
  rcases List.mem_cons.mp ha with q | q
  ·exact q ▸ .head _
  ·exact .tail _ (d.keys q)), H.nn, H.gens, H.drawn, H.os⟩
noncomputable abbrev Stk := List (Int × List Int)
noncomputable def Zp7 (k i : Int) (l : List (Int × Int)) : List (Int × Int) := if l.any (fun kv => kv.1 = k) then l.map (fun kv => if kv.1 = k then (kv.1, i) else kv) else l ++ [(k, i)]
noncomputable def Zfw (k : Int) (l : List (Int × Int)) : List (Int × Int) := l.filter fun kv => decide (kv.1 ≠ k)
noncomputable def dI (l : List (Int × Int)) : List (Int × V) := l.map fun p => (p.1, V.int p.2)
theorem Zx6 (k i : Int) (l : List (Int × Int)) : Zwu k (.int i) (dI l) = dI (Zp7 k i l) := by
 have h : ((dI l).any fun kv => decide (kv.1 = k)) = l.any fun kv => decide (kv.1 = k) := by
  unfold dI; rw [List.any_map]; rfl
 unfold Zwu Zp7
 rw [h]
 split
 ·unfold dI
  rw [List.map_map, List.map_map]
  apply List.map_congr_left
  intro p _
  simp only [Function.comp_def]
  split <;> rfl
 ·simp [dI]
theorem Zv5 (k : Int) (l : List (Int × Int)) : Zoo k (dI l) = dI (Zfw k l) := by
 unfold Zoo Zfw dI
 rw [List.filter_map]
 rfl
theorem Ziw (k : Int) (l : List (Int × Int)) : (dI l).lookup k = (l.lookup k).map V.int := by
 induction l with
 | nil => rfl
 | cons p l ih =>
  obtain ⟨a, b⟩ := p
  simp only [dI, List.map_cons, List.lookup_cons] at ih ⊢
  cases k == a <;> simp [ih]
theorem Zip (l : List (Int × Int)) : (dI l).length = l.length := by simp [dI]
noncomputable def Zce : Nat → Stk → List (Int × Int) → Option (Option (Int × Stk) × List (Int × Int))
 | 0, _, _ => none
 | n + 1, s, n2 => if 1000 < s.length ∨ 1000 < n2.length then none else match s with
  | [] => some (none, n2)
  | (k, []) :: r => if (n2.lookup k).isSome then Zce n r (Zfw k n2) else none
  | (k, x :: xs) :: r => some (some (x, (k, xs) :: r), n2)
noncomputable def Zfq (g : List (Int × List Int)) : Nat → Int → Stk → List Int → List (Int × Int) → Option (Except (List Int) (List Int × List (Int × Int)))
 | 0, _, _, _, _ => none
 | n + 1, node, s, seen, n2 =>
  if 1000 < seen.length ∨ 999 < s.length ∨ 999 < n2.length then none else
  if node ∈ seen then
   match n2.lookup node with
   | some i => some (.error (((s.map (·.1)).reverse.drop i.toNat) ++ [node]))
   | none => match Zce (n + 1) s n2 with
    | none => none
    | some (none, n2') => some (.ok (seen, n2'))
    | some (some (x, s'), n2') => Zfq g n x s' seen n2'
  else match g.lookup node with
   | none => none
   | some su => match Zce (n + 1) ((node, su) :: s) (Zp7 node s.length n2) with
    | none => none
    | some (none, n2') => some (.ok (node :: seen, n2'))
    | some (some (x, s'), n2') => Zfq g n x s' (node :: seen) n2'
noncomputable def Zj6 (g : List (Int × List Int)) (fuel : Nat) : List Int → List Int → List (Int × Int) → Option (Option (List Int))
 | [], _, _ => some none
 | k :: ks, seen, n2 => if 1000 < seen.length then none else if k ∈ seen then Zj6 g fuel ks seen n2 else match Zfq g fuel k [] seen n2 with
  | none => none
  | some (.error c) => some (some c)
  | some (.ok (seen', n2')) => Zj6 g fuel ks seen' n2'
structure Itr where
 m : Addr
 it : Addr
 d : Nd
 i : Nat
theorem neItr : Nonempty Itr := ⟨⟨0, 0, Classical.choice neNd, 0⟩⟩
noncomputable def Zbi (T : List Itr) : Stk := T.map fun t => (t.d.k, t.d.su.drop t.i)
noncomputable def Zw4 (T : List Itr) : List (Addr × AO) := T.flatMap fun t => [(t.m, AO.bound "method-wrapper" "list_iterator.__next__" t.it), (t.it, .liter t.d.sx t.i)]
theorem Ze4 (t : Itr) (T : List Itr) (b : List (Addr × AO)) : Zw4 (t :: T) ++ b = (t.m, AO.bound "method-wrapper" "list_iterator.__next__" t.it) :: (t.it, .liter t.d.sx t.i) :: (Zw4 T ++ b) := by simp [Zw4]
noncomputable def fob (sk ik se nd n2i : Addr) (ep : Option Nat) (l : List Nd) (T : List Itr) (seen : List Int) (n2 : List (Int × Int)) (b : List (Addr × AO)) : List (Addr × AO) :=
 (sk, .list (T.reverse.map fun t => V.int t.d.k)) :: (ik, .list (T.reverse.map fun t => V.ref t.m)) :: (se, .set seen) :: (nd, .dict (dI n2)) :: (n2i, .dictE ep (dk l)) :: (Zw4 T ++ (Zcw l ++ b))
noncomputable def gOf (l : List Nd) : List (Int × List Int) := l.map fun d => (d.k, d.su)
theorem Znc {l : List Nd} {k : Int} {su : List Int} (h : (gOf l).lookup k = some su) : ∃ d ∈ l, d.k = k ∧ d.su = su ∧ (dk l).lookup k = some (.ref d.x) := by
 induction l with
 | nil => cases h
 | cons d l ih =>
  simp only [gOf, dk, List.map_cons, List.lookup_cons] at ih h ⊢
  by_cases e : k = d.k
  ·subst e
   simp at h
   exact ⟨d, .head _, rfl, h, by simp⟩
  ·have e' : (k == d.k) = false := by simpa using e
   rw [e'] at h ⊢
   obtain ⟨d', a, b⟩ := ih h
   exact ⟨d', .tail _ a, b⟩
theorem Zfl {l : List Nd} {d : Nd} (h : d ∈ l) : (d.x, AO.slots 102 d.dx (N3 (.int d.k) (.int d.np) (.ref d.sx))) ∈ Zcw l ∧ (d.dx, AO.raw emptyDict) ∈ Zcw l ∧ (d.sx, AO.list (d.su.map V.int)) ∈ Zcw l := by
 unfold Zcw
 exact ⟨List.mem_flatMap.mpr ⟨d, h, by simp [Nd.ob]⟩, List.mem_flatMap.mpr ⟨d, h, by simp [Nd.ob]⟩, List.mem_flatMap.mpr ⟨d, h, by simp [Nd.ob]⟩⟩
theorem Zlp {α : Type} {p q : List Nat} (h : p.Perm q) (f : Nat → α) (r : List α) : (p.map f ++ r).Perm (q.map f ++ r) := (h.map f).append_right r
theorem Zv4 {α : Type} (a b c d e x y : α) (n B : List α) : (a :: b :: c :: d :: x :: y :: e :: (n ++ B)).Perm (d :: c :: b :: a :: e :: (n ++ (x :: y :: B))) := by
 have h1 : (n ++ (x :: y :: B)).Perm (x :: y :: (n ++ B)) := List.perm_middle.trans (List.perm_middle.cons _)
 have h2 : [0, 1, 2, 3, 4, 5, 6].Perm [3, 2, 1, 0, 6, 4, 5] := by decide
 exact (Zlp h2 (fun i => [a, b, c, d, x, y, e].getD i a) (n ++ B)).trans (((((h1.cons e).cons a).cons b).cons c).cons d).symm
theorem Zu4 {α : Type} (m i a b c d e f : α) (r : List α) : (m :: i :: a :: b :: c :: d :: e :: f :: r).Perm (a :: b :: c :: d :: e :: f :: m :: i :: r) := by
 have h2 : [0, 1, 2, 3, 4, 5, 6, 7].Perm [2, 3, 4, 5, 6, 7, 0, 1] := by decide
 exact Zlp h2 (fun j => [m, i, a, b, c, d, e, f].getD j m) r
theorem Zwe (l : List Nd) (j : Nat) : ((dk l).getD j (0, .none)).1 = (l.map (·.k)).getD j 0 := by
 simp only [dk, List.getD_eq_getElem?_getD, List.getElem?_map]
 cases l[j]? <;> rfl
theorem Zop {l : List Int} {j : Nat} (h : j < l.length) : l.drop j = l.getD j 0 :: l.drop (j + 1) := by
 rw [List.drop_eq_getElem_cons h, List.getD_eq_getElem?_getD, List.getElem?_eq_getElem h]; rfl
theorem Zsd {α : Type} (l : List α) (a : α) : (l ++ [a])[((-1 : Int) + (l ++ [a]).length).toNat]? = some a := by
 have : ((-1 : Int) + (l ++ [a]).length).toNat = l.length := by
  simp only [List.length_append, List.length_cons, List.length_nil]
  lia
 rw [this]; simp
theorem Zir {α : Type} (l : List α) (a : α) : (l ++ [a])[(l ++ [a]).length - 1]? = some a := by simp
theorem Zgd {α : Type} (l : List α) (a : α) : (l ++ [a]).eraseIdx ((l ++ [a]).length - 1) = l := by
 have : (l ++ [a]).length - 1 = l.length := by simp
 rw [this, List.eraseIdx_append_of_length_le (Nat.le_refl _)]
 simp
noncomputable abbrev Zxg (x n2i sk ik se nd : Addr) (v : Option V) : Loc := [("self", some (.ref x)), ("n2i", some (.ref n2i)), ("stack", some (.ref sk)), ("itstack", some (.ref ik)), ("seen", some (.ref se)), ("node2stacki", some (.ref nd)), ("node", v)]
noncomputable def Aft (l : List Nd) (fuel : Nat) (ks : List Int) (m : Nat) (seen : List Int) : Option (Int × Stk) × List (Int × Int) → Prop
 | (none, n2) => Zj6 (gOf l) fuel ks seen n2 = some none
 | (some (y, s), n2) => ∃ r, Zfq (gOf l) m y s seen n2 = some (.ok r) ∧ Zj6 (gOf l) fuel ks r.1 r.2 = some none
theorem Zwl {P : Params} {G : Gl} (g : G3 P G) (n : Nat) (x dx n2i : Addr) (rd : V) (npo nfin : Int) (l : List Nd) (fuel : Nat) (obs : List (Addr × AO)) (hl : l.length ≤ 500)
  (hf : Zj6 (gOf l) fuel (l.map (·.k)) [] [] = some none) :
  FnR G (.ref 189) (n + 1) [.ref x] (sob x dx n2i rd npo nfin l obs) fun v o => v = .none ∧ o = sob x dx n2i rd npo nfin l obs := by
 refine Zpp g ["self"] ["n2i", "stack", "itstack", "seen", "node2stacki", "node"] [("self", some (.ref x)), ("n2i", none), ("stack", none), ("itstack", none), ("seen", none), ("node2stacki", none), ("node", none)] rfl rfl rfl rfl rfl (Binds.plain rfl (by kpf_grow)) (by decide +kernel) (by decide +kernel) (by decide +kernel) (by kernel_rfl) (by kernel_rfl) (by kernel_rfl) ?_ rfl
 intro N R L fr hfr
 refine XV.opq fun K hKK => ?_
 injection (fun x dx n2i rd npo nfin l fuel obs L fr K => 0) with g hl hf N hfr hKK
 have hzz : sizeLine = 16777216 := by decide
 unfold sob
 simp only [List.cons_append, List.append_assoc]
 generalize hB : obs ++ Zax fr = B
 refine Zag ?_
 w_why
 intro sk
 w_why
 intro ik
 w_why
 intro se
 w_why
 intro nd
 w_why
 refine Zvv (by intro oe; k_closed) ?_
 intro itd ep
 injection (B sk ik se nd itd ep) with hB
 obtain ⟨eS1, vS, eS2, rS⟩ := N.mb ("StopIteration", .ty "StopIteration") (Mb.mem (by k_slotget))
 have eS3 : vS = .type "StopIteration" := by
  have := rS ⟨#[], {}⟩
  cases this; rfl
 subst eS3
 have hbk : ∀ b, b = (x, AO.inst 199 dx) :: (dx, AO.attrs (A4 (V.ref n2i) rd (V.int npo) (V.int nfin))) :: B → True := fun _ _ => trivial
 generalize hb : (x, AO.inst 199 dx) :: (dx, AO.attrs (A4 (V.ref n2i) rd (V.int npo) (V.int nfin))) :: B = b at *
 injection (b) with hb hbk
 refine Zbr (fun _ _ h => h) (Zr9 .name R.good.h) (fun j loc o => ∃ v seen n2, loc = Zxg x n2i sk ik se nd v ∧ Drp o (fob sk ik se nd n2i (some ep) l [] seen n2 b) ∧ Zj6 (gOf l) fuel ((l.map (·.k)).drop j) seen n2 = some none) (by k_listUnr) ?_ ?_ ?_ ?_
 ·refine ⟨none, [], [], rfl, ?_, hf⟩
  unfold fob
  subst hb
  refine .perm ?_ .refl
  exact Zv4 ..
 ·rintro j loc o ⟨v, seen, n2, rfl, hd, _⟩
  exact LkO.of_mem (hd.mem (by simp [fob]))
 ·intro j loc o O hj hI
  obtain ⟨v, seen, n2, rfl, hd, hfa⟩ := hI
  have hj' : j < (l.map (·.k)).length := by simpa [dk] using hj
  have e7 : ((dk l).getD j (0, .none)).1 = (l.map (·.k)).getD j 0 := Zwe l j
  rw [e7]
  have e8 : (l.map (·.k)).drop j = (l.map (·.k)).getD j 0 :: (l.map (·.k)).drop (j + 1) := Zop hj'
  rw [e8] at hfa
  generalize (l.map (·.k)).getD j 0 = k0 at *
  unfold Zj6 at hfa
  w_how
  rename_i J1 K1 hJ1 hK1
  injection (j o O v seen n2 k0 J1 K1) with hj hd hj' e7 e8 hfa hJ1 hK1
  by_cases hs0 : 1000 < seen.length
  ·rw [if_pos hs0] at hfa; cases hfa
  rw [if_neg hs0] at hfa
  refine Zfa ?_
  refine Zbz (by kernel_rfl) (by kernel_rfl) (by k_ownname) ?_
  refine W.drp (.keep hd) ?_
  unfold fob
  refine Zag ?_
  w_why
  ·refine ⟨fun h => ?_, fun h => ?_⟩
   ·have h' : k0 ∈ seen := by simpa using h
    rw [if_pos h'] at hfa
    w_why
    exact ⟨_, seen, n2, rfl, .refl, hfa⟩
   ·have h' : k0 ∉ seen := by simpa using h
    rw [if_neg h'] at hfa
    cases hm : Zfq (gOf l) fuel k0 [] seen n2 with
    | none => rw [hm] at hfa; cases hfa
    | some r =>
     rw [hm] at hfa
     cases r with
     | error c => cases hfa
     | ok r =>
      obtain ⟨seen', n2'⟩ := r
      w_why
      refine Zc1 (fun _ _ h => h) (fun m σ => ∃ T seen n2 k r, σ.loc = Zxg x n2i sk ik se nd (some (.int k)) ∧ Drp σ.obs ((itd, O) :: fob sk ik se nd n2i (some ep) l T seen n2 b) ∧ (∀ t ∈ T, t.d ∈ l) ∧ Zfq (gOf l) m k (Zbi T) seen n2 = some (.ok r) ∧ Zj6 (gOf l) fuel ((l.map (·.k)).drop (j + 1)) r.1 r.2 = some none) ?_ ?_ fuel _ ?_
      ·rintro σ ⟨T, seen, n2, k, r, _, _, _, h, _⟩
       cases h
      ·rintro m ⟨loc0, o0⟩ ⟨T, seen, n2, k, r, hl0, hd, hT, hm, hr⟩
       have hl1 : loc0 = _ := hl0
       subst hl1
       refine W.drp hd ?_
       clear hd hfa
       unfold Zfq at hm
       w_how
       rename_i J2 K2 hJ2 hK2
       injection (m o0 T seen n2 k r J2 K2) with hT hr hl0 hm hJ2 hK2
       by_cases hs1 : 1000 < seen.length ∨ 999 < (Zbi T).length ∨ 999 < n2.length
       ·rw [if_pos hs1] at hm; cases hm
       rw [if_neg hs1] at hm
       have hs2 : seen.length ≤ 1000 ∧ T.length ≤ 999 ∧ n2.length ≤ 999 := by
        have : (Zbi T).length = T.length := by simp [Zbi]
        omega
       w_why
       refine ⟨fun _ => ?_, fun h => (by cases h)⟩
       refine Zag (W.mono (K := fun fl σ' => fl = .next ∧ ∃ T' seen' n2' fb, σ'.loc = Zxg x n2i sk ik se nd (some (.int k)) ∧ Drp σ'.obs ((itd, O) :: fob sk ik se nd n2i (some ep) l T' seen' n2' b) ∧ (∀ t ∈ T', t.d ∈ l) ∧ Zce (m + 1) (Zbi T') n2' = some fb ∧ seen'.length ≤ 1001 ∧ Aft l fuel ((l.map (·.k)).drop (j + 1)) m seen' fb) ?_ ?_)
       ·unfold fob
        w_how
        rename_i K3 hK3
        injection (K3) with hK3
        w_why
        ·refine ⟨fun h => ?_, fun h => ?_⟩
         ·have h' : k ∈ seen := by simpa using h
          rw [if_pos h'] at hm
          w_why
          rw [Ziw]
          cases hn2 : n2.lookup k with
          | some i => rw [hn2] at hm; cases hm
          | none =>
           rw [hn2] at hm
           refine ⟨fun h => (by cases h), fun _ => ?_⟩
           w_why
           cases hfb : Zce (m + 1) (Zbi T) n2 with
           | none => rw [hfb] at hm; cases hm
           | some fb =>
            rw [hfb] at hm
            refine ⟨rfl, T, seen, n2, fb, rfl, .refl, hT, hfb, by lia, ?_⟩
            obtain ⟨fb1, fb2⟩ := fb
            cases fb1 with
            | none => cases hm; exact hr
            | some ys => exact ⟨r, hm, hr⟩
         ·have h' : k ∉ seen := by simpa using h
          rw [if_neg h'] at hm
          cases hg : (gOf l).lookup k with
          | none => rw [hg] at hm; cases hm
          | some su =>
           rw [hg] at hm
           obtain ⟨d, hdm, rfl, rfl, hdk⟩ := Znc hg
           obtain ⟨hd1, hd2, hd3⟩ := Zfl hdm
           w_why
           refine Zm8 (by k_qdec) ?_ (by omega)
           w_why
           refine Zmx (by k_closed) ?_ (by lia)
           w_why
           refine Zdb (by k_qdec) ?_ (by intro o i; exact ⟨[o, i], by kernel_rfl⟩) hdk
           refine Zlk (a := .int d.k) (b := .int d.np) (c := .ref d.sx) (dx := d.dx) g (LkO.of_mem (by simp [hd1])) (LkO.of_mem (by simp [hd2])) ?_ (by intro n h; cases h)
           w_why
           refine Zum (l := d.su.map V.int) (LkO.of_mem (by simp [hd3])) ?_
           intro it'
           refine Zzk (by k_closed) ?_
           intro m'
           w_why
           ·refine Zff (by k_closed) ?_ (by rw [Zip]; lia)
            w_why
            ·cases hfb : Zce (m + 1) ((d.k, d.su) :: Zbi T) (Zp7 d.k (Zbi T).length n2) with
             | none => dsimp only at hm; rw [hfb] at hm; cases hm
             | some fb =>
              dsimp only at hm
              rw [hfb] at hm
              have hlen : (Zbi T).length = T.length := by simp [Zbi]
              rw [hlen] at hfb
              refine ⟨rfl, ⟨m', it', d, 0⟩ :: T, d.k :: seen, Zp7 d.k T.length n2, fb, rfl, ?_, ?_, hfb, ?_, ?_⟩
              ·refine .perm (Zu4 ..) ?_
               rw [Ze4, ← Zx6]
               simp only [List.reverse_cons, List.map_append, List.map_cons, List.map_nil, List.length_map, List.length_reverse]
               exact .refl
              ·intro t ht
               rcases List.mem_cons.mp ht with q | q
               ·rw [q]; exact hdm
               ·exact hT t q
              ·simp only [List.length_cons]; lia
              ·obtain ⟨fb1, fb2⟩ := fb
               cases fb1 with
               | none => cases hm; exact hr
               | some ys => exact ⟨r, hm, hr⟩
            ·rw [List.length_map, List.length_reverse]; lia
           all_goals (rw [List.length_map, List.length_reverse]; lia)
        ·omega
       ·rintro fl ⟨loc1, o1⟩ ⟨rfl, T', seen', n2', fb, hl1, hd, hT', hfb, hs3, ha⟩
        have hl2 : loc1 = _ := hl1
        subst hl2
        refine Zar ?_
        refine W.drp hd ?_
        clear hd
        refine Zag ?_
        refine Zfe ?_
        refine Zc1 (fun _ _ h => h) (fun q σ => ∃ T n2 v, σ.loc = Zxg x n2i sk ik se nd (some v) ∧ Drp σ.obs ((itd, O) :: fob sk ik se nd n2i (some ep) l T seen' n2 b) ∧ (∀ t ∈ T, t.d ∈ l) ∧ Zce q (Zbi T) n2 = some fb) ?_ ?_ (m + 1) _ ?_
        ·rintro σ ⟨T, n2, v, _, _, _, h⟩
         cases h
        ·rintro q ⟨loc0, o0⟩ ⟨T, n2, v, hl0, hd, hT, hq⟩
         have hl1 : loc0 = _ := hl0
         subst hl1
         refine W.drp hd ?_
         clear hd
         unfold Zce at hq
         by_cases hs4 : 1000 < (Zbi T).length ∨ 1000 < n2.length
         ·rw [if_pos hs4] at hq; cases hq
         rw [if_neg hs4] at hq
         have hs5 : T.length ≤ 1000 ∧ n2.length ≤ 1000 := by
          have : (Zbi T).length = T.length := by simp [Zbi]
          omega
         unfold fob
         w_how
         rename_i J4 K4 hJ4 hK4
         injection (o1 T' seen' n2' fb q o0 T n2 v J4 K4) with hT' hfb hs3 ha hl1 hT hl0 hq hs4 hs5 hJ4 hK4
         cases T with
         | nil =>
          have hq' : fb = (none, n2) := by
           have : some (none, n2) = some fb := hq
           cases this; rfl
          subst hq'
          have ha' : Zj6 (gOf l) fuel ((l.map (·.k)).drop (j + 1)) seen' n2 = some none := ha
          w_why
          ·refine ⟨fun h => (by cases h), fun _ => ?_⟩
           w_why
           exact ⟨_, seen', n2, rfl, .refl, ha'⟩
          ·rw [List.length_map, List.length_reverse]; simp
         | cons t r =>
          w_why
          ·refine ⟨fun _ => ?_, fun h => (by simp at h)⟩
           refine Zag ?_
           rw [Ze4]
           refine x_try (K2 := fun σe => fb = fb ∧ σe = ⟨Zxg x n2i sk ik se nd (some v), (itd, O) :: (sk, .list ((t :: r).reverse.map fun t => V.int t.d.k)) :: (ik, .list ((t :: r).reverse.map fun t => V.ref t.m)) :: (se, .set seen') :: (nd, .dict (dI n2)) :: (n2i, .dictE (some ep) (dk l)) :: (t.m, AO.bound "method-wrapper" "list_iterator.__next__" t.it) :: (Zw4 r ++ (Zcw l ++ b))⟩ ∧ t.d.su.drop t.i = []) hfr ?_ ?_ (by kernel_rfl) (by kernel_rfl) eS1 eS2
           ·intro fz ok E hE
            w_why
            refine Zef (x := .ref t.m) (by k_qdec) ?_ (by intro o i; exact ⟨[o, i], by kernel_rfl⟩) (by decide) (by rw [List.length_map, List.length_reverse, List.length_cons]; lia) (by decide) ?_
            ·w_why
             refine Zbb (id := "list_iterator.__next__") (a := t.it) (.inr rfl) ?_ (by kernel_rfl)
             refine Zto ⟨by k_qdec, ?_⟩
             have hsu := (Zfl (hT t (.head _))).2.2
             cases hdr : t.d.su.drop t.i with
             | nil =>
              have hx : (t.d.su.map V.int)[t.i]? = none := by
               have : t.d.su.length ≤ t.i := List.drop_eq_nil_iff.mp hdr
               simpa using this
              exact Ztd (a := t.d.sx) (l := t.d.su.map V.int) R.good.h (by k_qdec) (LkO.of_mem (by simp [hsu])) (by k_listUnr) hx fun e s' H h1 h2 h3 h4 => hE e _ s' ⟨rfl, rfl, hdr⟩ H h1 h2 h3 h4
             | cons y ys =>
              have hx0 : t.d.su[t.i]? = some y := by
               have : (t.d.su.drop t.i)[0]? = some y := by rw [hdr]; rfl
               simpa using this
              have hx : (t.d.su.map V.int)[t.i]? = some (.int y) := by rw [List.getElem?_map, hx0]; rfl
              have hys : t.d.su.drop (t.i + 1) = ys := by
               rw [← List.drop_drop, hdr]; rfl
              have hst : Zbi (t :: r) = (t.d.k, y :: ys) :: Zbi r := by simp [Zbi, hdr]
              rw [hst] at hq
              have hq' : fb = (some (y, (t.d.k, ys) :: Zbi r), n2) := by
               have : some (some (y, (t.d.k, ys) :: Zbi r), n2) = some fb := hq
               cases this; rfl
              subst hq'
              obtain ⟨rr, ha1, ha2⟩ := ha
              refine Zsi (a := t.d.sx) (l := t.d.su.map V.int) (by k_qdec) (LkO.of_mem (by simp [hsu])) (by k_closed) hx ?_
              w_why
              refine ⟨⟨t.m, t.it, t.d, t.i + 1⟩ :: r, seen', n2, y, rr, rfl, ?_, ?_, ?_, ha2⟩
              ·unfold fob
               rw [Ze4]
               simp only [List.reverse_cons, List.map_append, List.map_cons, List.map_nil]
               exact .refl
              ·intro t' ht'
               rcases List.mem_cons.mp ht' with q' | q'
               ·rw [q']; exact hT t (.head _)
               ·exact hT t' (.tail _ q')
              ·have hst2 : Zbi (⟨t.m, t.it, t.d, t.i + 1⟩ :: r) = (t.d.k, ys) :: Zbi r := by simp [Zbi, hys]
               rw [hst2]; exact ha1
            ·have e0 : ((t :: r).reverse.map fun t => V.ref t.m) = (r.reverse.map fun t => V.ref t.m) ++ [V.ref t.m] := by simp
             rw [e0]
             exact Zsd _ _
           ·rintro σe ⟨_, rfl, hdr⟩
            have hst : Zbi (t :: r) = (t.d.k, []) :: Zbi r := by simp [Zbi, hdr]
            rw [hst] at hq
            have hq' : (if (n2.lookup t.d.k).isSome then Zce q (Zbi r) (Zfw t.d.k n2) else none) = some fb := hq
            by_cases hls : (n2.lookup t.d.k).isSome = true
            ·rw [if_pos hls] at hq'
             refine ⟨fun p hp => ?_, fun e => ?_⟩
             ·have : p ∈ b := by rw [← hb, ← hB]; simp [hp]
              simp [this]
             ·have e0 : ((t :: r).reverse.map fun t => V.ref t.m) = (r.reverse.map fun t => V.ref t.m) ++ [V.ref t.m] := by simp
              have e1 : ((t :: r).reverse.map fun t => V.int t.d.k) = (r.reverse.map fun t => V.int t.d.k) ++ [V.int t.d.k] := by simp
              rw [e0, e1]
              have hT5 : r.length ≤ 999 := by simp only [List.length_cons] at hs5; lia
              w_why
              refine Zpd (by k_closed) ?_ (Zir _ _) (by simp; lia)
              rw [Zgd]
              refine Zlf (by k_closed) ?_ (by rw [Ziw]; simpa using hls) (by rw [Zip]; lia)
              w_why
              refine Zpd (by k_closed) ?_ (Zir _ _) (by simp; lia)
              rw [Zgd]
              w_why
              refine ⟨r, Zfw t.d.k n2, v, rfl, ?_, fun t' ht' => hT t' (.tail _ ht'), hq'⟩
              rw [Zv5]
              k_strUnr
            ·rw [if_neg hls] at hq'; cases hq'
          ·rw [List.length_map, List.length_reverse]; lia
        ·exact ⟨T', n2', _, rfl, .refl, hT', hfb⟩
      ·refine ⟨[], seen, n2, k0, _, rfl, .refl, (by intro t ht; cases ht), hm, hfa⟩
  ·lia
 ·rintro loc o ⟨v, seen, n2, rfl, hd, _⟩
  refine W.drp hd ?_
  unfold fob
  refine W.dictLoose (d := n2i) (oe := some ep) (l := dk l) (by k_closed) ?_
  w_why
  ·exact ⟨_, rfl, rfl, rfl⟩
  ·refine .cons (.cons (.cons (.cons ?_)))
   refine .perm ?_ .refl
   subst hb; subst hB
   exact Zew [[_], Zw4 [], Zcw l, [_], [_], obs, Zax fr] [[0, 1, 2, 3, 4, 5, 6]] [[3], [4], [0, 1], [2, 5], [6]] rfl
theorem Zp1 {C : Cx} {σ : St} {f : Addr} {n : Nat} {args : List V} {sel rest : List (Addr × AO)} {fr : Frs} {K' : V → List (Addr × AO) → Prop} {K : V → St → Prop} (g : Good C.A n) (F : FnR C.G (.ref f) n args sel K') (hf : FrIn C fr)
  (P : σ.obs.Perm (sel ++ (Zax fr ++ rest))) (k : ∀ r obs', K' r obs' → K r ⟨σ.loc, obs' ++ (Zax fr ++ rest)⟩) : CF C (.ref f) args σ K := fun s fv vs H rf rl => by
 o_facts rf
 exact Zsm F g hf P k s vs H rl
theorem CF.dictLoose {C : Cx} {σ : St} {f : V} {args : List V} {K : V → St → Prop} {d : Addr} {oe : Option Nat} {l : List (Int × V)} {l' : List (Addr × AO)} (u : UpO d (.dictE oe l) (.dict l) σ.obs l') (h : CF C f args ⟨σ.loc, l'⟩ K) : CF C f args σ K := fun s fv vs H => h s fv vs (H.sharp u fun _ _ r => Zga r)
theorem Zhe {α β : Type} (p : α → Bool) (f : α → β) (b : β) : ∀ (l : List α), ((List.range l.length).filter fun k => (l.map p).getD k false).map (fun k => (l.map f).getD k b) = (l.filter p).map f
 | [] => rfl
 | a :: l => by
  have ih := Zhe p f b l
  rw [List.length_cons, List.range_succ_eq_map, List.filter_cons]
  have h0 : ((a :: l).map p).getD 0 false = p a := rfl
  have h1 : ((List.range l.length).map Nat.succ).filter (fun k => ((a :: l).map p).getD k false) = ((List.range l.length).filter fun k => (l.map p).getD k false).map Nat.succ := by
   rw [List.filter_map]; rfl
  rw [h0, h1, List.filter_cons]
  have h2 : (((List.range l.length).filter fun k => (l.map p).getD k false).map Nat.succ).map (fun k => ((a :: l).map f).getD k b) = (l.filter p).map f := by
   rw [List.map_map, ← ih]; rfl
  cases p a
  ·simpa using h2
  ·exact congrArg (List.cons (f a)) h2
noncomputable def rdy (l : List Nd) : List Int := (l.filter fun d => d.np == 0).map (·.k)
theorem Zu0 {P : Params} {G : Gl} (g : G3 P G) (n : Nat) (x dx n2i : Addr) (npo nfin : Int) (l : List Nd) (fuel : Nat) (obs : List (Addr × AO)) (hl : l.length ≤ 500)
  (hf : Zj6 (gOf l) fuel (l.map (·.k)) [] [] = some none) :
  FnR G (.ref 154) (n + 2) [.ref x] (sob x dx n2i .none npo nfin l obs) fun v o => v = .none ∧ ∃ r, o = Zfv x dx n2i r (rdy l) npo nfin l obs := by
 refine Zpp g ["self"] ["cycle"] [("self", some (.ref x)), ("cycle", none)] rfl rfl rfl rfl rfl (Binds.plain rfl (by kpf_grow)) (by decide +kernel) (by decide +kernel) (by decide +kernel) (by kernel_rfl) (by kernel_rfl) (by kernel_rfl) ?_ rfl
 intro N R L fr hfr
 refine XV.opq fun K hKK => ?_
 injection (fun x dx n2i npo nfin l fuel obs L fr K => 1) with g hl hf N hfr hKK
 have hzz : sizeLine = 16777216 := by decide
 unfold sob
 simp only [List.cons_append, List.append_assoc]
 generalize hB : obs ++ Zax fr = B
 refine Zag ?_
 w_why
 refine ⟨fun h => (by cases h), fun _ => ?_⟩
 w_why
 refine Zf9 ["i"] [] (fun _ _ h => h) ?_ (by kernel_rfl) (by intro _; kernel_rfl) (by kernel_rfl) (by kernel_rfl) (by decide +kernel)
 w_why
 refine Zlb (by k_qdec) PySem.F.slot_dict_values PySem.F.type_dict_values ?_
 w_why
 refine Zpo (by k_qdec) ?_
 intro v
 refine Zpb (by k_listUnr) (by intro oe; k_closed) ?_
 intro it ep L2 acc I
 refine ⟨Zn3 (by k_qdec), ?_⟩
 simp only [List.map_cons, List.map_nil]
 injection (B v it ep L2 acc I) with hB
 refine Zev (fun _ _ h => h) ?_ (Zse .name R.good.h) (fun k => (l.map fun d => d.np == 0).getD k false) (fun k => (l.map fun d => V.int d.k).getD k .none) (fun k loc o => ∃ oz, loc = ([("i", oz)] : Loc) ∧ o = (x, AO.inst 199 dx) :: (dx, AO.attrs (A4 (V.ref n2i) V.none (V.int npo) (V.int nfin))) :: (n2i, AO.dictE (some ep) (dk l)) :: (Zcw l ++ B)) (by k_bytesUnr) ?_ ?_ (fun _ _ h => .tail h) ?_ ?_
 ·simp [dk]; lia
 ·exact ei1 _ rfl rfl
 ·intro k loc o hI
  refine ex1 loc o hI fun oz => ?_
  k_qdec
 ·rintro k loc o O l0 hk ⟨oz, rfl, rfl⟩
  have hk' : k < l.length := by simpa [dk] using hk
  have e1 : ((dk l).getD k (0, .none)).2 = .ref l[k].x := by simp [dk, hk']
  have e2 : (l.map fun d => d.np == 0).getD k false = (l[k].np == 0) := by simp [hk']
  have e3 : (l.map fun d => V.int d.k).getD k .none = .int l[k].k := by simp [hk']
  obtain ⟨hd1, hd2, hd3⟩ := Zfl (List.getElem_mem hk')
  rw [e1, e2, e3]
  w_why
  refine Zdp (a := .int l[k].k) (b := .int l[k].np) (c := .ref l[k].sx) (dx := l[k].dx) g (LkO.of_mem (by simp [hd1])) (LkO.of_mem (by simp [hd2])) ?_ (by intro n h; cases h)
  w_why
  refine ⟨rfl, fun hb => ?_, fun hb => ?_⟩
  ·w_why
   refine Zwy (a := .int l[k].k) (b := .int l[k].np) (c := .ref l[k].sx) (dx := l[k].dx) g (LkO.of_mem (by simp [hd1])) (LkO.of_mem (by simp [hd2])) ?_ (by intro n h; cases h)
   exact ⟨rfl, _, by k_bytesUnr, _, rfl, rfl⟩
  ·exact ⟨_, by k_bytesUnr, _, rfl, rfl⟩
 ·intro loc o hI
  refine ex1 loc o hI fun oz => ?_
  have hlen : (dk l).length = l.length := by simp [dk]
  rw [hlen, Zhe]
  have er : (l.filter fun d => d.np == 0).map (fun d => V.int d.k) = (rdy l).map V.int := by simp [rdy, List.map_map, Function.comp_def]
  rw [er]
  w_why
  refine Zdo 189 (by k_qdec) (by k_qdec) ?_ (Zh8 g (by with_unfolding_all exact rfl)) (by rfl)
  w_why
  refine CF.dictLoose (d := n2i) (oe := some ep) (l := dk l) (by k_closed) ?_
  refine Zp1 (rest := []) R.good (Zwl g n x dx n2i (.ref acc) npo nfin l fuel ((acc, .list ((rdy l).map V.int)) :: obs) hl hf) hfr ?_ ?_
  ·subst hB
   unfold sob
   exact Zew [[_], [_], [_], [_], Zcw l, obs, Zax fr] [[0, 1, 2, 3, 4, 5, 6]] [[1], [2], [3], [4, 0, 5], [6, 99]] rfl
  ·rintro r o ⟨rfl, rfl⟩
   unfold sob
   w_why
   refine ⟨fun h => (by cases h), fun _ => ?_⟩
   w_why
   ·exact ⟨_, rfl, rfl, acc, rfl⟩
   ·refine .perm ?_ .refl
    unfold Zfv
    exact Zew [[_], [_], [_], Zcw l, [_], obs, Zax fr] [[0], [1], [2], [3, 4, 5], [6, 99]] [[0], [1], [2], [4], [3, 5], [6]] rfl
noncomputable def mq (f : Int → Int) (d : Nq) : Nq := ⟨f d.k, d.np, d.su.map f⟩
section
variable {f : Int → Int} (hf : ∀ a b, f a = f b → a = b)
include hf
theorem Zpm (a b : Int) : (f a == f b) = (a == b) := by
 by_cases h : a = b
 ·subst h; simp
 ·have : f a ≠ f b := fun e => h (hf _ _ e)
  rw [beq_eq_false_iff_ne.mpr h, beq_eq_false_iff_ne.mpr this]
theorem Zsq (a : Int) (l : List Int) : f a ∈ l.map f ↔ a ∈ l := by
 constructor
 ·intro h
  obtain ⟨b, hb, e⟩ := List.mem_map.mp h
  rw [← hf _ _ e]; exact hb
 ·intro h; exact List.mem_map.mpr ⟨a, h, rfl⟩
theorem Zyh (l : List Nq) (k : Int) : ((l.map (mq f)).any fun d => d.k == f k) = l.any fun d => d.k == k := by
 rw [List.any_map]
 congr 1
 funext d
 exact Zpm hf d.k k
theorem Zqy (l : List Nq) (k : Int) : ((l.map (mq f)).find? fun d => d.k == f k) = (l.find? fun d => d.k == k).map (mq f) := by
 induction l with
 | nil => rfl
 | cons d l ih =>
  rw [List.map_cons, List.find?_cons, List.find?_cons]
  have : ((mq f d).k == f k) = (d.k == k) := Zpm hf d.k k
  rw [this]
  cases d.k == k
  ·exact ih
  ·rfl
theorem Zp6 (l : List Nq) (k : Int) : Zf3 (l.map (mq f)) (f k) = (Zf3 l k).map (mq f) := by
 unfold Zf3
 rw [Zyh hf]
 split <;> simp [mq]
theorem Zkb (l : List Nq) (k : Int) (g g' : Nq → Nq) (h : ∀ d, g (mq f d) = mq f (g' d)) : Zft (f k) g (l.map (mq f)) = (Zft k g' l).map (mq f) := by
 unfold Zft
 rw [List.map_map, List.map_map]
 apply List.map_congr_left
 intro d _
 have : ((mq f d).k == f k) = (d.k == k) := Zpm hf d.k k
 simp only [Function.comp_def, this, h]
 split <;> rfl
theorem Zqc (l : List Nq) (k : Int) (ps : List Int) : Zt8 (l.map (mq f)) (f k) (ps.map f) = (Zt8 l k ps).map (mq f) := by
 unfold Zt8
 have h1 : Zft (f k) (fun d => { d with np := d.np + ((ps.map f).length : Nat) }) (Zf3 (l.map (mq f)) (f k)) = (Zft k (fun d => { d with np := d.np + (ps.length : Nat) }) (Zf3 l k)).map (mq f) := by
  rw [Zp6 hf, List.length_map]
  exact Zkb hf _ _ _ _ fun d => rfl
 rw [h1]
 clear h1
 generalize Zft k (fun d => { d with np := d.np + (ps.length : Nat) }) (Zf3 l k) = l0
 induction ps generalizing l0 with
 | nil => rfl
 | cons p ps ih =>
  rw [List.map_cons, List.foldl_cons, List.foldl_cons]
  rw [Zp6 hf, Zkb hf (Zf3 l0 p) p (fun d => { d with su := d.su ++ [f k] }) (fun d => { d with su := d.su ++ [k] }) (fun d => by simp [mq])]
  exact ih _
theorem Zlj (l : List Nq) (k : Int) (g : Int → Int) : Zfx (f k) g (l.map (mq f)) = (Zfx k g l).map (mq f) := Zkb hf _ _ _ _ fun d => rfl
theorem Zo9 (ks : List Int) (g : Int → Int) (l : List Nq) : (ks.map f).foldl (fun l k => Zfx k g l) (l.map (mq f)) = (ks.foldl (fun l k => Zfx k g l) l).map (mq f) := by
 induction ks generalizing l with
 | nil => rfl
 | cons k ks ih => rw [List.map_cons, List.foldl_cons, List.foldl_cons, Zlj hf]; exact ih _
noncomputable def mqs (f : Int → Int) (s : Qs) : Qs := (s.1.map (mq f), s.2.map f)
theorem Zvi (s : Qs) (k : Int) : Zpq (mqs f s) (f k) = (Zpq s k).map (mqs f) := by
 unfold Zpq
 have : ((mqs f s).1.find? fun d => d.k == f k) = (s.1.find? fun d => d.k == k).map (mq f) := Zqy hf _ _
 rw [this]
 cases s.1.find? fun d => d.k == k with
 | none => rfl
 | some d =>
  show some (Zfx (f k) (· - 1) (s.1.map (mq f)), if d.np - 1 == 0 then s.2.map f ++ [f k] else s.2.map f) = some (mqs f (Zfx k (· - 1) s.1, if d.np - 1 == 0 then s.2 ++ [k] else s.2))
  rw [Zlj hf]
  unfold mqs
  cases d.np - 1 == 0 <;> simp
theorem Zsf {F : Qs → Int → Option Qs} (h : ∀ s k, F (mqs f s) (f k) = (F s k).map (mqs f)) (ks : List Int) (s : Option Qs) : Zbe F (ks.map f) (s.map (mqs f)) = (Zbe F ks s).map (mqs f) := by
 induction ks generalizing s with
 | nil => rfl
 | cons k ks ih =>
  show Zbe F (ks.map f) ((s.map (mqs f)).bind fun st => F st (f k)) = (Zbe F ks (s.bind fun st => F st k)).map (mqs f)
  rw [← ih]
  congr 1
  cases s with
  | none => rfl
  | some s => exact h s k
theorem Ztm (s : Qs) (k : Int) : Zd0 (mqs f s) (f k) = (Zd0 s k).map (mqs f) := by
 unfold Zd0
 have : ((mqs f s).1.find? fun d => d.k == f k) = (s.1.find? fun d => d.k == k).map (mq f) := Zqy hf _ _
 rw [this]
 cases s.1.find? fun d => d.k == k with
 | none => rfl
 | some d =>
  show (if d.np = -1 then Zbe Zpq (d.su.map f) (some (Zfx (f k) (fun _ => -2) (s.1.map (mq f)), s.2.map f)) else none) = _
  dsimp only
  split
  ·rw [Zlj hf]
   exact Zsf hf (Zvi hf) d.su (some (Zfx k (fun _ => -2) s.1, s.2))
  ·rfl
noncomputable def ms (f : Int → Int) (s : Stk) : Stk := s.map fun p => (f p.1, p.2.map f)
noncomputable def mn (f : Int → Int) (l : List (Int × Int)) : List (Int × Int) := l.map fun p => (f p.1, p.2)
theorem Zj2 (l : List (Int × Int)) (k : Int) : (mn f l).lookup (f k) = l.lookup k := by
 induction l with
 | nil => rfl
 | cons p l ih =>
  obtain ⟨a, b⟩ := p
  show List.lookup (f k) ((f a, b) :: mn f l) = List.lookup k ((a, b) :: l)
  rw [List.lookup_cons, List.lookup_cons, Zpm hf, ih]
theorem Zuo (l : List (Int × Int)) (k : Int) : Zfw (f k) (mn f l) = mn f (Zfw k l) := by
 unfold Zfw mn
 rw [List.filter_map]
 congr 1
 apply List.filter_congr
 intro p _
 simp only [Function.comp_def]
 by_cases h : p.1 = k
 ·simp [h]
 ·have h2 : ¬ f p.1 = f k := fun e => h (hf _ _ e)
  simp [h, h2]
theorem Zzm (l : List (Int × Int)) (k i : Int) : Zp7 (f k) i (mn f l) = mn f (Zp7 k i l) := by
 have e : ∀ a : Int, decide (f a = f k) = decide (a = k) := fun a => by
  by_cases h : a = k
  ·simp [h]
  ·have h2 : ¬ f a = f k := fun e => h (hf _ _ e)
   simp [h, h2]
 have h1 : ((mn f l).any fun kv => decide (kv.1 = f k)) = l.any fun kv => decide (kv.1 = k) := by
  unfold mn
  rw [List.any_map]
  congr 1
  funext p
  exact e p.1
 unfold Zp7
 rw [h1]
 split
 ·unfold mn
  rw [List.map_map, List.map_map]
  apply List.map_congr_left
  intro p _
  simp only [Function.comp_def]
  by_cases h : p.1 = k
  ·simp [h]
  ·have h2 : ¬ f p.1 = f k := fun e => h (hf _ _ e)
   simp [h, h2]
 ·simp [mn]
theorem Zqr (g : List (Int × List Int)) (k : Int) : (ms f g).lookup (f k) = (g.lookup k).map (List.map f) := by
 induction g with
 | nil => rfl
 | cons p l ih =>
  obtain ⟨a, b⟩ := p
  show List.lookup (f k) ((f a, b.map f) :: ms f l) = (List.lookup k ((a, b) :: l)).map (List.map f)
  rw [List.lookup_cons, List.lookup_cons, Zpm hf]
  cases k == a
  ·exact ih
  ·rfl
noncomputable def mfb (f : Int → Int) (r : Option (Int × Stk) × List (Int × Int)) : Option (Int × Stk) × List (Int × Int) := (r.1.map fun p => (f p.1, ms f p.2), mn f r.2)
theorem Zt0 (l : List (Int × Int)) : (mn f l).length = l.length := by simp [mn]
theorem Ztu (l : Stk) : (ms f l).length = l.length := by simp [ms]
theorem Zhy : ∀ (n : Nat) (s : Stk) (n2 : List (Int × Int)), Zce n (ms f s) (mn f n2) = (Zce n s n2).map (mfb f)
 | 0, s, n2 => rfl
 | n + 1, s, n2 => by
  unfold Zce
  rw [Ztu hf, Zt0 hf]
  split
  ·rfl
  ·cases s with
   | nil => rfl
   | cons p r =>
    obtain ⟨k, xs⟩ := p
    cases xs with
    | nil =>
     show (if ((mn f n2).lookup (f k)).isSome then Zce n (ms f r) (Zfw (f k) (mn f n2)) else none) = (if (n2.lookup k).isSome then Zce n r (Zfw k n2) else none).map (mfb f)
     rw [Zj2 hf, Zuo hf, Zhy n r]
     split <;> rfl
    | cons x xs => rfl
noncomputable def mfr (f : Int → Int) : Except (List Int) (List Int × List (Int × Int)) → Except (List Int) (List Int × List (Int × Int))
 | .error c => .error (c.map f)
 | .ok r => .ok (r.1.map f, mn f r.2)
theorem Zg2 (g : List (Int × List Int)) : ∀ (n : Nat) (node : Int) (s : Stk) (seen : List Int) (n2 : List (Int × Int)), Zfq (ms f g) n (f node) (ms f s) (seen.map f) (mn f n2) = (Zfq g n node s seen n2).map (mfr f)
 | 0, _, _, _, _ => rfl
 | n + 1, node, s, seen, n2 => by
  unfold Zfq
  rw [Ztu hf, Zt0 hf, List.length_map]
  split
  ·rfl
  ·by_cases hm : node ∈ seen
   ·rw [if_pos hm, if_pos ((Zsq hf _ _).mpr hm), Zj2 hf]
    cases n2.lookup node with
    | some i =>
     show some (Except.error _) = some (Except.error _)
     congr 2
     simp [ms, List.map_map, Function.comp_def]
    | none =>
     dsimp only
     rw [Zhy hf]
     cases Zce (n + 1) s n2 with
     | none => rfl
     | some r =>
      obtain ⟨r1, r2⟩ := r
      cases r1 with
      | none => rfl
      | some p => exact Zg2 g n p.1 p.2 seen r2
   ·rw [if_neg hm, if_neg (fun h => hm ((Zsq hf _ _).mp h)), Zqr hf]
    cases g.lookup node with
    | none => rfl
    | some su =>
     have h1 : Zce (n + 1) ((f node, su.map f) :: ms f s) (Zp7 (f node) s.length (mn f n2)) = (Zce (n + 1) ((node, su) :: s) (Zp7 node s.length n2)).map (mfb f) := by
      rw [Zzm hf]
      exact Zhy hf (n + 1) ((node, su) :: s) _
     dsimp only [Option.map_some]
     rw [h1]
     cases Zce (n + 1) ((node, su) :: s) (Zp7 node s.length n2) with
     | none => rfl
     | some r =>
      obtain ⟨r1, r2⟩ := r
      cases r1 with
      | none => rfl
      | some p => exact Zg2 g n p.1 p.2 (node :: seen) r2
theorem Zkg (g : List (Int × List Int)) (fuel : Nat) : ∀ (ks seen : List Int) (n2 : List (Int × Int)), Zj6 (ms f g) fuel (ks.map f) (seen.map f) (mn f n2) = (Zj6 g fuel ks seen n2).map (Option.map (List.map f))
 | [], _, _ => rfl
 | k :: ks, seen, n2 => by
  rw [List.map_cons]
  unfold Zj6
  rw [List.length_map]
  split
  ·rfl
  ·by_cases hm : k ∈ seen
   ·rw [if_pos hm, if_pos ((Zsq hf _ _).mpr hm)]
    exact Zkg g fuel ks seen n2
   ·rw [if_neg hm, if_neg (fun h => hm ((Zsq hf _ _).mp h))]
    have h1 := Zg2 hf g fuel k [] seen n2
    have h2 : ms f [] = [] := rfl
    rw [h2] at h1
    rw [h1]
    cases Zfq g fuel k [] seen n2 with
    | none => rfl
    | some r =>
     cases r with
     | error c => rfl
     | ok r => exact Zkg g fuel ks r.1 r.2
end
theorem Zli (l : List Nat) (c i : Nat) (h1 : l[i]? = some c) (h2 : ∀ k < i, l[k]? ≠ some c) : l.idxOf c = i := by
 induction l generalizing i with
 | nil => simp at h1
 | cons a l ih =>
  rw [List.idxOf_cons]
  by_cases h : a = c
  ·subst h
   cases i with
   | zero => simp
   | succ i => exact absurd rfl (h2 0 (by simp))
  ·have : (a == c) = false := by simpa using h
   rw [this]
   cases i with
   | zero => simp at h1; exact absurd h1 h
   | succ i =>
    rw [ih i (by simpa using h1) (fun k hk => by simpa using h2 (k + 1) (by lia))]
    rfl
theorem find1 (l : List Nat) (c : Nat) : Txt.find ⟨l.toArray⟩ ⟨#[c]⟩ = if c ∈ l then (l.idxOf c : Int) else -1 := by
 have hat : ∀ i, StrLaws.At ⟨l.toArray⟩ ⟨#[c]⟩ (Str.length ⟨l.toArray⟩) i ↔ l[i]? = some c := fun i => by
  have := StrLaws.subAt_one ⟨l.toArray⟩ c i
  rw [show (({ cps := l.toArray } : Str).cps.toList) = l from rfl] at this
  exact this
 unfold Txt.find
 rcases StrLaws.occ_head ⟨l.toArray⟩ ⟨#[c]⟩ 1 (Nat.le_refl _) with ⟨h1, h2⟩ | ⟨i, r, h1, h2, h3⟩
 ·rw [h1]
  have : c ∉ l := fun hm => by
   obtain ⟨i, hi⟩ := List.mem_iff_getElem?.mp hm
   exact h2 i ((hat i).mpr hi)
  rw [if_neg this]
 ·rw [h1]
  have hi := (hat i).mp h2
  rw [if_pos (List.mem_iff_getElem?.mpr ⟨i, hi⟩), Zli l c i hi fun k hk q => h3 k hk ((hat k).mpr q)]
noncomputable def Za6 (p q : Nat) (row : List Nat) : Bool := decide (p ∈ row) && decide (q ∈ row.drop (row.idxOf p + 1))
theorem Zqv (p q : Nat) (l : List Nat) : Zgx p q ⟨l.toArray⟩ = Za6 p q l := by
 unfold Zgx Za6
 rw [find1]
 by_cases h : p ∈ l
 ·rw [if_pos h]
  have h1 : decide ((l.idxOf p : Int) ≥ 0) = true := by simp
  have h2 : l.idxOf p < l.length := List.idxOf_lt_length_of_mem h
  have h3 : Zfu ⟨l.toArray⟩ (some ((l.idxOf p : Int) + 1)) none = ⟨(l.drop (l.idxOf p + 1)).toArray⟩ := by
   unfold Zfu
   have : ((l.idxOf p : Int) + 1) = ((l.idxOf p + 1 : Nat) : Int) := by simp
   rw [this]
   congr 2
   exact Zg7 l _ (by lia)
  rw [h1, h3]
  have h4 : decide (p ∈ l) = true := by simpa using h
  rw [h4]
  unfold Zrk
  rw [StrLaws.found_one]
 ·rw [if_neg h]
  simp [h]
theorem Zn9 {f : Nat → Nat} (l : List Nat) (c : Nat) (h : ∀ a ∈ l, f a = f c → a = c) : (l.map f).idxOf (f c) = l.idxOf c := by
 induction l with
 | nil => rfl
 | cons a l ih =>
  rw [List.map_cons, List.idxOf_cons, List.idxOf_cons, ih fun b hb => h b (.tail _ hb)]
  have : (f a == f c) = (a == c) := by
   by_cases e : a = c
   ·subst e; simp
   ·have : f a ≠ f c := fun q => e (h a (.head _) q)
    rw [beq_eq_false_iff_ne.mpr e, beq_eq_false_iff_ne.mpr this]
  rw [this]
theorem Ze6 {f : Nat → Nat} {l : List Nat} {c : Nat} (h : ∀ a ∈ l, f a = f c → a = c) : f c ∈ l.map f ↔ c ∈ l := by
 constructor
 ·intro hm
  obtain ⟨a, ha, e⟩ := List.mem_map.mp hm
  rw [← h a ha e]; exact ha
 ·intro hm; exact List.mem_map.mpr ⟨c, hm, rfl⟩
theorem Zx8 {l : List Nat} (nd : l.Nodup) {a b : Nat} (h1 : a < l.length) (h2 : b < l.length) (e : l[a] = l[b]) : a = b := by
 rcases Nat.lt_trichotomy a b with h | h | h
 ·exact absurd e ((List.pairwise_iff_getElem.mp nd) a b h1 h2 h)
 ·exact h
 ·exact absurd e.symm ((List.pairwise_iff_getElem.mp nd) b a h2 h1 h)
theorem Zlr {codes : List Nat} (c : Cd codes) {a b : Nat} (ha : a < 5) (hb : b < 5) (e : cd codes a = cd codes b) : a = b := by
 have h1 : a < codes.length := by rw [c.len]; exact ha
 have h2 : b < codes.length := by rw [c.len]; exact hb
 rw [cd, cd, List.getD_eq_getElem?_getD, List.getD_eq_getElem?_getD, List.getElem?_eq_getElem h1, List.getElem?_eq_getElem h2] at e
 have e' : codes[a]'h1 = codes[b]'h2 := e
 exact Zx8 c.nd h1 h2 e'
theorem Zmd {codes : List Nat} (c : Cd codes) {p q : Nat} (hp : p < 5) (hq : q < 5) {row : List Nat} (hr : ∀ r ∈ row, r < 5) : Zgx (cd codes p) (cd codes q) ⟨(row.map (cd codes)).toArray⟩ = Za6 p q row := by
 rw [Zqv]
 unfold Za6
 rw [Zn9 row p fun a ha e => Zlr c (hr a ha) hp e, ← List.map_drop]
 have h1 := Ze6 (f := cd codes) (l := row) (c := p) fun a ha e => Zlr c (hr a ha) hp e
 have h2 := Ze6 (f := cd codes) (l := row.drop (row.idxOf p + 1)) (c := q) fun a ha e => Zlr c (hr a (List.mem_of_mem_drop ha)) hq e
 simp only [h1, h2]
theorem Zxf : ∀ (l : List Nat), Txt.join ⟨#[]⟩ (l.map fun c => (⟨#[c]⟩ : Str)) = ⟨l.toArray⟩ := by
 intro l
 have e : ∀ ps : List Str, Txt.join ⟨#[]⟩ ps = Str.join ⟨#[]⟩ ps := fun ps => StrLaws.glued_eq_join _ _
 rw [e]
 induction l with
 | nil => rfl
 | cons a l ih =>
  cases l with
  | nil => rfl
  | cons b l =>
   show (⟨#[a]⟩ : Str) ++ ⟨#[]⟩ ++ Str.join ⟨#[]⟩ ((b :: l).map fun c => (⟨#[c]⟩ : Str)) = _
   rw [ih]
   apply Str.ext'
   rw [Str.cps_append, Str.cps_append]
   simp
noncomputable def Zi9 (l : List Nat) : Nat := l.foldl Nat.max 0
theorem VRs.intsT {h : Heap} : ∀ {l : List Nat} {vs : List Value}, VRs h (l.map vi) vs → ∃ xs : List (Int × Tok), vs = xs.map (fun p => Value.int p.1 p.2) ∧ xs.map (·.1) = l.map (fun n : Nat => (n : Int))
 | [], _, .nil => ⟨[], rfl, rfl⟩
 | a :: l, _, .cons r rl => by
  obtain ⟨xs, e1, e2⟩ := VRs.intsT rl
  refine VR.intK r fun t e0 => ?_
  subst e0
  exact ⟨(a, t) :: xs, by rw [e1]; rfl, by rw [List.map_cons, e2]; rfl⟩
theorem Ze5 (l : List Nat) : ∀ n, n < l.length → l.getD (argBest (fun i j => decide ((l.getD i 0 : Int) > (l.getD j 0 : Int))) n) 0 = (l.take (n + 1)).foldl Nat.max 0
 | 0, h => by
  cases l with
  | nil => cases h
  | cons a l => simp [argBest]
 | n + 1, h => by
  have ih := Ze5 l n (by lia)
  have et : l.take (n + 2) = l.take (n + 1) ++ [l.getD (n + 1) 0] := by
   rw [List.take_add_one, List.getElem?_eq_getElem h]
   simp [h]
  rw [et, List.foldl_append, ← ih]
  simp only [argBest, List.foldl_cons, List.foldl_nil]
  split
  ·rename_i hc
   have hc' := of_decide_eq_true hc
   simp only [Nat.max_def]
   split <;> lia
  ·rename_i hc
   have hc' : ¬ _ := fun q => hc (decide_eq_true q)
   simp only [Nat.max_def]
   split <;> lia
section
variable {C : Cx} {σ : St}
theorem Zxv {a : Addr} {l : List Nat} {K : V → St → Prop} (hl : LkO a (.list (l.map vi)) σ.obs) (k : K (vi (Zi9 l)) σ) (hne : l ≠ []) (hh : C.A.handled = none) : CF C (.bi "max") [.ref a] σ K := by
 injection (C σ a l K) with hl k hne hh
 intro s fv vs H rf rl
 o_facts rf
 revert rl
 intro rl0
 refine VRs.consK rl0 fun _ _ r rl e0 => ?_
 subst e0
 o_facts rl
 o_facts r
 refine Zb4 (H.list hl) fun ws n e r => ?_
 obtain ⟨xs, e1, e2⟩ := r.intsT
 have hlen : xs.length = l.length := by have := congrArg List.length e2; simpa using this
 have hpos : 0 < l.length := List.length_pos_iff.mpr hne
 have hit : ws.toArray = intItems xs.toArray := by rw [e1]; simp [intItems]
 have hnum : ∀ i, numAt xs.toArray i = (l.getD i 0 : Int) := fun i => by
  unfold numAt
  have : (xs.map (·.1))[i]? = (l.map (fun n : Nat => (n : Int)))[i]? := by rw [e2]
  simp only [List.getElem?_map] at this
  simp only [List.getElem?_toArray, List.getD_eq_getElem?_getD]
  rw [this]
  cases l[i]? <;> rfl
 refine .of (max_intList hh ⟨_, e, rfl, n, by rw [hit]⟩ (by simp; lia) fun v h' tk hv hk => ?_)
 have hf : (fun i j => decide (numAt xs.toArray i > numAt xs.toArray j)) = fun i j => decide ((l.getD i 0 : Int) > (l.getD j 0 : Int)) := by funext i j; rw [hnum, hnum]
 rw [hf] at hv
 obtain ⟨t, rfl⟩ := intItems_at hv
 rw [hnum]
 have hs : xs.toArray.size = l.length := by simpa using hlen
 rw [hs]
 have hmax := Ze5 l (l.length - 1) (by omega)
 rw [show l.length - 1 + 1 = l.length by lia, List.take_length] at hmax
 rw [hmax]
 exact ⟨_, _, k, .int _ _, H.ext hk tk, .of_ext hk⟩
theorem Zdq {α β : Type} (f : α → β) : ∀ (l : List α) (i : Nat), (l.map f).eraseIdx i = (l.eraseIdx i).map f
 | [], _ => rfl
 | _ :: _, 0 => rfl
 | a :: l, i + 1 => congrArg (f a :: ·) (Zdq f l i)
theorem Zno {a : Addr} {l : List Nat} {x : Nat} {obs' : List (Addr × AO)} {K : V → St → Prop} (u : UpO a (.list (l.map vi)) (.list ((l.erase x).map vi)) σ.obs obs') (k : K .none ⟨σ.loc, obs'⟩) (hx : x ∈ l) (hz : l.length ≤ sizeLine) : CF C (.bi "list.remove") [.ref a, vi x] σ K := by
 have e1 : l.map vi = (l.map (fun n : Nat => (n : Int))).map V.int := by rw [List.map_map]; rfl
 have hlt := List.idxOf_lt_length_of_mem hx
 have e2 : (l.erase x).map vi = ((l.map (fun n : Nat => (n : Int))).eraseIdx (l.idxOf x)).map V.int := by
  rw [List.erase_eq_eraseIdx_of_idxOf rfl, Zdq, List.map_map]; rfl
 rw [e1, e2] at u
 refine Zpw (l := l.map (fun n : Nat => (n : Int))) (l.idxOf x) u k ?_ ?_ (by rw [List.length_map]; exact hz)
 ·rw [List.getElem?_map, List.getElem?_eq_getElem hlt, List.getElem_idxOf hlt]; rfl
 ·intro m hm
  rw [List.getElem?_map, List.getElem?_eq_getElem (Nat.lt_trans hm hlt)]
  intro q
  have q' : ((l[m]'(Nat.lt_trans hm hlt) : Nat) : Int) = x := by simpa using q
  have q2 : l[m]'(Nat.lt_trans hm hlt) = x := by lia
  have : l.idxOf x ≤ m := by
   have := List.not_of_lt_findIdx (p := (· == x)) (xs := l) (i := m) hm
   simp [q2] at this
  lia
theorem Zh9 {x : Str} {a : Addr} {l : List Str} {rest : List (Addr × AO)} {K : V → St → Prop} (p : Pick (a, .list (l.map V.str)) σ.obs rest) (h : K (.str (Txt.join x l)) ⟨σ.loc, rest⟩) (hz : (l.map (·.length)).sum + l.length * x.length ≤ 16777216) : CF C (.bi "str.join") [.str x, .ref a] σ K := fun s fv vs H rf rl => by
 refine Zae (Zla (K := fun v σ' => v = .str (Txt.join x l) ∧ σ' = σ) (LkO.of_mem p.mem) ⟨rfl, rfl⟩ hz s fv vs H rf rl) ?_ fun _ _ e => e
 rintro v s' ⟨a', σ', ⟨e1, e2⟩, r, H', t⟩
 subst e1; subst e2
 exact ⟨_, _, h, r, H'.drop p, t⟩
theorem Zap {α β : Type} (f : α → β) (d : α) : ∀ (l : List α), (List.range l.length).map (fun k => f (l.getD k d)) = l.map f
 | [] => rfl
 | a :: l => by
  rw [List.length_cons, List.range_succ_eq_map, List.map_cons, List.map_map, List.map_cons, ← Zap f d l]
  rfl
theorem Zbh : (Str.ofString "" : Str) = ⟨#[]⟩ := by decide +kernel
theorem Zmg (l : List Nat) : l.map ch = (l.map fun c => (⟨#[c]⟩ : Str)).map V.str := by rw [List.map_map]; rfl
theorem Zj9 : ∀ (l : List Nat), ((l.map fun c => (⟨#[c]⟩ : Str)).map (·.length)).sum = l.length
 | [] => rfl
 | a :: l => by
  have := Zj9 l
  simp only [List.map_cons, List.sum_cons, List.length_cons] at this ⊢
  rw [this]
  show 1 + _ = _
  lia
end
theorem Zjo : Slot "bool" (cmpInfo .Eq).2.1 "int.__eq__" :=
 .of (owner := "int") (n := "__eq__") (by rw [typeLookup_type, builtinLookup_eq_fast]; kernel_rfl) (by decide +kernel) (by decide +kernel) (by decide +kernel)
  (by first | exact .inl (by decide +kernel) | exact .inr (by decide +kernel)) (by rw [isSubtype_type]; kernel_rfl)
theorem Zj3 (a b : Value) : argsOk "int.__eq__" ⟨[a, b], []⟩ := by unfold argsOk; kernel_rfl
theorem Zh1 (a b : Bool) : Gives (Builtin.«int.__eq__» ⟨[.bool a, .bool b], []⟩) (.val (.bool (a == b))) := .of_eq (by cases a <;> cases b <;> rfl)
theorem EqGives.bool (b c : Bool) : MeetsSeq.EqGives (.bool b) (.bool c) (b == c) := by
 intro prog w A E s Q h
 unfold eqBool
 refine wpAny_holding ?_
 refine wpAny_ite_split (fun hab => ?_) (fun hab => ?_)
 ·have e : b = c := by have := eq_of_beq hab; injection this
  subst e
  exact wpAny_bind (wpAny_rule (wpAny_pure (by simpa using h)))
 ·exact wpAny_bind (richCompare_gives (op := .Eq) rfl rfl Zjo F.entry_int_eq (Zj3 _ _) (Zh1 b c) (by simp [Made.takes]) (wpAny_truthy_bool h))
section
variable {C : Cx} {σ : St}
theorem Znr {a : Addr} {l : List Bool} {K : V → St → Prop} (hl : LkO a (.list (l.map V.bool)) σ.obs) (k : K (.bool (l.any id)) σ) : OP2 C VR (compareOp .In) (.bool true) (.ref a) σ K := fun s v u H r1 r2 => by
 o_facts r1; o_facts r2
 refine Zb4 (H.list hl) fun vs n eo r => ?_
 have hb : ∀ {l : List Bool} {vs : List Value}, VRs s.heap (l.map V.bool) vs → vs = l.map Value.bool := by
  intro l
  induction l with
  | nil => intro vs r; o_facts r; rfl
  | cons a l ih => intro vs r; cases r with | cons q r => cases q; rw [ih r]; rfl
 have hv := hb r
 subst hv
 refine .of (SeqAt.in_listAt (fun y => y == .bool true) ⟨_, eo, rfl, n, rfl⟩ (fun y hy => ?_) ?_)
 ·obtain ⟨b, _, rfl⟩ := List.mem_map.mp (show y ∈ l.map Value.bool by simpa using hy)
  have := (EqGives.bool b true).at C.A.in1 s
  have e : ((Value.bool b == Value.bool true) : Bool) = (b == true) := by cases b <;> rfl
  rw [e]
  exact (EqGives.bool b true).at _ _
 ·have : (l.map Value.bool).toArray.any (fun y => y == .bool true) = l.any id := by
   rw [List.any_toArray, List.any_map]
   congr 1
   funext b
   cases b <;> rfl
  rw [this]
  exact Pst.here H (.bool _) k
end
noncomputable def prs : List (Nat × Nat) := [(0, 1), (0, 2), (1, 2), (0, 3), (1, 3), (2, 3), (0, 4), (1, 4), (2, 4), (3, 4)]
structure GS where
 q : List Nq
 rd : List Int
 npo : Int
 nfin : Int
 wt : List Nat
 ld : List Nat
theorem neGS : Nonempty GS := ⟨⟨[], [], 0, 0, [], []⟩⟩
noncomputable def gq0 : List Nq := (List.range 5).foldl (fun l (c : Nat) => Zt8 l (c : Int) []) []
noncomputable def Zhd (rows : List (List Nat)) (l : List Nq) (e : Nat × Nat) : List Nq := if rows.any (Za6 e.1 e.2) then Zt8 l (e.2 : Int) [(e.1 : Int)] else l
noncomputable def gq (rows : List (List Nat)) : List Nq := prs.foldl (Zhd rows) gq0
noncomputable def Zzc (q : List Nq) : List (Int × List Int) := q.map fun d => (d.k, d.su)
noncomputable def Zwb (q : List Nq) : List Int := (q.filter fun d => d.np == 0).map (·.k)
noncomputable def Zzu (s : GS) : Bool := decide (s.nfin < s.npo) || !s.rd.isEmpty
noncomputable def Zuk (s : GS) : Option GS :=
 let w1 := s.wt ++ s.rd.map Int.toNat
 if !(s.rd.all (fun k => decide (0 ≤ k) && decide (k < 5) && (s.q.map (·.k)).contains k)) || w1.isEmpty || decide (100 < w1.length) || decide (100 < s.rd.length) || decide (100 < s.ld.length) || !(w1.all (· < 5)) then none else
 match Zd0 (s.rd.foldl (fun l k => Zfx k (fun _ => -1) l) s.q, []) (Zi9 w1 : Int) with
 | none => none
 | some (q2, rd2) => if decide (100 < rd2.length) then none else some ⟨q2, rd2, s.npo + s.rd.length, s.nfin + 1, w1.erase (Zi9 w1), s.ld ++ [Zi9 w1]⟩
noncomputable def Zqe : Nat → GS → Option (List Nat)
 | 0, _ => none
 | n + 1, s => if Zzu s then (match Zuk s with | none => none | some s' => Zqe n s') else some s.ld
noncomputable def okQ (q : List Nq) : Bool := decide (q.length ≤ 100) && decide ((q.map (·.k)).Nodup) && q.all (fun d => decide (d.su.length ≤ 100))
noncomputable def Zzx (rows : List (List Nat)) : Option (List Nat) :=
 let q := gq rows
 if (List.range 11).all (fun j => okQ ((prs.take j).foldl (Zhd rows) gq0)) && decide (Zj6 (Zzc q) 100 (q.map (·.k)) [] [] = some none) then Zqe 100 ⟨q, Zwb q, 0, 0, [], []⟩ else none
noncomputable def Zc8 : Nat → List Nat → List (List Nat) → Nat → Option (List (List Nat) × Nat)
 | 0, _, rows, t => some (rows, t)
 | n + 1, row, rows, t => if rows.isEmpty || decide (4 ≤ t) then some (rows, t) else
  let row' := Zcf row
  match Zzx rows with
  | none => none
  | some r => if r = row' then Zc8 n row' (Zek row') (t + 1) else none
noncomputable def Zey (ranks : List Nat) : List (Nat × Nat) := prs.filter fun p => !(Za6 p.1 p.2 ranks)
noncomputable def Zoy (w : List (Nat × Nat)) : Nat := ((w.flatMap fun p => ((List.range' (p.1 + 1) (p.2 - (p.1 + 1))).filter fun m => !(w.contains (p.1, m)) || !(w.contains (m, p.2)))).length)
noncomputable def Zxt (ranks : List Nat) : Bool := match Zc8 5 ranks (Zek ranks) 0 with
 | none => false
 | some (rows, t) => rows.isEmpty && (decide (t < 2) == decide (Zoy (Zey ranks) = 0))
section
set_option maxRecDepth 1000000
noncomputable def cellsAll : List (List Nat) := (List.range 2).flatMap fun a => (List.range 3).flatMap fun b => (List.range 4).flatMap fun c => (List.range 5).map fun d => [a, b, c, d]
noncomputable def Znk (c : List Nat) : Nat → List Nat
 | 0 => [0]
 | k + 1 => let r := Znk c k; let i := c.getD k 0; r.take i ++ (k + 1) :: r.drop i
noncomputable def Zvx (a b : Nat) : List (List Nat) := (List.range 4).flatMap fun c => (List.range 5).map fun d => [a, b, c, d]
noncomputable def Zkt (a b : Nat) : Bool := (Zvx a b).all fun c => Zxt (Znk c 4)
theorem Zym : Zkt 0 0 = true := by decide +kernel
theorem Zxp : Zkt 0 1 = true := by decide +kernel
theorem Zzt : Zkt 0 2 = true := by decide +kernel
theorem Zxz : Zkt 1 0 = true := by decide +kernel
theorem Zzi : Zkt 1 1 = true := by decide +kernel
theorem Zxk : Zkt 1 2 = true := by decide +kernel
theorem Zuq : cellsAll.all (fun c => Zxt (Znk c 4)) = true := by
 refine List.all_eq_true.mpr fun x hx => ?_
 obtain ⟨a, ha, hx⟩ := List.mem_flatMap.mp hx
 obtain ⟨b, hb, hx⟩ := List.mem_flatMap.mp hx
 have ha := List.mem_range.mp ha
 have hb := List.mem_range.mp hb
 have key : Zkt a b = true := by
  obtain rfl | rfl : a = 0 ∨ a = 1 := by omega
  ·obtain rfl | rfl | rfl : b = 0 ∨ b = 1 ∨ b = 2 := by omega
   ·exact Zym
   ·exact Zxp
   ·exact Zzt
  ·obtain rfl | rfl | rfl : b = 0 ∨ b = 1 ∨ b = 2 := by omega
   ·exact Zxz
   ·exact Zzi
   ·exact Zxk
 exact List.all_eq_true.mp key x hx
end
theorem Zow {P : Params} {G : Gl} (g : G3 P G) {f c : Addr} {n : Nat} {args : List V} {obs : List (Addr × AO)} {K : V → List (Addr × AO) → Prop} {oc : Obj} {d : Fd} {m : String} {t : Tok} {cvs : Array Value} {ct : Tok} (names rest : List Str) (loc : List (Str × Option V)) (cobs : Addr → List (Addr × AO)) (ho : (K3 P).lookup f = some (Zf1 d m t c)) (hoc : (K3 P).lookup c = some oc) (hdc : oc.data = .fields cvs) (hcv : cvs[1]? = some (.str d.name ct))
  (hnl : names.length = args.length) (hbind : ∀ vs : List Value, vs.length = names.length → bindArgs (Zig d m t c) ⟨vs, []⟩ = pure (names.zip vs))
  (hloc : ∀ x ∈ names, d.scope.names.lookup x = some .local ∨ (x, NameKind.cell) ∈ d.scope.names) (hsn : (d.scope.names.map (·.1)).Nodup) (hnn : (names ++ rest).Nodup)
  (hco : d.scope.isCoroutine = false) (hgen : d.scope.isGenerator = false) (hk : d.scope.kind = .function)
  (h : Nm G gl3 bl3 → ∀ (R : Ar G n) (L : Addr) (fr : Frs), FrIn (R.cx (callEnvC (Zig d m t c) L f) rfl rfl) fr → XV (R.cx (callEnvC (Zig d m t c) L f) rfl rfl) (execs d.body (callEnvC (Zig d m t c) L f)) ⟨loc, cobs L ++ (obs ++ Zax fr)⟩ (fnK fun r o => ∃ o2, o = o2 ++ Zax fr ∧ K r o2))
  (hcs : ∀ L, (cellsFrom (L + 1) d.scope.names []).map (fun p => (p.2, AO.cell ((names.zip args).lookup p.1))) = cobs L)
  (hl : (names.zip (args.map some)).filter (fun p => d.scope.names.lookup p.1 == some .local) ++ rest.map (·, none) = loc) :
  FnR G (.ref f) (n + 1) args obs K := by
 injection (P G f c n args obs K oc d m t cvs ct names rest loc cobs) with g ho hoc hdc hcv hnl hbind hloc hsn hnn hco hgen hk h hcs hl
 exact fun fr =>
  Zmu (o := Zf1 d m t c) (fd := Zig d m t c) (by rw [g.K]; exact ho) rfl rfl rfl rfl rfl rfl (by rw [g.K]; exact hoc) hdc hcv hnl hbind hloc hsn hnn hco hgen hk (fun R L A0 hA e => h g.N R L fr (by
   obtain ⟨l, h1, h2⟩ := hA.deeper (callEnvC (Zig d m t c) L f)
   refine ⟨l, ?_, ?_, rfl, h2⟩
   ·show R.A.frames = _
    rw [e]; exact h1
   ·show d.scope.kind ≠ _
    rw [hk]; decide)) hcs hl
noncomputable def fI (codes : List Nat) (r : Int) : Int := if 0 ≤ r then (if r < 5 then (cd codes r.toNat : Int) else r + 1000) else r
theorem Ztk {codes : List Nat} {r : Nat} (h : r < 5) : fI codes r = cd codes r := by
 unfold fI
 rw [if_pos (by k_units), if_pos (by lia)]
 rfl
theorem Zsj {codes : List Nat} (c : Cd codes) {r : Nat} (h : r < 5) : cd codes r < 256 := by
 have h1 : r < codes.length := by rw [c.len]; exact h
 have : cd codes r = codes[r] := by simp [cd, h1]
 rw [this]
 exact c.lt _ (List.getElem_mem h1)
theorem Zei {codes : List Nat} (c : Cd codes) : ∀ a b, fI codes a = fI codes b → a = b := by
 intro a b h
 have key : ∀ r : Int, (r < 0 ∧ fI codes r = r) ∨ (0 ≤ r ∧ r < 5 ∧ fI codes r = cd codes r.toNat ∧ cd codes r.toNat < 256) ∨ (5 ≤ r ∧ fI codes r = r + 1000) := by
  intro r
  by_cases h0 : 0 ≤ r
  ·by_cases h5 : r < 5
   ·refine .inr (.inl ⟨h0, h5, ?_, Zsj c (by lia)⟩)
    unfold fI; rw [if_pos h0, if_pos h5]
   ·refine .inr (.inr ⟨by lia, ?_⟩)
    unfold fI; rw [if_pos h0, if_neg h5]
  ·refine .inl ⟨by lia, ?_⟩
   unfold fI; rw [if_neg h0]
 rcases key a with ⟨a1, a2⟩ | ⟨a1, a2, a3, a4⟩ | ⟨a1, a2⟩ <;> rcases key b with ⟨b1, b2⟩ | ⟨b1, b2, b3, b4⟩ | ⟨b1, b2⟩
 case inr.inl.inr.inl =>
  rw [a3, b3] at h
  have := Zlr c (a := a.toNat) (b := b.toNat) (by lia) (by lia) (by lia)
  lia
 all_goals lia
theorem Zk2 {f : Int → Int} (hf : ∀ a b, f a = f b → a = b) {q : List Nq} (h : okQ q = true) {l : List Nd} (e : l.map Nd.q = q.map (mq f)) : (l.map (·.k)).Nodup ∧ l.length ≤ 100 ∧ ∀ d ∈ l, d.su.length ≤ 100 := by
 unfold okQ at h
 simp only [Bool.and_eq_true, decide_eq_true_eq, List.all_eq_true] at h
 obtain ⟨⟨h1, h2⟩, h3⟩ := h
 refine ⟨?_, ?_, fun d hd => ?_⟩
 ·have : l.map (·.k) = (q.map (·.k)).map f := by
   have := congrArg (List.map Nq.k) e
   rw [List.map_map, List.map_map] at this
   rw [List.map_map]
   exact this
  rw [this]
  exact List.Pairwise.map _ (fun a b hab q => hab (hf _ _ q)) h2
 ·have := congrArg List.length e
  simp only [List.length_map] at this
  lia
 ·have hm : d.q ∈ q.map (mq f) := e ▸ List.mem_map.mpr ⟨d, hd, rfl⟩
  obtain ⟨x, hx, ex⟩ := List.mem_map.mp hm
  have := h3 x hx
  have e2 : d.su = x.su.map f := (congrArg Nq.su ex).symm
  rw [e2, List.length_map]; exact this
theorem Holds.drp {C : Cx} {loc : List (Str × Option V)} {o o' : List (Addr × AO)} {s : Shared} (d : Drp o o') (H : Holds C ⟨loc, o⟩ s) : Holds C ⟨loc, o'⟩ s :=
 ⟨H.frz, H.loc, fun p hp => H.obs p (d.mem hp), List.nodup_cons.mpr ⟨fun hm => (List.nodup_cons.mp H.nd).1 (d.keys hm), d.nd (List.nodup_cons.mp H.nd).2⟩, fun a ha => H.ap a (by
  rcases List.mem_cons.mp ha with q | q
  ·exact q ▸ .head _
  ·exact .tail _ (d.keys q)), H.nn, H.gens, H.drawn, H.os⟩
theorem OP1.drp {C : Cx} {α β : Type} {R : Heap → β → α → Prop} {f : Value → Sem α} {a : V} {loc : List (Str × Option V)} {o o' : List (Addr × AO)} {K : β → St → Prop} (d : Drp o o') (h : OP1 C R f a ⟨loc, o'⟩ K) : OP1 C R f a ⟨loc, o⟩ K := fun s v H r => h s v (H.drp d) r
noncomputable def Zxc (j : Nat) : List Nq := (List.range j).foldl (fun l (c : Nat) => Zt8 l (c : Int) []) []
theorem Zpr (j : Nat) : Zxc (j + 1) = Zt8 (Zxc j) (j : Int) [] := by unfold Zxc; rw [List.range_succ, List.foldl_append]; rfl
theorem Zwf : ∀ j ≤ 5, okQ (Zxc j) = true := by decide +kernel
noncomputable def nms (codes : List Nat) (rows : List (List Nat)) : List V := rows.map fun row : List Nat => V.str ⟨(row.map (cd codes)).toArray⟩
noncomputable def Zf8 (codes : List Nat) (row : List Nat) : V := .bytes (row.map (cd codes))
noncomputable def Zbk (codes : List Nat) (e : Nat × Nat) : V := .tup [vi e.1, vi e.2, .str ⟨#[cd codes e.1, cd codes e.2]⟩]
noncomputable def Zcy (acc L a pa b : Addr) (oz : Option V) (codes : List Nat) (rows : List (List Nat)) : List (Addr × AO) := [(acc, AO.list (nms codes rows)), (L + 1 + 1, AO.cell oz), (L + 1, AO.cell (some (.ref b))), (a, AO.list (rows.map (Zf8 codes))), (pa, AO.list (prs.map (Zbk codes))), (b, AO.list (codes.map vi))]
noncomputable def gob (x dx n2i : Addr) (rd : V) (npo nfin : Int) (l : List Nd) (mid B : List (Addr × AO)) : List (Addr × AO) :=
 (x, .inst 199 dx) :: (dx, .attrs (A4 (.ref n2i) rd (.int npo) (.int nfin))) :: (n2i, .dict (dk l)) :: (mid ++ (Zcw l ++ B))
theorem Zdv (x dx n2i : Addr) (rd : V) (npo nfin : Int) (l : List Nd) (mid B : List (Addr × AO)) : (gob x dx n2i rd npo nfin l mid B).Perm (sob x dx n2i rd npo nfin l (mid ++ B)) := by
 refine ((List.Perm.cons _ (.cons _ (.cons _ ?_))))
 exact Zb0 [mid, Zcw l, B] [0, 1, 2] [1, 0, 2] rfl
theorem Zk5 {C : Cx} {σ : St} {f : Addr} {n : Nat} {args : List V} {sel rest : List (Addr × AO)} {Q : V → Prop} {K : V → St → Prop} (g : Good C.A n) (F : Fn C.G (.ref f) n args sel fun r o => Q r ∧ o = sel) (p : σ.obs.Perm (sel ++ rest))
  (k : ∀ r, Q r → K r σ) : CF C (.ref f) args σ K := fun s fv vs H rf rl => by
 refine Zae (Zjv (K := fun r σ' => Q r ∧ σ' = ⟨σ.loc, sel ++ rest⟩) g F p (by rintro r o ⟨q, e⟩; exact ⟨q, by rw [e]⟩) s fv vs H rf rl) ?_ fun _ _ e => e
 rintro v s' ⟨a, σ', ⟨q, e⟩, r, H', t⟩
 subst e
 exact ⟨a, σ, k a q, r, Holds.perm (σ := ⟨σ.loc, sel ++ rest⟩) H' p.symm, t⟩
theorem Zea {C : Cx} {σ : St} {f : Addr} {n : Nat} {args : List V} {sel rest : List (Addr × AO)} {K' : V → List (Addr × AO) → Prop} {K : V → St → Prop} (g : Good C.A n) (F : Fn C.G (.ref f) n args sel K') (p : σ.obs.Perm (sel ++ rest))
  (k : ∀ r obs', K' r obs' → ∃ o2, Drp (obs' ++ rest) o2 ∧ K r ⟨σ.loc, o2⟩) : CF C (.ref f) args σ K := fun s fv vs H rf rl => by
 refine Zae (Zjv (K := fun r σ' => ∃ o2, Drp σ'.obs o2 ∧ σ'.loc = σ.loc ∧ K r ⟨σ.loc, o2⟩) g F p (fun r o h => (by obtain ⟨o2, d, kk⟩ := k r o h; exact ⟨o2, d, rfl, kk⟩)) s fv vs H rf rl) ?_ fun _ _ e => e
 rintro v s' ⟨a, σ', ⟨o2, d, e, kk⟩, r, H', t⟩
 obtain ⟨l1, o1⟩ := σ'
 have e' : l1 = σ.loc := e
 subst e'
 exact ⟨a, _, kk, r, H'.drp d, t⟩
noncomputable def Zph (x dx n2i ra wl ll : Addr) (rd : List Int) (npo nfin : Int) (l : List Nd) (wt ld : List Nat) (mid B : List (Addr × AO)) : List (Addr × AO) :=
 (x, .inst 199 dx) :: (dx, .attrs (A4 (.ref n2i) (.ref ra) (.int npo) (.int nfin))) :: (n2i, .dict (dk l)) :: (ra, .list (rd.map V.int)) :: (wl, .list (wt.map vi)) :: (ll, .list (ld.map vi)) :: (mid ++ (Zcw l ++ B))
theorem Zdi (x dx n2i ra wl ll : Addr) (rd : List Int) (npo nfin : Int) (l : List Nd) (wt ld : List Nat) (mid B : List (Addr × AO)) : (Zph x dx n2i ra wl ll rd npo nfin l wt ld mid B).Perm (Zfv x dx n2i ra rd npo nfin l ((wl, .list (wt.map vi)) :: (ll, .list (ld.map vi)) :: (mid ++ B))) := by
 refine ((List.Perm.cons _ (.cons _ (.cons _ (.cons _ ?_)))))
 exact Zb0 [[_], [_], mid, Zcw l, B] [0, 1, 2, 3, 4] [3, 0, 1, 2, 4] rfl
theorem Zo5 : ∀ (p : List (Addr × AO)) {l l' : List (Addr × AO)}, Drp l l' → Drp (p ++ l) l'
 | [], _, _, h => h
 | _ :: p, _, _, h => .cons (Zo5 p h)
theorem Zdk : ∀ (l : List Nat) (a : Nat), l.foldl Nat.max a = a ∨ l.foldl Nat.max a ∈ l
 | [], a => .inl rfl
 | b :: l, a => by
  rw [List.foldl_cons]
  rcases Zdk l (Nat.max a b) with h | h
  ·rw [h]
   by_cases hab : a ≤ b
   ·right; rw [show Nat.max a b = b from Nat.max_eq_right hab]; exact .head _
   ·left; exact Nat.max_eq_left (by lia)
  ·exact .inr (.tail _ h)
theorem Zq8 {l : List Nat} (h : l ≠ []) : Zi9 l ∈ l := by
 cases l with
 | nil => exact absurd rfl h
 | cons a l =>
  unfold Zi9
  rw [List.foldl_cons, show Nat.max 0 a = a from Nat.max_eq_right (Nat.zero_le _)]
  rcases Zdk l a with h | h
  ·rw [h]; exact .head _
  ·exact .tail _ h
theorem Zwd {l : List Nd} {q : List Nq} {f : Int → Int} (e : l.map Nd.q = q.map (mq f)) : l.map (·.k) = (q.map (·.k)).map f := by
 have := congrArg (List.map Nq.k) e
 rw [List.map_map, List.map_map] at this
 rw [List.map_map]
 exact this
theorem Zx2 : ∀ j < prs.length, (prs.getD j (0, 0)).1 < 5 ∧ (prs.getD j (0, 0)).2 < 5 := by decide
theorem gsucc (rows : List (List Nat)) {j : Nat} (hj : j < prs.length) : (prs.take (j + 1)).foldl (Zhd rows) gq0 = Zhd rows ((prs.take j).foldl (Zhd rows) gq0) (prs.getD j (0, 0)) := by
 rw [List.take_add_one, getD_some (d := (0, 0)) hj, List.foldl_append]
 rfl
theorem Zr8 {P : Params} {G : Gl} (g : G3 P G) (n : Nat) (a b pa : Addr) (codes : List Nat) (c : Cd codes) (rows : List (List Nat)) (res : List Nat) (obs : List (Addr × AO)) (hr : ∀ row ∈ rows, row.length ≤ 100 ∧ ∀ r ∈ row, r < 5) (hz : rows.length ≤ 100)
  (hg : Zzx rows = some res) :
  FnR G (.ref 256) (n + 7) [.ref a, .ref pa, .ref b] ((a, .list (rows.map (Zf8 codes))) :: (pa, .list (prs.map (Zbk codes))) :: (b, .list (codes.map vi)) :: obs)
   fun v o => v = Zf8 codes res ∧ o = (a, .list (rows.map (Zf8 codes))) :: (pa, .list (prs.map (Zbk codes))) :: (b, .list (codes.map vi)) :: obs := by
 refine Zow g ["rows", "pairs", "codes"] ["names", "sorter", "code", "low", "high", "waiting", "laid", "chosen"] [("rows", some (.ref a)), ("pairs", some (.ref pa)), ("names", none), ("sorter", none), ("code", none), ("low", none), ("high", none), ("waiting", none), ("laid", none), ("chosen", none)] (fun L => [(L + 1 + 1, .cell none), (L + 1, .cell (some (.ref b)))]) rfl rfl rfl rfl rfl (by kpf_has) (by decide +kernel) (by decide +kernel) (by decide +kernel) (by kernel_rfl) (by kernel_rfl) (by kernel_rfl) ?_ (fun L => by kernel_rfl) (by kernel_rfl)
 intro N R L fr hfr
 refine XV.opq fun K hKK => ?_
 injection (fun a b pa codes rows res obs L fr K => 6) with g c hr hz hg N hfr hKK
 have hzz : sizeLine = 16777216 := by decide
 kpf_tidy
 generalize hB : obs ++ Zax fr = B
 have hcl := c.len
 have hg' := hg
 unfold Zzx at hg'
 dsimp only at hg'
 by_cases hgc : ((List.range 11).all (fun j => okQ ((prs.take j).foldl (Zhd rows) gq0)) && decide (Zj6 (Zzc (gq rows)) 100 ((gq rows).map (·.k)) [] [] = some none)) = true
 case neg => rw [if_neg hgc] at hg'; cases hg'
 rw [if_pos hgc] at hg'
 simp only [Bool.and_eq_true, decide_eq_true_eq, List.all_eq_true, List.mem_range] at hgc
 obtain ⟨hok, hfl⟩ := hgc
 have hpl : prs.length = 10 := rfl
 refine Zag ?_
 refine Za3 ["row"] [] (fun _ _ h => h) ?_ (by kernel_rfl) (by kernel_rfl) (by intro _; kernel_rfl) (by kernel_rfl) (by kernel_rfl) (by decide +kernel)
 w_why
 intro it L2 acc I
 refine ⟨Zaz (by k_qdec), ?_⟩
 simp only [List.map_cons, List.map_nil]
 refine Za1 (fun _ _ h => h) ?_ (Zav (l := rows.map (Zf8 codes)) .name R.good.h) (fun k => V.str ⟨(((rows.getD k []).map (cd codes)).toArray)⟩) (fun k loc o => ∃ oz, loc = ([("row", oz)] : Loc) ∧ o = (L + 1 + 1, AO.cell none) :: (L + 1, AO.cell (some (.ref b))) :: (a, AO.list (rows.map (Zf8 codes))) :: (pa, AO.list (prs.map (Zbk codes))) :: (b, AO.list (codes.map vi)) :: B) (by k_bytesUnr) ?_ ?_ (fun _ _ h => .tail h) ?_ ?_
 ·rw [List.length_map]; lia
 ·exact ei1 _ rfl rfl
 ·intro k loc o hI
  refine ex1 loc o hI fun oz => ?_
  k_qdec
 ·rintro k loc o O l0 hk ⟨oz, rfl, rfl⟩
  have hk' : k < rows.length := by simpa using hk
  have e1 : (rows.map (Zf8 codes)).getD k V.none = .bytes ((rows.getD k []).map (cd codes)) := Zah hk'
  have hrow := hr (rows.getD k []) (Zam hk')
  rw [e1]
  generalize rows.getD k [] = row at *
  w_why
  refine Zf9 ["octet"] [] (fun _ _ h => h) ?_ (by kernel_rfl) (by intro _; kernel_rfl) (by kernel_rfl) (by kernel_rfl) (by decide +kernel)
  w_why
  intro it2 L3 acc2 I2
  refine ⟨Zd2 (by k_qdec), ?_⟩
  simp only [List.map_cons, List.map_nil]
  refine Za1 (fun _ _ h => h) ?_ (Ze3 (b := row.map (cd codes)) .name R.good.h) (fun k => ch ((row.map (cd codes)).getD k 0)) (fun k loc o => ∃ oz, loc = ([("octet", oz)] : Loc) ∧ o = (it, O) :: (acc, AO.list l0) :: (L + 1 + 1, AO.cell none) :: (L + 1, AO.cell (some (.ref b))) :: (a, AO.list (rows.map (Zf8 codes))) :: (pa, AO.list (prs.map (Zbk codes))) :: (b, AO.list (codes.map vi)) :: B) (by k_bytesUnr) ?_ (fun _ _ _ _ => trivial) (fun _ _ _ => trivial) ?_ ?_
  ·rw [List.length_map]; lia
  ·exact ei1 _ rfl rfl
  ·rintro k2 loc o O2 l2 hk2 ⟨oz, rfl, rfl⟩
   have hk2' : k2 < row.length := by simpa using hk2
   have e2 : (row.map (cd codes)).getD k2 0 = cd codes (row.getD k2 0) := Zah hk2'
   have hlt := Zsj c (hrow.2 _ (Zam (d := 0) hk2'))
   w_why
   refine Zza ?_ (by k_units) (by lia)
   refine ⟨by simp, _, by k_bytesUnr, _, rfl, rfl⟩
  ·intro loc o hI
   refine ex1 loc o hI fun oz => ?_
   rw [Zap ch 0, Zmg]
   w_why
   refine Zh9 (by k_listUnr) ?_ ?_
   ·rw [Zbh, Zxf]
    exact ⟨rfl, _, by k_bytesUnr, _, rfl, rfl⟩
   ·rw [Zj9, Zbh]
    simp only [List.length_map]
    show _ + _ * 0 ≤ _
    lia
 ·intro loc o hI
  refine ex1 loc o hI fun oz => ?_
  rw [List.length_map, Zap (fun row : List Nat => V.str ⟨(row.map (cd codes)).toArray⟩) []]
  rw [show (rows.map fun row : List Nat => V.str ⟨(row.map (cd codes)).toArray⟩) = nms codes rows from rfl]
  w_why
  refine Zrv 135 (R.good.less (show 2 ≤ n + 6 by k_units)) (Zyp g (by with_unfolding_all exact rfl)) (fun x' dx' => Zr6 g 0 x' dx' []) .nil ?_
  rintro x dx r o ⟨rfl, n2i, rfl⟩
  refine ⟨rfl, ?_⟩
  kpf_tidy
  w_why
  intro itc
  injection (B it L2 acc I loc o oz x dx n2i itc) with hB hI
  refine Zbr (fun _ _ h => h) (Zav (l := codes.map vi) .name R.good.h) (fun j loc o => ∃ oc cur, loc = ([("rows", some (.ref a)), ("pairs", some (.ref pa)), ("names", some (.ref acc)), ("sorter", some (.ref x)), ("code", oc), ("low", none), ("high", none), ("waiting", none), ("laid", none), ("chosen", none)] : Loc) ∧ cur.map Nd.q = (Zxc j).map (mq (fI codes)) ∧ Drp o (gob x dx n2i .none 0 0 cur (Zcy acc L a pa b none codes rows) B)) (by k_listUnr) ?_ ?_ ?_ ?_
  ·refine ⟨_, [], rfl, rfl, .perm ?_ .refl⟩
   exact Zb0 [[_], [_], [_], [_], [_], [_], [_], [_], [_], B] [0, 1, 2, 3, 4, 5, 6, 7, 8, 9] [1, 2, 0, 3, 4, 5, 6, 7, 8, 9] rfl
  ·rintro j loc o ⟨oc, cur, rfl, e1, hd⟩
   exact LkO.of_mem (hd.mem (by simp [gob, Zcy]))
  ·intro j loc o O hj hI
   obtain ⟨oc, cur, rfl, e1, hd⟩ := hI
   have hj' : j < 5 := by simpa [hcl] using hj
   have e7 : (codes.map vi).getD j V.none = vi (cd codes j) := Zah (by lia)
   rw [e7]
   w_how
   rename_i xq1 xq2 xq3 xq4
   injection (j o O oc cur xq1 xq2) with hj e1 hd hj' e7 xq3 xq4
   refine Zfa ?_
   refine Zbz (by kernel_rfl) (by kernel_rfl) (by k_ownname) ?_
   refine W.drp (.keep hd) ?_
   obtain ⟨h1, h2, h3⟩ := Zk2 (Zei c) (Zwf j (by lia)) e1
   simp only [gob, Zcy, List.cons_append, List.nil_append]
   w_why
   refine Zdo 149 (by k_qdec) (by k_qdec) ?_ (Zh8 g (by with_unfolding_all exact rfl)) (by rfl)
   w_why
   refine Zn7 [(itc, O)] (R.good.less (show n + 5 ≤ n + 6 by simp)) (Ztr g n x dx n2i 0 0 cur (cd codes j) [] (Zcy acc L a pa b none codes rows ++ B) (by simp; lia) h1 (fun d hd => by have := h3 d hd; lia)) (.cons _ (Zdv x dx n2i .none 0 0 cur (Zcy acc L a pa b none codes rows) B)) ?_
   rintro r o ⟨rfl, l', e2, rfl⟩
   kpf_tidy
   w_why
   refine ⟨_, l', rfl, ?_, .perm (Zdv ..).symm .refl⟩
   rw [e2, e1, Zpr, ← Zqc (Zei c), Ztk hj']
   rfl
  ·rintro loc o ⟨oc, cur, rfl, e1, hd⟩
   refine W.drp hd ?_
   have e5 : (codes.map vi).length = 5 := by rw [List.length_map, hcl]
   rw [e5] at e1
   simp only [gob, Zcy, List.cons_append, List.nil_append]
   w_why
   intro itp
   injection (o oc cur itp) with e1 hd
   refine Zbr (fun _ _ h => h) (Zav (l := prs.map (Zbk codes)) .tuple R.good.h) (fun j loc o => ∃ oc o1 o2 oz cur, loc = ([("rows", some (.ref a)), ("pairs", some (.ref pa)), ("names", some (.ref acc)), ("sorter", some (.ref x)), ("code", oc), ("low", o1), ("high", o2), ("waiting", none), ("laid", none), ("chosen", none)] : Loc) ∧ cur.map Nd.q = ((prs.take j).foldl (Zhd rows) gq0).map (mq (fI codes)) ∧ Drp o (gob x dx n2i .none 0 0 cur (Zcy acc L a pa b oz codes rows) B)) (by k_listUnr) ?_ ?_ ?_ ?_
   ·exact ⟨_, _, _, _, cur, rfl, e1, .refl⟩
   ·rintro j loc o ⟨oc, o1, o2, oz, cur, rfl, e1, hd⟩
    exact LkO.of_mem (hd.mem (by simp [gob, Zcy]))
   ·intro j loc o O hj hI
    obtain ⟨oc, o1, o2, oz, cur, rfl, e1, hd⟩ := hI
    have hj' : j < prs.length := by simpa using hj
    have e7 : (prs.map (Zbk codes)).getD j V.none = .tup [vi (prs.getD j (0, 0)).1, vi (prs.getD j (0, 0)).2, .str ⟨#[cd codes (prs.getD j (0, 0)).1, cd codes (prs.getD j (0, 0)).2]⟩] := Zah hj'
    rw [e7]
    obtain ⟨h1, h2, h3⟩ := Zk2 (Zei c) (hok j (by lia)) e1
    have hlt := Zx2 j hj'
    have hgs := gsucc rows hj'
    generalize prs.getD j (0, 0) = pr at *
    obtain ⟨lo, hi⟩ := pr
    dsimp only at hlt ⊢
    refine OP1.drp (.keep hd) ?_
    simp only [gob, Zcy, List.cons_append, List.nil_append]
    w_how
    rename_i xq5 xq6 xq7 xq8
    injection (j o O oc o1 o2 oz cur lo hi xq5 xq6) with hj e1 hd hj' h1 h2 h3 e7 hlt hgs xq7 xq8
    refine Zhv R.good.h ?_ (by kernel_rfl)
    w_why
    refine Zf9 ["name"] [("pair", L + 1 + 1)] (fun _ _ h => h) ?_ (by kernel_rfl) (by intro _; kernel_rfl) (by kernel_rfl) (by kernel_rfl) (by decide +kernel)
    w_why
    intro it4 L4 acc4 I4
    refine ⟨Zaz (by k_qdec), ?_⟩
    simp only [List.map_cons, List.map_nil]
    refine Za1 (fun _ _ h => h) ?_ (Zav (l := nms codes rows) .name R.good.h) (fun k => V.bool ((rows.map (Za6 lo hi)).getD k false)) (fun k loc o => ∃ oz, loc = ([("name", oz)] : Loc) ∧ o = (itp, O) :: gob x dx n2i .none 0 0 cur (Zcy acc L a pa b (some (.str ⟨#[cd codes lo, cd codes hi]⟩)) codes rows) B) (by k_bytesUnr) ?_ ?_ (fun _ _ h => .tail h) ?_ ?_
    ·simp [nms]; lia
    ·exact ei1 _ rfl rfl
    ·intro k loc o hI
     refine ex1 loc o hI fun oz => ?_
     exact LkO.of_mem (by simp [gob, Zcy])
    ·rintro k loc o O5 l5 hk5 ⟨oz, rfl, rfl⟩
     have hk6 : k < rows.length := by simpa [nms] using hk5
     have e9 : (nms codes rows).getD k V.none = .str ⟨((rows.getD k []).map (cd codes)).toArray⟩ := Zah hk6
     have e10 : (rows.map (Za6 lo hi)).getD k false = Za6 lo hi (rows.getD k []) := Zah hk6
     have hrow := hr (rows.getD k []) (Zam hk6)
     rw [e9, e10]
     generalize rows.getD k [] = row at *
     simp only [gob, Zcy, List.cons_append, List.nil_append]
     w_why
     refine Zed (R.good.less (show 1 ≤ n + 6 by k_units)) (Zml g 0 (cd codes lo) (cd codes hi) ⟨(row.map (cd codes)).toArray⟩ (by simp [Str.length]; lia) []) ?_
     rintro r rfl
     refine ⟨by rw [Zmd c hlt.1 hlt.2 hrow.2], _, by k_bytesUnr, _, rfl, rfl⟩
    ·intro loc o hI
     refine ex1 loc o hI fun oz => ?_
     have e11 : (List.range (nms codes rows).length).map (fun k => V.bool ((rows.map (Za6 lo hi)).getD k false)) = (rows.map (Za6 lo hi)).map V.bool := by
      have : (nms codes rows).length = (rows.map (Za6 lo hi)).length := by simp [nms]
      rw [this, Zap V.bool false]
     rw [e11]
     refine Znr (by k_qdec) ?_
     w_why
     refine ⟨fun h => ?_, fun h => ?_⟩
     ·have h' : rows.any (Za6 lo hi) = true := by rw [List.any_map] at h; exact h
      refine W.drp (.cons .refl) ?_
      simp only [gob, Zcy, List.cons_append, List.nil_append]
      w_why
      refine Zdo 149 (by k_qdec) (by k_qdec) ?_ (Zh8 g (by with_unfolding_all exact rfl)) (by rfl)
      w_why
      refine Zas hi (by k_qdec) rfl (by lia) ?_ (by intro o i; exact ⟨[o, i], by kernel_rfl⟩) (by lia)
      w_why
      refine Zas lo (by k_qdec) rfl (by lia) ?_ (by intro o i; exact ⟨[o, i], by kernel_rfl⟩) (by lia)
      w_why
      refine Zn7 [(itp, O)] (R.good.less (show n + 5 ≤ n + 6 by simp)) (Ztr g n x dx n2i 0 0 cur (cd codes hi) [(cd codes lo : Int)] (Zcy acc L a pa b (some (.str ⟨#[cd codes lo, cd codes hi]⟩)) codes rows ++ B) (by simp; lia) h1 (fun d hd => by have := h3 d hd; lia)) (.cons _ (Zdv x dx n2i .none 0 0 cur (Zcy acc L a pa b (some (.str ⟨#[cd codes lo, cd codes hi]⟩)) codes rows) B)) ?_
      rintro r o ⟨rfl, l', e2, rfl⟩
      kpf_tidy
      w_why
      refine ⟨_, _, _, _, l', rfl, ?_, .perm (Zdv ..).symm .refl⟩
      rw [e2, e1, hgs]
      unfold Zhd
      rw [if_pos h', ← Zqc (Zei c)]
      simp only [List.map_cons, List.map_nil]
      rw [Ztk hlt.1, Ztk hlt.2]
     ·have h' : rows.any (Za6 lo hi) = false := by rw [List.any_map] at h; exact h
      w_why
      refine ⟨_, _, _, _, cur, rfl, ?_, .cons .refl⟩
      rw [e1, hgs]
      unfold Zhd
      have : ¬ (rows.any (Za6 lo hi) = true) := by rw [h']; decide
      rw [if_neg this]
   ·rintro loc o ⟨oc, o1, o2, oz, cur, rfl, e1, hd⟩
    refine W.drp hd ?_
    have e6 : prs.take (prs.map (Zbk codes)).length = prs := by rw [List.length_map, List.take_length]
    rw [e6] at e1
    have e1' : cur.map Nd.q = (gq rows).map (mq (fI codes)) := e1
    obtain ⟨h1, h2, h3⟩ := Zk2 (Zei c) (q := gq rows) (by
     have := hok 10 (by simp)
     rwa [show prs.take 10 = prs from rfl] at this) e1'
    have hfl' : Zj6 (gOf cur) 100 (cur.map (·.k)) [] [] = some none := by
     have z := Zkg (Zei c) (Zzc (gq rows)) 100 ((gq rows).map (·.k)) [] []
     rw [hfl] at z
     have z1 : gOf cur = ms (fI codes) (Zzc (gq rows)) := by
      have := congrArg (List.map fun d : Nq => (d.k, d.su)) e1'
      rw [List.map_map, List.map_map] at this
      unfold ms Zzc
      rw [List.map_map]
      exact this
     have z2 : cur.map (·.k) = ((gq rows).map (·.k)).map (fI codes) := by
      have := congrArg (List.map Nq.k) e1'
      rw [List.map_map, List.map_map] at this
      rw [List.map_map]
      exact this
     rw [z1, z2]
     exact z
    have hrd : rdy cur = (Zwb (gq rows)).map (fI codes) := by
     have : rdy cur = Zwb (cur.map Nd.q) := by
      unfold rdy Zwb
      rw [List.filter_map, List.map_map]
      rfl
     rw [this, e1']
     unfold Zwb
     rw [List.filter_map, List.map_map, List.map_map]
     rfl
    simp only [gob, Zcy, List.cons_append, List.nil_append]
    w_why
    refine Zdo 154 (by k_qdec) (by k_qdec) ?_ (Zh8 g (by with_unfolding_all exact rfl)) (by rfl)
    w_why
    refine Zp1 (rest := []) (R.good.less (show n + 2 ≤ n + 6 by simp)) (Zu0 g n x dx n2i 0 0 cur 100 (Zcy acc L a pa b oz codes rows ++ obs) (by lia) hfl') hfr ?_ ?_
    ·have := Zdv x dx n2i .none 0 0 cur (Zcy acc L a pa b oz codes rows) B
     refine List.Perm.trans this ?_
     subst hB
     unfold sob
     simp
    ·rintro r o ⟨rfl, ra, rfl⟩
     rw [hrd]
     refine Zar ?_
     refine Zag ?_
     with_reducible refine Za7 "waiting" "laid" R.good.h ?_ (by kernel_rfl) (by kernel_rfl)
     w_why
     intro wl
     w_why
     intro ll
     w_why
     injection (o oc o1 o2 oz cur ra wl ll) with e1 hd e1' h1 h2 h3 hfl' hrd
     refine Zc1 (fun _ _ h => h) (fun m σ => ∃ gs cur ch, σ.loc = ([("rows", some (.ref a)), ("pairs", some (.ref pa)), ("names", some (.ref acc)), ("sorter", some (.ref x)), ("code", oc), ("low", o1), ("high", o2), ("waiting", some (.ref wl)), ("laid", some (.ref ll)), ("chosen", ch)] : Loc) ∧
      Drp σ.obs (Zph x dx n2i ra wl ll (gs.rd.map (fI codes)) gs.npo gs.nfin cur gs.wt (gs.ld.map (cd codes)) (Zcy acc L a pa b oz codes rows) B) ∧ cur.map Nd.q = gs.q.map (mq (fI codes)) ∧ (cur.map (·.k)).Nodup ∧ gs.rd.length ≤ 100 ∧ (gs.ld.length ≤ 101 ∧ ∀ r ∈ gs.ld, r < 5) ∧ Zqe m gs = some res) ?_ ?_ 100 _ ?_
     ·rintro σ ⟨gs, cur, ch, _, _, _, _, _, _, h⟩
      cases h
     ·rintro m ⟨loc0, o0⟩ ⟨gs, cur, ch, hl0, hd, hq, hn, hrl, hld, hgl⟩
      have hl1 : loc0 = _ := hl0
      subst hl1
      refine W.drp hd ?_
      have gp := Zdi x dx n2i ra wl ll (gs.rd.map (fI codes)) gs.npo gs.nfin cur gs.wt (gs.ld.map (cd codes)) (Zcy acc L a pa b oz codes rows) B
      unfold Zqe at hgl
      simp only [Zph, Zcy, List.cons_append, List.nil_append]
      w_how
      rename_i xq9 xq10 xq11 xq12
      injection (m o0 gs cur ch xq9 xq10) with hq hn hrl hld hl0 hd gp hgl xq11 xq12
      w_why
      refine Zdo 168 (by k_qdec) (by k_qdec) ?_ (Zh8 g (by with_unfolding_all exact rfl)) (by rfl)
      w_why
      refine Zk5 (rest := []) (R.good.less (show 1 ≤ n + 6 by k_units)) (Zp5 g 0 x dx n2i ra (gs.rd.map (fI codes)) gs.npo gs.nfin cur ((wl, .list (gs.wt.map vi)) :: (ll, .list ((gs.ld.map (cd codes)).map vi)) :: (Zcy acc L a pa b oz codes rows ++ B)) (by rw [List.length_map]; lia)) (by rw [List.append_nil]; exact gp) ?_
      rintro r rfl
      w_why
      have hact : (decide (gs.nfin < gs.npo) || !(gs.rd.map (fI codes)).isEmpty) = Zzu gs := by unfold Zzu; cases gs.rd <;> rfl
      rw [hact]
      refine ⟨fun h => ?_, fun h => ?_⟩
      ·rw [if_pos h] at hgl
       cases hst : Zuk gs with
       | none => rw [hst] at hgl; cases hgl
       | some gs' =>
        rw [hst] at hgl
        have hgl' : Zqe m gs' = some res := hgl
        unfold Zuk at hst
        dsimp only at hst
        split at hst
        ·cases hst
        rename_i hck
        simp only [Bool.or_eq_true, Bool.not_eq_true', decide_eq_true_eq, not_or, Bool.not_eq_false, Bool.not_eq_true, List.all_eq_true, Bool.and_eq_true, List.contains_iff_mem, decide_eq_false_iff_not] at hck
        obtain ⟨⟨⟨⟨⟨f1, f2⟩, f3⟩, f4⟩, f5⟩, f6⟩ := hck
        cases hdn : Zd0 (gs.rd.foldl (fun l k => Zfx k (fun _ => -1) l) gs.q, []) (Zi9 (gs.wt ++ gs.rd.map Int.toNat) : Int) with
        | none => rw [hdn] at hst; cases hst
        | some dr =>
         rw [hdn] at hst
         obtain ⟨q2, rd2⟩ := dr
         dsimp only at hst
         split at hst
         ·cases hst
         rename_i hrd2
         have hrd2' : rd2.length ≤ 100 := by simpa using hrd2
         have hgs' := (Option.some.inj hst).symm
         subst hgs'
         refine Zag ?_
         w_why
         refine Zf9 ["code"] [("codes", L + 1)] (fun _ _ h => h) ?_ (by kernel_rfl) (by intro _; kernel_rfl) (by kernel_rfl) (by kernel_rfl) (by decide +kernel)
         w_why
         refine Zdo 161 (by k_qdec) (by k_qdec) ?_ (Zh8 g (by with_unfolding_all exact rfl)) (by rfl)
         w_why
         refine Zea (rest := []) (R.good.less (show 1 ≤ n + 6 by k_units)) (Zrg g 0 x dx n2i ra (gs.rd.map (fI codes)) gs.npo gs.nfin cur ((wl, .list (gs.wt.map vi)) :: (ll, .list ((gs.ld.map (cd codes)).map vi)) :: (Zcy acc L a pa b oz codes rows ++ B)) (by rw [List.length_map]; lia) hn (fun k hk => ?_)) (by rw [List.append_nil]; exact gp) ?_
         ·obtain ⟨r, hr1, rfl⟩ := List.mem_map.mp hk
          rw [Zwd hq]
          exact List.mem_map.mpr ⟨r, (f1 r hr1).2, rfl⟩
         rintro r o ⟨rfl, l1, h11, h12, rfl⟩
         refine ⟨Zph x dx n2i ra wl ll [] (gs.npo + (gs.rd.map (fI codes)).length) gs.nfin l1 gs.wt (gs.ld.map (cd codes)) (Zcy acc L a pa b oz codes rows) B, .perm (by rw [List.append_nil]; exact (Zdi ..).symm) .refl, ?_⟩
         simp only [Zph, Zcy, List.cons_append, List.nil_append]
         w_why
         intro it6 L6 acc6 I6
         refine ⟨Zsx (by k_qdec), ?_⟩
         simp only [List.map_cons, List.map_nil]
         refine Za1 (fun _ _ h => h) ?_ (Ze0 (l := (gs.rd.map (fI codes)).map V.int) .name R.good.h) (fun k => vi ((gs.rd.map Int.toNat).getD k 0)) (fun k loc o => ∃ oz2, loc = ([("code", oz2)] : Loc) ∧ o = Zph x dx n2i ra wl ll [] (gs.npo + (gs.rd.map (fI codes)).length) gs.nfin l1 gs.wt (gs.ld.map (cd codes)) (Zcy acc L a pa b oz codes rows) B) (by k_bytesUnr) ?_ (fun _ _ _ _ => trivial) (fun _ _ _ => trivial) ?_ ?_
         ·rw [List.length_map, List.length_map]; lia
         ·exact ei1 _ rfl rfl
         ·rintro k loc o O6 l6 hk6 ⟨oz2, rfl, rfl⟩
          have hk7 : k < gs.rd.length := by simpa using hk6
          have hm := f1 _ (Zam (d := 0) hk7)
          have e20 : ((gs.rd.map (fI codes)).map V.int).getD k V.none = vi (cd codes (gs.rd.getD k 0).toNat) := by
           rw [List.map_map, Zah (d := 0) hk7]
           show V.int (fI codes (gs.rd.getD k 0)) = _
           have : fI codes (gs.rd.getD k 0) = cd codes (gs.rd.getD k 0).toNat := by
            unfold fI
            rw [if_pos hm.1.1, if_pos hm.1.2]
           rw [this]
          have e21 : (gs.rd.map Int.toNat).getD k 0 = (gs.rd.getD k 0).toNat := Zah hk7
          rw [e20, e21]
          generalize gs.rd.getD k 0 = rk at *
          have hlt : rk.toNat < codes.length := by rw [hcl]; omega
          simp only [Zph, Zcy, List.cons_append, List.nil_append]
          w_why
          refine Zci (j := rk.toNat) (by k_qdec) ?_ (getD_some hlt) c.nd (by rw [c.len]; decide) R.room
          exact ⟨rfl, _, by k_bytesUnr, _, rfl, rfl⟩
         ·intro loc o hI
          refine ex1 loc o hI fun oz2 => ?_
          have e22 : (List.range ((gs.rd.map (fI codes)).map V.int).length).map (fun k => vi ((gs.rd.map Int.toNat).getD k 0)) = (gs.rd.map Int.toNat).map vi := by
           have : ((gs.rd.map (fI codes)).map V.int).length = (gs.rd.map Int.toNat).length := by simp
           rw [this, Zap vi 0]
          rw [e22]
          simp only [Zph, Zcy, List.cons_append, List.nil_append]
          w_why
          ·rw [← List.map_append]
           generalize hw1 : gs.wt ++ gs.rd.map Int.toNat = w1 at *
           have hne : w1 ≠ [] := by intro q; rw [q] at f2; cases f2
           have hmm := Zq8 hne
           have hm5 := f6 _ hmm
           refine Zxv (l := w1) (by k_qdec) ?_ hne R.good.h
           w_why
           refine Zno (l := w1) (x := Zi9 w1) (by k_closed) ?_ hmm (by lia)
           w_why
           refine Zdo 182 (by k_qdec) (by k_qdec) ?_ (Zh8 g (by with_unfolding_all exact rfl)) (by rfl)
           w_why
           refine Zas (Zi9 w1) (by k_qdec) rfl (by lia) ?_ (by intro o i; exact ⟨[o, i], by kernel_rfl⟩) (by lia)
           w_why
           have hq1 : l1.map Nd.q = (gs.rd.foldl (fun l k => Zfx k (fun _ => -1) l) gs.q).map (mq (fI codes)) := by
            rw [h11, hq, Zo9 (Zei c)]
           have hdo : Zbe Zd0 [(cd codes (Zi9 w1) : Int)] (some (l1.map Nd.q, [])) = some (q2.map (mq (fI codes)), rd2.map (fI codes)) := by
            have z := Ztm (Zei c) (gs.rd.foldl (fun l k => Zfx k (fun _ => -1) l) gs.q, []) (Zi9 w1 : Int)
            rw [hdn, Ztk hm5] at z
            show Zd0 (l1.map Nd.q, []) (cd codes (Zi9 w1) : Int) = _
            rw [hq1]
            exact z
           refine Zea (rest := []) (R.good.less (show 1 ≤ n + 6 by k_units)) (Zv7 g 0 x dx n2i ra [] (gs.npo + (gs.rd.map (fI codes)).length) gs.nfin l1 [(cd codes (Zi9 w1) : Int)] (q2.map (mq (fI codes)), rd2.map (fI codes)) ((wl, .list ((w1.erase (Zi9 w1)).map vi)) :: (ll, .list ((gs.ld.map (cd codes)).map vi)) :: (Zcy acc L a pa b oz codes rows ++ B)) (by simp) (by rw [Zdc h12]; exact hn) hdo (by show (rd2.map (fI codes)).length ≤ 500; rw [List.length_map]; lia)) ?_ ?_
           ·rw [List.append_nil]
            exact Zdi x dx n2i ra wl ll [] (gs.npo + (gs.rd.map (fI codes)).length) gs.nfin l1 (w1.erase (Zi9 w1)) (gs.ld.map (cd codes)) (Zcy acc L a pa b oz codes rows) B
           ·rintro r o ⟨rfl, l2, h21, h22, rfl⟩
            refine ⟨Zph x dx n2i ra wl ll (rd2.map (fI codes)) (gs.npo + (gs.rd.map (fI codes)).length) (gs.nfin + 1) l2 (w1.erase (Zi9 w1)) (gs.ld.map (cd codes)) (Zcy acc L a pa b oz codes rows) B, .perm (by rw [List.append_nil]; exact (Zdi ..).symm) .refl, ?_⟩
            simp only [Zph, Zcy, List.cons_append, List.nil_append]
            w_why
            ·refine Zas (Zi9 w1) (by k_qdec) rfl (by lia) ?_ (by intro o i; exact ⟨[o, i], by kernel_rfl⟩) (by lia)
             w_why
             ·refine ⟨_, l2, _, rfl, ?_, h21, ?_, hrd2', ⟨?_, ?_⟩, hgl'⟩
              ·simp only [List.map_append, List.map_cons, List.map_nil, List.length_map]
               exact .refl
              ·rw [Zdc h22, Zdc h12]; exact hn
              ·simp; lia
              ·intro r hr5
               rcases List.mem_append.mp hr5 with q | q
               ·exact hld.2 r q
               ·rw [List.mem_singleton.mp q]; exact hm5
             ·rw [List.length_map, List.length_map]; lia
          ·rw [List.length_map, List.length_map]
           have := f3
           rw [List.length_append] at this
           lia
      ·have : ¬ (Zzu gs = true) := by rw [h]; decide
       rw [if_neg this] at hgl
       have hres : gs.ld = res := by injection hgl
       w_why
       refine Zb9 (l := gs.ld.map (cd codes)) (by k_qdec) ?_ (fun y hy => ?_) (by rw [List.length_map]; lia) R.good.h
       ·w_why
        ·exact ⟨_, rfl, by rw [← hres]; rfl, rfl⟩
        ·refine .cons (.cons (.cons (.cons (.cons (.cons (.cons (.cons (.cons ?_))))))))
         refine .perm (l' := Zcw cur ++ ((a, AO.list (rows.map (Zf8 codes))) :: (pa, AO.list (prs.map (Zbk codes))) :: (b, AO.list (codes.map vi)) :: B)) ?_ (Zo5 _ ?_)
         ·exact Zb0 [[_], [_], [_], Zcw cur, B] [0, 1, 2, 3, 4] [3, 0, 1, 2, 4] rfl
         ·subst hB
          exact .refl
       ·obtain ⟨r, hr5, rfl⟩ := List.mem_map.mp hy
        exact Zsj c (hld.2 r hr5)
     ·refine ⟨⟨gq rows, Zwb (gq rows), 0, 0, [], []⟩, cur, none, rfl, ?_, e1', h1, ?_, ⟨Nat.zero_le _, fun r h => by cases h⟩, hg'⟩
      ·refine .perm ?_ .refl
       subst hB
       unfold Zfv Zph Zcy
       simp only [List.cons_append, List.append_assoc, List.append_nil]
       exact Zb0 [[_], [_], [_], [_], [_], [_], Zcw cur, [_], [_], [_], [_], [_], [_], obs, Zax fr] [0, 1, 2, 3, 4, 5, 6, 7, 8, 9, 10, 11, 12, 13, 14] [2, 3, 4, 5, 1, 0, 7, 8, 9, 10, 11, 12, 6, 13, 14] rfl
      ·have := congrArg List.length hrd
       rw [List.length_map] at this
       have h5 : (rdy cur).length ≤ cur.length := by
        unfold rdy
        rw [List.length_map]
        exact List.length_filter_le _ _
       show (Zwb (gq rows)).length ≤ 100
       lia
theorem Zm2 : isSubtype (.type "KeyError") (.type "LookupError") = pure true := by rw [isSubtype_type]; kernel_rfl
section
variable {prog : Program} {w : World} {A : Around} {E : Value → Shared → Prop} {s : Shared}
theorem Ze2 {K : Type} [DecidableEq K] {knd : KeyKind prog w K} {d : Addr} {f : K → Option Value} {k : K} {key : Value} {Q : Value → Shared → Prop} (hkey : knd.is k key = true) (hm : s.heap.MapOf knd d f) (hf : f k = none) (hd : (d == sysModules) = false) (hh : A.handled = none)
  (h : ∀ h' e, Heap.NewExc s.heap h' e "KeyError" → E (.ref e) { s with heap := h', toks := s.toks + 1 }) : wpAny (model prog w) A (getItem (.ref d) key) Q E s := by
 unfold getItem
 try with_reducible refine wpAny_holding ?_
 refine wpAny_bind (wpAny_sequenceKey hm.typeIs (by decide) ?_)
 exact wpAny_bind (wpAny_callSpecial?_slot (name := Str.ofString "__getitem__") hm.typeIs slot_dict_getitem
  (call_meetsIn slot_dict_getitem hm.typeIs entry_dict_getitem (args_dict_getitem _ _) (meets_dict_getitem_missing knd d hkey hd) ⟨hh, f, hm, hf, h⟩))
open Builtin.Str in
theorem Ztx {d : Addr} {f : Int → Option Value} {c : Nat} {t : Str} {u : Tok} {Q : Mapped → Shared → Prop} (hm : s.heap.MapOf (intKind prog w) d f) (hf : f c = some (.str t u)) (h : Q (.text t) { s with toks := s.toks + 1 + 1 }) : wpAny (model prog w) A (tableLookup (.ref d) c) Q E s := by
 unfold tableLookup
 refine wpAny_bind (wpAny_attempt (wpAny_bind (wpAny_mkInt ?_)))
 refine wpAny_getItem_of (knd := intKind prog w) (k := (c : Int)) (intKind_is _ _ _ _) (s := { s with toks := s.toks + 1 }) hm hf ?_
 exact wpAny_bind (wpAny_pure (wpAny_bind (wpAny_pure (wpAny_pure h))))
open Builtin.Str in
theorem Zuv {d : Addr} {f : Int → Option Value} {c : Nat} {Q : Mapped → Shared → Prop} (hm : s.heap.MapOf (intKind prog w) d f) (hf : f c = none) (hd : (d == sysModules) = false) (hh : A.handled = none) (h : ∀ h', (∀ b o, s.heap.get? b = some o → h'.get? b = some o) → Q .keep { s with heap := h', toks := s.toks + 1 + 1 }) : wpAny (model prog w) A (tableLookup (.ref d) c) Q E s := by
 injection (prog w A E s d f c Q) with hm hf hd hh h
 unfold tableLookup
 refine wpAny_bind (wpAny_attempt (wpAny_bind (wpAny_mkInt ?_)))
 refine Ze2 (knd := intKind prog w) (k := (c : Int)) (intKind_is _ _ _ _) (s := { s with toks := s.toks + 1 }) hm hf hd hh fun h' e n => ?_
 obtain ⟨k1, k2, t, o, k3, k4, k5⟩ := n
 refine wpAny_bind (wpAny_isInstance (T := "KeyError") ⟨_, ‹_›, ‹_›⟩ Zm2 ?_)
 rw [if_pos rfl]
 exact wpAny_bind (wpAny_rule (wpAny_pure (h h' k1)))
theorem Zf6 {d : Addr} {f : Int → Option Value} {c : Nat} {t : Str} {u v : Tok} {Q : Value → Shared → Prop} (hm : s.heap.MapOf (intKind prog w) d f) (hf : f c = some (.str t u)) (hc : c < 128) (ht : t.length = 2) (h : ∀ n m, Q (.str t n) { s with toks := m }) :
  wpAny (model prog w) A (call (.builtin "str.translate") [.str ⟨#[c]⟩ v, .ref d]) Q E s := by
 injection (prog w A E s d f c t u v Q) with hm hf hc ht h
 refine wpAny_call_entry F.slot_str_translate (typeIs_str _ _ _) F.entry_str_translate ?_ (F.args_str_translate_2 _ _)
 unfold Builtin.«str.translate»
 refine wpAny_bind (wpAny_pure ?_)
 have hall : (#[c] : Array Nat).all (· < 128) = true := by simp [hc]
 have ht1 : (t.length == 1) = false := by rw [ht]; rfl
 dsimp only
 rw [if_neg (show ¬ ((({ cps := #[c] } : Str).length == 0) = true) from Bool.false_ne_true)]
 rw [hall, ← Array.forIn_toList]
 show wpAny _ _ (forIn [c] _ _ >>= _) _ _ _
 rw [List.forIn_cons]
 have z0 : Builtin.Str.tooLong 0 = false := by decide +kernel
 dsimp only
 rw [z0]
 refine wpAny_bind (wpAny_bind ?_)
 rw [if_neg Bool.false_ne_true, if_pos rfl]
 refine wpAny_bind (Ztx hm hf ?_)
 dsimp only
 rw [ht1]
 have z2 : (if (false && t.cps.all fun x => decide (x < 128)) = true then some t.cps[0]? else none) = (none : Option (Option Nat)) := if_neg Bool.false_ne_true
 rw [z2]
 dsimp only
 refine wpAny_bind (wpAny_pure ?_)
 dsimp only
 refine wpAny_bind (wpAny_rule ?_)
 rw [if_neg Bool.false_ne_true]
 refine wpAny_bind (Ztx (s := { s with toks := s.toks + 1 + 1 }) hm hf ?_)
 refine wpAny_pure ?_
 dsimp only
 rw [List.forIn_nil]
 refine wpAny_pure ?_
 dsimp only
 have z1 : Builtin.Str.tooLong (0 + t.length) = false := by rw [ht]; decide +kernel
 rw [z1, if_neg Bool.false_ne_true]
 have e : (⟨[t].reverse.foldl (fun acc p => acc ++ p.cps) #[]⟩ : Str) = t := by apply Str.ext'; simp
 rw [e]
 refine wpAny_bind (wpAny_mkStr (wpAny_pure ⟨_, rfl, ?_⟩) (by rw [ht]; decide))
 exact h _ _
theorem Zfr {d : Addr} {f : Int → Option Value} {c : Nat} {v : Tok} {Q : Value → Shared → Prop} (hm : s.heap.MapOf (intKind prog w) d f) (hf : f c = none) (hc : c < 128) (hd : (d == sysModules) = false) (hh : A.handled = none) (h : ∀ n m h', (∀ b o, s.heap.get? b = some o → h'.get? b = some o) → Q (.str ⟨#[c]⟩ n) { s with heap := h', toks := m }) :
  wpAny (model prog w) A (call (.builtin "str.translate") [.str ⟨#[c]⟩ v, .ref d]) Q E s := by
 injection (prog w A E s d f c v Q) with hm hf hc hd hh h
 refine wpAny_call_entry F.slot_str_translate (typeIs_str _ _ _) F.entry_str_translate ?_ (F.args_str_translate_2 _ _)
 unfold Builtin.«str.translate»
 refine wpAny_bind (wpAny_pure ?_)
 have hall : (#[c] : Array Nat).all (· < 128) = true := by simp [hc]
 dsimp only
 rw [if_neg (show ¬ ((({ cps := #[c] } : Str).length == 0) = true) from Bool.false_ne_true)]
 rw [hall, ← Array.forIn_toList]
 show wpAny _ _ (forIn [c] _ _ >>= _) _ _ _
 rw [List.forIn_cons]
 have z0 : Builtin.Str.tooLong 0 = false := by decide +kernel
 dsimp only
 rw [z0]
 refine wpAny_bind (wpAny_bind ?_)
 rw [if_neg Bool.false_ne_true, if_pos rfl]
 refine wpAny_bind (Zuv hm hf hd hh fun h' hk => ?_)
 dsimp only
 refine wpAny_pure ?_
 dsimp only
 refine wpAny_pure ?_
 dsimp only
 have z1 : Builtin.Str.tooLong (0 + 1) = false := by decide +kernel
 rw [z1, if_neg Bool.false_ne_true]
 have e : (⟨[(⟨#[c]⟩ : Str)].reverse.foldl (fun acc p => acc ++ p.cps) #[]⟩ : Str) = ⟨#[c]⟩ := by apply Str.ext'; simp
 rw [e]
 refine wpAny_bind (wpAny_mkStr (wpAny_pure ⟨_, rfl, ?_⟩) (by show 1 ≤ sizeLine; decide))
 exact h _ _ h' hk
section
variable {C : Cx} {σ : St}
noncomputable def trC (kv : List (Int × Value)) (c : Nat) : Str := match valueAt kv c with | some (.str t _) => t | _ => ⟨#[c]⟩
noncomputable def Zzv (kv : List (Int × Value)) (c : Nat) : Bool := decide (c < 128) && (match valueAt kv c with | none => true | some (.str t _) => t.length == 2 | _ => false)
theorem Zg3 {c : Nat} {d : Addr} {o : Obj} {kv : List (Int × Value)} {ep : Nat} {K : V → St → Prop} (hK : C.G.K.lookup d = some o) (hk : ∀ p w, KdkAt (intKind p w) o kv ep) (hok : Zzv kv c = true) (hd : (d == sysModules) = false) (hh : C.A.handled = none) (k : K (.str (trC kv c)) σ) : CF C (.bi "str.translate") [ch c, .ref d] σ K := by
 injection (C σ c d o kv ep K) with hK hk hok hd hh k
 intro s fv vs H rf rl
 o_facts rf
 injection (s vs) with H rl rf
 revert rl
 intro rl0
 refine VRs.consK rl0 fun _ _ r rl e0 => ?_
 subst e0
 revert rl
 intro rl0
 refine VRs.consK rl0 fun _ _ r2 rl e0 => ?_
 subst e0
 o_facts rl
 o_facts r; o_facts r2
 rename_i xq1 xq2
 injection (xq1) with r rl0
 have e := H.frz _ _ (C.ok.sub _ _ hK)
 have hm := (Zdn (prog := C.G.prog) (w := C.G.w) e hk).mapOf
 unfold Zzv at hok
 unfold trC at k
 simp only [Bool.and_eq_true, decide_eq_true_eq] at hok
 obtain ⟨h1, h2⟩ := hok
 cases hv : valueAt kv (c : Int) with
 | none =>
  rw [hv] at k
  refine .of (Zfr hm hv h1 hd hh fun n m h' hk' => ?_)
  exact ⟨_, _, k, .str _ _, H.ext hk' m, .of_ext hk'⟩
 | some v =>
  rw [hv] at k h2
  cases v with
  | str t u =>
   have h3 : t.length = 2 := by simpa using h2
   refine .of (Zf6 hm hv h1 h3 fun n m => ?_)
   exact Pst.hereT H (.str _ _) k
  | _ => cases h2
end
end
theorem Zuz {C : Cx} {σ : St} {out : Str} {v : Expr} {rest : List Expr} {env : Env} {K : V → St → Prop} (h : JV C out (eval v env :: evalEach rest env) σ K) : JV C out (evalEach (v :: rest) env) σ K := h
theorem Zxm {C : Cx} {σ : St} {out : Str} {env : Env} {K : V → St → Prop} (h : JV C out [] σ K) : JV C out (evalEach [] env) σ K := h
noncomputable def Zw5 : Value → Int
 | .int i _ => i
 | _ => 0
noncomputable def isI : Value → Bool
 | .int _ _ => true
 | _ => false
noncomputable def Zvw (es : List DictEntry) : List (Int × Value) := es.map fun e => (Zw5 e.key, e.val)
noncomputable def esOk (es : List DictEntry) : Bool := es.all (fun e => isI e.key && e.hash == hashInt (Zw5 e.key)) && decide ((es.map fun e => Zw5 e.key).Nodup)
theorem Zxi {es : Array DictEntry} {ep : Nat} (h : esOk es.toList = true) (p : Program) (w : World) : KdkAt (intKind p w) { cls := .type "dict", data := .dict es ep } (Zvw es.toList) ep := by
 unfold esOk at h
 simp only [Bool.and_eq_true, List.all_eq_true, decide_eq_true_eq, beq_iff_eq] at h
 obtain ⟨h1, h2⟩ := h
 have hI : ∀ v : Value, isI v = true → Value.isInt (Zw5 v) v = true := fun v hv => by
  cases v <;> first | exact beq_self_eq_true _ | cases hv
 refine ⟨es, ⟨rfl, rfl, rfl⟩, rfl, fun e he => ?_, ?_, ?_⟩
 ·have := h1 e (by simpa using he)
  exact ⟨Zw5 e.key, hI _ this.1, this.2⟩
 ·unfold Zvw
  have : ∀ l : List DictEntry, (∀ e ∈ l, isI e.key = true) → Pairs (intKind p w) l (l.map fun e => (Zw5 e.key, e.val)) := by
   intro l
   induction l with
   | nil => intro _; exact .nil
   | cons e l ih => intro hl; exact .cons (hI _ (hl e (.head _))) rfl (ih fun e he => hl e (.tail _ he))
  exact this _ fun e he => (h1 e he).1
 ·unfold Zvw
  rw [List.map_map]
  exact h2
noncomputable def Zw7 (P : Params) : Array DictEntry := match (K3 P).lookup 59 with
 | some o => (match o.data with | .dict es _ => es | _ => #[])
 | none => #[]
noncomputable def stock8 : List Nat := [97, 46, 45, 93, 92, 94, 126, 38]
noncomputable def Zw3 (c : Nat) : Str := if c == 97 then ⟨#[97]⟩ else ⟨#[92, c]⟩
theorem Zyq (P : Params) : (K3 P).lookup 59 = some { cls := .type "dict", data := .dict (Zw7 P) 24 } := by with_unfolding_all rfl
theorem Zvl (P : Params) : esOk (Zw7 P).toList = true := by kernel_rfl
theorem tr59 (P : Params) : ∀ c ∈ stock8, Zzv (Zvw (Zw7 P).toList) c = true ∧ trC (Zvw (Zw7 P).toList) c = Zw3 c := by
 have h : (stock8.all fun c => Zzv (Zvw (Zw7 P).toList) c && trC (Zvw (Zw7 P).toList) c == Zw3 c) = true := by kernel_rfl
 intro c hc
 have := List.all_eq_true.mp h c hc
 simpa using this
theorem Zyr {P : Params} {G : Gl} (g : G3 P G) (n : Nat) (c : Nat) (hc : c ∈ stock8) (obs : List (Addr × AO)) :
  Fn G (.ref 69) (n + 1) [ch c] obs fun v o => v = .str (Zw3 c) ∧ o = obs := by
 refine Zc3 g ["pattern"] [] [("pattern", some (ch c))] rfl rfl rfl rfl rfl (by kpf_grow) (by decide +kernel) (by decide +kernel) (by decide +kernel) (by kernel_rfl) (by kernel_rfl) (by kernel_rfl) ?_ rfl
 intro N R L
 refine XV.opq fun K hKK => ?_
 injection (fun c obs L K => 0) with g hc N hKK
 refine Zag ?_
 w_why
 refine ⟨fun _ => ?_, fun h => (by cases h)⟩
 w_why
 refine Zgr F.slot_str_translate F.type_str_translate ?_
 w_why
 obtain ⟨h1, h2⟩ := tr59 P c hc
 refine Zg3 (d := 59) (by show G.K.lookup 59 = _; rw [g.K]; exact Zyq P) (fun p w => Zxi (Zvl P) p w) h1 (by decide) R.good.h ?_
 rw [h2]
 w_why
 ·exact ⟨rfl, rfl⟩
 ·exact .refl
noncomputable def pv (S : Addr) : Option Str → V
 | none => .ref S
 | some s => .str s
noncomputable def cat (l : List Str) : Str := Txt.join ⟨#[]⟩ l
noncomputable def Za8 : List (Option Str) → List Str
 | some s :: l => s :: Za8 l
 | _ => []
noncomputable def Zde : List (Option Str) → List (Option Str)
 | some _ :: l => Zde l
 | l => l
theorem Zcx : ∀ l : List (Option Str), l = (Za8 l).map some ++ Zde l
 | [] => rfl
 | none :: _ => rfl
 | some s :: l => congrArg (some s :: ·) (Zcx l)
noncomputable def sz (l : List Str) : Nat := (l.map (·.length)).sum
noncomputable def pj2 : Nat → List (Option Str) → Option (List Str)
 | 0, _ => none
 | n + 1, l => match l with
  | [] => some []
  | some _ :: _ => none
  | [none] => some [".*"]
  | none :: none :: _ => none
  | none :: some s :: r => if 100000 < sz (Za8 (some s :: r)) then none else match pj2 n (Zde r) with
   | none => none
   | some rs => if (Zde r).isEmpty then some (".*" :: cat (Za8 (some s :: r)) :: rs) else some ((Str.empty ++ (Str.ofString "(?>.*?") ++ cat (Za8 (some s :: r)) ++ Str.ofString ")") :: rs)
noncomputable def pj (l : List (Option Str)) : Option Str := match pj2 100 (Zde l) with
 | none => none
 | some rs => if 100000 < sz (Za8 l ++ rs) ∨ 1000 < (Za8 l ++ rs).length then none else some (Str.empty ++ (Str.ofString "(?s:") ++ cat (Za8 l ++ rs) ++ Str.ofString ")\\Z")
noncomputable abbrev Zw6 (a S r m : Addr) (i n : Int) (f : Option V) : Loc := [("inp", some (.ref a)), ("STAR", some (.ref S)), ("res", some (.ref r)), ("add", some (.ref m)), ("i", some (.int i)), ("n", some (.int n)), ("fixed", f)]
noncomputable def job (m r a : Addr) (acc : List Str) (L : List V) (b : List (Addr × AO)) : List (Addr × AO) := (m, AO.bound "builtin_function_or_method" "list.append" r) :: (r, .list (acc.map V.str)) :: (a, .list L) :: b
theorem WL.mono {C : Cx} {σ : St} {test : Expr} {body orelse : List Stmt} {K K' : Fl → St → Prop} (h : WL C test body orelse σ K') (k : ∀ fl σ, K' fl σ → K fl σ) : WL C test body orelse σ K := fun s H => Zao (h s H) fun r s' x => by
 cases r with
 | ok f => obtain ⟨a, σ', y, z⟩ := x; exact ⟨a, σ', k a σ' y, z⟩
 | error e => exact x
theorem Zer {pre : List Str} {suf l : List (Option Str)} (e : l = pre.map some ++ suf) (h : ∀ s t, suf ≠ some s :: t) : Za8 l = pre ∧ Zde l = suf := by
 subst e
 induction pre with
 | nil =>
  cases suf with
  | nil => exact ⟨rfl, rfl⟩
  | cons x t =>
   cases x with
   | none => exact ⟨rfl, rfl⟩
   | some s => exact absurd rfl (h s t)
 | cons x pre ih => exact ⟨congrArg (x :: ·) ih.1, ih.2⟩
theorem Zoa (l : List Str) : (cat l).length ≤ sz l := by
 have e : cat l = Str.join ⟨#[]⟩ l := StrLaws.glued_eq_join _ _
 rw [e]
 have := StrLaws.join_length_le ⟨#[]⟩ l
 have h0 : (⟨#[]⟩ : Str).length = 0 := rfl
 rw [h0] at this
 simpa [sz] using this
theorem Zrt {S : Addr} {parts : List (Option Str)} {pre : List Str} {i : Nat} {x : Option Str} {t : List (Option Str)} (e : parts.drop i = pre.map some ++ x :: t) : (parts.map (pv S))[i + pre.length]? = some (pv S x) := by
 have h : parts[i + pre.length]? = some x := by
  have : (parts.drop i)[pre.length]? = some x := by
   rw [e, List.getElem?_append_right (by simp)]
   simp
  simpa [Nat.add_comm] using this
 rw [List.getElem?_map, h]; rfl
theorem Zv0 {n : Nat} (h : n ≤ 1000000) : (n : Int) < 2 ^ 63 := Int.lt_of_le_of_lt (Int.ofNat_le.mpr h) (by decide)
theorem Zmo {parts : List (Option Str)} {pre : List Str} {i : Nat} {suf : List (Option Str)} (e : parts.drop i = pre.map some ++ suf) (hi : i ≤ parts.length) : parts.length = i + pre.length + suf.length := by
 have := congrArg List.length e
 rw [List.length_drop, List.length_append, List.length_map] at this
 rw [Nat.add_assoc, ← this, Nat.add_sub_cancel' hi]
theorem Zvp {P : Params} {G : Gl} (g : G3 P G) (n : Nat) (a S : Addr) (parts : List (Option Str)) (out : Str) (obs : List (Addr × AO)) (hz : parts.length ≤ 100) (ho : pj parts = some out) :
  Fn G (.ref 83) (n + 1) [.ref a, .ref S] ((a, .list (parts.map (pv S))) :: obs) fun v o => v = .str out ∧ o = (a, .list (parts.map (pv S))) :: obs := by
 refine Zc3 g ["inp", "STAR"] ["res", "add", "i", "n", "fixed"] [("inp", some (.ref a)), ("STAR", some (.ref S)), ("res", none), ("add", none), ("i", none), ("n", none), ("fixed", none)] rfl rfl rfl rfl rfl (by kpf_rest) (by decide +kernel) (by decide +kernel) (by decide +kernel) (by kernel_rfl) (by kernel_rfl) (by kernel_rfl) ?_ rfl
 intro N R L
 refine XV.opq fun K hKK => ?_
 injection (fun a S parts out obs L K => 0) with g hz ho N hKK
 have h100 : parts.length ≤ 1000000 := Nat.le_trans hz (by decide)
 have lt63 : ∀ k : Nat, k ≤ parts.length → (k : Int) < 2 ^ 63 := fun k h => Zv0 (Nat.le_trans h h100)
 have leS : ∀ k, k ≤ parts.length → k ≤ sizeLine := fun k h => Nat.le_trans (Nat.le_trans h hz) (by decide)
 refine Zag ?_
 w_why
 intro r
 injection (r)
 w_why
 refine Zt9 (by k_qdec) ?_
 intro m
 injection (m)
 w_why
 with_reducible refine Za7 "i" "n" R.good.h ?_ (by kernel_rfl) (by kernel_rfl)
 cases hp2 : pj2 100 (Zde parts) with
 | none => unfold pj at ho; rw [hp2] at ho; cases ho
 | some rs0 =>
  unfold pj at ho
  rw [hp2] at ho
  dsimp only at ho
  by_cases hsz : 100000 < sz (Za8 parts ++ rs0) ∨ 1000 < (Za8 parts ++ rs0).length
  ·rw [if_pos hsz] at ho; cases ho
  rw [if_neg hsz] at ho
  have hsz1 := Nat.le_of_not_lt fun q => hsz (.inl q)
  have hsz2 := Nat.le_of_not_lt fun q => hsz (.inr q)
  have ho' := (Option.some.inj ho).symm
  w_why
  ·refine WL.mono (K' := fun fl σ' => fl = .next ∧ σ'.loc = Zw6 a S r m (Za8 parts).length parts.length none ∧ Drp σ'.obs (job m r a (Za8 parts) (parts.map (pv S)) obs)) ?_ ?_
   ·refine Zc1 (fun _ _ h => h) (fun q σ => ∃ pre suf, parts = pre.map some ++ suf ∧ suf.length < q ∧ σ.loc = Zw6 a S r m pre.length parts.length none ∧ Drp σ.obs (job m r a pre (parts.map (pv S)) obs)) ?_ ?_ 200 _ ?_
    ·rintro σ ⟨pre, suf, _, h, _⟩; exact absurd h (Nat.not_lt_zero _)
    ·rintro q ⟨loc0, o0⟩ ⟨pre, suf, hp, hq, hl0, hd⟩
     injection (rs0 q loc0 o0 pre suf) with ho hp2 hsz hsz1 hsz2 ho' hp hq hl0 hd
     have hl1 : loc0 = _ := hl0
     subst hl1
     refine W.drp hd ?_
     have hlen : parts.length = pre.length + suf.length := Nat.zero_add pre.length ▸ Zmo (i := 0) hp (Nat.zero_le _)
     unfold job
     w_how
     rename_i xq1 xq2 xq3 xq4
     injection (xq1 xq2) with xq3 xq4
     cases suf with
     | nil =>
      have hsp := Zer hp (by simp)
      w_why
      refine ⟨fun h => ?_, fun h => ?_⟩
      ·exact absurd hlen.symm (Nat.ne_of_lt (Int.ofNat_lt.mp (of_decide_eq_true h)))
      ·refine ⟨fun h => Bool.noConfusion h, fun _ => ?_⟩
       w_why
       refine ⟨rfl, ?_, ?_⟩
       ·rw [hsp.1]
       ·rw [hsp.1]; exact .refl
     | cons x t =>
      have hlt : pre.length < parts.length := hlen.symm ▸ Nat.lt_add_of_pos_right (Nat.succ_pos _)
      have hat := Zrt (S := S) (i := 0) (pre := pre) (x := x) (t := t) hp
      rw [Nat.zero_add] at hat
      w_why
      refine ⟨fun _ => ?_, fun h => ?_⟩
      ·w_why
       refine Zai (x := pv S x) (by k_qdec) ?_ (by intro o i; exact ⟨[o, i], by kernel_rfl⟩) (by k_units) (lt63 _ (Nat.le_of_lt hlt)) hat
       cases x with
       | none =>
        have hsp := Zer hp (by simp)
        simp only [pv]
        w_why
        refine ⟨fun h => Bool.noConfusion h, fun _ => ?_⟩
        refine ⟨fun h => Bool.noConfusion h, fun _ => ?_⟩
        w_why
        refine ⟨rfl, ?_, ?_⟩
        ·rw [hsp.1]
        ·rw [hsp.1]; exact .refl
       | some s =>
        simp only [pv] at hat ⊢
        w_why
        refine ⟨fun _ => ?_, fun h => Bool.noConfusion h⟩
        w_why
        refine ⟨fun _ => ?_, fun h => Bool.noConfusion h⟩
        w_why
        refine Zbb (id := "list.append") (a := r) (.inl rfl) ?_ (by kernel_rfl)
        w_why
        refine Zai (x := .str s) (by k_qdec) ?_ (by intro o i; exact ⟨[o, i], by kernel_rfl⟩) (by k_units) (lt63 _ (Nat.le_of_lt hlt)) hat
        w_why
        refine ⟨by k_qdec, ?_⟩
        refine Zb3 (by k_qdec) (by k_closed) ?_ (by rw [List.length_map]; exact leS _ (Nat.le_of_lt hlt))
        w_why
        refine ⟨pre ++ [s], t, ?_, ?_, ?_, ?_⟩
        ·rw [hp]; simp
        ·exact Nat.lt_of_succ_lt_succ hq
        ·simp
        ·simp only [List.map_append, List.map_cons, List.map_nil]
         exact .refl
      ·exact absurd (Int.ofNat_lt.mpr hlt) (of_decide_eq_false h)
    ·exact ⟨[], parts, rfl, Nat.lt_of_le_of_lt hz (by decide), by simp, .refl⟩
   ·rintro fl ⟨loc0, o0⟩ ⟨rfl, hl0, hd⟩
    injection (rs0 loc0 o0) with ho hp2 hsz hsz1 hsz2 ho' hl0 hd
    have hl1 : loc0 = _ := hl0
    subst hl1
    refine Zar ?_
    refine W.drp hd ?_
    refine Zag ?_
    refine Zfe ?_
    refine WL.mono (K' := fun fl σ' => fl = .next ∧ ∃ f, σ'.loc = Zw6 a S r m parts.length parts.length f ∧ Drp σ'.obs (job m r a (Za8 parts ++ rs0) (parts.map (pv S)) obs)) ?_ ?_
    ·refine Zc1 (fun _ _ h => h) (fun q σ => ∃ (i : Nat) (acc rs : List Str) (f : Option V), i ≤ parts.length ∧ pj2 q (parts.drop i) = some rs ∧ acc ++ rs = Za8 parts ++ rs0 ∧ σ.loc = Zw6 a S r m i parts.length f ∧ Drp σ.obs (job m r a acc (parts.map (pv S)) obs)) ?_ ?_ 100 _ ?_
     ·rintro σ ⟨i, acc, rs, f, _, h, _⟩
      cases h
     ·rintro q ⟨loc0, o0⟩ ⟨i, acc, rs, f, hi, hp, hacc, hl0, hd⟩
      injection (q loc0 o0 i acc rs f) with hi hp hacc hl0 hd
      have hl1 : loc0 = _ := hl0
      subst hl1
      refine W.drp hd ?_
      have hal : acc.length ≤ 1000 := by
       rw [← hacc, List.length_append] at hsz2
       exact Nat.le_trans (Nat.le_add_right _ _) hsz2
      unfold job
      unfold pj2 at hp
      w_how
      rename_i xq5 xq6 xq7 xq8
      injection (xq5 xq6) with xq7 xq8
      cases hdr : parts.drop i with
      | nil =>
       rw [hdr] at hp
       have hrs : rs = [] := by cases hp; rfl
       have hi2 : i = parts.length := Nat.le_antisymm hi (List.drop_eq_nil_iff.mp hdr)
       subst hrs
       w_why
       refine ⟨fun h => ?_, fun h => ?_⟩
       ·exact absurd hi2 (Nat.ne_of_lt (Int.ofNat_lt.mp (of_decide_eq_true h)))
       ·w_why
        rw [List.append_nil] at hacc
        refine ⟨rfl, f, ?_, ?_⟩
        ·rw [hi2]
        ·rw [hacc]; exact .refl
      | cons x t =>
       have hlen := Zmo (i := i) (pre := []) (suf := x :: t) hdr hi
       have hat := Zrt (S := S) (i := i) (pre := []) (x := x) (t := t) hdr
       simp only [List.length_nil, Nat.add_zero] at hat
       rw [hdr] at hp
       cases x with
       | some s => cases hp
       | none =>
        simp only [pv] at hat
        have h9 : i < parts.length := hlen.symm ▸ (Nat.lt_add_of_pos_right (Nat.succ_pos _) : i < i + (t.length + 1))
        w_why
        refine ⟨fun _ => ?_, fun h => ?_⟩
        ·w_why
         refine Zai (x := .ref S) (by k_qdec) ?_ (by intro o i; exact ⟨[o, i], by kernel_rfl⟩) (by k_units) (lt63 _ (Nat.le_of_lt h9)) hat
         w_why
         refine ⟨rfl, ?_⟩
         have e1 : parts.drop (i + 1) = t := by
          rw [← List.drop_drop, hdr]; rfl
         cases t with
         | nil =>
          have hrs : rs = [(".*" : Str)] := by cases hp; rfl
          have hi2 : i + 1 = parts.length := hlen.symm
          subst hrs
          w_why
          refine ⟨fun _ => ?_, fun h => ?_⟩
          ·w_why
           refine Zbb (id := "list.append") (a := r) (.inl rfl) ?_ (by kernel_rfl)
           w_why
           refine ⟨by k_qdec, ?_⟩
           refine Zb3 (by k_qdec) (by k_closed) ?_ (by rw [List.length_map]; exact Nat.le_trans hal (by decide))
           w_why
           refine ⟨rfl, f, ?_, ?_⟩
           ·have : (i : Int) + 1 = parts.length := hi2 ▸ rfl
            rw [this]
           ·rw [← hacc]
            simp only [List.map_append, List.map_cons, List.map_nil]
            exact .refl
          ·exact absurd (congrArg Int.ofNat hi2) (ne_of_beq_false h)
         | cons y t =>
          cases y with
          | none => cases hp
          | some s =>
           have h91 : i + 1 < parts.length := hlen.symm ▸ (Nat.add_lt_add_left (Nat.succ_lt_succ (Nat.succ_pos t.length)) i : i + 1 < i + (t.length + 1 + 1))
           w_why
           refine ⟨fun h => ?_, fun _ => ?_⟩
           ·exact absurd (Int.ofNat.inj (eq_of_beq h)) (Nat.ne_of_lt h91)
           w_why
           have hat2 := Zrt (S := S) (i := i + 1) (pre := []) (x := some s) (t := t) e1
           simp only [List.length_nil, Nat.add_zero, pv] at hat2
           refine Zai (x := .str s) (by k_qdec) ?_ (by intro o i; exact ⟨[o, i], by kernel_rfl⟩) (Int.natCast_nonneg (i + 1)) (lt63 (i + 1) (Nat.le_of_lt h91)) hat2
           w_why
           refine ⟨rfl, ?_⟩
           w_why
           intro fx
           injection (t s fx) with hp hdr hlen e1 hat2
           w_why
           refine WL.mono (K' := fun fl σ' => fl = .next ∧ σ'.loc = Zw6 a S r m ((i : Int) + 1 + (Za8 (some s :: t)).length) parts.length (some (.ref fx)) ∧ Drp σ'.obs ((fx, .list ((Za8 (some s :: t)).map V.str)) :: job m r a acc (parts.map (pv S)) obs)) ?_ ?_
           ·refine Zc1 (fun _ _ h => h) (fun q σ => ∃ (pre : List Str) (suf : List (Option Str)), parts.drop (i + 1) = pre.map some ++ suf ∧ suf.length < q ∧ σ.loc = Zw6 a S r m ((i : Int) + 1 + pre.length) parts.length (some (.ref fx)) ∧ Drp σ.obs ((fx, .list (pre.map V.str)) :: job m r a acc (parts.map (pv S)) obs)) ?_ ?_ 200 _ ?_
            ·rintro σ ⟨pre, suf, _, h, _⟩; exact absurd h (Nat.not_lt_zero _)
            ·rintro q ⟨loc0, o0⟩ ⟨pre, suf, hp3, hq, hl0, hd⟩
             injection (q loc0 o0 pre suf) with hp3 hq hl0 hd
             have hl1 : loc0 = _ := hl0
             subst hl1
             refine W.drp hd ?_
             have hlen3 := Zmo (i := i + 1) hp3 (Nat.le_of_lt h91)
             unfold job
             w_how
             rename_i xq9 xq10 xq11 xq12
             injection (xq9 xq10) with xq11 xq12
             cases suf with
             | nil =>
              have hsp := Zer hp3 (by simp)
              rw [e1] at hsp
              w_why
              refine ⟨fun h => ?_, fun h => ?_⟩
              ·exact absurd hlen3.symm (Nat.ne_of_lt (Int.ofNat_lt.mp (show ((i + 1 + pre.length : Nat) : Int) < (parts.length : Nat) from of_decide_eq_true h)))
              ·refine ⟨fun h => Bool.noConfusion h, fun _ => ?_⟩
               w_why
               rw [hsp.1]
               exact ⟨rfl, rfl, .refl⟩
             | cons x t3 =>
              have hat3 := Zrt (S := S) (i := i + 1) (pre := pre) (x := x) (t := t3) hp3
              have h93 : i + 1 + pre.length < parts.length := hlen3.symm ▸ Nat.lt_add_of_pos_right (Nat.succ_pos _)
              w_why
              refine ⟨fun _ => ?_, fun h => ?_⟩
              ·w_why
               refine Zai (x := pv S x) (by k_qdec) ?_ (by intro o i; exact ⟨[o, i], by kernel_rfl⟩) (Int.natCast_nonneg (i + 1 + pre.length)) (lt63 (i + 1 + pre.length) (Nat.le_of_lt h93)) hat3
               cases x with
               | none =>
                have hsp := Zer hp3 (by simp)
                rw [e1] at hsp
                simp only [pv]
                w_why
                refine ⟨fun h => Bool.noConfusion h, fun _ => ?_⟩
                refine ⟨fun h => Bool.noConfusion h, fun _ => ?_⟩
                w_why
                rw [hsp.1]
                exact ⟨rfl, rfl, .refl⟩
               | some s3 =>
                simp only [pv] at hat3 ⊢
                w_why
                refine ⟨fun _ => ?_, fun h => Bool.noConfusion h⟩
                w_why
                refine ⟨fun _ => ?_, fun h => Bool.noConfusion h⟩
                w_why
                ·refine Zai (x := .str s3) (by k_qdec) ?_ (by intro o i; exact ⟨[o, i], by kernel_rfl⟩) (Int.natCast_nonneg (i + 1 + pre.length)) (lt63 (i + 1 + pre.length) (Nat.le_of_lt h93)) hat3
                 w_why
                 ·refine ⟨pre ++ [s3], t3, ?_, ?_, ?_, ?_⟩
                  ·rw [hp3]; simp
                  ·exact Nat.lt_of_succ_lt_succ hq
                  ·have : (i : Int) + 1 + pre.length + 1 = (i : Int) + 1 + ((pre ++ [s3]).length : Nat) := by rw [List.length_append]; rfl
                   rw [← this]
                  ·simp only [List.map_append, List.map_cons, List.map_nil]
                   exact .refl
                 ·rw [List.length_map]; exact leS _ (Nat.le_trans (Nat.le_add_left _ _) (Nat.le_of_lt h93))
              ·exact absurd (show ((i + 1 + pre.length : Nat) : Int) < (parts.length : Nat) from Int.ofNat_lt.mpr h93) (of_decide_eq_false h)
            ·refine ⟨[], parts.drop (i + 1), rfl, ?_, ?_, .refl⟩
             ·rw [List.length_drop]; exact Nat.lt_of_le_of_lt (Nat.le_trans (Nat.sub_le _ _) hz) (by decide)
             ·simp
           ·rintro fl ⟨loc0, o0⟩ ⟨rfl, hl0, hd⟩
            injection (loc0 o0) with hl0 hd
            have hl1 : loc0 = _ := hl0
            subst hl1
            refine Zar ?_
            refine W.drp hd ?_
            unfold job
            have hl2 : ∀ x y : Str, (x ++ y).length = x.length + y.length := fun x y => by simp [Str.length, Str.cps_append]
            have k1 : (Str.empty ++ Str.ofString "(?>.*?").length = 6 := by decide +kernel
            have k2 : (Str.ofString ")").length = 1 := by decide +kernel
            have hsp3 : parts.drop (i + 1) = (Za8 (some s :: t)).map some ++ Zde t := by rw [e1]; exact Zcx (some s :: t)
            have hlen3 := Zmo (i := i + 1) hsp3 (Nat.le_of_lt h91)
            have hle3 := hlen3.symm ▸ Nat.le_add_right (i + 1 + (Za8 (some s :: t)).length) _
            have hp' : (if 100000 < sz (Za8 (some s :: t)) then none else match pj2 q (Zde t) with
             | none => none
             | some rs => if (Zde t).isEmpty then some ((".*" : Str) :: cat (Za8 (some s :: t)) :: rs) else some ((Str.empty ++ (Str.ofString "(?>.*?") ++ cat (Za8 (some s :: t)) ++ Str.ofString ")") :: rs)) = some rs := hp
            generalize hws : Za8 (some s :: t) = ws' at *
            by_cases hs1 : 100000 < sz ws'
            ·rw [if_pos hs1] at hp'; cases hp'
            rw [if_neg hs1] at hp'
            have hcl := Nat.le_trans (Zoa ws') (Nat.le_of_not_lt hs1)
            have k3 : Txt.join (Str.ofString "") ws' = cat ws' := by unfold cat; rw [Zbh]
            have hdr3 : parts.drop (i + 1 + ws'.length) = Zde t := by
             rw [← List.drop_drop, hsp3]; simp
            cases hpj : pj2 q (Zde t) with
            | none => rw [hpj] at hp'; cases hp'
            | some rs' =>
             rw [hpj] at hp'
             dsimp only at hp'
             w_why
             refine Zh9 (l := ws') (by k_listUnr) ?_ ?_
             ·rw [k3]
              w_why
              refine ⟨fun h => ?_, fun h => ?_⟩
              ·have h0 : ((i + 1 + ws'.length : Nat) : Int) = parts.length := eq_of_beq h
               have hem : (Zde t).isEmpty = true := List.isEmpty_iff.mpr (List.length_eq_zero_iff.mp (Nat.left_eq_add.mp ((Int.ofNat.inj h0).trans hlen3)))
               rw [if_pos hem] at hp'
               have hrs : rs = (".*" : Str) :: cat ws' :: rs' := (Option.some.inj hp').symm
               subst hrs
               w_why
               refine Zbb (id := "list.append") (a := r) (.inl rfl) ?_ (by kernel_rfl)
               w_why
               refine ⟨by k_qdec, ?_⟩
               refine Zb3 (by k_qdec) (by k_closed) ?_ (by rw [List.length_map]; exact Nat.le_trans hal (by decide))
               w_why
               refine Zbb (id := "list.append") (a := r) (.inl rfl) ?_ (by kernel_rfl)
               w_why
               refine ⟨by k_qdec, ?_⟩
               refine Zb3 (by k_qdec) (by k_closed) ?_ (by rw [List.length_append, List.length_map]; exact Nat.le_trans (Nat.succ_le_succ hal) (by decide))
               w_why
               refine ⟨i + 1 + ws'.length, acc ++ [(".*" : Str), cat ws'], rs', some (.str (cat ws')), hle3, by rw [hdr3]; exact hpj, by rw [← hacc]; simp, ?_, ?_⟩
               ·have : ((i + 1 + ws'.length : Nat) : Int) = (i : Int) + 1 + ws'.length := rfl
                rw [this]
               ·simp only [List.map_append, List.map_cons, List.map_nil, List.append_assoc, List.cons_append, List.nil_append]
                exact .refl
              ·have h0 : ¬ ((i + 1 + ws'.length : Nat) : Int) = parts.length := ne_of_beq_false h
               have hem : ¬ ((Zde t).isEmpty = true) := by
                intro q
                rw [List.isEmpty_iff.mp q] at hlen3
                exact h0 (congrArg Int.ofNat hlen3.symm)
               rw [if_neg hem] at hp'
               have hrs := (Option.some.inj hp').symm
               subst hrs
               w_why
               refine Zbb (id := "list.append") (a := r) (.inl rfl) ?_ (by kernel_rfl)
               w_why
               refine ⟨by rw [k1]; decide, ?_⟩
               w_why
               refine ⟨Nat.le_trans hcl (by decide), _, rfl, by rw [hl2, k1]; exact Nat.le_trans (Nat.add_le_add_left hcl 6) (by decide), ?_⟩
               w_why
               ·refine ⟨by rw [hl2, hl2, k1, k2]; exact Nat.le_trans (Nat.succ_le_succ (Nat.add_le_add_left hcl 6)) (by decide), ?_⟩
                w_why
                ·refine ⟨by k_qdec, ?_⟩
                 refine Zb3 (by k_qdec) (by k_closed) ?_ (by rw [List.length_map]; exact Nat.le_trans hal (by decide))
                 w_why
                 refine ⟨i + 1 + ws'.length, acc ++ [Str.empty ++ Str.ofString "(?>.*?" ++ cat ws' ++ Str.ofString ")"], rs', some (.str (cat ws')), hle3, by rw [hdr3]; exact hpj, by rw [← hacc]; simp, ?_, ?_⟩
                 ·have : ((i + 1 + ws'.length : Nat) : Int) = (i : Int) + 1 + ws'.length := rfl
                  rw [this]
                 ·simp only [List.map_append, List.map_cons, List.map_nil]
                  exact .refl
                ·rw [hl2, hl2, k1, k2]; exact Nat.le_trans (Nat.succ_le_succ (Nat.add_le_add_left hcl 6)) (by decide)
             ·rw [Zbh]
              exact Nat.le_trans (Nat.le_of_not_lt hs1) (by decide)
        ·exact absurd (Int.ofNat_lt.mpr h9) (of_decide_eq_false h)
     ·exact ⟨_, Za8 parts, rs0, none, by
       have := congrArg List.length (Zcx parts)
       rw [List.length_append, List.length_map] at this
       exact this.symm ▸ Nat.le_add_right (Za8 parts).length _, by
       have e : parts.drop (Za8 parts).length = Zde parts := by
        have z : ∀ (l : List (Option Str)) (p : List Str) (q : List (Option Str)), l = p.map some ++ q → l.drop p.length = q := by
         rintro l p q rfl; simp
        exact z _ _ _ (Zcx parts)
       rw [e]; exact hp2, rfl, rfl, .refl⟩
    ·rintro fl ⟨loc0, o0⟩ ⟨rfl, f, hl0, hd⟩
     injection (loc0 o0 f) with hl0 hd
     have hl1 : loc0 = _ := hl0
     subst hl1
     refine Zar ?_
     refine W.drp hd ?_
     unfold job
     w_why
     refine ⟨by simp, ?_⟩
     w_why
     refine Zla (l := Za8 parts ++ rs0) (by k_qdec) ?_ ?_
     ·have hc := Nat.le_trans (Zoa (Za8 parts ++ rs0)) hsz1
      have hl2 : ∀ x y : Str, (x ++ y).length = x.length + y.length := fun x y => by simp [Str.length, Str.cps_append]
      have k1 : (Str.empty ++ Str.ofString "(?s:").length = 4 := by decide +kernel
      have k2 : (Str.ofString ")\\Z").length = 3 := by decide +kernel
      have k3 : (cat (Za8 parts ++ rs0)) = Txt.join (Str.ofString "") (Za8 parts ++ rs0) := by unfold cat; rw [Zbh]
      w_why
      refine ⟨by rw [k1]; decide, ?_⟩
      w_why
      rw [← k3]
      refine ⟨Nat.le_trans hc (by decide), _, rfl, by rw [hl2, k1]; exact Nat.le_trans (Nat.add_le_add_left hc 4) (by decide), ?_⟩
      w_why
      ·refine ⟨by rw [hl2, hl2, k1, k2]; exact Nat.le_trans (Nat.add_le_add_right (Nat.add_le_add_left hc 4) 3) (by decide), ?_⟩
       w_why
       ·exact ⟨congrArg V.str ho'.symm, rfl⟩
       ·exact .cons (.cons .refl)
       ·rw [hl2, hl2, k1, k2]; exact Nat.le_trans (Nat.add_le_add_right (Nat.add_le_add_left hc 4) 3) (by decide)
     ·rw [Zbh]
      exact Nat.le_trans hsz1 (by decide)
  ·rw [List.length_map]; exact leS _ (Nat.le_refl _)
noncomputable def Za9 (p : Str) : Str := if (Zfu p none (some 1) ++ Zfu p (some (-1)) none) == Str.ofString "[]" then Zfu p (some 1) (some (-1)) else p
noncomputable def Zcr (p : Str) : Str :=
 if Za9 p == (Str.ofString "\\" ++ Zfu (Za9 p) (some (-1)) none) then Zfu (Za9 p) (some (-1)) none else
 if Za9 p != Zfu (Za9 p) (some (-1)) none then Str.ofString "" else
 if Zrk (Zfu (Za9 p) (some (-1)) none) (if Za9 p == p then Str.ofString "\\.^$*+?{}[|()" else Str.ofString "\\^") then Str.ofString "" else Zfu (Za9 p) (some (-1)) none
theorem Zdl (x : Str) (lo hi : Option Int) : (Zfu x lo hi).length ≤ x.length := by
 show ((slc x.cps.toList lo hi).toArray).size ≤ x.cps.size
 exact Zje x.cps.toList lo hi
theorem Zbg (x y : Str) : (x ++ y).length = x.length + y.length := by simp [Str.length, Str.cps_append]
theorem Zt6 : (Str.ofString "\\").length = 1 := by decide +kernel
theorem OP1.cast {C : Cx} {σ : St} {α β : Type} {R : Heap → β → α → Prop} {f : Value → Sem α} {a b : V} {K : β → St → Prop} (e : a = b) (h : OP1 C R f b σ K) : OP1 C R f a σ K := e ▸ h
theorem Zot {P : Params} {G : Gl} (g : G3 P G) (n : Nat) (p : Str) (hz : p.length ≤ 100) (hi : (Za9 p).length ≤ 100) (obs : List (Addr × AO)) :
  Fn G (.ref 224) (n + 1) [.str p] obs fun v o => v = .str (Zcr p) ∧ o = obs := by
 refine Zc3 g ["piece"] ["inner", "sign", "special"] [("piece", some (.str p)), ("inner", none), ("sign", none), ("special", none)] rfl rfl rfl rfl rfl (by kpf_grow) (by decide +kernel) (by decide +kernel) (by decide +kernel) (by kernel_rfl) (by kernel_rfl) (by kernel_rfl) ?_ rfl
 intro N R L
 refine XV.opq fun K hKK => ?_
 injection (fun p obs L K => 0) with g hz hi N hKK
 have hzz : sizeLine = 16777216 := by decide
 refine Zag ?_
 have l1 := Zdl p none (some 1)
 have l2 := Zdl p (some (-1)) none
 have l3 := Zdl p (some 1) (some (-1))
 have l4 := Zdl (Za9 p) (some (-1)) none
 w_why
 intro sl
 w_why
 ·intro sl2
  w_why
  ·refine ⟨fun h => ?_, fun h => ?_⟩
   rotate_left
   ·have hin : Za9 p = p := by unfold Za9; rw [if_neg (by rw [h]; decide)]
    refine ev_l (by k_slotset) (by kernel_rfl) (by kernel_rfl) (by kernel_rfl) ?_
    refine OP1.cast (b := .str (Za9 p)) (by rw [hin]) ?_
    generalize hq : Za9 p = q at *
    w_why
    intro sl4
    w_why
    ·refine ⟨fun h1 => ?_, fun h1 => ?_⟩
     ·w_why
      ·exact ⟨by unfold Zcr; rw [hq, if_pos h1], rfl⟩
      ·k_strUnr
     ·w_why
      refine ⟨fun h2 => ?_, fun h2 => ?_⟩
      all_goals
       w_why
       refine ⟨fun h3 => ?_, fun h3 => ?_⟩
       ·w_why
        refine ⟨fun h4 => ?_, fun h4 => ?_⟩
        ·w_why
         refine ⟨fun h => (by cases h), fun _ => ?_⟩
         w_why
         ·exact ⟨by unfold Zcr; rw [hq]; simp only [h1, h2, h3, h4, if_true, if_false, Bool.false_eq_true], rfl⟩
         ·k_strUnr
        ·refine ⟨fun _ => ?_, fun h => (by cases h)⟩
         w_why
         ·exact ⟨by unfold Zcr; rw [hq]; simp only [h1, h2, h3, h4, if_true, if_false, Bool.false_eq_true], rfl⟩
         ·k_strUnr
       ·refine ⟨fun _ => ?_, fun h => (by cases h)⟩
        w_why
        ·exact ⟨by unfold Zcr; rw [hq]; simp only [h1, h2, h3, if_true, if_false, Bool.false_eq_true], rfl⟩
        ·k_strUnr
    all_goals (first | lia | (rw [Zt6]; lia) | skip)
   ·have hin : Za9 p = Zfu p (some 1) (some (-1)) := by unfold Za9; rw [if_pos h]
    w_why
    intro sl3
    w_why
    ·rw [← hin]
     generalize hq : Za9 p = q at *
     w_why
     intro sl4
     w_why
     ·refine ⟨fun h1 => ?_, fun h1 => ?_⟩
      ·w_why
       ·exact ⟨by unfold Zcr; rw [hq, if_pos h1], rfl⟩
       ·k_strUnr
      ·w_why
       refine ⟨fun h2 => ?_, fun h2 => ?_⟩
       all_goals
        w_why
        refine ⟨fun h3 => ?_, fun h3 => ?_⟩
        ·w_why
         refine ⟨fun h4 => ?_, fun h4 => ?_⟩
         ·w_why
          refine ⟨fun h => (by cases h), fun _ => ?_⟩
          w_why
          ·exact ⟨by unfold Zcr; rw [hq]; simp only [h1, h2, h3, h4, if_true, if_false, Bool.false_eq_true], rfl⟩
          ·k_strUnr
         ·refine ⟨fun _ => ?_, fun h => (by cases h)⟩
          w_why
          ·exact ⟨by unfold Zcr; rw [hq]; simp only [h1, h2, h3, h4, if_true, if_false, Bool.false_eq_true], rfl⟩
          ·k_strUnr
        ·refine ⟨fun _ => ?_, fun h => (by cases h)⟩
         w_why
         ·exact ⟨by unfold Zcr; rw [hq]; simp only [h1, h2, h3, if_true, if_false, Bool.false_eq_true], rfl⟩
         ·k_strUnr
     all_goals (first | lia | (rw [Zt6]; lia) | skip)
    ·lia
  all_goals (first | lia | skip)
 all_goals (first | lia | skip)
noncomputable def Zc9 (x : Str) : List Str := Txt.split x (Str.ofString "(?>.*?")
noncomputable def hdS (g : Str) : Str := (Txt.split g (Str.ofString ")")).headD ⟨#[]⟩
noncomputable def pcs (x : Str) : List Str := (Zc9 x).tail.map hdS
noncomputable def Zwa (g : Str) : Bool := decide (g.length ≤ 200) && !(Txt.split g (Str.ofString ")")).isEmpty && decide ((hdS g).length ≤ 90) && decide ((Za9 (hdS g)).length ≤ 90)
noncomputable def Zxo (x : Str) : Bool := decide (x.length ≤ 200) && (Zc9 x).all Zwa && decide ((Zc9 x).length ≤ 200)
noncomputable def Zme (x : Str) : Bool := Zxo x && (match pcs x with
 | [a, b] => Zc9 x == [Str.ofString "(?s:", a ++ Str.ofString ")", b ++ Str.ofString ").*)\\Z"] && decide ((Zcr a).length ≤ 100) && decide ((Zcr b).length ≤ 100)
 | _ => false)
noncomputable def Zqs (x : Str) : Str := Zcr ((pcs x).getD 0 ⟨#[]⟩) ++ Zcr ((pcs x).getD 1 ⟨#[]⟩)
theorem Zvn {P : Params} {G : Gl} (g : G3 P G) (n : Nat) (x : Str) (hx : Zme x = true) (obs : List (Addr × AO)) :
  Fn G (.ref 229) (n + 2) [.str x] obs fun v o => v = .str (Zqs x) ∧ o = obs := by
 refine Zc3 g ["text"] ["groups", "pieces"] [("text", some (.str x)), ("groups", none), ("pieces", none)] rfl rfl rfl rfl rfl (by kpf_grow) (by decide +kernel) (by decide +kernel) (by decide +kernel) (by kernel_rfl) (by kernel_rfl) (by kernel_rfl) ?_ rfl
 intro N R L
 refine XV.opq fun K hKK => ?_
 injection (fun x obs L K => 1) with g hx N hKK
 have hzz : sizeLine = 16777216 := by decide
 unfold Zme Zxo at hx
 simp only [Bool.and_eq_true, decide_eq_true_eq, List.all_eq_true] at hx
 obtain ⟨⟨⟨x1, x2⟩, x3⟩, x4⟩ := hx
 obtain ⟨pa, pb, hp⟩ : ∃ a b, pcs x = [a, b] := by
  generalize pcs x = l at x4
  cases l with
  | nil => exact absurd (show false = true from x4) (by decide)
  | cons a l => cases l with
   | nil => exact absurd (show false = true from x4) (by decide)
   | cons b l => cases l with
    | nil => exact ⟨a, b, rfl⟩
    | cons _ _ => exact absurd (show false = true from x4) (by decide)
 rw [hp] at x4
 replace x4 : (Zc9 x == [Str.ofString "(?s:", pa ++ Str.ofString ")", pb ++ Str.ofString ").*)\\Z"] && decide ((Zcr pa).length ≤ 100) && decide ((Zcr pb).length ≤ 100)) = true := x4
 simp only [Bool.and_eq_true, decide_eq_true_eq, beq_iff_eq] at x4
 obtain ⟨⟨x5, x6⟩, x7⟩ := x4
 have hpn : (Zc9 x).tail.length = 2 := by
  have := congrArg List.length hp
  unfold pcs at this
  simpa using this
 have hps : Zqs x = Zcr pa ++ Zcr pb := by unfold Zqs; rw [hp]; rfl
 refine Zag ?_
 w_why
 refine Zgr F.slot_str_split F.type_str_split ?_
 w_why
 refine Zl5 ?_ (by decide +kernel) (by lia)
 rw [show Txt.split x (Str.ofString "(?>.*?") = Zc9 x from rfl]
 intro ga
 injection (pa pb ga) with hp x7 x5 x6 hps
 w_why
 refine Za3 ["group"] [] (fun _ _ h => h) ?_ (by kernel_rfl) (by kernel_rfl) (by intro _; kernel_rfl) (by kernel_rfl) (by kernel_rfl) (by decide +kernel)
 w_why
 intro sl
 injection (sl)
 refine Zcg (by k_listUnr) (by k_qdec) (by k_qdec) ?_ (by intro o i; exact ⟨_, by with_unfolding_all exact rfl⟩) (by rw [List.length_map]; lia)
 intro tl
 injection (tl)
 have htl : slc ((Zc9 x).map V.str) (some 1) none = (Zc9 x).tail.map V.str := by
  have h0 : 1 ≤ ((Zc9 x).map V.str).length := by
   rw [List.length_map]
   cases hgx : Zc9 x with
   | nil => rw [hgx] at hpn; cases hpn
   | cons a l => simp
  have := Zg7 ((Zc9 x).map V.str) 1 h0
  rw [show ((1 : Nat) : Int) = 1 from rfl] at this
  rw [this]
  cases Zc9 x <;> rfl
 rw [htl]
 w_why
 intro it L2 acc I
 injection (it L2 acc I)
 refine ⟨Zaz (by k_qdec), ?_⟩
 simp only [List.map_cons, List.map_nil]
 refine Za1 (fun _ _ h => h) ?_ (Zav (l := (Zc9 x).tail.map V.str) .name R.good.h) (fun k => V.str (((Zc9 x).tail.map hdS).getD k ⟨#[]⟩)) (fun k loc o => ∃ oz, loc = ([("group", oz)] : Loc) ∧ Drp o ((tl, AO.list (List.map V.str (Zc9 x).tail)) :: (ga, AO.list (List.map V.str (Zc9 x))) :: obs)) (by k_bytesUnr) ?_ ?_ (fun _ _ h => .tail h) ?_ ?_
 ·rw [List.length_map]; lia
 ·exact ⟨_, rfl, .refl⟩
 ·rintro k loc o ⟨oz, rfl, hd⟩
  exact LkO.of_mem (hd.mem (by simp))
 ·rintro k loc o O l0 hk ⟨oz, rfl, hd⟩
  injection (k o O l0 oz) with hk hd
  have hk' : k < (Zc9 x).tail.length := by simpa using hk
  have e1 : ((Zc9 x).tail.map V.str).getD k V.none = .str ((Zc9 x).tail.getD k ⟨#[]⟩) := Zah hk'
  have e2 : ((Zc9 x).tail.map hdS).getD k ⟨#[]⟩ = hdS ((Zc9 x).tail.getD k ⟨#[]⟩) := Zah hk'
  have hm : (Zc9 x).tail.getD k ⟨#[]⟩ ∈ Zc9 x := List.mem_of_mem_tail (Zam hk')
  have hg := x2 _ hm
  rw [e1, e2]
  generalize (Zc9 x).tail.getD k ⟨#[]⟩ = gr at *
  unfold Zwa at hg
  simp only [Bool.and_eq_true, decide_eq_true_eq, Bool.not_eq_true'] at hg
  obtain ⟨⟨⟨g1, g2⟩, g3⟩, g4⟩ := hg
  refine Zfa ?_
  refine Zbz (by kernel_rfl) (by kernel_rfl) (by k_ownname) ?_
  refine W.drp (.keep (.keep hd)) ?_
  w_why
  refine Zgr F.slot_str_split F.type_str_split ?_
  w_why
  refine Zl5 ?_ (by decide +kernel) (by lia)
  intro gs
  have hx0 : ((Txt.split gr (Str.ofString ")")).map V.str)[0]? = some (.str (hdS gr)) := by
   unfold hdS
   cases hsp : Txt.split gr (Str.ofString ")") with
   | nil => rw [hsp] at g2; cases g2
   | cons a l => rfl
  w_why
  refine Zai (x := .str (hdS gr)) (by k_qdec) ?_ (by intro o i; exact ⟨[o, i], by kernel_rfl⟩) (by decide) (by simp) hx0
  exact ⟨rfl, _, by k_bytesUnr, _, rfl, .cons .refl⟩
 ·rintro loc o ⟨oz, rfl, hd⟩
  injection (o oz) with hd
  have e3 : (List.range ((Zc9 x).tail.map V.str).length).map (fun k => V.str (((Zc9 x).tail.map hdS).getD k ⟨#[]⟩)) = (pcs x).map V.str := by
   have : ((Zc9 x).tail.map V.str).length = ((Zc9 x).tail.map hdS).length := by simp
   rw [this, Zap V.str ⟨#[]⟩]
   rfl
  rw [e3, hp]
  have hpg : ∀ a ∈ [pa, pb], a.length ≤ 90 ∧ (Za9 a).length ≤ 90 := by
   intro a ha
   rw [← hp] at ha
   obtain ⟨gr, hgr, rfl⟩ := List.mem_map.mp ha
   have hg := x2 _ (List.mem_of_mem_tail hgr)
   unfold Zwa at hg
   simp only [Bool.and_eq_true, decide_eq_true_eq, Bool.not_eq_true'] at hg
   exact ⟨hg.1.2, hg.2⟩
  have hA := hpg pa (.head _)
  have hB := hpg pb (.tail _ (.head _))
  have kl1 : (Str.ofString ")").length = 1 := by decide +kernel
  have kl2 : (Str.ofString ").*)\\Z").length = 6 := by decide +kernel
  refine OP1.drp (.keep (.keep hd)) ?_
  w_why
  ·refine ⟨fun _ => ?_, fun h => (by simp at h)⟩
   w_why
   refine Zai (x := .str pa) (by k_qdec) ?_ (by intro o i; exact ⟨[o, i], by kernel_rfl⟩) (by decide) (by simp) rfl
   w_why
   ·refine Zai (x := .str pb) (by k_qdec) ?_ (by intro o i; exact ⟨[o, i], by kernel_rfl⟩) (by simp) (by simp) rfl
    w_why
    ·intro ls
     injection (ls)
     refine Znp (by k_qdec) (by k_qdec) ?_ ?_ R.room
     ·have hle : leq ((Zc9 x).map V.str) [V.str (Str.ofString "(?s:"), V.str (pa ++ Str.ofString ")"), V.str (pb ++ Str.ofString ").*)\\Z")] = true := by
       rw [x5]
       show (true && ((Str.ofString "(?s:" == Str.ofString "(?s:") && ((pa ++ Str.ofString ")" == pa ++ Str.ofString ")") && ((pb ++ Str.ofString ").*)\\Z" == pb ++ Str.ofString ").*)\\Z") && true)))) = true
       rw [beq_self_eq_true, beq_self_eq_true, beq_self_eq_true]; rfl
      rw [hle]
      w_why
      refine ⟨fun _ => ?_, fun h => (by cases h)⟩
      w_why
      refine ⟨fun h => (by cases h), fun _ => ?_⟩
      w_why
      refine Zai (x := .str pa) (by k_qdec) ?_ (by intro o i; exact ⟨[o, i], by kernel_rfl⟩) (by decide) (by simp) rfl
      w_why
      refine Zed (R.good.less (show 1 ≤ n + 1 by k_units)) (Zot g 0 pa (by lia) (by lia) []) ?_
      rintro r rfl
      w_why
      refine Zai (x := .str pb) (by k_qdec) ?_ (by intro o i; exact ⟨[o, i], by kernel_rfl⟩) (by simp) (by simp) rfl
      w_why
      refine Zed (R.good.less (show 1 ≤ n + 1 by k_units)) (Zot g 0 pb (by lia) (by lia) []) ?_
      rintro r rfl
      w_why
      ·exact ⟨by rw [hps], rfl⟩
      ·exact .cons (.cons (.cons (.cons .refl)))
      ·lia
     ·intro j a b ha hb
      have h1 : ∃ y, a = .str y := by
       rw [List.getElem?_map] at ha
       cases hh : (Zc9 x)[j]? with
       | none => rw [hh] at ha; cases ha
       | some y => rw [hh] at ha; exact ⟨y, (Option.some.inj ha).symm⟩
      have h2 : ∃ y, b = .str y := by
       rcases j with _ | _ | _ | j
       ·exact ⟨_, (Option.some.inj hb).symm⟩
       ·exact ⟨_, (Option.some.inj hb).symm⟩
       ·exact ⟨_, (Option.some.inj hb).symm⟩
       ·cases (show (none : Option V) = some b from hb)
      obtain ⟨y, rfl⟩ := h1
      obtain ⟨z, rfl⟩ := h2
      exact .str _ _
    all_goals (first | (rw [kl2]; lia) | k_units | skip)
   all_goals (first | (rw [kl1]; lia) | k_units | skip)
  ·show 2 ≤ _
   decide
section
set_option maxRecDepth 1000000
noncomputable def Zl7 (c : Nat) (dressed : Bool) : Str :=
 if dressed then (if c == 92 || c == 45 || c == 38 || c == 126 || c == 94 then ⟨#[91, 92, c, 93]⟩ else ⟨#[91, c, 93]⟩) else Zw3 c
noncomputable def Zgm (c1 : Nat) (d1 : Bool) (c2 : Nat) (d2 : Bool) : List (Option Str) := [none, some (Zl7 c1 d1), none, some (Zl7 c2 d2), none]
noncomputable def Znw (c1 : Nat) (d1 : Bool) (c2 : Nat) (d2 : Bool) : Str := (pj (Zgm c1 d1 c2 d2)).getD ⟨#[]⟩
noncomputable def Zbc (c1 c2 : Nat) (d1 d2 : Bool) : Bool := (pj (Zgm c1 d1 c2 d2)).isSome && Zme (Znw c1 d1 c2 d2) && (Zqs (Znw c1 d1 c2 d2) == ⟨#[c1, c2]⟩)
theorem Zui : (stock8.all fun c2 => [true, false].all fun d1 => [true, false].all fun d2 => Zbc 97 c2 d1 d2) = true := by decide +kernel
theorem Zvk : (stock8.all fun c2 => [true, false].all fun d1 => [true, false].all fun d2 => Zbc 46 c2 d1 d2) = true := by decide +kernel
theorem Zva : (stock8.all fun c2 => [true, false].all fun d1 => [true, false].all fun d2 => Zbc 45 c2 d1 d2) = true := by decide +kernel
theorem Zvr : (stock8.all fun c2 => [true, false].all fun d1 => [true, false].all fun d2 => Zbc 93 c2 d1 d2) = true := by decide +kernel
theorem Zvu : (stock8.all fun c2 => [true, false].all fun d1 => [true, false].all fun d2 => Zbc 92 c2 d1 d2) = true := by decide +kernel
theorem Zur : (stock8.all fun c2 => [true, false].all fun d1 => [true, false].all fun d2 => Zbc 94 c2 d1 d2) = true := by decide +kernel
theorem Ztj : (stock8.all fun c2 => [true, false].all fun d1 => [true, false].all fun d2 => Zbc 126 c2 d1 d2) = true := by decide +kernel
theorem Zud : (stock8.all fun c2 => [true, false].all fun d1 => [true, false].all fun d2 => Zbc 38 c2 d1 d2) = true := by decide +kernel
theorem Zrw (c1 : Nat) (h1 : c1 ∈ stock8) (c2 : Nat) (h2 : c2 ∈ stock8) (d1 d2 : Bool) : Zbc c1 c2 d1 d2 = true := by
 have key : (stock8.all fun c2 => [true, false].all fun d1 => [true, false].all fun d2 => Zbc c1 c2 d1 d2) = true := by
  simp only [stock8, List.mem_cons, List.not_mem_nil, or_false] at h1
  rcases h1 with rfl | rfl | rfl | rfl | rfl | rfl | rfl | rfl
  ·exact Zui
  ·exact Zvk
  ·exact Zva
  ·exact Zvr
  ·exact Zvu
  ·exact Zur
  ·exact Ztj
  ·exact Zud
 have k2 := List.all_eq_true.mp key c2 h2
 have k3 := List.all_eq_true.mp k2 d1 (by cases d1 <;> simp)
 exact List.all_eq_true.mp k3 d2 (by cases d2 <;> simp)
end
noncomputable abbrev PK := Nat × Nat
noncomputable def Zih (l : List (PK × Addr)) : Array Value := (l.flatMap fun e => [rawInt e.1.1, rawInt e.1.2, .ref e.2]).toArray
theorem Zjh (l : List (PK × Addr)) (p : PK) (c : Addr) : Zih l ++ #[rawInt p.1, rawInt p.2, .ref c] = Zih (l ++ [(p, c)]) := by
 unfold Zih
 simp
theorem Zfn : ∀ l : List (PK × Addr), TriplesOk (Zih l).toList
 | [] => by simp [Zih, TriplesOk]
 | e :: l => by
  have := Zfn l
  simp only [Zih] at this ⊢
  simp only [List.flatMap_cons, List.cons_append, List.nil_append]
  simpa [TriplesOk, rawInt] using this
noncomputable def Zee (p : PK) : List (PK × Addr) → Option Addr
 | [] => none
 | e :: l => if e.1 = p then some e.2 else Zee p l
theorem Zb5 (pos : Pos) : ∀ l : List (PK × Addr), codeAmong pos (Zih l).toList = (Zee (pos.line, pos.col) l).map .ref
 | [] => by simp [Zih, codeAmong, Zee]
 | e :: l => by
  have ih := Zb5 pos l
  simp only [Zih] at ih ⊢
  simp only [List.flatMap_cons, List.cons_append, List.nil_append, rawInt, Zee]
  obtain ⟨⟨a, b⟩, c⟩ := e
  simp only [codeAmong]
  by_cases h : ((a, b) : PK) = (pos.line, pos.col)
  ·cases h
   simp
  ·rw [if_neg h]
   rw [if_neg ?_]
   ·simpa [rawInt] using ih
   ·intro q
    simp only [Bool.and_eq_true, beq_iff_eq] at q
    exact h (Prod.ext (by have := q.1; lia) (by have := q.2; lia))
theorem Zge {p : PK} {c : Addr} : ∀ {l : List (PK × Addr)}, Zee p l = some c → (p, c) ∈ l
 | e :: l, h => by
  unfold Zee at h
  split at h
  ·rename_i q
   cases h; subst q; exact .head _
  ·exact .tail _ (Zge h)
noncomputable def Zbd (l : List (PK × Addr)) : Ob where
 P _ o := o = tabObj (Zih l)
 mono _ _ _ _ h := h
 noTup _ _ h vs n e := by subst h; simp [Zb7] at e
noncomputable def Zfg (q : Str) : Ob where
 P _ o := ∃ (vs : Array Value) (t : Tok), o.data = .fields vs ∧ vs[1]? = some (.str q t)
 mono _ _ _ _ h := h
 noTup _ _ h vs n e := by obtain ⟨a, t, d, _⟩ := h; subst e; simp at d
noncomputable def Zw2 (mk : Value → FuncData) : Ob where
 P _ o := ∃ v, o = { cls := .type "function", data := .func (mk v) }
 mono _ _ _ _ h := h
 noTup _ _ h vs n e := by obtain ⟨v, h⟩ := h; subst h; simp [Zb7] at e
noncomputable def Zgh (P : Addr) (q : PK → Str) (l : List (PK × Addr)) : List (Addr × AO) := (P, .own (Zbd l)) :: l.map fun e => (e.2, .own (Zfg (q e.1)))
theorem Zsu {P : Addr} {q : PK → Str} {l : List (PK × Addr)} {p : PK} {c : Addr} (h : (p, c) ∈ l) : (c, AO.own (Zfg (q p))) ∈ Zgh P q l := List.mem_cons_of_mem _ (List.mem_map.mpr ⟨_, h, rfl⟩)
theorem Zjy {P : Addr} {q : PK → Str} {l : List (PK × Addr)} {p : PK} {c : Addr} : Zgh P q (l ++ [(p, c)]) = (P, .own (Zbd (l ++ [(p, c)]))) :: (l.map fun e => (e.2, AO.own (Zfg (q e.1)))) ++ [(c, .own (Zfg (q p)))] := by
 unfold Zgh; simp
structure Bt (G : Gl) (bm : Addr) : Prop where
 m : G.mg "__builtins__" = some (.ref bm)
 o : G.K.lookup bm = some { cls := .type "module", dict := some builtinsNs, data := .plain }
 ne : bm ≠ builtinsNs
 ng : bm ≠ mainGlobals
section
variable {C : Cx} {σ : St}
theorem Holds.adj {loc : List (Str × Option V)} {obs : List (Addr × AO)} {s : Shared} (H : Holds C ⟨loc, obs⟩ s) {a : Addr} {o : AO} {O : Obj} (e : s.heap.get? a = some O) (r : OR s.heap o O) (hl : C.env.locals ≠ a) (hn : ∀ p ∈ obs, p.1 ≠ a) (hz : C.fz a = none) :
  Holds C ⟨loc, (a, o) :: obs⟩ s := by
 injection (C loc obs s a o O) with H e r hl hn hz
 have nd := List.nodup_cons.mp H.nd
 refine ⟨H.frz, H.loc, fun p hp => ?_, ?_, fun b hb => ?_, H.nn, H.gens, H.drawn, H.os⟩
 ·rcases List.mem_cons.mp hp with rfl | hp
  ·exact ⟨O, e, r⟩
  ·exact H.obs p hp
 ·show (C.env.locals :: a :: obs.map (·.1)).Nodup
  refine List.nodup_cons.mpr ⟨fun hm => ?_, List.nodup_cons.mpr ⟨fun hm => ?_, nd.2⟩⟩
  ·rcases List.mem_cons.mp hm with q | q
   ·exact hl q
   ·exact nd.1 q
  ·obtain ⟨p, hp, q⟩ := List.mem_map.mp hm
   exact hn p hp q
 ·rcases List.mem_cons.mp hb with q | q
  ·exact H.ap b (q ▸ .head _)
  ·rcases List.mem_cons.mp q with q | q
   ·subst q; exact hz
   ·exact H.ap b (.tail _ q)
theorem Holds.permO {loc : List (Str × Option V)} {obs obs' : List (Addr × AO)} {s : Shared} (H : Holds C ⟨loc, obs⟩ s) (p : obs.Perm obs') : Holds C ⟨loc, obs'⟩ s :=
 ⟨H.frz, H.loc, fun q hq => H.obs q (p.mem_iff.mpr hq), ((p.map (·.1)).cons _).nodup_iff.mp H.nd, fun b hb => H.ap b (((p.map (·.1)).cons _).mem_iff.mpr hb), H.nn, H.gens, H.drawn, H.os⟩
theorem Zps {params : Arguments} {body : Expr} {scope : Scope} {pos : Pos} {c P bm : Addr} {q : PK → Str} {l : List (PK × Addr)} {rest : List (Addr × AO)} {K : V → St → Prop} (hdef : defaultsOf params C.env = ([], [])) (hcl : closureFor scope C.env = pure [])
  (hcode : C.env.code = .ref c) (hK : codeHdIn C.G.K c P = true) (B : Bt C.G bm) (hq : q (pos.line, pos.col) = C.env.qual ++ "<lambda>") (hS : σ.obs.Perm (Zgh P q l ++ rest))
  (k : ∀ f c' l', ((pos.line, pos.col), c') ∈ l' → K (.ref f) ⟨σ.loc, (f, .own (Zw2 fun v => kla_fn "<lambda>" (C.env.qual ++ "<lambda>") params body scope [] ((C.G.mg "__name__").getD .none) (.ref c') v)) :: (Zgh P q l' ++ rest)⟩) :
  EV C (eval (.Lambda params body scope pos) C.env) σ K := by
 injection (C σ params body scope pos c P bm q l rest K) with hdef hcl hcode hK B hq hS k
 intro s H
 obtain ⟨loc, obs⟩ := σ
 have H0 := H.permO hS
 refine Zal (H0.obs (P, .own (Zbd l)) (List.mem_append_left _ (.head _))) fun op hp rp => ?_
 injection (s loc obs op) with hS k H H0 hp rp
 have qp := OR.ownE rp
 have qp' : op = tabObj (Zih l) := qp
 subst qp'
 have hbm := H.frz _ _ (C.ok.sub _ _ B.o)
 have hzP : C.fz P = none := H0.ap P (.tail _ (List.mem_map.mpr ⟨_, List.mem_append_left _ (.head _), rfl⟩))
 have hbP : bm ≠ P := fun e => by
  have := C.ok.sub _ _ B.o
  rw [e, hzP] at this; cases this
 have hg : s.heap.Ns mainGlobals C.G.mg := C.eg ▸ C.glo H
 have hgP : mainGlobals ≠ P := fun e => by
  obtain ⟨o, es, ep, e1, hd, _⟩ := id hg
  rw [e, hp] at e1; cases e1; cases hd
 have hba : s.heap.BuiltinsAt C.G.mg P := ⟨bm, _, B.m, B.ne, B.ng, hbP, hbm, rfl, rfl, rfl⟩
 have hC : CodeHd s.heap c P := codeHd_of_K H.inK hK
 rw [arm_eval_Lambda, hdef]
 refine .of (wpAny_bind (wpAny_pure (wpAny_bind (wpAny_holding (wpAny_pure ?_)))))
 cases hf : Zee (pos.line, pos.col) l with
 | some c' =>
  refine kla_makeFunctionHit (cv := .ref c') hcl C.eg hg hcode hC hp (Zfn l) (by rw [Zb5, hf]; rfl) hba fun ctv h' tk hk hsz => ?_
  refine ⟨_, _, k _ c' l (Zge hf), .ref _, H0.alloc (fun b o e => Heap.get?_push_of_some _ (hk b o e)) hsz (Heap.get?_push_size _ rfl) (.own (x := Zw2 fun v => kla_fn "<lambda>" (C.env.qual ++ "<lambda>") params body scope [] ((C.G.mg "__name__").getD .none) (.ref c') v) ⟨ctv, rfl⟩) tk, .of_ext fun b o e => Heap.get?_push_of_some _ (hk b o e)⟩
 | none =>
  refine kla_makeFunction hcl C.eg hg hcode hC hp (Zfn l) (by rw [Zb5, hf]; rfl) hgP hba fun c' ctv h' tk hx hge hlt hrec htb => ?_
  obtain ⟨c₂, oc, vs, t, e2, hoc, hd, hv⟩ := hrec
  injection (c' ctv h' tk c₂ oc vs t) with hx hge hlt htb e2 hoc hd hv
  cases e2
  have htb' : h'.get? P = some (tabObj (Zih (l ++ [((pos.line, pos.col), c')]))) := by rw [← Zjh]; exact htb
  refine And.elim (fun H1 tk1 => ?_) (H0.dropExt (a := P) (o := .own (Zbd l)) (l' := (l.map fun e => (e.2, AO.own (Zfg (q e.1)))) ++ rest) .head (h' := h') hx tk)
  have lt : ∀ p ∈ Zgh P q l ++ rest, p.1 < s.heap.objs.size := fun p hp => H0.ltOf hp
  have ndP : P ∉ ((l.map fun e => (e.2, AO.own (Zfg (q e.1)))) ++ rest).map (·.1) := (List.nodup_cons.mp (List.nodup_cons.mp H0.nd).2).1
  have hlP : C.env.locals ≠ P := fun e => (List.nodup_cons.mp H0.nd).1 (e ▸ .head _)
  have hlc : C.env.locals ≠ c' := fun e => by have := H.locLt; rw [e] at this; exact absurd this (Nat.not_lt.mpr hge)
  have hzc : C.fz c' = none := by
   cases z : C.fz c' with
   | none => rfl
   | some o => exact absurd (H.fzLt z) (Nat.not_lt.mpr hge)
  have H2 := H1.adj (a := c') (o := .own (Zfg (q (pos.line, pos.col)))) hoc (.own ⟨vs, t, hd, by rw [hq]; exact hv⟩) hlc (fun p hp e => absurd (lt p (.tail _ hp)) (by rw [e]; exact Nat.not_lt.mpr hge)) hzc
  have H3 := H2.adj (a := P) (o := .own (Zbd (l ++ [((pos.line, pos.col), c')]))) htb' (.own rfl) hlP (fun p' hp' e => by
   rcases List.mem_cons.mp hp' with q | q
   ·subst q
    have e' : c' = P := e
    have := Heap.lt_size hp
    rw [← e'] at this
    exact absurd this (Nat.not_lt.mpr hge)
   ·exact ndP (e ▸ List.mem_map.mpr ⟨p', q, rfl⟩)) hzP
  have H4 := H3.alloc (h' := h'.push (kla_obj "<lambda>" (C.env.qual ++ "<lambda>") params body scope [] ((C.G.mg "__name__").getD .none) c' ctv)) (a := h'.objs.size) (fun b o e => Heap.get?_push_of_some _ e) (Nat.le_refl _) (Heap.get?_push_size _ rfl)
   (.own (x := Zw2 fun v => kla_fn "<lambda>" (C.env.qual ++ "<lambda>") params body scope [] ((C.G.mg "__name__").getD .none) (.ref c') v) ⟨ctv, rfl⟩) tk
  refine ⟨_, _, k h'.objs.size c' (l ++ [((pos.line, pos.col), c')]) (by simp), .ref _, H4.permO ?_, tk1.trans (.of_ext fun b o e => Heap.get?_push_of_some _ e)⟩
  refine List.Perm.cons _ ?_
  rw [Zjy]
  simp only [List.cons_append, List.append_assoc, List.nil_append]
  exact List.Perm.cons _ (List.perm_middle.symm)
end
section
variable {prog : Program} {w : World} {A : Around} {R : Result → Shared → Prop} {s : Shared}
theorem Znu {e : Expr} {env : Env}
  (h : wpP (model prog w) (A.deeper env) (eval e env) (fun v s' => R (.ok (.ret v)) s')
   (fun e' s' => wpP (model prog w) (A.deeper env) (leaving env e') (fun _ s'' => R (.error e') s'') (fun e'' s'' => R (.error e'') s'') s') s) : codeP (model prog w) A (.expr e env) R s := by
 refine Zaf rfl ?_
 show wpP _ (A.deeper env) (do point; ret (← (eval e env).onRaise (leaving env))) _ _ s
 exact Zaa (Zfd (Zaa (Zak (Zae h (fun v s' h' => Zab h') fun _ _ h' => h'))))
theorem Zcz {a : Addr} {args : Args} {o : Obj} {fd : FuncData} {body : Expr} (hroom : A.depth < recursionLimit)
  (ho : s.heap.get? a = some o) (hd' : o.data = .func fd) (hco : fd.scope.isCoroutine = false) (hgen : fd.scope.isGenerator = false) (hbody : fd.body = .expr body) (hcd : s.heap.CodeRec fd.code fd.qualname)
  (h : wpP (model prog w) A.in1 (bindArgs fd args) (fun binds s₁ =>
   wpP (model prog w) A.in1 (newFunctionEnv fd.scope fd.globals fd.closure binds (fd.qualname ++ ".<locals>.") (some a) fd.code none fd.builtins)
    (fun env s₂ => s₂.heap.NoLimit ∧ codeP (model prog w) A (.expr body env) R s₂) (fun e s' => R (.error e) s') s₁) (fun e s' => R (.error e) s') s) :
  codeP (model prog w) A (.call (.ref a) args) R s := by
 injection (prog w A R s a args o fd body) with hroom ho hd' hco hgen hbody hcd h
 refine Zaf rfl ?_
 show wpP _ A.in1 (callAny (.ref a) args) _ _ s
 refine Zaa (m := load a) (Zl1 ho ?_)
 obtain ⟨c, oc, vs, tq, hc, hoc, hdc, hq⟩ := hcd
 obtain ⟨_, _, data, _⟩ := o
 cases (show data = _ from hd')
 show wpP _ A.in1 (callFunction a fd args) _ _ _
 unfold callFunction
 rw [hc, hbody, hco, hgen]
 rw [hc] at h
 refine Zaa (m := field (.ref c) 1) (.of (wpAny_field hoc hdc hq (Zaa (Zab ?_))))
 exact Zaa (Zae h (fun binds s₁ h₁ => Zaa (Zae h₁ (fun env s₂ h₂ => Zaa (.of (wpAny_enterFrame h₂.1 hroom (Zab ⟨rfl, h₂.2⟩)))) fun _ _ h' => h')) fun _ _ h' => h')
theorem Zfs {a : Addr} {o : Obj} {fd : FuncData} {body : Expr} {args : Args} {binds : List (Str × Value)}
  (hroom : A.depth < recursionLimit) (ho : s.heap.get? a = some o) (hdata : o.data = .func fd) (hlim : s.heap.NoLimit) (hcd : s.heap.CodeRec fd.code fd.qualname)
  (hbody : fd.body = .expr body) (hbind : BindsTo s fd args binds)
  (hcell : ∀ x ∈ fd.scope.names, x.2 ≠ .cell) (hloc : ∀ x ∈ binds, fd.scope.names.lookup x.1 = some .local)
  (h : ∀ h₀, h₀.Ns s.heap.objs.size (fun x => binds.reverse.lookup x) → (∀ b o, s.heap.get? b = some o → h₀.get? b = some o) →
   wpP (model prog w) (A.deeper (callEnv fd s.heap.objs.size a)) (eval body (callEnv fd s.heap.objs.size a)) (fun v s' => R (.ok (.ret v)) s')
    (fun e s' => wpP (model prog w) (A.deeper (callEnv fd s.heap.objs.size a)) (leaving (callEnv fd s.heap.objs.size a) e) (fun _ s'' => R (.error e) s'') (fun e' s'' => R (.error e') s'') s')
    { s with heap := h₀, toks := s.toks + binds.length })
  (hco : fd.scope.isCoroutine = false) (hgen : fd.scope.isGenerator = false) (hk : fd.scope.kind = .function) :
  codeP (model prog w) A (.call (.ref a) args) R s := by
 injection (prog w A R s a o fd body args binds) with hroom ho hdata hlim hcd hbody hbind hcell hloc h hco hgen hk
 refine Zcz hroom ho hdata hco hgen hbody hcd (.of (hbind _ _ _ _ (.of (wpAny_newFunctionEnv hcell hloc (fun h₀ hns₀ hsb₀ => ⟨hlim.fresh _ hsb₀, Znu (h h₀ hns₀ fun b o e => ?_)⟩) hk))))
 exact hsb₀.extBut b o (Nat.ne_of_lt (Heap.lt_size e)) (Heap.get?_push_of_some _ e)
end
theorem Zob {G : Gl} {f c : Addr} {n : Nat} {args : List V} {obs : List (Addr × AO)} {K : V → List (Addr × AO) → Prop} {mk : Value → FuncData} {body : Expr} {q : Str} {names : List Str} {loc : List (Str × Option V)}
  (hf : (f, AO.own (Zw2 mk)) ∈ obs) (hcm : (c, AO.own (Zfg q)) ∈ obs) (hq : ∀ v, (mk v).qualname = q) (hb : ∀ v, (mk v).body = .expr body) (hcl : ∀ v, (mk v).closure = []) (hg : ∀ v, (mk v).globals = mainGlobals) (hbt : ∀ v, (mk v).builtins = builtinsNs)
  (hc : ∀ v, (mk v).code = .ref c) (hnl : names.length = args.length) (hbind : ∀ v, ∀ vs : List Value, vs.length = names.length → bindArgs (mk v) ⟨vs, []⟩ = pure (names.zip vs))
  (hloc : ∀ v, ∀ x ∈ names, (mk v).scope.names.lookup x = some .local) (hcell : ∀ v, ∀ x ∈ (mk v).scope.names, x.2 ≠ .cell) (hnn : names.Nodup)
  (hco : ∀ v, (mk v).scope.isCoroutine = false) (hgen : ∀ v, (mk v).scope.isGenerator = false) (hk : ∀ v, (mk v).scope.kind = .function)
  (h : ∀ v, ∀ (R : Ar G n) (L : Addr), EV (R.cx (callEnv (mk v) L f) (hg v) (hbt v)) (eval body (callEnv (mk v) L f)) ⟨loc, obs⟩ (fun a σ => ∃ l, K a l ∧ Drp σ.obs l)) (hl : names.zip (args.map some) = loc) :
  Fn G (.ref f) (n + 1) args obs K := by
 injection (G f c n args obs K mk body q names loc) with hf hcm hq hb hcl hg hbt hc hnl hbind hloc hcell hnn hco hgen hk h hl
 intro A fz s vs E g ok L R
 injection (A fz s vs E) with g ok L R
 subst hl
 have hlen := R.length
 obtain ⟨of, ef, rf⟩ := L.has _ hf
 obtain ⟨oc, ec, rc⟩ := L.has _ hcm
 have rf := OR.ownE rf
 have rc := OR.ownE rc
 obtain ⟨v, rf⟩ := rf
 obtain ⟨cvs, ct, hdc, hcv⟩ := rc
 rename_i zq62_1
 injection (A fz s vs E of oc v cvs ct) with g ok L R hlen ef zq62_1 ec rc rf hdc hcv
 subst rf
 refine Za0 (Zfs (fd := mk v) (body := body) (binds := names.zip vs) (by have := g.d; lia) ef rfl (ok.top _ L.frz).2.2
  ⟨c, oc, cvs, ct, hc v, ec, hdc, by rw [hq]; exact hcv⟩ (hb v) (BindsTo.of_eq (hbind v vs (by rw [hlen, hnl]))) (hcell v) (fun x hx => hloc v x.1 (List.of_mem_zip hx).1) (fun h₀ hns hkeep => ?_) (hco v) (hgen v) (hk v))
 let Ra : Ar G n := ⟨A.deeper (callEnv (mk v) s.heap.objs.size f), fz, s.gens, s.drawn, s.os, ok, g.deeper _⟩
 have H : Holds (Ra.cx (callEnv (mk v) s.heap.objs.size f) (hg v) (hbt v)) ⟨names.zip (args.map some), obs⟩ { s with heap := h₀, toks := s.toks + (names.zip vs).length } := by
  have lts : ∀ p ∈ obs, p.1 < s.heap.objs.size := fun p hp => (by obtain ⟨O, e, _⟩ := L.has p hp; exact Heap.lt_size e)
  refine ⟨fun b o' e => hkeep _ _ (L.frz b o' e), ⟨_, hns, fun x v hx => Zbf (binds := []) (R.mono (.of_ext hkeep)) hnl hnn x v hx⟩, fun p hp => (by obtain ⟨O, e, r⟩ := L.has p hp; exact ⟨O, hkeep _ _ e, r.mono (.of_ext hkeep)⟩), ?_, fun a ha => ?_, ?_, GK.refl _, rfl, rfl⟩
  ·show (s.heap.objs.size :: obs.map (·.1)).Nodup
   refine List.nodup_cons.mpr ⟨fun hm => ?_, L.nd⟩
   obtain ⟨p, hp, q⟩ := List.mem_map.mp hm
   exact absurd (lts p hp) (by rw [q]; exact Nat.lt_irrefl _)
  ·rcases List.mem_cons.mp ha with q | q
   ·have q' : a = s.heap.objs.size := q
    subst q'
    cases e : fz s.heap.objs.size with
    | none => exact e
    | some o2 => exact absurd (Heap.lt_size (L.frz _ _ e)) (Nat.lt_irrefl _)
   ·exact L.ap a q
  ·show ((names.zip (args.map some)).map fun x : Str × Option V => x.1).Nodup
   have e1 : (names.zip (args.map some)).map (fun x : Str × Option V => x.1) = names := List.map_fst_zip (by rw [List.length_map, hnl]; exact Nat.le_refl _)
   rw [e1]; exact hnn
 refine Zae (h v Ra s.heap.objs.size _ H) ?_ fun _ _ e => e.elim
 rintro r s' ⟨a, σ', hK, r, H', tk⟩
 obtain ⟨l, hKl, hd⟩ := hK
 exact ⟨a, l, hKl, r, ⟨H'.frz, fun p hp => H'.obs p (hd.mem hp), hd.nd (List.nodup_cons.mp H'.nd).2, fun a ha => H'.ap a (.tail _ (hd.keys ha))⟩, (TK.of_ext hkeep).trans tk, H'.gens, H'.drawn, H'.os⟩
section
theorem Zsb : PlainAttrs "re.Match" :=
 ⟨⟨"object.__getattribute__", by rw [typeLookup_type, builtinLookup_eq_fast]; kernel_rfl, by decide +kernel⟩, by rw [typeLookup_type, builtinLookup_eq_fast]; kernel_rfl⟩
theorem Zxr : PlainAttrs "re.Pattern" :=
 ⟨⟨"object.__getattribute__", by rw [typeLookup_type, builtinLookup_eq_fast]; kernel_rfl, by decide +kernel⟩, by rw [typeLookup_type, builtinLookup_eq_fast]; kernel_rfl⟩
theorem Zgi : Slot "re.Match" "group" "re.Match.group" :=
 .of (owner := "re.Match") (n := "group") (by rw [typeLookup_type, builtinLookup_eq_fast]; kernel_rfl) (by decide +kernel) (by decide +kernel) (by decide +kernel)
  (by first | exact .inl (by decide +kernel) | exact .inr (by decide +kernel)) (by rw [isSubtype_type]; kernel_rfl)
theorem slot_sub : Slot "re.Pattern" "sub" "re.Pattern.sub" :=
 .of (owner := "re.Pattern") (n := "sub") (by rw [typeLookup_type, builtinLookup_eq_fast]; kernel_rfl) (by decide +kernel) (by decide +kernel) (by decide +kernel)
  (by first | exact .inl (by decide +kernel) | exact .inr (by decide +kernel)) (by rw [isSubtype_type]; kernel_rfl)
theorem Zns : typeOf (.builtin "re.Match.group") = pure (.type "method_descriptor") := by show builtinType _ = _; rw [builtinType_eq_fast]; kernel_rfl
theorem Zq6 : typeOf (.builtin "re.Pattern.sub") = pure (.type "method_descriptor") := by show builtinType _ = _; rw [builtinType_eq_fast]; kernel_rfl
theorem Zkd : entryFor table "re.Match.group" = some Builtin.«re.Match.group» := entryFor_of_tree (by kernel_rfl)
theorem Zos : entryFor table "re.Pattern.sub" = some Builtin.«re.Pattern.sub» := entryFor_of_tree (by kernel_rfl)
theorem Zm6 : entryFor table "re.Pattern.sub.loop" = some Builtin.«re.Pattern.sub.loop» := entryFor_of_tree (by kernel_rfl)
theorem Znh (a b : Value) : argsOk "re.Match.group" ⟨[a, b], []⟩ := by unfold argsOk; kernel_rfl
theorem Zs1 (a b c : Value) : argsOk "re.Pattern.sub" ⟨[a, b, c], []⟩ := by unfold argsOk; kernel_rfl
theorem Zpk : plainId "re.Pattern.sub" = true := by decide +kernel
theorem Zni : plainId "re.Pattern.sub.loop" = true := by decide +kernel
open Builtin Builtin.Re
theorem Zqo {i : Int} {t : Tok} : asInt? (.int i t) = pure (some i) := rfl
theorem Zc2 {prog : Program} {w : World} {A : Around} {E : Value → Shared → Prop} {s : Shared} {a : Addr} {o : Obj} {vs : Array Value} {n : Nat} {Q : Array Int → Shared → Prop} (e : s.heap.get? a = some o) (d : o.data = .seq vs n) (h : Q (vs.map reRawOf) s) :
  wpAny (model prog w) A (reRawItems (.ref a)) Q E s := by
 unfold reRawItems
 exact wpAny_bind (wpAny_seqItems e d (wpAny_pure h))
noncomputable def Zco (x : Str) (b e : Nat) : Ob where
 P h o := ∃ (tk : Tok) (p a c d : Value) (tup : Addr) (v0 v1 : Value) (n : Nat), o = { cls := .type "re.Match", data := .fields #[.str x tk, p, a, c, d, .ref tup] } ∧ h.get? tup = some (Zb7 #[v0, v1, rawInt b, rawInt e] n)
 mono h h' o k := (by rintro ⟨tk, p, a, c, d, tup, v0, v1, n, e1, e2⟩; exact ⟨tk, p, a, c, d, tup, v0, v1, n, e1, k _ _ _ e2⟩)
 noTup _ _ h vs n e := by obtain ⟨_, _, _, _, _, _, _, _, _, h, _⟩ := h; subst h; simp [Zb7] at e
theorem Zm3 {prog : Program} {w : World} {A : Around} {E : Value → Shared → Prop} {s : Shared} {m : Addr} {x : Str} {b e : Nat} {t : Tok} {o : Obj} {Q : Value → Shared → Prop} (ho : s.heap.get? m = some o) (hp : (Zco x b e).P s.heap o)
  (hx : x.length ≤ sizeLine) (h : Q (.str ⟨x.cps.extract b e⟩ s.toks) { s with toks := s.toks + 1 }) : wpAny (model prog w) A (call (.builtin "re.Match.group") [.ref m, .int 1 t]) Q E s := by
 injection (prog w A E s m x b e t o Q) with ho hp hx h
 obtain ⟨tk, p, a, c, d, tup, v0, v1, n, rfl, e2⟩ := hp
 refine wpAny_call_entry Zgi (self := .ref m) ⟨_, ho, rfl⟩ Zkd ?_ (Znh _ _)
 unfold Builtin.«re.Match.group»
 refine wpAny_bind (wpAny_pure ?_)
 dsimp only
 unfold reFound
 refine wpAny_bind (wpAny_bind (wpAny_fieldsOf ho rfl (wpAny_bind ?_)))
 show wpAny _ _ (reRawItems (.ref tup)) _ _ _
 refine Zc2 e2 rfl (wpAny_pure ?_)
 refine wpAny_bind ?_
 unfold reGroupNumber
 refine wpAny_bind ?_
 rw [Zqo]
 refine wpAny_pure ?_
 show wpAny _ _ (asIndex (.int 1 t) >>= _) _ _ _
 refine wpAny_bind (wpAny_of_eq (a := (1 : Int)) rfl ?_)
 dsimp only
 rw [if_neg (by simp)]
 refine wpAny_pure ?_
 refine wpAny_bind ?_
 unfold reGroupText
 simp only [List.map_toArray, List.map_cons, List.map_nil, rawInt, reRawOf]
 show wpAny _ _ (if (decide ((b : Int) < 0) || decide ((e : Int) < 0)) = true then _ else _) _ _ _
 rw [if_neg (by simp)]
 refine wpAny_bind ?_
 show wpAny _ _ (reTextOf (.str x tk)) _ _ _
 refine wpAny_of_eq (a := (x.cps, 0)) rfl ?_
 show wpAny _ _ (mkStr ⟨x.cps.extract b e⟩) _ _ _
 refine wpAny_mkStr (wpAny_pure ⟨_, rfl, h⟩) ?_
 have : (⟨x.cps.extract b e⟩ : Str).length ≤ x.length := by
  show (x.cps.extract b e).size ≤ x.cps.size
  simp; lia
 lia
section
variable {C : Cx} {σ : St}
theorem Zra {m : Addr} {x : Str} {b e : Nat} {K : V → List V → St → Prop} (h : LkO m (.own (Zco x b e)) σ.obs) (k : K (.bi "re.Match.group") [.ref m] σ) : GM C (.ref m) "group" σ K := by
 injection (C σ m x b e K) with h k
 intro s v pl H r
 o_facts r
 refine Zal (H.obj h) fun O eo ro => ?_
 have q := OR.ownE ro
 obtain ⟨tk, p, a, c, d, tup, v0, v1, n, rfl, e2⟩ := q
 exact .of (getMethod_builtin ⟨_, eo, rfl⟩ Zsb Zgi Zns (fun a' q => by cases q; exact ⟨_, eo, rfl⟩) ⟨_, _, _, k, .bi _, .cons (.ref m) .nil, H, .refl _⟩)
theorem Zrn {m : Addr} {x : Str} {b e : Nat} {K : V → St → Prop} (h : LkO m (.own (Zco x b e)) σ.obs) (hx : x.length ≤ sizeLine) (k : K (.str ⟨x.cps.extract b e⟩) σ) : CF C (.bi "re.Match.group") [.ref m, .int 1] σ K := by
 injection (C σ m x b e K) with h hx k
 intro s fv vs H rf rl
 o_facts rf
 revert rl
 intro rl0
 refine VRs.consK rl0 fun _ _ r rl e0 => ?_
 subst e0
 revert rl
 intro rl0
 refine VRs.consK rl0 fun _ _ r2 rl e0 => ?_
 subst e0
 o_facts rl
 o_facts r; o_facts r2
 refine Zal (H.obj h) fun O eo ro => ?_
 have q := OR.ownE ro
 exact .of (Zm3 eo q hx (Pst.hereT H (.str _ _) k))
theorem Zyb {p : Addr} {o : Obj} {K : V → List V → St → Prop} (hK : C.G.K.lookup p = some o) (hc : o.cls = .type "re.Pattern") (hd : o.dict = none) (k : K (.bi "re.Pattern.sub") [.ref p] σ) : GM C (.ref p) "sub" σ K := by
 injection (C σ p o K) with hK hc hd k
 intro s v pl H r
 o_facts r
 have e := H.inK _ _ hK
 exact .of (getMethod_builtin ⟨_, e, hc⟩ Zxr slot_sub Zq6 (fun a' q => by cases q; exact ⟨_, e, hd⟩) ⟨_, _, _, k, .bi _, .cons (.ref p) .nil, H, .refl _⟩)
end
end
section
open Builtin Builtin.Re
noncomputable def Zi1 : Nat → Sre.M → Option Sre.M
 | 0, _ => none
 | k + 1, m => if (m.runFor 4).outcome.isSome then some (m.runFor 4) else Zi1 k (m.runFor 4)
noncomputable def Zu3 (m : Sre.M) : Option (Option (Nat × Nat × Nat × Nat)) := match m.outcome with
 | some .matched => if (1 : Int) ≤ m.lastmark then
   (match m.marks.getD 0 none, m.marks.getD 1 none with
   | some b, some e => if e < b then none else some (some (m.start, m.handed, b, e))
   | _, _ => none) else none
 | some .failed => some none
 | _ => none
noncomputable def Zg4 (code text : Array Nat) (start : Nat) (must : Bool) : Option (Option (Nat × Nat × Nat × Nat)) := (Zi1 4000 (Sre.forSearch code text 1 start text.size must)).bind Zu3
section
variable {M : Model} {A : Around} {E : Value → Shared → Prop} {s : Shared}
theorem Ziz {Q : Sre.M → Shared → Prop} : ∀ (k : Nat) (m m' : Sre.M) (turns : Nat), Zi1 k m = some m' → k ≤ turns → Q m' s → wpAny M A (reDrive turns m) Q E s
 | 0, _, _, _, h, _, _ => by cases h
 | k + 1, m, m', 0, h, hk, _ => by lia
 | k + 1, m, m', t + 1, h, hk, hq => by
  unfold reDrive
  unfold Zi1 at h
  show wpAny _ _ (if (m.runFor 4).outcome.isSome = true then pure (m.runFor 4) else (do rule "sre.turn"; reDrive t (m.runFor 4))) _ _ _
  split at h
  ·rename_i hc
   rw [if_pos hc]
   cases h
   exact wpAny_pure hq
  ·rename_i hc
   rw [if_neg hc]
   exact wpAny_bind (wpAny_rule (Ziz k _ _ t h (by lia) hq))
theorem Zi2 (f : Nat → PUnit → Sem (ForInStep PUnit)) (hf : ∀ i r, wpAny M A (f i r) (fun x s' => x = .yield PUnit.unit ∧ s' = s) E s) : ∀ (l : List Nat) {Q : PUnit → Shared → Prop}, Q PUnit.unit s → wpAny M A (forIn l PUnit.unit f) Q E s
 | [], Q, h => wpAny_pure h
 | i :: l, Q, h => by
  rw [List.forIn_cons]
  refine wpAny_bind (wpAny_mono (hf i _) (fun x s' e => ?_) fun _ _ e => e)
  obtain ⟨e1, e2⟩ := e
  rw [e1, e2]
  exact Zi2 f hf l h
theorem Zne {t : ReTarget} {start : Nat} {must : Bool} {r : Option (Nat × Nat × Nat × Nat)} {Q : Option Sre.M → Shared → Prop} (hg : t.groups = 1) (hl : t.lim = t.text.size) (h : Zg4 t.code t.text start must = some r)
  (k : ∀ m : Option Sre.M, (match r with | none => m = none | some (b, e, x, y) => ∃ m', m = some m' ∧ m'.start = b ∧ m'.handed = e ∧ (1 : Int) ≤ m'.lastmark ∧ m'.marks.getD 0 none = some x ∧ m'.marks.getD 1 none = some y ∧ ¬ y < x) → Q m s) :
  wpAny M A (reNextFound t start must) Q E s := by
 unfold Zg4 at h
 cases hd : Zi1 4000 (Sre.forSearch t.code t.text 1 start t.text.size must) with
 | none => rw [hd] at h; cases h
 | some m' =>
  rw [hd] at h
  have h' : Zu3 m' = some r := h
  unfold reNextFound reRunToEnd
  rw [hg, hl]
  refine wpAny_bind (Ziz 4000 _ m' _ hd (by decide) ?_)
  refine wpAny_bind (Zi2 _ (fun i r => ?_) _ ?_)
  ·split
   ·exact wpAny_bind (wpAny_rule (wpAny_pure ⟨rfl, rfl⟩))
   ·exact wpAny_pure ⟨rfl, rfl⟩
  unfold Zu3 at h'
  split at h'
  ·rename_i ho
   rw [ho]
   split at h'
   ·rename_i hm
    split at h'
    ·rename_i b e hb he
     split at h'
     ·cases h'
     ·rename_i hn
      cases h'
      exact wpAny_pure (k _ ⟨m', rfl, rfl, rfl, hm, hb, he, hn⟩)
    ·cases h'
   ·cases h'
  ·rename_i ho
   rw [ho]
   cases h'
   exact wpAny_pure (k _ rfl)
  ·cases h'
end
noncomputable def cut (x : Str) (b e : Nat) : Str := ⟨x.cps.extract b e⟩
noncomputable def Zkw (code : Array Nat) (x : Str) (h : Str → Str) : Nat → Nat → Bool → Option (List Str)
 | 0, _, _ => none
 | k + 1, start, must => match Zg4 code x.cps start must with
  | none => none
  | some none => some (if start < x.length then [cut x start x.length] else [])
  | some (some (b, e, u, v)) => (Zkw code x h k e (e == b)).map fun r => (if start < b then [cut x start b] else []) ++ h (cut x u v) :: r
end
section
open Builtin Builtin.Re
structure Zr7 (K : Frag) (p : Addr) (code : Array Nat) : Prop where
 ex : ∃ (v0 v1 v3 v4 : Value) (t2 t6 : Tok) (ct : Addr) (o : Obj) (cs : Array Value) (n : Nat), K.lookup p = some { cls := .type "re.Pattern", data := .fields #[v0, v1, .int 1 t2, v3, v4, .ref ct, .int 0 t6] } ∧ K.lookup ct = some o ∧ o.data = .seq cs n ∧ (cs.map reRawOf).map Int.toNat = code
section
variable {prog : Program} {w : World} {A : Around} {E : Value → Shared → Prop} {s : Shared}
theorem Zi7 {K : Frag} {p : Addr} {code : Array Nat} (hP : Zr7 K p code) (hK : K.In s.heap) {x : Str} {t : Tok} {Q : ReTarget → Shared → Prop} (h : Q { pattern := .ref p, string := .str x t, code, text := x.cps, kind := 0, groups := 1, pos := 0, lim := x.cps.size } s) :
  wpAny (model prog w) A (reWholeTarget (.ref p) (.str x t)) Q E s := by
 injection (prog w A E s K p code x t Q) with hP hK h
 obtain ⟨v0, v1, v3, v4, t2, t6, ct, o, cs, n, e1, e2, d, rfl⟩ := hP.ex
 unfold reWholeTarget
 refine wpAny_bind (wpAny_fieldsOf (hK _ _ e1) rfl ?_)
 refine wpAny_bind (wpAny_of_eq (a := (x.cps, 0)) rfl ?_)
 dsimp only
 rw [if_neg (by simp [reRawNat])]
 rw [if_neg (by simp [reRawNat])]
 refine wpAny_bind (wpAny_of_eq (a := ()) rfl ?_)
 refine wpAny_bind ?_
 show wpAny _ _ (reRawItems (.ref ct)) _ _ _
 exact Zc2 (hK _ _ e2) d (wpAny_pure h)
end
theorem Zjz {prog : Program} {w : World} {A : Around} {E : Value → Shared → Prop} {s : Shared} {pat str : Value} {lim b e u v : Nat} {m : Sre.M} {Q : Value → Shared → Prop} (hb : m.start = b) (he : m.handed = e) (hlm : (1 : Int) ≤ m.lastmark) (hu : m.marks.getD 0 none = some u) (hv : m.marks.getD 1 none = some v) (hn : ¬ v < u)
  (h : ∀ (h' : Heap), h' = (s.heap.push (Zb7 #[rawInt b, rawInt e, rawInt u, rawInt v] 0)).push { cls := .type "re.Match", data := .fields #[str, pat, rawInt 0, rawInt lim, rawInt m.lastindex, .ref s.heap.objs.size] } → Q (.ref (s.heap.push (Zb7 #[rawInt b, rawInt e, rawInt u, rawInt v] 0)).objs.size) { s with heap := h' }) :
  wpAny (model prog w) A (reNewMatch pat str 1 0 lim m) Q E s := by
 unfold reNewMatch
 have r1 : List.range 1 = [0] := rfl
 have c1 : ((2 * 0 + 1 : Nat) : Int) ≤ m.lastmark := by simpa using hlm
 simp only [r1, List.flatMap_cons, List.flatMap_nil, List.any_cons, List.any_nil, Nat.mul_zero, Nat.zero_add, hu, hv]
 rw [if_neg (by simp [hn])]
 rw [if_pos (by simpa using hlm)]
 dsimp only
 rw [hb, he]
 refine wpAny_bind (wpAny_newTuple ?_ (by simp; decide))
 unfold newFields
 exact wpAny_newObj_type (h _ rfl) (by size_fits)
theorem Good.in1 {A : Around} {n : Nat} (g : Good A (n + 1)) : Good A.in1 n := ⟨by have := g.d; show A.depth + n < _; lia, by have := g.u; show A.units + 1 + 20 * n < _; lia, g.h, g.f, g.g⟩
noncomputable abbrev Cx.wA (C : Cx) (A : Around) : Cx := { C with A := A }
theorem Holds.wA {C : Cx} {σ : St} {s : Shared} (H : Holds C σ s) (A : Around) : Holds (C.wA A) σ s := ⟨H.frz, H.loc, H.obs, H.nd, H.ap, H.nn, H.gens, H.drawn, H.os⟩
theorem Holds.unA {C : Cx} {σ : St} {s : Shared} {A : Around} (H : Holds (C.wA A) σ s) : Holds C σ s := ⟨H.frz, H.loc, H.obs, H.nd, H.ap, H.nn, H.gens, H.drawn, H.os⟩
theorem neSr : Nonempty PySem.Sre.M := ⟨{ code := #[], text := #[], lim := 0, start := 0, pc := 0, pos := 0, handed := 0, marks := #[] }⟩
theorem Zve {C : Cx} {n : Nat} (g : Good C.A (n + 1)) {p f lst : Addr} {code : Array Nat} (hP : Zr7 C.G.K p code) {x : Str} {t : Tok} {h : Str → Str} {loc : List (Str × Option V)} {sel rest : List (Addr × AO)}
  (F : ∀ m b e, Fn C.G (.ref f) n [.ref m] ((m, .own (Zco x b e)) :: sel) (fun v o => v = .str (h (cut x b e)) ∧ o = (m, .own (Zco x b e)) :: sel)) (hx : x.length ≤ sizeLine) (out : Str) :
  ∀ (fuel start : Nat) (must : Bool) (acc ps : List Str) (k : Int) (s : Shared), Zkw code x h fuel start must = some ps → (acc ++ ps).length ≤ 1000 → sz (acc ++ ps) ≤ 100000 → out = cat (acc ++ ps) → Holds C ⟨loc, (lst, .list (acc.map .str)) :: (sel ++ rest)⟩ s →
   codeP (model C.G.prog C.G.w) C.A (.builtin "re.Pattern.sub.loop" ⟨[.ref p, .str x t, .ref f, rawInt 1, rawInt 0, rawInt k, rawInt start, rawInt start, .bool must, .ref lst, .bool false], []⟩)
    (fun r s' => match r with | .ok (.ret v) => Pst C VR (fun a σ' => a = .str out ∧ σ' = ⟨loc, sel ++ rest⟩) s v s' | .ok _ => False | .error e => C.E e s') s := by
 intro fuel
 induction fuel with
 | zero => intro start must acc ps k s e; cases e
 | succ fuel ih =>
  intro start must acc ps k s e hl hs ho H
  injection (C n p f lst code x t h loc sel rest out fuel start must acc ps k s) with g hP F hx ih e hl hs ho H
  refine Zbm Zm6 rfl ?_
  rw [Around.under_plainId Zni]
  unfold Builtin.«re.Pattern.sub.loop»
  dsimp only [rawInt]
  refine Zaa (.of (Zi7 hP H.inK ?_))
  dsimp only
  have HA := H.wA C.A.in1
  have gA : Good C.A.in1 n := g.in1
  have push : ∀ (B : List (Addr × AO)) (acc : List Str) (s : Shared) (y : Str) (tk : Tok) (Q : Unit → Shared → Prop), acc.length ≤ 1000 → Holds C ⟨loc, (lst, .list (acc.map .str)) :: B⟩ s →
    (∀ s', Holds C ⟨loc, (lst, .list ((acc ++ [y]).map .str)) :: B⟩ s' → TK s.heap s'.heap → Q () s') → wpP (model C.G.prog C.G.w) C.A.in1 (updateSeq lst fun z => z.push (.str y tk)) Q C.E s := by
   intro B acc s y tk Q hl H k
   refine Zb4 (H.list (.head)) fun vs n0 e0 r0 => ?_
   have hz : vs.length = acc.length := by simpa using r0.length
   have hzz : sizeLine = 16777216 := by decide
   refine .of (wpAny_updateSeq e0 rfl ?_ (by simp; lia) (by simp; lia))
   refine And.elim (fun H' tk' => ?_) (H.mapList (.head) e0 (fun z => z.push (.str y tk)) (by simp) (r0.append (.cons (.str y tk) .nil)))
   refine k _ ?_ tk'
   simpa using H'
  rw [if_neg (by decide)]
  rw [if_neg (by simp)]
  unfold Zkw at e
  rw [Int.toNat_natCast]
  cases hsr : Zg4 code x.cps start must with
  | none => rw [hsr] at e; cases e
  | some r =>
   rw [hsr] at e
   refine Zaa (.of (Zne rfl rfl hsr fun m hm => ?_))
   injection (r m) with e hsr hm
   cases r with
   | none =>
    have hm' : m = none := hm
    subst hm'
    dsimp only at e ⊢
    have fin : ∀ (acc' : List Str) (s' : Shared) (Q : Fin → Shared → Prop), Holds C ⟨loc, (lst, .list (acc'.map .str)) :: (sel ++ rest)⟩ s' → TK s.heap s'.heap → acc' = acc ++ ps → (∀ v s'', Pst C VR (fun a σ' => a = .str out ∧ σ' = ⟨loc, sel ++ rest⟩) s v s'' → Q (.done (.ret v)) s'') →
      wpP (model C.G.prog C.G.w) C.A.in1 (do
       let joiner ← reSlice x.cps 0 0 0
       let l ← seqItems? (Value.ref lst)
       if (l.getD #[]).isEmpty = true then do
        let text ← pure joiner
        ret text
       else do
        let text ← call (.builtin "str.join") [joiner, .ref lst]
        ret text : Sem Fin) Q C.E s' := by
     intro acc' s' Q H' tk' ea hQ
     injection (acc' s' Q) with H' tk' ea hQ
     subst ea
     refine Zb4 (H'.list (.head)) fun vs n0 e0 r0 => ?_
     have he0 : (⟨x.cps.extract 0 0⟩ : Str) = ⟨#[]⟩ := by simp
     refine Zaa (.of ?_)
     show wpAny _ _ (mkStr ⟨x.cps.extract 0 0⟩) _ _ _
     rw [he0]
     refine wpAny_mkStr ?_ (by decide)
     refine Zaa (.of (wpAny_seqItems e0 rfl ?_))
     by_cases hv : vs = []
     ·subst hv
      rw [if_pos (by simp)]
      have hnil : acc ++ ps = [] := List.eq_nil_of_length_eq_zero (by
       have h0 := r0.length
       rw [List.length_map] at h0
       exact h0.symm)
      refine Zaa (Zab (Zab (hQ _ _ ⟨_, _, ⟨rfl, rfl⟩, ?_, (H'.drop .head).toks _, tk'⟩)))
      rw [ho, hnil]
      exact .str _ _
     ·rw [if_neg (by simp [hv])]
      refine Zaa ?_
      refine Zae (Zla (C := C.wA C.A.in1) (σ := ⟨loc, (lst, .list ((acc ++ ps).map .str)) :: (sel ++ rest)⟩) (x := ⟨#[]⟩) (K := fun a σ' => a = .str out ∧ σ' = ⟨loc, (lst, .list ((acc ++ ps).map .str)) :: (sel ++ rest)⟩) .head ⟨by rw [ho]; rfl, rfl⟩ ?_ _ _ _ ((H'.toks _).wA _) (.bi _) (.cons (.str _ _) (.cons (.ref _) .nil))) ?_ fun _ _ e => e
      ·have : sz (acc ++ ps) = ((acc ++ ps).map (·.length)).sum := rfl
       show ((acc ++ ps).map (·.length)).sum + (acc ++ ps).length * 0 ≤ 16777216
       lia
      ·rintro v s'' ⟨a, σ', ⟨ea, es⟩, r, H'', tk''⟩
       subst es
       exact Zab (hQ _ _ ⟨_, _, ⟨ea, rfl⟩, r, (H''.unA.drop .head), tk'.trans tk''⟩)
    have e' := Option.some.inj e
    split
    ·rename_i hlt
     have hps : [cut x start x.length] = ps := by
      rw [← e', if_pos (show start < x.length from hlt)]
     refine Zaa (.of ?_)
     show wpAny _ _ (mkStr (cut x start x.length)) _ _ _
     refine wpAny_mkStr ?_ ?_
     ·refine Zaa (push _ acc _ _ _ _ (by simp at hl; lia) (H.toks _) fun s' H' tk' => ?_)
      exact fin _ s' _ H' tk' (by rw [hps]) fun v s'' h => h
     ·have : (cut x start x.length).length ≤ x.length := by
       show (x.cps.extract _ _).size ≤ x.cps.size
       simp; lia
      lia
    ·rename_i hlt
     have hps : ([] : List Str) = ps := by
      rw [← e', if_neg (show ¬ start < x.length from hlt)]
     exact fin acc s _ H (.refl _) (by rw [← hps]; simp) fun v s'' h => h
   | some r =>
    obtain ⟨b, e1, u, v⟩ := r
    obtain ⟨m', rfl, hb, he, hlm, hu, hv, hn⟩ := hm
    injection (b e1 u v m') with e hsr hb he hlm hu hv hn
    dsimp only at e ⊢
    cases hgo : Zkw code x h fuel e1 (e1 == b) with
    | none => rw [hgo] at e; cases e
    | some r =>
    rw [hgo] at e
    have e' := Option.some.inj e
    injection (b e1 u v m' r) with hsr hb he hlm hu hv hn e hgo e'
    have cutL : ∀ i j, (cut x i j).length ≤ sizeLine := fun i j => by
     have : (cut x i j).length ≤ x.length := by
      show (x.cps.extract _ _).size ≤ x.cps.size
      simp; lia
     lia
    have rem : ∀ (acc' : List Str) (s' : Shared) (Q : Fin → Shared → Prop), Holds C ⟨loc, (lst, .list (acc'.map .str)) :: (sel ++ rest)⟩ s' → TK s.heap s'.heap → acc' ++ h (cut x u v) :: r = acc ++ ps →
      (∀ c' s'', c'.quiet = true ∧ codeP (model C.G.prog C.G.w) C.A c' (fun r s' => match r with | .ok (.ret v) => Pst C VR (fun a σ' => a = .str out ∧ σ' = ⟨loc, sel ++ rest⟩) s v s' | .ok _ => False | .error e => C.E e s') s'' → Q (.again c') s'') →
      wpP (model C.G.prog C.G.w) C.A.in1 (do
       let found ← reNewMatch (.ref p) (.str x t) 1 0 x.cps.size m'
       let item ← holding [found] (call (.ref f) [found])
       if (item != Value.none) = true then do
        updateSeq lst fun z => z.push item
        again (.builtin "re.Pattern.sub.loop" ⟨[.ref p, .str x t, .ref f, .int 1 0, .int 0 0, .int (k + 1) 0, .int m'.handed 0, .int m'.handed 0, .bool (m'.handed == m'.start), .ref lst, .bool false], []⟩)
       else again (.builtin "re.Pattern.sub.loop" ⟨[.ref p, .str x t, .ref f, .int 1 0, .int 0 0, .int (k + 1) 0, .int m'.handed 0, .int m'.handed 0, .bool (m'.handed == m'.start), .ref lst, .bool false], []⟩) : Sem Fin) Q C.E s' := by
     intro acc' s' Q H' tk' ea hQ
     refine Zaa (.of (Zjz hb he hlm hu hv hn fun h' eh => ?_))
     subst eh
     injection (acc' s' Q) with H' tk' ea hQ
     have H1 := H'.ext (h' := s'.heap.push (Zb7 #[rawInt b, rawInt e1, rawInt u, rawInt v] 0)) (fun b o e => Heap.get?_push_of_some _ e) s'.toks
     have H2 := H1.alloc (h' := (s'.heap.push (Zb7 #[rawInt b, rawInt e1, rawInt u, rawInt v] 0)).push { cls := .type "re.Match", data := .fields #[.str x t, .ref p, rawInt 0, rawInt x.cps.size, rawInt m'.lastindex, .ref s'.heap.objs.size] })
      (a := (s'.heap.push (Zb7 #[rawInt b, rawInt e1, rawInt u, rawInt v] 0)).objs.size) (fun b o e => Heap.get?_push_of_some _ e) (Nat.le_refl _) (Heap.get?_push_size _ rfl)
      (.own (x := Zco x u v) ⟨t, _, _, _, _, _, _, _, 0, rfl, Heap.get?_push_of_some _ (Heap.get?_push_size _ rfl)⟩) s'.toks
     have tk2 : TK s.heap ((s'.heap.push (Zb7 #[rawInt b, rawInt e1, rawInt u, rawInt v] 0)).push { cls := .type "re.Match", data := .fields #[.str x t, .ref p, rawInt 0, rawInt x.cps.size, rawInt m'.lastindex, .ref s'.heap.objs.size] }) :=
      tk'.trans (.of_ext fun b o e => Heap.get?_push_of_some _ (Heap.get?_push_of_some _ e))
     refine Zaa (Zad ?_)
     refine Zae (Zjv (C := C.wA C.A.in1) (sel := ((s'.heap.push (Zb7 #[rawInt b, rawInt e1, rawInt u, rawInt v] 0)).objs.size, .own (Zco x u v)) :: sel) (rest := (lst, .list (acc'.map .str)) :: rest)
      (σ := ⟨loc, ((s'.heap.push (Zb7 #[rawInt b, rawInt e1, rawInt u, rawInt v] 0)).objs.size, .own (Zco x u v)) :: (lst, .list (acc'.map .str)) :: (sel ++ rest)⟩)
      (K := fun a σ' => a = .str (h (cut x u v)) ∧ σ' = ⟨loc, ((s'.heap.push (Zb7 #[rawInt b, rawInt e1, rawInt u, rawInt v] 0)).objs.size, .own (Zco x u v)) :: sel ++ (lst, .list (acc'.map .str)) :: rest⟩)
      gA (F _ u v) (List.Perm.cons _ List.perm_middle.symm) (by rintro r o ⟨er, eo⟩; exact ⟨er, by rw [eo]⟩) _ _ _ (H2.wA _) (.ref _) (.cons (.ref _) .nil)) ?_ fun _ _ e => e
     rintro item s'' ⟨a, σ', ⟨ea', es⟩, ri, H3, tk3⟩
     subst es
     subst ea'
     have H4 : Holds C ⟨loc, (lst, .list (acc'.map .str)) :: (sel ++ rest)⟩ s'' := (H3.unA.drop .head).permO List.perm_middle
     refine VR.strK ri fun tk5 e0 => ?_
     subst e0
     rw [if_pos (by rfl)]
     have hlen : acc'.length ≤ 1000 := by
      have := congrArg List.length ea
      simp only [List.length_append, List.length_cons] at this hl
      lia
     refine Zaa (push _ acc' _ _ _ _ hlen H4 fun s3 H5 tk6 => ?_)
     refine Zab (hQ _ _ ⟨Code.quiet_builtin _ (by decide +kernel), ?_⟩)
     have e3 : acc' ++ [h (cut x u v)] ++ r = acc ++ ps := by rw [← ea]; simp
     rw [he, hb]
     refine Zao (ih e1 (e1 == b) (acc' ++ [h (cut x u v)]) r (k + 1) s3 hgo (by rw [e3]; exact hl) (by rw [e3]; exact hs) (by rw [e3]; exact ho) H5) fun r' s4 hr => ?_
     cases r' with
     | ok fl =>
      cases fl with
      | ret v => exact Pst.tk (tk2.trans (tk3.trans tk6)) hr
      | next => exact hr
      | brk => exact hr
      | cont => exact hr
     | error e => exact hr
    rw [hb]
    split
    ·rename_i hlt
     refine Zaa (.of ?_)
     show wpAny _ _ (mkStr (cut x start b)) _ _ _
     refine wpAny_mkStr ?_ (cutL _ _)
     refine Zaa (push _ acc _ _ _ _ (by simp at hl; lia) (H.toks _) fun s' H' tk' => ?_)
     rw [if_pos hlt] at e'
     rw [← hb]
     exact rem _ s' _ H' tk' (by rw [← e']; simp) fun c' s'' h => h
    ·rename_i hlt
     rw [if_neg hlt] at e'
     rw [← hb]
     exact rem acc s _ H (.refl _) (by rw [← e']; simp) fun c' s'' h => h
end
section
open Builtin Builtin.Re
theorem Zut : ∃ r, typeLookup (.type "function") "__call__" = pure (some r) := ⟨.builtin "function.__call__", by rw [typeLookup_type, builtinLookup_eq_fast]; kernel_rfl⟩
theorem Zn2 : isSubtype (.type "str") (.type "bytearray") = pure false := by rw [isSubtype_type]; kernel_rfl
theorem Zqa (a b : Value) : reNamed "re.Pattern.sub" "sub" ["repl", "string", "count"] 2 [a, b] [] = pure [some a, some b, none] := by kernel_rfl
section
variable {C : Cx} {σ : St}
theorem Zzn {n : Nat} (g : Good C.A (n + 2)) {p f : Addr} {code : Array Nat} (hP : Zr7 C.G.K p code) {x : Str} {h : Str → Str} {mk : Value → FuncData} {sel rest : List (Addr × AO)} {ps : List Str} {K : V → St → Prop}
  (hs : σ.obs.Perm (sel ++ rest)) (hf : (f, AO.own (Zw2 mk)) ∈ sel)
  (F : ∀ m b e, Fn C.G (.ref f) n [.ref m] ((m, .own (Zco x b e)) :: sel) (fun v o => v = .str (h (cut x b e)) ∧ o = (m, .own (Zco x b e)) :: sel))
  (hgo : Zkw code x h 100 0 false = some ps) (hx : x.length ≤ sizeLine) (hl : ps.length ≤ 1000) (hz : sz ps ≤ 100000) (k : K (.str (cat ps)) ⟨σ.loc, sel ++ rest⟩) :
  CF C (.bi "re.Pattern.sub") [.ref p, .ref f, .str x] σ K := by
 injection (C σ n p f code x h mk sel rest ps K) with g hP hs hf F hgo hx hl hz k
 intro s fv vs H rf rl
 obtain ⟨loc, obs⟩ := σ
 o_facts rf
 injection (s vs loc obs) with rl hs k H rf
 revert rl
 intro rl0
 refine VRs.consK rl0 fun _ _ r rl e0 => ?_
 subst e0
 revert rl
 intro rl0
 refine VRs.consK rl0 fun _ _ r2 rl e0 => ?_
 subst e0
 revert rl
 intro rl0
 refine VRs.consK rl0 fun _ _ r3 rl e0 => ?_
 subst e0
 o_facts rl
 o_facts r; o_facts r2
 rename_i xv
 refine VR.strK r3 fun t e0 => ?_
 subst e0
 have H0 := H.permO hs
 obtain ⟨pv0, pv1, pv3, pv4, pt2, pt6, ct, po, cs, pn, e1, _⟩ := hP.ex
 have ep := H.inK _ _ e1
 refine Zal (H0.obs (f, .own (Zw2 mk)) (List.mem_append_left _ hf)) fun Of ef rof => ?_
 have q := OR.ownE rof
 obtain ⟨cv, q⟩ := q
 subst q
 obtain ⟨fc, hfc⟩ := Zut
 rename_i xq1 xq2
 injection (s loc obs t pv0 pv1 pv3 pv4 pt2 pt6 ct po cs pn cv fc) with hs k H rf rl r r2 r3 xq1 xv rl0 H0 e1 xq2 ep ef rof hfc
 refine Za0 (Zbw Zpk Zos rfl (.of (slot_sub.check _ _ _ _ _ _ _ _ ⟨_, ep, rfl⟩ (Zs1 _ _ _) ?_)))
 unfold Builtin.«re.Pattern.sub» reSubstitute
 dsimp only
 rw [Zqa]
 refine Zaa (Zab ?_)
 dsimp only
 refine Zaa (Zab ?_)
 refine Zaa (.of (wpAny_specialOf (T := "function") ⟨_, ef, rfl⟩ hfc ?_))
 simp only [Option.isSome_some, if_true]
 refine Zaa (Zab ?_)
 refine Zaa (Zab ?_)
 dsimp only
 refine Zaa (Zad (.of (Zi7 hP H.inK ?_)))
 rw [if_pos (by decide)]
 refine Zaa (.of ?_)
 unfold reNotHeld
 refine wpAny_bind (wpAny_isInstance (typeIs_str s x t) Zn2 ?_)
 rw [if_neg (by decide)]
 refine wpAny_pure ?_
 refine Zaa (.of (wpAny_newList ?_ (by simp)))
 refine Zab ⟨Code.quiet_builtin _ (by decide +kernel), ?_⟩
 have H1 := H0.alloc (h' := s.heap.push (listOf #[] 0)) (a := s.heap.objs.size) (o := .list []) (fun b o e => Heap.get?_push_of_some _ e) (Nat.le_refl _) (Heap.get?_push_size _ rfl) (.list (vs := []) 0 .nil) s.toks
 refine Zao (Zve (g.less (by simp)) hP F hx (cat ps) 100 0 false [] ps 0 _ hgo (by simpa using hl) (by simpa using hz) rfl H1) fun r' s4 hr => ?_
 injection (r' s4) with hr
 have tk : TK s.heap (s.heap.push (listOf #[] 0)) := .of_ext fun b o e => Heap.get?_push_of_some _ e
 cases r' with
 | ok fl =>
  cases fl with
  | ret v =>
   obtain ⟨a, σ', ⟨ea, es⟩, r, H', t'⟩ := hr
   subst ea; subst es
   exact ⟨_, _, k, r, H', tk.trans t'⟩
  | next => exact hr
  | brk => exact hr
  | cont => exact hr
 | error e => exact hr
end
end
section
open Builtin Builtin.Str
section
variable {prog : Program} {w : World} {A : Around} {E : Value → Shared → Prop} {s : Shared} {env : Env}
theorem Ziq {x y z : Str} {t : Tok} {n : Nat} {Q : Value → Shared → Prop} (hn : 1 ≤ n ∨ (occurrences x y 0 x.length (x.length + 1)).isEmpty = true) (hyz : (y == z) = false) (hx : x.length ≤ 1048576) (hz : z.length ≤ 14)
  (hs : s.toks = n + 2) (h : ∀ t' k, n + 2 ≤ k → Q (.str (Txt.replace x y z) t') { s with toks := k }) : wpAny (model prog w) A (call (.builtin "str.replace") [.str x t, .str y n, .str z (n + 1)]) Q E s := by
 injection (prog w A E s x y z t n Q) with hn hyz hx hz hs h
 refine wpAny_with_toks (n := n + 2) (by lia) ?_
 by_cases h1 : 1 ≤ n
 ·exact SC.replaceW (show (n : Nat) ≠ 0 by lia) (show (n + 1 : Nat) ≠ 0 by simp) (show (n : Nat) ≠ n + 1 by simp) hyz hx hz fun t' k hk => h t' k hk
 ·have ho := hn.resolve_left h1
  refine call_gives F.slot_str_replace (typeIs_str _ _ _) F.entry_str_replace (F.args_str_replace_3 _ _ _) (gives_str_replace x y z t n (n + 1) fun hc => ?_) ?_
  ·rw [ho] at hc; cases hc
  ·have e : Txt.replace x y z = x := by unfold Txt.replace; rw [ho]; rfl
   rw [ho]
   rw [e] at h
   intro hk
   exact h t s.toks (by k_units)
theorem Zmc {o : Expr} {apos pos p1 p2 : Pos} {c1 c2 : Str} {k1 k2 : Nat} {Q : Value → Shared → Prop} (hbase : attributeBase o "replace" env (eval o env) = eval o env) (hline : (apos.endLine == pos.line) = true)
  (hyz : (c1 == c2) = false) (hz : c2.length ≤ 14)
  (h : wpAny (model prog w) A (eval o env) (fun ov s₁ => ∃ x t, ov = .str x t ∧ (1 ≤ s₁.toks ∨ (occurrences x c1 0 x.length (x.length + 1)).isEmpty = true) ∧ x.length ≤ 1048576 ∧ ∀ t' k, s₁.toks + 2 ≤ k → Q (.str (Txt.replace x c1 c2) t') { s₁ with toks := k }) E s) :
  wpAny (model prog w) A (eval (.Call (.Attribute o "replace" apos) [.Constant (.str c1) k1 p1, .Constant (.str c2) k2 p2] [] pos) env) Q E s := by
 injection (prog w A E s env o apos pos p1 p2 c1 c2 k1 k2 Q) with hbase hline hyz hz h
 refine wpAny_Call_method_lateS hbase rfl hline (wpAny_mono h ?_ fun _ _ e => e)
 rintro ov s₁ ⟨x, t, e, hn, hx, k⟩
 subst e
 refine ⟨"str", "str.replace", F.plainAttrs_str, F.slot_str_replace, F.type_str_replace, typeIs_str _ _ _, (fun _ e => nomatch e), ?_⟩
 refine callWith_method1 (args_cons (wpAny_Constant_str (args_cons (wpAny_Constant_str (args_nil ?_)))))
 exact Ziq hn hyz hx hz rfl fun t' k' hk => k t' k' hk
end
section
variable {C : Cx} {σ : St}
theorem Zms {x c1 c2 : Str} {k1 k2 : Nat} {p1 p2 pos : Pos} {env : Env} {K : V → St → Prop} (hyz : (c1 == c2) = false) (hz : c2.length ≤ 14) (hx : x.length ≤ 1048576) (k : K (.str (Txt.replace x c1 c2)) σ) :
  CA C (.bi "str.replace") [.str x] [.Constant (.str c1) k1 p1, .Constant (.str c2) k2 p2] pos env σ K := by
 injection (C σ x c1 c2 k1 k2 p1 p2 pos env K) with hyz hz hx k
 intro s fv fs H rf rfs
 o_facts rf
 revert rfs
 intro rfs0
 refine VRs.consK rfs0 fun _ _ r rfs e0 => ?_
 subst e0
 cases rfs
 refine VR.strK r fun t e0 => ?_
 subst e0
 refine Zwx fun ht => .of (callWith_method1 (args_cons (wpAny_Constant_str (args_cons (wpAny_Constant_str (args_nil ?_))))))
 exact Ziq (.inl ht) hyz hx hz rfl fun t' k' hk => Pst.hereT H (.str _ _) k
end
end
section
open Builtin Builtin.Str
section
variable {C : Cx} {σ : St}
theorem Holds.codeNew {loc : List (Str × Option V)} {s : Shared} {P : Addr} {q : PK → Str} {l : List (PK × Addr)} {rest : List (Addr × AO)} (H0 : Holds C ⟨loc, Zgh P q l ++ rest⟩ s) {p : PK} {c' : Addr} {h' : Heap} {tk : Tok} {qn : Str}
  (hx : Heap.ExtBut P s.heap h') (hge : s.heap.objs.size ≤ c') (hrec : h'.CodeRec (.ref c') qn) (hq : q p = qn) (htb : h'.get? P = some (tabObj (Zih l ++ #[rawInt p.1, rawInt p.2, .ref c']))) :
  Holds C ⟨loc, Zgh P q (l ++ [(p, c')]) ++ rest⟩ { s with heap := h', toks := tk } ∧ TK s.heap h' := by
 injection (C loc s P q l rest p c' h' tk qn) with H0 hx hge hrec hq htb
 refine Zal (H0.obs (P, .own (Zbd l)) (List.mem_append_left _ (.head _))) fun op hp rp => ?_
 have hzP : C.fz P = none := H0.ap P (.tail _ (List.mem_map.mpr ⟨_, List.mem_append_left _ (.head _), rfl⟩))
 obtain ⟨c₂, oc, vs, t, e2, hoc, hd, hv⟩ := hrec
 cases e2
 have htb' : h'.get? P = some (tabObj (Zih (l ++ [(p, c')]))) := by rw [← Zjh]; exact htb
 refine And.elim (fun H1 tk1 => ?_) (H0.dropExt (a := P) (o := .own (Zbd l)) (l' := (l.map fun e => (e.2, AO.own (Zfg (q e.1)))) ++ rest) .head (h' := h') hx tk)
 have lt : ∀ p ∈ Zgh P q l ++ rest, p.1 < s.heap.objs.size := fun p hp => H0.ltOf hp
 have ndP : P ∉ ((l.map fun e => (e.2, AO.own (Zfg (q e.1)))) ++ rest).map (·.1) := (List.nodup_cons.mp (List.nodup_cons.mp H0.nd).2).1
 have hlP : C.env.locals ≠ P := fun e => (List.nodup_cons.mp H0.nd).1 (e ▸ .head _)
 have hlc : C.env.locals ≠ c' := fun e => by have := H0.locLt; rw [e] at this; exact absurd this (Nat.not_lt.mpr hge)
 have hzc : C.fz c' = none := by
  cases z : C.fz c' with
  | none => rfl
  | some o => exact absurd (H0.fzLt z) (Nat.not_lt.mpr hge)
 have H2 := H1.adj (a := c') (o := .own (Zfg (q p))) hoc (.own ⟨vs, t, hd, by rw [hq]; exact hv⟩) hlc (fun p hp e => absurd (lt p (.tail _ hp)) (by rw [e]; exact Nat.not_lt.mpr hge)) hzc
 have H3 := H2.adj (a := P) (o := .own (Zbd (l ++ [(p, c')]))) htb' (.own rfl) hlP (fun p' hp' e => by
  rcases List.mem_cons.mp hp' with q | q
  ·subst q
   have e' : c' = P := e
   have := Heap.lt_size hp
   rw [← e'] at this
   exact absurd this (Nat.not_lt.mpr hge)
  ·exact ndP (e ▸ List.mem_map.mpr ⟨p', q, rfl⟩)) hzP
 refine ⟨H3.permO ?_, tk1⟩
 rw [Zjy]
 simp only [List.cons_append, List.append_assoc, List.nil_append]
 exact List.Perm.cons _ (List.perm_middle.symm)
theorem Zm0 {elt : Expr} {v y : Str} {px pc pos gpos : Pos} {scope : Scope} {c P bm ca : Addr} {q : PK → Str} {l : List (PK × Addr)} {rest : List (Addr × AO)} {x sep out : Str} {K : V → St → Prop}
  (hh : C.A.handled = none) (hroom : C.A.depth < recursionLimit) (hco : scope.isCoroutine = false) (hclos : closureFor scope C.env = pure []) (hcell : ∀ y ∈ scope.names, y.2 ≠ .cell) (h0 : scope.names.lookup (".0" : Str) = some NameKind.local)
  (hx : scope.names.lookup v = some .local) (hkind : scope.kind = .function) (hs : ∀ x, genFold (.Name y pc) C.env x = pure x)
  (hyk : C.env.scope.kind = .function) (hyl : C.env.kindOf y = some .local) (hyd : (y == ("__debug__" : Str)) = false) (hy : Lk y (.ref ca) σ.loc) (hca : (ca, AO.list [.str x]) ∈ rest)
  (hcode : C.env.code = .ref c) (hK : codeHdIn C.G.K c P = true) (B : Bt C.G bm) (hq : q (gpos.line, gpos.col) = C.env.qual ++ "<genexpr>") (hS : σ.obs.Perm (Zgh P q l ++ rest))
  (hf : ∀ (A' : Around) E' (t : Tok) (s₂ : Shared) (env' : Env) m₂, env'.scope = scope → s₂.heap.Ns env'.locals m₂ → m₂ v = some (.str x t) → wpAny (model C.G.prog C.G.w) A' (eval elt env') (fun r s₃ => (∃ t', r = .str out t') ∧ Keeps s₂ s₃) E' s₂)
  (hz : out.length + sep.length ≤ 1000000) (k : ∀ l', K (.str out) ⟨σ.loc, Zgh P q l' ++ rest⟩) :
  CA C (.bi "str.join") [.str sep] [.GeneratorExp elt [⟨.Name v px, .Name y pc, [], 0⟩] scope gpos] pos C.env σ K := by
 injection (C σ elt v y px pc pos gpos scope c P bm ca q l rest x sep out K) with hh hroom hco hclos hcell h0 hx hkind hs hyk hyl hyd hy hca hcode hK B hq hS hf hz k
 intro s fv fs H rf rfs
 obtain ⟨loc, obs⟩ := σ
 injection (s fv fs loc obs) with rf rfs hy hS k H
 o_facts rf
 revert rfs
 intro rfs0
 refine VRs.consK rfs0 fun _ _ r rfs e0 => ?_
 subst e0
 cases rfs
 refine VR.strK r fun tsep e0 => ?_
 rename_i zq60_1
 injection (zq60_1 tsep) with r rfs0 e0
 subst e0
 have H0 := H.permO hS
 refine .of (callWith_method1 (args_cons ?_))
 refine wpAny_GeneratorExp_make hco hclos hcell h0 hkind hroom ?_ hs
 refine Zal (H0.loc) fun m hn hm => ?_
 obtain ⟨val, e, r⟩ := hm y _ hy.mem
 o_facts r
 rw [eval_Name C.env y pc hyd]
 refine wpAny_bind (wpAny_standAt (wpAny_loadName_local hyk hyl hn e ?_))
 refine Zal (H0.obs _ (List.mem_append_right _ hca)) fun Oc ec rc => ?_
 have hcaL : ∃ tx, s.heap.IsList ca #[.str x tx] := by
  refine OR.listK rc fun _ n r e0 => ?_
  subst e0
  refine VRs.consK r fun _ _ r1 r2 e0 => ?_
  subst e0
  o_facts r2
  refine VR.strK r1 fun tx e0 => ?_
  subst e0
  exact ⟨tx, _, ec, rfl, n, rfl⟩
 obtain ⟨tx, hL⟩ := hcaL
 have hlim0 : s.heap.NoLimit := (C.ok.top _ H.frz).2.2
 refine wpAny_pyIter_list hL ⟨hlim0.push _, ?_⟩
 have H2 := H0.alloc (h' := s.heap.push { cls := .type "list_iterator", data := .fields #[.ref ca, .int 0 0] }) (a := s.heap.objs.size) (o := .liter ca 0) (fun b o e => Heap.get?_push_of_some _ e) (Nat.le_refl _) (Heap.get?_push_size _ rfl) (.liter rfl rfl) s.toks
 have tk2 : TK s.heap (s.heap.push { cls := .type "list_iterator", data := .fields #[.ref ca, .int 0 0] }) := .of_ext fun b o e => Heap.get?_push_of_some _ e
 generalize hs2 : ({ s with heap := s.heap.push { cls := .type "list_iterator", data := .fields #[.ref ca, .int 0 0] } } : Shared) = s₂
 have H2' : Holds C ⟨loc, Zgh P q l ++ ((s.heap.objs.size, .liter ca 0) :: rest)⟩ s₂ := by
  rw [← hs2]
  exact H2.permO List.perm_middle.symm
 have tk2' : TK s.heap s₂.heap := by rw [← hs2]; exact tk2
 have hlt2 : s.heap.objs.size < s₂.heap.objs.size := by rw [← hs2, Heap.size_push]; simp
 clear hs2 H2 tk2
 refine Zal (H2'.obs (P, .own (Zbd l)) (List.mem_append_left _ (.head _))) fun op hp rp => ?_
 injection (m Oc tx s₂ op) with hn hm e ec rc hL H2' tk2' hlt2 hp rp
 have hpd : op = tabObj (Zih l) := by cases rp with | own qp => exact qp
 subst hpd
 have hzP : C.fz P = none := H2'.ap P (.tail _ (List.mem_map.mpr ⟨_, List.mem_append_left _ (.head _), rfl⟩))
 have hC : CodeHd s₂.heap c P := codeHd_of_K H2'.inK hK
 -- from the code on
 have cont : ∀ (code : Value) (s₃ : Shared) (l' : List (PK × Addr)), Holds C ⟨loc, Zgh P q l' ++ ((s.heap.objs.size, .liter ca 0) :: rest)⟩ s₃ → TK s.heap s₃.heap → s₃.gens = s₂.gens → (s.heap.objs.size < s₃.heap.objs.size) →
   wpAny (model C.G.prog C.G.w) C.A (builtinsFor C.env.globals C.env.builtins) (fun bi s₄ => ∀ h', h'.Ns s₄.heap.objs.size (fun y => if y = ".0" then some (.ref s.heap.objs.size) else none) → Heap.SameBut s₄.heap.objs.size (s₄.heap.push { cls := .type "frame", data := .dict #[] }) h' →
    wpAny (model C.G.prog C.G.w) C.A (spliced (backTo pos (starEach [] C.env))) (fun vs s₅ => wpAny (model C.G.prog C.G.w) C.A (call (.builtin "str.join") ([.str sep tsep] ++ (.ref h'.objs.size :: vs))) (Pst C VR K s) C.E s₅) C.E
     { s₄ with
      gens := s₄.gens.push (.fresh (.compStart (.GeneratorExp elt [⟨.Name v px, .Name y pc, [], 0⟩] scope gpos) 0 (.ref s.heap.objs.size) .none (genEnv scope [] s₄.heap.objs.size code bi C.env))),
      toks := s₄.toks + 1 + 1 + 1,
      heap := h'.push { cls := .type "generator", data := .fields #[.int s₄.gens.size 0, .str "<genexpr>" (s₄.toks + 1), .str (C.env.qual ++ "<genexpr>") (s₄.toks + 1 + 1)] } }) C.E s₃ := by
  intro code s₃ l' H3 tk3 hg3 hsz3
  injection (code s₃ l') with H3 tk3 hg3 hsz3
  have hbm := H3.frz _ _ (C.ok.sub _ _ B.o)
  refine wpAny_builtinsFor (C.glo H3) B.m B.ne hbm rfl rfl rfl ?_
  intro h' hn' hs'
  injection (h') with hn' hs'
  refine args_nil ?_
  have hI3 := H3.obs (s.heap.objs.size, .liter ca 0) (List.mem_append_right _ (.head _))
  have hc3 := H3.obs (ca, .list [.str x]) (List.mem_append_right _ (.tail _ hca))
  obtain ⟨OI, eI, rI⟩ := hI3
  obtain ⟨OL, eL, rL⟩ := hc3
  have hIt : s₃.heap.IsListIter s.heap.objs.size ca 0 := by cases rI with | liter c d => exact ⟨OI, eI, c, d⟩
  have hLt : ∃ tx, s₃.heap.IsList ca #[.str x tx] := by
   refine OR.listK rL fun _ n r e0 => ?_
   subst e0
   refine VRs.consK r fun _ _ r1 r2 e0 => ?_
   subst e0
   o_facts r2
   refine VR.strK r1 fun tx e0 => ?_
   subst e0
   exact ⟨tx, _, eL, rfl, n, rfl⟩
  obtain ⟨tx, hL3⟩ := hLt
  have hlim3 : s₃.heap.NoLimit := (C.ok.top _ H3.frz).2.2
  have hcs0 : cStatics < s.heap.objs.size := (by obtain ⟨_, hn, _⟩ := hlim0; exact hn.lt)
  have hcaI : ca ≠ s.heap.objs.size := Nat.ne_of_lt (Heap.lt_size ec)
  have hcaC : ca < s₃.heap.objs.size := Heap.lt_size eL
  have hsz : h'.objs.size = s₃.heap.objs.size + 1 := by rw [hs'.1, Heap.size_push]
  have keep' : ∀ b o, s₃.heap.get? b = some o → h'.get? b = some o := fun b o e => hs'.extBut b o (Nat.ne_of_lt (Heap.lt_size e)) (Heap.get?_push_of_some _ e)
  have keep₅ : ∀ b o, s₃.heap.get? b = some o → (h'.push { cls := .type "generator", data := .fields #[.int s₃.gens.size 0, .str "<genexpr>" (s₃.toks + 1), .str (C.env.qual ++ "<genexpr>") (s₃.toks + 1 + 1)] }).get? b = some o :=
   fun b o e => Heap.get?_push_of_some _ (keep' b o e)
  have haC : h'.objs.size ≠ s₃.heap.objs.size := by rw [hsz]; exact Nat.succ_ne_self _
  have haf : h'.objs.size ∉ List.range s₃.heap.objs.size := fun hm => by have := List.mem_range.mp hm; lia
  have W := WalksS.genexpQ (prog := C.G.prog) (w := C.G.w) (A := C.A.in1.in1) hh h'.objs.size s₃.gens.size s₃.heap.objs.size (List.range s₃.heap.objs.size) [s.heap.objs.size] (fun _ => true) 1 (fun _ r => ∃ t', r = Value.str out t') haC haf
   (fun b hb => by rw [List.mem_singleton] at hb; subst hb; exact List.mem_range.mpr hsz3) hroom (List.mem_range.mpr (Nat.lt_trans hcs0 hsz3)) (Nat.ne_of_lt (Nat.lt_trans hcs0 hsz3)) (fun hb => by rw [List.mem_singleton] at hb; exact absurd hb (Nat.ne_of_lt hcs0))
  have G := GenAt.fresh (prog := C.G.prog) (w := C.G.w) (A := C.A.in1.in1) (elt := elt) (iter := .Name y pc) (x := v) (px := px) (ifs := []) (scope := scope) (pos := gpos) (a := h'.objs.size) (g := s₃.gens.size) (fp := List.range s₃.heap.objs.size) (wr := [s.heap.objs.size])
   (cenv := genEnv scope [] s₃.heap.objs.size code builtinsNs C.env) (m := fun y => if y = ".0" then some (.ref s.heap.objs.size) else none)
   (s := { s₃ with
      gens := s₃.gens.push (.fresh (.compStart (.GeneratorExp elt [⟨.Name v px, .Name y pc, [], 0⟩] scope gpos) 0 (.ref s.heap.objs.size) .none (genEnv scope [] s₃.heap.objs.size code builtinsNs C.env))),
      toks := s₃.toks + 1 + 1 + 1,
      heap := h'.push { cls := .type "generator", data := .fields #[.int s₃.gens.size 0, .str "<genexpr>" (s₃.toks + 1), .str (C.env.qual ++ "<genexpr>") (s₃.toks + 1 + 1)] } }) hh
   (fun A' hA => (Walks.list hA s.heap.objs.size ca hcaI #[.str x tx]).mono_fp fun b hb => by
    rcases List.mem_cons.mp hb with e | hb
    ·subst e; exact List.mem_range.mpr hsz3
    ·rw [List.mem_singleton] at hb; subst hb; exact List.mem_range.mpr hcaC)
   (fun _ => true) (fun _ r => ∃ t', r = Value.str out t') hx (by simp [genEnv, hkind]) hco (fun hm => Nat.lt_irrefl _ (List.mem_range.mp hm))
   ⟨fun A' E' i v' s₂ m₂ _ _ _ _ _ => wpAny_pure ⟨rfl, s₂.heap, s₂.toks, rfl, fun _ _ e => e⟩, fun A' E' i v' s₂ m₂ _ hP _ hN hm _ => by
    have hv : v' = .str x tx := by
     have hP' : (#[Value.str x tx] : Array Value)[i]? = some v' := hP
     match i, hP' with
     | 0, h => simpa using h.symm
     | i + 1, h => simp at h
    subst hv
    exact hf A' E' tx s₂ _ m₂ rfl hN hm⟩
   ⟨_, _, _, Heap.get?_push_size _ rfl, rfl, rfl, rfl⟩ (Array.getElem?_push_size ..) ⟨hIt.at fun o e => keep₅ _ o e, hL3.at fun o e => keep₅ _ o e⟩ (hn'.push _) (hlim3.keeps keep₅)
  refine SC.joinGen W (fun i s' st => st.1.typeIs) G (fun b hb => ?_) (by simp) (fun i v hv => (by obtain ⟨_, _, t', e⟩ := hv; exact ⟨out, t', e⟩)) (fun s' lt hm hacc => ?_) (by show 1 ≤ sizeLine; decide)
  ·show b < (h'.push _).objs.size
   rw [Heap.size_push]
   rcases List.mem_cons.mp hb with e | hb
   ·rw [e]; exact Nat.lt_succ_self _
   ·rcases List.mem_cons.mp hb with e | hb
    ·rw [e, hsz]; exact Nat.lt_succ_of_lt (Nat.lt_succ_self _)
    ·rw [hsz]; exact Nat.lt_succ_of_lt (Nat.lt_succ_of_lt (List.mem_range.mp hb))
  ·have hl : lt.map (·.1) = [out] := by
    have h1 : lt.length = 1 := by simpa [strValues, passing] using hacc.1
    match lt, h1 with
    | [p], _ =>
     obtain ⟨_, _, t', e⟩ := hacc.2 0 (.str p.1 p.2) (by simp [strValues])
     injection e with e1 _
     simp [e1]
   rw [hl]
   refine ⟨?_, fun t' n => ?_⟩
   ·unfold JoinOk
    have : (tooLong (0 + out.length + sep.length)) = false := by
     unfold tooLong sizeLine
     exact decide_eq_false (by have e : (2 : Nat) ^ 24 = 16777216 := (by decide); lia)
    simpa using this
   ·have he : Txt.join sep [out] = out := by rfl
    rw [he]
    have hext : Heap.ExtBut s.heap.objs.size s₃.heap s'.heap := fun b o hb e => hm.heap b o (fun hmem => by
     rcases List.mem_cons.mp hmem with q | q
     ·exact absurd (Heap.lt_size e) (by rw [q]; exact Nat.lt_irrefl _)
     ·rw [List.mem_singleton] at q; exact hb q) (keep₅ b o e)
    have H3' : Holds C ⟨loc, (s.heap.objs.size, .liter ca 0) :: (Zgh P q l' ++ rest)⟩ s₃ := H3.permO List.perm_middle
    refine And.elim (fun H4 tk4 => ?_) (H3'.dropExt .head hext n)
    refine ⟨.str out, _, k l', .str _ _, ⟨H4.frz, H4.loc, H4.obs, H4.nd, H4.ap, H4.nn, H4.gens.trans ?_, hm.drawn.trans H4.drawn, hm.os.trans H4.os⟩, tk3.trans tk4⟩
    have hg : GenOnly s₃.gens.size (s₃.gens.push (.fresh (.compStart (.GeneratorExp elt [⟨.Name v px, .Name y pc, [], 0⟩] scope gpos) 0 (.ref s.heap.objs.size) .none (genEnv scope [] s₃.heap.objs.size code builtinsNs C.env)))) s'.gens := by
     rcases hm.gens with e | x
     ·rw [e]; exact ⟨rfl, fun _ _ => rfl⟩
     ·exact x.1
    refine ⟨?_, fun i hi => ?_, fun hab => AllBare.moved (hab.push rfl) hm.gens⟩
    ·show s₃.gens.size ≤ s'.gens.size
     rw [hg.1]; simp
    ·show s'.gens[i]? = s₃.gens[i]?
     rw [hg.2 i (Nat.ne_of_lt hi)]
     exact Array.getElem?_push_lt hi |>.trans (Array.getElem?_eq_getElem hi).symm
 cases hfd : Zee (gpos.line, gpos.col) l with
 | some c' => exact wpAny_genexprCode_hit hcode (hC.code hp (Zfn l)) (by rw [Zb5, hfd]; rfl) (cont _ s₂ l H2' tk2' rfl hlt2)
 | none =>
  refine wpAny_genexprCodeX hcode (hC.code hp (Zfn l)) (hC.tab hp) (by rw [Zb5, hfd]; rfl) fun c' h' tk hx hge hlt _ hrec htb _ => ?_
  obtain ⟨H3, tk3⟩ := H2'.codeNew (p := (gpos.line, gpos.col)) (tk := tk) hx hge hrec hq htb.2
  exact cont _ _ _ H3 (tk2'.trans tk3) rfl (Nat.lt_trans (Nat.lt_of_lt_of_le hlt2 hge) hlt)
end
end
section
open Builtin Builtin.Str
noncomputable def Zo2 (x y : Str) (i j : Int) : Int := match occurrences x y (fromIndex x.length i) (min (fromIndex x.length j) x.length) 1 with | k :: _ => (k : Int) | [] => -1
theorem Zks (x y : Str) (i j : Int) (t u v v2 : Tok) : Gives («str.find» ⟨[.str x t, .str y u, .int i v, .int j v2], []⟩) (.int (Zo2 x y i j)) := by
 show Gives (match occurrences x y (fromIndex x.length i) (min (fromIndex x.length j) x.length) 1 with | k :: _ => retInt k | [] => (do rule "str.find.not-found"; retInt (-1))) _
 unfold Zo2
 cases occurrences x y (fromIndex x.length i) (min (fromIndex x.length j) x.length) 1 with
 | nil => exact .rule (.of_eq rfl)
 | cons k _ => exact .of_eq rfl
section
variable {C : Cx} {σ : St}
theorem Zro {x y : Str} {i j : Int} {K : V → St → Prop} (h : K (.int (Zo2 x y i j)) σ) : CF C (.bi "str.find") [.str x, .str y, .int i, .int j] σ K := by
 injection (C σ x y i j K) with h
 intro s fv vs H rf rl
 injection (s fv vs) with H rf rl
 o_facts rf
 revert rl
 intro rl0
 refine VRs.consK rl0 fun _ _ r rl e0 => ?_
 subst e0
 revert rl
 intro rl0
 refine VRs.consK rl0 fun _ _ r2 rl e0 => ?_
 subst e0
 revert rl
 intro rl0
 refine VRs.consK rl0 fun _ _ r3 rl e0 => ?_
 subst e0
 revert rl
 intro rl0
 refine VRs.consK rl0 fun _ _ r4 rl e0 => ?_
 subst e0
 o_facts rl
 o_facts r; o_facts r2; o_facts r3; cases r4
 exact .of (call_gives F.slot_str_find (typeIs_str _ _ _) F.entry_str_find (F.args_str_find_4 _ _ _ _) (Zks x y i j _ _ _ _) (Pst.hereT H (.int _ _) h))
theorem Zhp {x : Str} {ys : List Str} {K : V → St → Prop} (k : K (.bool (ys.any (· == x))) σ) : OP2 C VR (compareOp .In) (.str x) (.tup (ys.map V.str)) σ K := fun s v u H r1 r2 => by
 o_facts r1
 refine VR.tupK r2 fun _ _ _ e r e0 => ?_
 subst e0
 rename_i vs n
 exact .of (in_tuple_strs (items := vs.toArray) ⟨_, e, rfl, n, rfl⟩ r.strs (Pst.here H (.bool _) k))
end
theorem Znd (x y : Str) (hy : 0 < y.length) (a : Nat) (ha : a ≤ x.length) : Zo2 x y a a = -1 := by
 unfold Zo2
 have h1 : fromIndex x.length (a : Int) = a := by unfold fromIndex; rw [if_neg (by simp)]; simp
 rw [h1, Nat.min_eq_left ha, StrLaws.occ_eq]
 have h2 : a + 1 - a = 1 := by simp
 rw [h2]
 have h3 : ¬ (a + y.length ≤ a) := by lia
 simp [List.range', StrLaws.occBody, h3]
theorem Zvg {x : Str} {i : Nat} {l t : List Nat} (h : x.cps.toList.drop i = l ++ t) (hi : i ≤ x.length) : Zfu x (some i) (some ((i + l.length : Nat) : Int)) = ⟨l.toArray⟩ := by
 have hl : x.length = i + l.length + t.length := by
  have := congrArg List.length h
  have e : x.cps.toList.length = x.length := by simp [Str.length]
  simp at this
  simp [Str.length] at *
  lia
 have e : x.cps.toList.length = x.length := by simp [Str.length]
 unfold Zfu
 rw [Zk3 _ _ _ (e ▸ hi) (e ▸ hl ▸ Nat.le_add_right _ _), h, Nat.add_sub_cancel_left, List.take_left]
theorem Zdz {x : Str} {i c : Nat} {t : List Nat} (h : x.cps.toList.drop i = c :: t) : (seqIndex? (i : Int) x.length).bind (x.cps[·]?) = some c ∧ x.cps.toList.drop (i + 1) = t ∧ i < x.length := by
 have e : x.cps.toList.length = x.length := by simp [Str.length]
 have hi : i < x.length := by
  have := congrArg List.length h
  simp at this
  simp [Str.length]
  omega
 refine ⟨?_, ?_, hi⟩
 ·have h1 : x.cps[i]? = some c := by
   have : (x.cps.toList.drop i)[0]? = some c := by rw [h]; rfl
   rw [List.getElem?_drop] at this
   simpa using this
  have hn : ¬ ((i : Int) < 0) := by simp
  simp [seqIndex?, hn, hi, h1]
 ·rw [← List.drop_drop, h]; rfl
end
section
open Builtin
theorem Zgl : mroOf (.type "object") = pure [.type "object"] := by rw [mroOf_type]; kernel_rfl
theorem Zd6 : typeLookup (.type "object") "__new__" = pure (some (.builtin "object.__new__")) := by rw [typeLookup_type, builtinLookup_eq_fast]; kernel_rfl
theorem Zeq : Slot "object" "__init__" "object.__init__" :=
 .of (owner := "object") (n := "__init__") (by rw [typeLookup_type, builtinLookup_eq_fast]; kernel_rfl) (by decide +kernel) (by decide +kernel) (by decide +kernel)
  (by first | exact .inl (by decide +kernel) | exact .inr (by decide +kernel)) (by rw [isSubtype_type]; kernel_rfl)
theorem called_object : TypeCalled "object" "object.__new__" "object.__init__" :=
 ⟨by decide +kernel, by decide +kernel, ⟨_, _, Zgl⟩, madeBy_type Zgl Zd6 (by decide +kernel), by decide +kernel, by rw [isSubtype_type]; kernel_rfl, Zeq⟩
theorem Zfj : checkTypeCall "object" ⟨[], []⟩ = pure () := by kernel_rfl
theorem Zfz : checkBuiltinCall "object.__new__" ⟨[.type "object"], []⟩ = pure () := by kernel_rfl
theorem Zlh : Bind.madeHere "object.__new__" (.type "object") = pure () := by
 unfold Bind.madeHere
 have h1 : Bind.staticBase (.type "object") = pure (.type "object") := by kernel_rfl
 rw [h1]
 show (do if (← Bind.madeBy (.type "object")).map Manifest.canonical != some (Manifest.canonical "object.__new__") then unsupported _) = _
 rw [called_object.made]
 kernel_rfl
theorem Zdh : entryFor table "object.__init__" = some Builtin.«object.__init__» := entryFor_of_tree (by kernel_rfl)
theorem Zd9 (a : Value) : argsOk "object.__init__" ⟨[a], []⟩ := by unfold argsOk; kernel_rfl
section
variable {prog : Program} {w : World} {A : Around} {E : Value → Shared → Prop} {s : Shared}
theorem Zk1 {Q : Value → Shared → Prop} (h : Q (.ref s.heap.objs.size) { s with heap := s.heap.push { cls := .type "object", data := .plain } }) : wpAny (model prog w) A (call (.type "object") []) Q E s := by
 injection (prog w A E s Q) with h
 refine callType_codes (Q₁ := fun obj s₁ => s₁.TypeIs obj "object" ∧ Q obj s₁) called_object Zfj Zdh ?_ fun obj s₁ h₁ => ⟨h₁.1, Zd9 _, ?_⟩
 ·refine codeAny_of_tree ?_
  show wpAny _ A.in1.in1 (do checkBuiltinCall "object.__new__" ⟨[.type "object"], []⟩; again (.builtin "object.__new__" ⟨[.type "object"], []⟩)) _ _ s
  refine wpAny_bind (wpAny_of_eq Zfz (wpAny_pure ⟨plainId_quiet called_object.plain _, codeAny_builtin F.entry_object_new ?_⟩))
  rw [Around.under_plainId called_object.plain _]
  unfold Builtin.«object.__new__»
  refine wpAny_bind (wpAny_of_eq (a := true) rfl ?_)
  show wpAny _ _ (if (!true) = true then _ else _) _ _ _
  rw [if_neg (by decide)]
  dsimp only
  rw [if_neg (by decide +kernel)]
  refine wpAny_bind (wpAny_of_eq Zlh ?_)
  rw [if_neg (by decide)]
  rw [if_neg (by decide +kernel)]
  refine wpAny_bind (wpAny_pure ?_)
  refine wpAny_bind (wpAny_newObj_type ?_ (by size_fits))
  rw [if_neg (by decide +kernel)]
  exact wpAny_pure ⟨⟨_, Heap.get?_push_size _ rfl, rfl⟩, h⟩
 ·show wpAny _ _ (ret .none) _ _ _
  exact wpAny_pure ⟨rfl, h₁.2⟩
end
section
variable {C : Cx} {σ : St}
theorem Zor {K : V → St → Prop} (k : ∀ a, K (.ref a) σ) : CF C (.ty "object") [] σ K := fun s fv vs H rf rl => by
 o_facts rf
 o_facts rl
 exact .of (Zk1 ⟨_, _, k _, .ref _, H.ext (fun b o e => Heap.get?_push_of_some _ e) s.toks, .of_ext fun b o e => Heap.get?_push_of_some _ e⟩)
end
end
noncomputable def Zz2 : Array Nat := #[14, 14, 4, 1, 1, 9, 0, 64, 0, 1342177280, 0, 0, 0, 0, 0, 17, 0, 13, 11, 9, 0, 64, 0, 1342177280, 0, 0, 0, 0, 0, 17, 1, 1]
noncomputable def esc1 (g : Str) : Str := Str.ofString "\\" ++ g
noncomputable def Zb2 (st : Str) : Str := if Zrk (Str.ofString "-") st = true then Txt.replace (Txt.replace st (Str.ofString "\\") (Str.ofString "\\\\")) (Str.ofString "-") (Str.ofString "\\-") else Txt.replace st (Str.ofString "\\") (Str.ofString "\\\\")
noncomputable def Zq4 (t : Str) : Str := match t.cps.toList with
 | c :: _ => if c = 33 then Str.ofString "^" ++ Zfu t (some 1) none else if c = 94 ∨ c = 91 then Str.ofString "\\" ++ t else t
 | [] => t
noncomputable def Zxx (t : Str) : Str := Str.empty ++ Str.ofString "[" ++ Zq4 t ++ Str.ofString "]"
noncomputable def brS (st : Str) : Option Str := match Zkw Zz2 (Zb2 st) esc1 100 0 false with
 | none => none
 | some ps => if ps.length ≤ 100 ∧ sz ps ≤ 1000 ∧ (Zb2 st).length ≤ 1000 ∧ (cat ps).length ≠ 0 ∧ (cat ps == Str.ofString "!") = false then some (Zxx (cat ps)) else none
noncomputable def Zgp : List Nat → Option (List Nat × List Nat)
 | b :: t => if b = 33 then (match t with | c :: d :: t2 => if c ∈ stock8 ∧ d = 93 then some ([33, c], t2) else none | _ => none)
   else (match t with | d :: t2 => if b ∈ stock8 ∧ d = 93 then some ([b], t2) else none | _ => none)
 | [] => none
noncomputable def Zhc : Nat → List Nat → List (Option Str) → Option (List (Option Str))
 | 0, _, _ => none
 | k + 1, l, acc => if 100 < acc.length then none else match l with
  | [] => some acc
  | c :: t =>
   if c = 42 then Zhc k t (if acc.getLast? = some none then acc else acc ++ [none])
   else if c = 63 then Zhc k t (acc ++ [some (Str.ofString ".")])
   else if c = 91 then (match Zgp t with
    | none => none
    | some (st, t2) => match brS ⟨st.toArray⟩ with | none => none | some o => Zhc k t2 (acc ++ [some o]))
   else if c ∈ stock8 then Zhc k t (acc ++ [some (Zw3 c)]) else none
noncomputable def q71 (p : PK) : Str := if p = (72, 37) then Str.ofString "_translate.<locals>.<genexpr>" else Str.ofString "_translate.<locals>.<lambda>"
noncomputable def pt3 (l : List (PK × Addr)) : List (Addr × AO) := Zgh 71 q71 l
theorem pat50 (P : Params) : Zr7 (K3 P) 50 Zz2 := ⟨_, _, _, _, _, _, _, _, _, _, by with_unfolding_all rfl, by with_unfolding_all rfl, rfl, by kernel_rfl⟩
theorem Ztq (P : Params) : codeHdIn (K3 P) 75 71 = true := by with_unfolding_all rfl
theorem bt3 {P : Params} {G : Gl} (g : G3 P G) : Bt G 4 := by
 obtain ⟨val, e, r⟩ := g.N.mg ("__builtins__", .ref 4) (by simp [gl3])
 cases val with
 | ref a =>
  cases r { objs := #[] }
  exact ⟨e, by rw [g.K]; with_unfolding_all rfl, by decide, by decide⟩
 | _ => exact absurd (r { objs := #[] }) (fun h => by cases h)
noncomputable abbrev Zkq (pat : Str) (S r m : Addr) (i n : Int) (c j st ch k ck : Option V) : Loc :=
 [("pat", some (.str pat)), ("STAR", some (.ref S)), ("QUESTION_MARK", some (.str (Str.ofString "."))), ("res", some (.ref r)), ("add", some (.ref m)), ("i", some (.int i)), ("n", some (.int n)), ("c", c), ("j", j), ("stuff", st), ("chunks", ch), ("k", k), ("chunk", ck)]
noncomputable def tob (m r : Addr) (S : Addr) (acc : List (Option Str)) (l : List (PK × Addr)) (b : List (Addr × AO)) : List (Addr × AO) := (m, AO.bound "builtin_function_or_method" "list.append" r) :: (r, .list (acc.map (pv S))) :: (pt3 l ++ b)
noncomputable def CAJ (C : Cx) (sep : Str) (elt : Expr) (gens : List Comprehension) (scope : Scope) (gpos pos : Pos) (env : Env) (σ : St) (K : V → St → Prop) : Prop := CA C (.bi "str.join") [.str sep] [.GeneratorExp elt gens scope gpos] pos env σ K
theorem Zv6 {C : Cx} {σ : St} {sep : Str} {elt : Expr} {gens : List Comprehension} {scope : Scope} {gpos pos : Pos} {env : Env} {K : V → St → Prop} (h : CAJ C sep elt gens scope gpos pos env σ K) : CA C (.bi "str.join") [.str sep] [.GeneratorExp elt gens scope gpos] pos env σ K := h
theorem Zi5 {t st t2 : List Nat} (h : Zgp t = some (st, t2)) : ∃ (pre : List Nat) (c : Nat), c ∈ stock8 ∧ st = pre ++ [c] ∧ t = pre ++ c :: 93 :: t2 ∧ (pre = [] ∨ pre = [33]) := by
 injection (t st t2) with h
 unfold Zgp at h
 split at h
 ·rename_i b t'
  split at h
  ·rename_i hb
   split at h
   ·rename_i c d t3
    split at h
    ·rename_i hc
     cases h
     obtain ⟨h1, h2⟩ := hc
     subst h2; subst hb
     exact ⟨[33], c, h1, rfl, rfl, .inr rfl⟩
    ·cases h
   ·cases h
  ·split at h
   ·rename_i d t3
    split at h
    ·rename_i hc
     cases h
     obtain ⟨h1, h2⟩ := hc
     subst h2
     exact ⟨[], b, h1, rfl, rfl, .inl rfl⟩
    ·cases h
   ·cases h
 ·cases h
theorem Zhr : ∀ c ∈ stock8, c ≠ 33 ∧ c ≠ 91 ∧ c ≠ 42 ∧ c ≠ 63 := by decide
theorem Zbu {c d : Nat} {y : Str} (hy : y = ⟨#[d]⟩) : ((⟨#[c]⟩ : Str) == y) = decide (c = d) := by
 subst hy
 rw [Bool.eq_iff_iff, beq_iff_eq, decide_eq_true_iff]
 constructor
 ·intro h
  have := congrArg Str.cps h
  simpa using this
 ·intro h; rw [h]
theorem XV.cut {C : Cx} {t : Sem Flow} {σ : St} {K : Fl → St → Prop} (K' : Fl → St → Prop) (h : XV C t σ K') (k : ∀ fl σ', K' fl σ' → K fl σ') : XV C t σ K := W.mono h k
noncomputable def Zx3 : Stmt → List Stmt
 | .While _ b _ _ => b
 | _ => []
noncomputable def Zxn : Stmt → List Stmt
 | .If _ b _ _ => b
 | _ => []
noncomputable def Zt4 : Stmt → List Stmt
 | .If _ _ o _ => o
 | _ => []
noncomputable def Zz4 (l : List Stmt) (i : Nat) : Stmt := l.getD i (.Pass ⟨0, 0, 0, 0⟩)
noncomputable def Zxb : List Stmt := Zxn (Zz4 (Zt4 (Zz4 (Zt4 (Zz4 (Zx3 (Zz4 (fd3 11).body 3)) 2)) 0)) 0)
theorem Zwg {P : Params} {G : Gl} (g : G3 P G) (N : Nm G gl3 bl3) {n : Nat} (R : Ar G (n + 3)) (L : Addr) (pat : Str) (S r m : Addr) (i : Nat) (acc : List (Option Str)) (pre : List Nat) (cc : Nat) (t2 : List Nat) (o : Str) (l : List (PK × Addr)) (obs : List (Addr × AO))
  (hz : pat.length ≤ 100) (hal : acc.length ≤ 100) (hr : pat.cps.toList.drop i = pre ++ cc :: 93 :: t2) (hcs : cc ∈ stock8) (hpre : pre = [] ∨ pre = [33]) (hbs : brS ⟨(pre ++ [cc]).toArray⟩ = some o) (c j st ch k ck : Option V) (K : Fl → St → Prop)
  (hK : Hid (∀ j st ch k ck l o', Drp o' (tob m r S (acc ++ [some o]) l obs) → K .next ⟨Zkq pat S r m ((i + (pre ++ [cc]).length + 1 : Nat)) pat.length c j st ch k ck, o'⟩)) :
  XV (R.cx (callEnv (Zig (fd3 11) "cpy313.fnmatch" 506 75) L 76) rfl rfl) (execs Zxb (callEnv (Zig (fd3 11) "cpy313.fnmatch" 506 75) L 76)) ⟨Zkq pat S r m i pat.length c j st ch k ck, tob m r S acc l obs⟩ K := by
 injection (fun L pat S r m i acc pre cc t2 o l obs c j st ch k ck K => 3) with g N hz hal hr hcs hpre hbs hK
 have hzz : sizeLine = 16777216 := by decide
 have hpl : pat.cps.toList.length = pat.length := by simp [Str.length]
 obtain ⟨hn33, hn91, _, _⟩ := Zhr cc hcs
 unfold tob
 -- the places
 have hra : pat.cps.toList.drop (i + pre.length) = cc :: 93 :: t2 := by rw [← List.drop_drop, hr, List.drop_left]
 obtain ⟨ha1, hra2, ha3⟩ := Zdz hra
 obtain ⟨hb1, hrb2, hb3⟩ := Zdz hra2
 have hin : i < pat.length := by lia
 refine Zag ?_
 refine Zma ?_ (by with_unfolding_all exact rfl)
 refine ev_l (by k_slotset) (by kernel_rfl) (by kernel_rfl) (by kernel_rfl) ?_
 refine Zbz (by kernel_rfl) (by kernel_rfl) (by k_ownname) ?_
 refine Zar ?_
 -- a bar
 refine Zag ?_
 refine XV.cut (fun fl σ' => fl = .next ∧ σ' = ⟨Zkq pat S r m i pat.length c (some (.int ((i + pre.length : Nat) : Int))) st ch k ck, tob m r S acc l obs⟩) ?_ ?_
 ·w_how
  rename_i zq127_1 zq127_2
  injection (zq127_1) with zq127_2
  try unfold tob
  rcases hpre with hpre | hpre
  ·subst hpre
   w_why
   refine ⟨fun _ => ?_, fun h => ?_⟩
   rotate_left
   ·simp at h; omega
   w_why
   refine Zaq (c := cc) ?_ (by intro o i; exact ⟨[o, i], by kernel_rfl⟩) (by simp) (by lia) ha1
   w_why
   refine ⟨fun h => ?_, fun h => ?_⟩
   ·rw [Zbu (d := 33) (by decide +kernel)] at h; simp at h; exact absurd h hn33
   ·refine ⟨fun h => (by cases h), fun _ => ?_⟩
    w_why
    exact ⟨rfl, rfl⟩
  ·subst hpre
   obtain ⟨h331, _, _⟩ := Zdz (i := i) (c := 33) (t := cc :: 93 :: t2) (by rw [hr]; rfl)
   w_why
   refine ⟨fun _ => ?_, fun h => ?_⟩
   rotate_left
   ·simp at h; omega
   w_why
   refine Zaq (c := 33) ?_ (by intro o i; exact ⟨[o, i], by kernel_rfl⟩) (by simp) (by lia) h331
   w_why
   refine ⟨fun _ => ?_, fun h => (by cases h)⟩
   w_why
   refine ⟨fun _ => ?_, fun h => (by cases h)⟩
   w_why
   exact ⟨rfl, rfl⟩
 rintro fl σ' ⟨rfl, rfl⟩
 refine Zar ?_
 -- a closing bracket at the head
 have h93 : (93 : Nat) ∈ stock8 := by decide
 refine Zag ?_
 refine XV.cut (fun fl σ' => fl = .next ∧ ∃ jj : Nat, (jj = i + pre.length ∧ cc ≠ 93 ∨ jj = i + pre.length + 1) ∧ σ' = ⟨Zkq pat S r m i pat.length c (some (.int (jj : Nat))) st ch k ck, tob m r S acc l obs⟩) ?_ ?_
 ·w_how
  rename_i zq163_1 zq163_2
  injection (zq163_1) with zq163_2
  unfold tob
  w_why
  refine ⟨fun _ => ?_, fun h => ?_⟩
  rotate_left
  ·simp at h; omega
  w_why
  refine Zaq (c := cc) ?_ (by intro o i; exact ⟨[o, i], by kernel_rfl⟩) (by lia) (by lia) ha1
  w_why
  refine ⟨fun _ => ?_, fun h => ?_⟩
  ·w_why
   refine ⟨fun _ => ?_, fun h => (by cases h)⟩
   w_why
   exact ⟨rfl, i + pre.length + 1, .inr rfl, rfl⟩
  ·refine ⟨fun h => (by cases h), fun _ => ?_⟩
   w_why
   exact ⟨rfl, i + pre.length, .inl ⟨rfl, by rw [Zbu (d := 93) (by decide +kernel)] at h; simpa using h⟩, rfl⟩
 rintro fl σ' ⟨rfl, jj, hjj, rfl⟩
 injection (jj) with hjj
 refine Zar ?_
 -- up to the bracket
 refine Zag ?_
 refine Zfe ?_
 refine WL.mono (K' := fun fl σ' => fl = .next ∧ σ' = ⟨Zkq pat S r m i pat.length c (some (.int ((i + pre.length + 1 : Nat) : Int))) st ch k ck, tob m r S acc l obs⟩) ?_ ?_
 ·refine Zc1 (fun _ _ h => h) (fun q σ => ∃ jj : Nat, (jj = i + pre.length ∧ cc ≠ 93 ∧ q = 2 ∨ jj = i + pre.length + 1 ∧ q ≠ 0) ∧ σ = ⟨Zkq pat S r m i pat.length c (some (.int (jj : Nat))) st ch k ck, tob m r S acc l obs⟩) ?_ ?_ 2 _ ?_
  ·rintro σ ⟨jj, h, _⟩; lia
  ·rintro q σ ⟨jj, h, rfl⟩
   injection (q jj) with h
   unfold tob
   rcases h with ⟨rfl, hn, hq⟩ | ⟨rfl, hq⟩
   ·w_why
    refine ⟨fun _ => ?_, fun h => ?_⟩
    rotate_left
    ·simp at h; omega
    w_why
    refine Zaq (c := cc) ?_ (by intro o i; exact ⟨[o, i], by kernel_rfl⟩) (by lia) (by lia) ha1
    w_why
    refine ⟨fun _ => ?_, fun h => ?_⟩
    ·w_why
     refine ⟨fun _ => ?_, fun h => (by cases h)⟩
     w_why
     exact ⟨i + pre.length + 1, .inr ⟨rfl, by lia⟩, rfl⟩
    ·exfalso
     have h' : ((⟨#[cc]⟩ : Str) == Str.ofString "]") = true := by simpa [bne] using h
     rw [Zbu (d := 93) (by decide +kernel)] at h'
     exact hn (by simpa using h')
   ·w_why
    refine ⟨fun _ => ?_, fun h => ?_⟩
    rotate_left
    ·simp at h; omega
    w_why
    refine Zaq (c := 93) ?_ (by intro o i; exact ⟨[o, i], by kernel_rfl⟩) (by lia) (by lia) hb1
    w_why
    refine ⟨fun h => (by cases h), fun _ => ?_⟩
    refine ⟨fun h => (by cases h), fun _ => ?_⟩
    w_why
    exact ⟨rfl, rfl⟩
  ·rcases hjj with ⟨h1, h2⟩ | h1
   ·exact ⟨jj, .inl ⟨h1, h2, rfl⟩, rfl⟩
   ·exact ⟨jj, .inr ⟨h1, by decide⟩, rfl⟩
 rintro fl σ' ⟨rfl, rfl⟩
 refine Zar ?_
 have hsl : Zfu pat (some (i : Int)) (some ((i + pre.length + 1 : Nat) : Int)) = ⟨(pre ++ [cc]).toArray⟩ := by
  have := Zvg (x := pat) (i := i) (l := pre ++ [cc]) (t := 93 :: t2) (by rw [hr]; simp) (by lia)
  rwa [List.length_append, List.length_singleton, ← Nat.add_assoc] at this
 have hstl : (⟨(pre ++ [cc]).toArray⟩ : Str).length ≤ 2 := by
  show (pre ++ [cc]).toArray.size ≤ 2
  rcases hpre with h | h <;> subst h <;> simp
 generalize hstf : (⟨(pre ++ [cc]).toArray⟩ : Str) = stf at *
 unfold tob
 refine Zag ?_
 refine x_if ?_
 w_why
 refine ⟨fun h => ?_, fun _ => ?_⟩
 ·simp at h; omega
 refine Zag ?_
 refine XV.cut (fun fl σ' => fl = .next ∧ σ' = ⟨Zkq pat S r m i pat.length c (some (.int ((i + pre.length + 1 : Nat) : Int))) (some (.str stf)) ch k ck, tob m r S acc l obs⟩) ?_ ?_
 ·w_how
  w_why
  intro sl
  w_why
  ·rw [hsl]; exact ⟨rfl, rfl⟩
  ·lia
 rintro fl σ' ⟨rfl, rfl⟩
 injection (stf) with hstf hbs hsl hstl
 refine Zar ?_
 refine Zag ?_
 refine XV.cut (fun fl σ' => fl = .next ∧ ∃ ch k ck l, σ'.loc = Zkq pat S r m i pat.length c (some (.int ((i + pre.length + 1 : Nat) : Int))) (some (.str (Zb2 stf))) ch k ck ∧ Drp σ'.obs (tob m r S acc l obs)) ?_ ?_
 ·w_how
  rename_i zq248_1 zq248_2
  injection (jj stf zq248_1) with hjj hstf hbs hsl hstl zq248_2
  unfold tob
  w_why
  refine ⟨fun h => ?_, fun h => ?_⟩
  ·w_why
   refine Zgr F.slot_str_replace F.type_str_replace ?_
   refine Zms (by decide +kernel) (by decide +kernel) (by lia) ?_
   w_why
   refine ⟨rfl, ch, k, ck, l, ?_, .refl⟩
   have : Zb2 stf = Txt.replace stf (Str.ofString "\\") (Str.ofString "\\\\") := by unfold Zb2; rw [if_neg (by simpa using h)]
   rw [this]
  ·have hin2 : Zrk (Str.ofString "-") stf = true := by simpa using h
   have hc45 : cc = 45 := by
    have key : ∀ c ∈ stock8, (Zrk (Str.ofString "-") ⟨([] ++ [c]).toArray⟩ = true → c = 45) ∧ (Zrk (Str.ofString "-") ⟨([33] ++ [c]).toArray⟩ = true → c = 45) := by decide +kernel
    rw [← hstf] at hin2
    rcases hpre with hp | hp
    ·subst hp; exact (key cc hcs).1 hin2
    ·subst hp; exact (key cc hcs).2 hin2
   have hpreS : Zb2 stf = Txt.replace (Txt.replace stf (Str.ofString "\\") (Str.ofString "\\\\")) (Str.ofString "-") (Str.ofString "\\-") := by unfold Zb2; rw [if_pos hin2]
   w_why
   intro ca
   injection (ca)
   refine Zbz (by kernel_rfl) (by kernel_rfl) (by k_ownname) ?_
   refine Zar ?_
   refine Zag ?_
   refine XV.cut (fun fl σ' => fl = .next ∧ σ' = ⟨Zkq pat S r m i pat.length c (some (.int ((i + pre.length + 1 : Nat) : Int))) (some (.str stf)) (some (.ref ca)) (some (.int ((i + pre.length + 1 : Nat) : Int))) ck, (ca, .list []) :: tob m r S acc l obs⟩) ?_ ?_
   ·w_how
    rename_i zq273_1 zq273_2
    injection (ca zq273_1) with zq273_2
    try unfold tob
    rcases hpre with hp | hp
    ·subst hp
     w_why
     refine Zaq (c := cc) ?_ (by intro o i; exact ⟨[o, i], by kernel_rfl⟩) (by simp) (by lia) ha1
     w_why
     refine ⟨fun h => ?_, fun _ => ?_⟩
     ·rw [Zbu (d := 33) (by decide +kernel)] at h; simp at h; exact absurd h hn33
     ·w_why
      exact ⟨rfl, rfl⟩
    ·subst hp
     obtain ⟨h331, _, _⟩ := Zdz (i := i) (c := 33) (t := cc :: 93 :: t2) (by rw [hr]; rfl)
     w_why
     refine Zaq (c := 33) ?_ (by intro o i; exact ⟨[o, i], by kernel_rfl⟩) (by simp) (by lia) h331
     w_why
     refine ⟨fun _ => ?_, fun h => (by cases h)⟩
     w_why
     exact ⟨rfl, rfl⟩
   rintro fl σ' ⟨rfl, rfl⟩
   refine Zar ?_
   unfold tob
   refine Zag ?_
   refine Zfe ?_
   refine WL.mono (K' := fun fl σ' => fl = .next ∧ σ' = ⟨Zkq pat S r m i pat.length c (some (.int ((i + pre.length + 1 : Nat) : Int))) (some (.str stf)) (some (.ref ca)) (some (.int (-1))) ck, (ca, .list []) :: tob m r S acc l obs⟩) ?_ ?_
   ·refine Zc1 (fun _ _ h => h) (fun q σ => q ≠ 0 ∧ σ = ⟨Zkq pat S r m i pat.length c (some (.int ((i + pre.length + 1 : Nat) : Int))) (some (.str stf)) (some (.ref ca)) (some (.int ((i + pre.length + 1 : Nat) : Int))) ck, (ca, .list []) :: tob m r S acc l obs⟩) ?_ ?_ 1 _ ?_
    ·rintro σ ⟨h, _⟩; exact h rfl
    ·rintro q σ ⟨_, rfl⟩
     unfold tob
     w_why
     refine ⟨fun _ => ?_, fun h => (by cases h)⟩
     w_why
     refine Zro ?_
     rw [Znd pat (Str.ofString "-") (by decide +kernel) _ (by lia)]
     w_why
     refine ⟨fun _ => ?_, fun h => (by simp at h)⟩
     w_why
     exact ⟨rfl, rfl⟩
    ·exact ⟨by decide, rfl⟩
   rintro fl σ' ⟨rfl, rfl⟩
   refine Zar ?_
   unfold tob
   w_why
   intro sl
   injection (sl)
   w_why
   rotate_left
   ·rw [hsl]; lia
   ·lia
   rw [hsl]
   have hst1 : stf.length ≠ 0 := by
    rw [← hstf]
    show (pre ++ [cc]).toArray.size ≠ 0
    simp
   refine ⟨fun _ => ?_, fun h => ?_⟩
   rotate_left
   ·simp at h; exact absurd h hst1
   w_why
   rotate_left
   ·simp; decide
   ·simp
   rw [show (((([] : List V) ++ [V.str stf]).length : Nat) : Int) - 1 = 0 from rfl]
   refine Ziv ?_ (by decide) (PyProof.noPylong_small (by decide))
   intro rg
   injection (rg)
   w_why
   refine Zbn (by k_listUnr) ?_ (by decide)
   intro it
   injection (ca sl rg it)
   refine Zbv .name (fun _ _ h => h) R.good.h 0 (fun _ loc o => loc = Zkq pat S r m i pat.length c (some (.int ((i + pre.length + 1 : Nat) : Int))) (some (.str stf)) (some (.ref ca)) (some (.int (-1))) (some (.str stf)) ∧ o = (ca, .list [.str stf]) :: tob m r S acc l obs) (by k_listUnr) (by decide) ?_ ?_ ?_
   ·exact ⟨rfl, rfl⟩
   ·intro k _ _ _ hk _; omega
   rintro loc o ⟨rfl, rfl⟩
   unfold tob
   w_why
   have hfx : (Builtin.Str.occurrences stf (Str.ofString "\\") 0 stf.length (stf.length + 1)).isEmpty = true ∧ (Txt.replace stf (Str.ofString "\\") (Str.ofString "\\\\")).length ≤ 1000 ∧ (Zb2 stf).length ≤ 1000 := by
    rw [← hstf, hc45]
    rcases hpre with h | h <;> subst h <;> decide +kernel
   have h1 : (Str.ofString "-").length = 1 := by decide +kernel
   unfold CAJ
   refine Zm0 (c := 75) (P := 71) (bm := 4) (ca := ca) (q := q71) (l := l) (rest := (ca, .list [.str stf]) :: (m, AO.bound "builtin_function_or_method" "list.append" r) :: (r, .list (acc.map (pv S))) :: obs) (x := stf) (out := Zb2 stf) R.good.h (by have := R.good.d; show R.A.depth < _; lia) rfl (by kernel_rfl)
    (by decide) (by decide +kernel) (by decide +kernel) rfl (fun _ => by kernel_rfl) (by kernel_rfl) (by kernel_rfl) (by kernel_rfl) (by k_slotset) (.head _) rfl (by show codeHdIn G.K 75 71 = true; rw [g.K]; exact Ztq P) (bt3 g) (by kernel_rfl) (List.perm_append_comm_assoc [_, _, _] (pt3 l) obs) ?_ (by rw [h1]; lia) ?_
   ·intro A' E' t s₂ env' m₂ hsc hN hm
    refine Zmc rfl rfl (by decide +kernel) (by decide +kernel) ?_
    refine Zmc rfl rfl (by decide +kernel) (by decide +kernel) ?_
    rw [eval_Name env' _ _ (by decide +kernel)]
    refine wpAny_bind (wpAny_standAt (wpAny_loadName_local (by rw [hsc]) (by unfold Env.kindOf; rw [hsc]; decide +kernel) hN hm ?_))
    refine ⟨stf, t, rfl, .inr hfx.1, by lia, fun t' k' hk => ⟨_, t', rfl, .inl ?_, by lia, fun t'' k'' _ => ?_⟩⟩
    ·show 1 ≤ k'
     lia
    ·exact ⟨⟨t'', by rw [hpreS]⟩, _, _, rfl, fun _ _ e => e⟩
   ·intro l'
    w_why
    refine ⟨rfl, some (.ref ca), some (.int (-1)), some (.str stf), l', rfl, ?_⟩
    exact .perm (List.perm_append_comm_assoc (Zgh 71 q71 l') [_, _, _] obs) (.cons .refl)
 rintro fl ⟨loc0, o0⟩ ⟨rfl, ch, k, ck, l, hl0, hd⟩
 injection (loc0 o0 ch k ck l) with hl0 hd
 have hl1 : loc0 = _ := hl0
 subst hl1
 refine Zar ?_
 refine W.drp hd ?_
 unfold tob
 w_why
 refine Zyb (by show G.K.lookup 50 = _; rw [g.K]; with_unfolding_all rfl) rfl rfl ?_
 w_why
 have pm : ∀ (x y : Addr × AO) (l : List (PK × Addr)), (x :: y :: (pt3 l ++ obs)).Perm (Zgh 71 q71 l ++ (x :: y :: obs)) := fun x y l => List.perm_append_comm_assoc [x, y] (pt3 l) obs
 refine Zps (c := 75) (P := 71) (bm := 4) (q := q71) (l := l) (rest := (m, AO.bound "builtin_function_or_method" "list.append" r) :: (r, .list (acc.map (pv S))) :: obs) rfl (by kernel_rfl) rfl (by show codeHdIn G.K 75 71 = true; rw [g.K]; exact Ztq P) (bt3 g) (by kernel_rfl) (pm _ _ _) ?_
 intro f c' l2 hmem
 injection (f c' l2) with hmem
 w_why
 unfold brS at hbs
 cases hsub : Zkw Zz2 (Zb2 stf) esc1 100 0 false with
 | none => rw [hsub] at hbs; cases hbs
 | some ps =>
 rw [hsub] at hbs
 dsimp only at hbs
 by_cases hbd : ps.length ≤ 100 ∧ sz ps ≤ 1000 ∧ (Zb2 stf).length ≤ 1000 ∧ (cat ps).length ≠ 0 ∧ (cat ps == Str.ofString "!") = false
 rotate_left
 ·rw [if_neg hbd] at hbs; cases hbs
 rw [if_pos hbd] at hbs
 obtain ⟨b1, b2, b3, b4, b5⟩ := hbd
 have ho := (Option.some.inj hbs).symm
 subst ho
 refine Zzn (n := n + 1) R.good (code := Zz2) (h := esc1) (ps := ps) (sel := (f, _) :: Zgh 71 q71 l2) (rest := (m, AO.bound "builtin_function_or_method" "list.append" r) :: (r, .list (acc.map (pv S))) :: obs) (by rw [show (R.cx (callEnv (Zig (fd3 11) "cpy313.fnmatch" 506 75) L 76) rfl rfl).G.K = K3 P from g.K]; exact pat50 P)
  (List.Perm.refl _) (List.mem_cons_self ..) ?_ hsub (by lia) (by lia) (by lia) ?_
 ·intro m2 b e
  injection (ps m2 b e) with hsub b1 b2 b4 b5 hK hbs
  refine Zob (c := c') (q := q71 (73, 39)) (names := ["_m"]) (loc := [("_m", some (.ref m2))]) (.tail _ (.head _)) (.tail _ (.tail _ (Zsu hmem))) (fun _ => by kernel_rfl) (fun _ => rfl) (fun _ => rfl) (fun _ => rfl) (fun _ => rfl) (fun _ => rfl) rfl (fun v => by kpf_grow) (fun v => by show ∀ x ∈ [("_m" : Str)], List.lookup x [(Str.ofString "_m", NameKind.local)] = some .local; decide +kernel) (fun v => by show ∀ x ∈ [(Str.ofString "_m", NameKind.local)], x.2 ≠ NameKind.cell; decide +kernel) (by decide +kernel) (fun v => rfl) (fun v => rfl) (fun v => rfl) ?_ rfl
  intro v R2 L2
  injection (v L2)
  w_why
  refine Zra (by k_qdec) ?_
  w_why
  refine Zrn (by k_qdec) (by lia) ?_
  rw [show (⟨(Zb2 stf).cps.extract b e⟩ : Str) = cut (Zb2 stf) b e from rfl]
  have hcut : (cut (Zb2 stf) b e).length ≤ (Zb2 stf).length := by
   show ((Zb2 stf).cps.extract _ _).size ≤ (Zb2 stf).cps.size
   simp; lia
  have hbl : (Str.ofString "\\").length = 1 := by decide +kernel
  w_why
  rotate_left
  ·lia
  refine ⟨fun h => ?_, fun h => ?_⟩
  ·have h0 : cut (Zb2 stf) b e = Str.ofString "" := by
    have : (cut (Zb2 stf) b e).length = 0 := by simpa using h
    have h2 : (cut (Zb2 stf) b e).cps = #[] := Array.eq_empty_of_size_eq_zero this
    show (⟨(cut (Zb2 stf) b e).cps⟩ : Str) = _
    rw [h2]; rfl
   w_why
   ·exact ⟨_, ⟨by rw [h0]; rfl, rfl⟩, .refl⟩
   ·rw [hbl]; decide
  ·w_why
   ·exact ⟨_, ⟨rfl, rfl⟩, .refl⟩
   ·rw [hbl]; lia
 ·have hcl := Zoa ps
  generalize cat ps = T at *
  refine OP1.drp (o' := tob m r S acc l2 obs) (.cons (.perm (List.perm_append_comm_assoc (Zgh 71 q71 l2) [_, _] obs) .refl)) ?_
  obtain ⟨c1, tl, hT⟩ : ∃ c1 tl, T.cps.toList = c1 :: tl := by
   cases h : T.cps.toList with
   | nil => exact absurd (by have := congrArg List.length h; simpa [Str.length] using this) b4
   | cons a b => exact ⟨a, b, rfl⟩
  have hc1 := (Zdz (x := T) (i := 0) (c := c1) (t := tl) (by simpa using hT)).1
  unfold tob
  w_why
  rotate_left
  ·lia
  refine ⟨fun h => ?_, fun _ => ?_⟩
  ·simp at h; exact absurd h b4
  w_why
  refine ⟨fun h => ?_, fun _ => ?_⟩
  ·rw [b5] at h; cases h
  have h1 : (Str.ofString "^").length = 1 := by decide +kernel
  have h2 : (Str.ofString "\\").length = 1 := by decide +kernel
  have h3 := Zdl T (some 1) none
  refine Zag ?_
  refine XV.cut (fun fl σ' => fl = .next ∧ σ' = ⟨Zkq pat S r m ((i + pre.length + 1 : Nat) + 1 : Int) pat.length c (some (.int ((i + pre.length + 1 : Nat) : Int))) (some (.str (Zq4 T))) ch k ck, tob m r S acc l2 obs⟩) ?_ ?_
  ·w_how
   rename_i zq442_1 zq442_2 zq442_3 zq442_4
   injection (jj stf o0 ch k ck l f c' l2 ps T c1 tl zq442_3) with hjj hstf hsl hstl hl0 hd hmem hsub b1 b2 b3 b4 b5 hK hbs hcl hT hc1 zq442_1 zq442_2 h3 zq442_4
   try unfold tob
   w_why
   refine Zaq (c := c1) ?_ (by intro o i; exact ⟨[o, i], by kernel_rfl⟩) (by simp) (by decide) hc1
   w_why
   refine ⟨fun h => ?_, fun h => ?_⟩
   ·have hc33 : c1 = 33 := by rw [Zbu (d := 33) (by decide +kernel)] at h; simpa using h
    have hw : Zq4 T = Str.ofString "^" ++ Zfu T (some 1) none := by unfold Zq4; rw [hT]; simp only [if_pos hc33]
    w_why
    intro sl
    w_why
    ·exact ⟨rfl, by rw [hw]; rfl⟩
    ·rw [h1]; lia
    ·lia
   ·have hc33 : c1 ≠ 33 := by rw [Zbu (d := 33) (by decide +kernel)] at h; simpa using h
    w_why
    refine Zaq (c := c1) ?_ (by intro o i; exact ⟨[o, i], by kernel_rfl⟩) (by simp) (by decide) hc1
    w_why
    refine Zhp (ys := [Str.ofString "^", Str.ofString "["]) ?_
    have hany : ([Str.ofString "^", Str.ofString "["].any fun y => y == (⟨#[c1]⟩ : Str)) = decide (c1 = 94 ∨ c1 = 91) := by
     have e1 : ((Str.ofString "^") == (⟨#[c1]⟩ : Str)) = decide (c1 = 94) := by rw [← Zbu (c := c1) (d := 94) (y := Str.ofString "^") (by decide +kernel)]; exact Bool.beq_comm ..
     have e2 : ((Str.ofString "[") == (⟨#[c1]⟩ : Str)) = decide (c1 = 91) := by rw [← Zbu (c := c1) (d := 91) (y := Str.ofString "[") (by decide +kernel)]; exact Bool.beq_comm ..
     simp only [List.any_cons, List.any_nil, e1, e2, Bool.or_false, Bool.decide_or]
    rw [hany]
    w_why
    refine ⟨fun h => ?_, fun h => ?_⟩
    ·have hw : Zq4 T = Str.ofString "\\" ++ T := by unfold Zq4; rw [hT]; simp only [if_neg hc33]; rw [if_pos (by simpa using h)]
     w_why
     ·exact ⟨rfl, by rw [hw]; rfl⟩
     ·rw [h2]; lia
    ·have hw : Zq4 T = T := by unfold Zq4; rw [hT]; simp only [if_neg hc33]; rw [if_neg (by simpa using h)]
     w_why
     exact ⟨rfl, by rw [hw]; rfl⟩
  rintro fl σ' ⟨rfl, rfl⟩
  have hbi : (Zq4 T).length ≤ 2000 := by
   unfold Zq4
   rw [hT]
   dsimp only
   split
   ·rw [Zbg, h1]; lia
   ·split
    ·rw [Zbg, h2]; lia
    ·lia
  refine Zar ?_
  unfold tob
  w_why
  refine Zbb (id := "list.append") (a := r) (.inl rfl) ?_ (by kernel_rfl)
  w_why
  have k0 : Str.empty.length = 0 := by decide +kernel
  have k1 : (Str.ofString "[").length = 1 := by decide +kernel
  have k2 : (Str.ofString "]").length = 1 := by decide +kernel
  refine ⟨by simp only [Zbg, k0, k1]; decide, ?_⟩
  w_why
  refine ⟨by lia, ?_⟩
  w_why
  refine ⟨by simp only [Zbg, k0, k1]; lia, ?_⟩
  w_why
  refine ⟨by simp only [Zbg, k0, k1, k2]; lia, ?_⟩
  w_why
  refine ⟨by k_qdec, ?_⟩
  refine Zb3 (by k_qdec) (by k_closed) ?_ (by rw [List.length_map]; lia)
  w_why
  rotate_left
  ·simp only [Zbg, k0, k1, k2]; lia
  have e1 : ((i + pre.length + 1 : Nat) : Int) + 1 = ((i + (pre ++ [cc]).length + 1 : Nat) : Int) := by simp; lia
  rw [e1]
  refine hK.out _ _ _ _ _ l2 _ ?_
  unfold tob
  rw [List.map_append]
  exact .refl
theorem Zqz {acc : List (Option Str)} {S : Addr} (h : acc ≠ []) : ∃ x, acc.getLast? = some x ∧ (acc.map (pv S))[acc.length - 1]? = some (pv S x) := by
 refine ⟨acc.getLast h, List.getLast?_eq_some_getLast h, ?_⟩
 rw [List.getElem?_map, ← List.getLast?_eq_getElem?, List.getLast?_eq_some_getLast h]
 rfl
theorem Zwv {T0 T1 T2 T3 T4 T5 T6 T7 T8 T9 : Type} {C0 C1 C2 C3 C4 : T0 → T1 → T2 → T3 → T4 → T5 → T6 → T7 → T8 → T9 → Prop} (a0 : T0) (a1 : T1) (a2 : T2) (a3 : T3) (a4 : T4) (a5 : T5) (a6 : T6) (a7 : T7) (a8 : T8) (a9 : T9) (h0 : C0 a0 a1 a2 a3 a4 a5 a6 a7 a8 a9) (h1 : C1 a0 a1 a2 a3 a4 a5 a6 a7 a8 a9) (h2 : C2 a0 a1 a2 a3 a4 a5 a6 a7 a8 a9) (h3 : C3 a0 a1 a2 a3 a4 a5 a6 a7 a8 a9) (h4 : C4 a0 a1 a2 a3 a4 a5 a6 a7 a8 a9) : ∃ a0 a1 a2 a3 a4 a5 a6 a7 a8 a9, C0 a0 a1 a2 a3 a4 a5 a6 a7 a8 a9 ∧ C1 a0 a1 a2 a3 a4 a5 a6 a7 a8 a9 ∧ C2 a0 a1 a2 a3 a4 a5 a6 a7 a8 a9 ∧ C3 a0 a1 a2 a3 a4 a5 a6 a7 a8 a9 ∧ C4 a0 a1 a2 a3 a4 a5 a6 a7 a8 a9 := ⟨a0, a1, a2, a3, a4, a5, a6, a7, a8, a9, h0, h1, h2, h3, h4⟩
theorem tr_fn {P : Params} {G : Gl} (g : G3 P G) (n : Nat) (pat : Str) (S : Addr) (parts : List (Option Str)) (l0 : List (PK × Addr)) (obs : List (Addr × AO)) (hz : pat.length ≤ 100) (ho : Zhc 200 pat.cps.toList [] = some parts) :
  Fn G (.ref 76) (n + 4) [.str pat, .ref S, .str (Str.ofString ".")] (pt3 l0 ++ obs) fun v o => ∃ r l, v = .ref r ∧ o = (r, .list (parts.map (pv S))) :: (pt3 l ++ obs) := by
 refine Zc3 g ["pat", "STAR", "QUESTION_MARK"] ["res", "add", "i", "n", "c", "j", "stuff", "chunks", "k", "chunk"] [("pat", some (.str pat)), ("STAR", some (.ref S)), ("QUESTION_MARK", some (.str (Str.ofString "."))), ("res", none), ("add", none), ("i", none), ("n", none), ("c", none), ("j", none), ("stuff", none), ("chunks", none), ("k", none), ("chunk", none)] rfl rfl rfl rfl rfl (by kpf_has) (by decide +kernel) (by decide +kernel) (by decide +kernel) (by kernel_rfl) (by kernel_rfl) (by kernel_rfl) ?_ rfl
 intro N R L
 refine XV.opq fun K hKK => ?_
 injection (fun pat S parts l0 obs L K => 3) with g hz ho N hKK
 have hzz : sizeLine = 16777216 := by decide
 refine Zag ?_
 w_why
 intro r
 injection (r)
 w_why
 refine Zt9 (by k_qdec) ?_
 intro m
 injection (m)
 w_why
 with_reducible refine Za7 "i" "n" R.good.h ?_ (by kernel_rfl) (by kernel_rfl)
 w_why
 rotate_left
 ·lia
 refine WL.mono (K' := fun fl σ' => fl = .next ∧ ∃ c j st ch k ck l, σ'.loc = Zkq pat S r m pat.length pat.length c j st ch k ck ∧ Drp σ'.obs (tob m r S parts l obs)) ?_ ?_
 ·refine Zc1 (fun _ _ h => h) (fun q σ => ∃ (i : Nat) (rest : List Nat) (acc : List (Option Str)) (c j st ch k ck : Option V) (l : List (PK × Addr)), pat.cps.toList.drop i = rest ∧ i ≤ pat.length ∧ Zhc q rest acc = some parts ∧ σ.loc = Zkq pat S r m i pat.length c j st ch k ck ∧ Drp σ.obs (tob m r S acc l obs)) ?_ ?_ 200 _ ?_
  ·rintro σ ⟨i, rest, acc, c, j, st, ch, k, ck, l, _, _, h, _⟩; cases h
  ·rintro q ⟨loc0, o0⟩ ⟨i, rest, acc, c, j, st, ch, k, ck, l, hr, hi, hp, hl0, hd⟩
   injection (q loc0 o0 i rest acc c j st ch k ck l) with hr hi hp hl0 hd
   have hl1 : loc0 = _ := hl0
   subst hl1
   refine W.drp hd ?_
   unfold tob
   unfold Zhc at hp
   w_how
   rename_i zq40_1 zq40_2 zq40_3 zq40_4
   injection (r m q o0 i rest acc c j st ch k ck l zq40_1 zq40_2) with hr hi hl0 hd hp zq40_3 zq40_4
   by_cases hal : 100 < acc.length
   ·rw [if_pos hal] at hp; cases hp
   rw [if_neg hal] at hp
   cases hrc : rest with
   | nil =>
    rw [hrc] at hp hr
    have hi2 : i = pat.length := by
     have h1 := congrArg List.length hr
     have h2 : pat.cps.toList.length = pat.length := by simp [Str.length]
     simp at h1
     simp [Str.length] at *
     lia
    have hacc : acc = parts := Option.some.inj hp
    w_why
    refine ⟨fun h => ?_, fun h => ?_⟩
    ·simp at h; omega
    ·w_why
     refine ⟨rfl, c, j, st, ch, k, ck, l, ?_, ?_⟩
     ·rw [hi2]
     ·rw [← hacc]; exact .refl
   | cons c0 t =>
    rw [hrc] at hp hr
    obtain ⟨hat, hr1, hlt⟩ := Zdz hr
    dsimp only at hp
    w_why
    refine ⟨fun _ => ?_, fun h => ?_⟩
    rotate_left
    ·simp at h; omega
    w_why
    refine Zaq (c := c0) ?_ (by intro o i; exact ⟨[o, i], by kernel_rfl⟩) (by simp) (by lia) hat
    w_why
    refine ⟨fun hc => ?_, fun hc => ?_⟩
    ·have hc' : c0 = 42 := by rw [Zbu (d := 42) (by decide +kernel)] at hc; simpa using hc
     subst hc'
     rw [if_pos rfl] at hp
     w_why
     rotate_left
     ·rw [List.length_map]; lia
     cases acc with
     | nil =>
      refine ⟨fun h => (by cases h), fun _ => ?_⟩
      refine ⟨fun _ => ?_, fun h => (by cases h)⟩
      w_why
      refine Zbb (id := "list.append") (a := r) (.inl rfl) ?_ (by kernel_rfl)
      w_why
      refine ⟨by k_qdec, ?_⟩
      refine Zb3 (by k_qdec) (by k_closed) ?_ (by simp)
      w_why
      exact Zwv (i + 1) t [none] _ _ _ _ _ _ l hr1 hlt hp rfl .refl
     | cons a0 acc0 =>
      obtain ⟨x, hx1, hx2⟩ := Zqz (S := S) (acc := a0 :: acc0) (by simp)
      injection (t a0 acc0 x) with hr1 hr hrc hd hal hp hx1 hx2
      generalize hac : a0 :: acc0 = acc at *
      have hne : acc.length ≠ 0 := by rw [← hac]; simp
      refine ⟨fun _ => ?_, fun h => ?_⟩
      rotate_left
      ·rw [← hac] at h; cases h
      w_why
      refine Zef (x := pv S x) (by k_qdec) ?_ (by intro o i; exact ⟨[o, i], by kernel_rfl⟩) (by decide) (by rw [List.length_map]; lia) (by decide) ?_
      rotate_left
      ·have e : ((-1 : Int) + ((acc.map (pv S)).length : Nat)).toNat = acc.length - 1 := by rw [List.length_map]; lia
       rw [e]; exact hx2
      cases x with
      | none =>
       simp only [pv]
       rw [if_pos hx1] at hp
       w_why
       refine ⟨fun _ => ?_, fun h => (by cases h)⟩
       w_why
       refine ⟨fun h => (by cases h), fun _ => ?_⟩
       w_why
       exact Zwv (i + 1) t acc _ _ _ _ _ _ l hr1 hlt hp rfl .refl
      | some sx =>
       simp only [pv]
       rw [if_neg (by rw [hx1]; simp)] at hp
       w_why
       refine ⟨fun h => (by cases h), fun _ => ?_⟩
       refine ⟨fun _ => ?_, fun h => (by cases h)⟩
       w_why
       refine Zbb (id := "list.append") (a := r) (.inl rfl) ?_ (by kernel_rfl)
       w_why
       refine ⟨by k_qdec, ?_⟩
       refine Zb3 (by k_qdec) (by k_closed) ?_ (by rw [List.length_map]; lia)
       w_why
       refine Zwv (i + 1) t (acc ++ [none]) _ _ _ _ _ _ l hr1 hlt hp rfl ?_
       rw [List.map_append]
       exact .refl
    ·have hc' : c0 ≠ 42 := by rw [Zbu (d := 42) (by decide +kernel)] at hc; simpa using hc
     rw [if_neg hc'] at hp
     w_why
     refine ⟨fun hc2 => ?_, fun hc2 => ?_⟩
     ·have hc' : c0 = 63 := by rw [Zbu (d := 63) (by decide +kernel)] at hc2; simpa using hc2
      subst hc'
      rw [if_pos rfl] at hp
      w_why
      refine Zbb (id := "list.append") (a := r) (.inl rfl) ?_ (by kernel_rfl)
      w_why
      refine ⟨by k_qdec, ?_⟩
      refine Zb3 (by k_qdec) (by k_closed) ?_ (by rw [List.length_map]; lia)
      w_why
      refine Zwv (i + 1) t (acc ++ [some (Str.ofString ".")]) _ _ _ _ _ _ l hr1 hlt hp rfl ?_
      rw [List.map_append]
      exact .refl
     ·have hc2' : c0 ≠ 63 := by rw [Zbu (d := 63) (by decide +kernel)] at hc2; simpa using hc2
      rw [if_neg hc2'] at hp
      w_why
      refine ⟨fun hc3 => ?_, fun hc3 => ?_⟩
      ·have hc' : c0 = 91 := by rw [Zbu (d := 91) (by decide +kernel)] at hc3; simpa using hc3
       subst hc'
       rw [if_pos rfl] at hp
       cases hbt : Zgp t with
       | none => rw [hbt] at hp; cases hp
       | some pr =>
       obtain ⟨st0, t2⟩ := pr
       rw [hbt] at hp
       dsimp only at hp
       cases hbs : brS ⟨st0.toArray⟩ with
       | none => rw [hbs] at hp; cases hp
       | some o =>
       rw [hbs] at hp
       dsimp only at hp
       obtain ⟨pre, cc, hcs, hst0, ht, hpre⟩ := Zi5 hbt
       obtain ⟨hn33, hn91, _, _⟩ := Zhr cc hcs
       have hsz : st0.length = pre.length + 1 := by rw [hst0]; simp
       have hlen2 : i + 1 + st0.length + 1 ≤ pat.length := by
        have h1 := congrArg List.length hr1
        have h2 : pat.cps.toList.length = pat.length := by simp [Str.length]
        rw [ht] at h1
        simp only [List.length_drop, List.length_append, List.length_cons] at h1
        lia
       have hd2 : pat.cps.toList.drop (i + 1 + st0.length + 1) = t2 := by
        rw [← List.drop_drop, ← List.drop_drop, hr1, ht, hsz]
        rw [← List.drop_drop, List.drop_left]; rfl
       refine Zwg g N R L pat S r m (i + 1) acc pre cc t2 o l obs hz (by lia) (by rw [hr1]; exact ht) hcs hpre (by rw [← hst0]; exact hbs) _ j st ch k ck _ ⟨fun j st ch k ck l o' hd' => ?_⟩
       rw [← hst0]
       w_why
       exact Zwv (i + 1 + st0.length + 1) t2 (acc ++ [some o]) _ _ _ _ _ _ l hd2 hlen2 hp rfl hd'
      ·have hc3' : c0 ≠ 91 := by rw [Zbu (d := 91) (by decide +kernel)] at hc3; simpa using hc3
       rw [if_neg hc3'] at hp
       by_cases hs8 : c0 ∈ stock8
       ·rw [if_pos hs8] at hp
        w_why
        refine Zbb (id := "list.append") (a := r) (.inl rfl) ?_ (by kernel_rfl)
        w_why
        refine Zk5 (rest := []) (R.good.less (show 1 ≤ n + 3 by k_units)) (Zyr g 0 c0 hs8 _) (by rw [List.append_nil]) ?_
        rintro v rfl
        w_why
        refine ⟨by k_qdec, ?_⟩
        refine Zb3 (by k_qdec) (by k_closed) ?_ (by rw [List.length_map]; lia)
        w_why
        refine Zwv (i + 1) t (acc ++ [some (Zw3 c0)]) _ _ _ _ _ _ l hr1 hlt hp rfl ?_
        rw [List.map_append]
        exact .refl
       ·rw [if_neg hs8] at hp; cases hp
  ·exact Zwv 0 _ [] none none none none none none l0 rfl (Nat.zero_le _) ho rfl .refl
 ·rintro fl ⟨loc0, o0⟩ ⟨rfl, c, j, st, ch, k, ck, l, hl0, hd⟩
  have hl1 : loc0 = _ := hl0
  subst hl1
  refine Zar ?_
  refine W.drp hd ?_
  unfold tob
  w_why
  refine ⟨by simp, ?_⟩
  w_why
  ·exact ei2 r l rfl rfl
  ·k_strUnr
theorem Ziu {P : Params} {G : Gl} (g : G3 P G) (n : Nat) (pat : Str) (parts : List (Option Str)) (out : Str) (l0 : List (PK × Addr)) (obs : List (Addr × AO)) (hz : pat.length ≤ 100) (ho : Zhc 200 pat.cps.toList [] = some parts) (hpz : parts.length ≤ 100) (hj : pj parts = some out) :
  Fn G (.ref 57) (n + 5) [.str pat] (pt3 l0 ++ obs) fun v o => ∃ l, v = .str out ∧ o = pt3 l ++ obs := by
 refine Zc3 g ["pat"] ["STAR", "parts"] [("pat", some (.str pat)), ("STAR", none), ("parts", none)] rfl rfl rfl rfl rfl (by kpf_grow) (by decide +kernel) (by decide +kernel) (by decide +kernel) (by kernel_rfl) (by kernel_rfl) (by kernel_rfl) ?_ rfl
 intro N R L
 refine XV.opq fun K hKK => ?_
 injection (fun pat parts out l0 obs L K => 4) with g hz ho hpz hj N hKK
 refine Zag ?_
 w_why
 refine Zor ?_
 intro S
 w_why
 refine Zqm (R.good.less (show n + 4 ≤ n + 4 by simp)) (tr_fn g n pat S parts l0 obs hz ho) ?_
 rintro v o ⟨r, l, rfl, rfl⟩
 w_why
 refine Zqm (R.good.less (show 1 ≤ n + 4 by k_units)) (Zvp g 0 r S parts out (pt3 l ++ obs) hpz hj) ?_
 rintro v o ⟨rfl, rfl⟩
 w_why
 ·exact ei1 l rfl rfl
 ·exact .cons .refl
noncomputable def dsL (c : Nat) (d : Bool) : List Nat := if d then [91, c, 93] else [c]
noncomputable def Zzy (c1 : Nat) (d1 : Bool) (c2 : Nat) (d2 : Bool) : List Nat := 42 :: (dsL c1 d1 ++ 42 :: (dsL c2 d2 ++ [42]))
theorem Ztb : ∀ c ∈ stock8, brS ⟨([c] : List Nat).toArray⟩ = some (Zl7 c true) := by decide +kernel
theorem Zfp {k : Nat} {t : List Nat} {acc : List (Option Str)} (h : acc.length ≤ 100) (hl : acc.getLast? ≠ some none) : Zhc (k + 1) (42 :: t) acc = Zhc k t (acc ++ [none]) := by
 rw [Zhc, if_neg (by k_units), if_pos rfl, if_neg hl]
theorem Zgf {k : Nat} {t : List Nat} {acc : List (Option Str)} {c : Nat} (hc : c ∈ stock8) (d : Bool) (h : acc.length ≤ 100) : Zhc (k + 1) (dsL c d ++ t) acc = Zhc k t (acc ++ [some (Zl7 c d)]) := by
 obtain ⟨h33, h91, h42, h63⟩ := Zhr c hc
 cases d with
 | true =>
  have hb : Zgp (c :: 93 :: t) = some ([c], t) := by
   unfold Zgp
   dsimp only
   rw [if_neg h33, if_pos ⟨hc, rfl⟩]
  show Zhc (k + 1) (91 :: c :: 93 :: t) acc = _
  rw [Zhc, if_neg (by k_units), if_neg (by decide), if_neg (by decide), if_pos rfl, hb]
  dsimp only
  rw [Ztb c hc]
 | false =>
  show Zhc (k + 1) (c :: t) acc = _
  rw [Zhc, if_neg (by k_units), if_neg h42, if_neg h63, if_neg h91, if_pos hc]
  rfl
theorem Zyf (c1 : Nat) (h1 : c1 ∈ stock8) (d1 : Bool) (c2 : Nat) (h2 : c2 ∈ stock8) (d2 : Bool) : Zhc 200 (Zzy c1 d1 c2 d2) [] = some (Zgm c1 d1 c2 d2) := by
 unfold Zzy
 rw [Zfp (by simp) (by simp), Zgf h1 d1 (by simp), Zfp (by simp) (by simp), Zgf h2 d2 (by simp), Zfp (by simp) (by simp), Zhc, if_neg (by simp)]
 rfl
noncomputable def dsS (c : Nat) (d : Bool) : Str := if d then Str.ofString "[" ++ ⟨#[c]⟩ ++ Str.ofString "]" else ⟨#[c]⟩
noncomputable def Zxj (c1 : Nat) (d1 : Bool) (c2 : Nat) (d2 : Bool) : Str := Str.ofString "*" ++ dsS c1 d1 ++ Str.ofString "*" ++ dsS c2 d2 ++ Str.ofString "*"
theorem Zq5 (c1 : Nat) (d1 : Bool) (c2 : Nat) (d2 : Bool) : (Zxj c1 d1 c2 d2).cps.toList = Zzy c1 d1 c2 d2 := by
 have e1 : (Str.ofString "*").cps = #[42] := by decide +kernel
 have e2 : (Str.ofString "[").cps = #[91] := by decide +kernel
 have e3 : (Str.ofString "]").cps = #[93] := by decide +kernel
 unfold Zxj dsS Zzy dsL
 cases d1 <;> cases d2 <;> simp [Str.cps_append, e1, e2, e3]
theorem Zs8 (c1 : Nat) (h1 : c1 ∈ stock8) (d1 : Bool) (c2 : Nat) (h2 : c2 ∈ stock8) (d2 : Bool) : pj (Zgm c1 d1 c2 d2) = some (Znw c1 d1 c2 d2) ∧ Zme (Znw c1 d1 c2 d2) = true ∧ Zqs (Znw c1 d1 c2 d2) = ⟨#[c1, c2]⟩ := by
 have h := Zrw c1 h1 c2 h2 d1 d2
 unfold Zbc at h
 simp only [Bool.and_eq_true, beq_iff_eq] at h
 obtain ⟨⟨a, b⟩, c⟩ := h
 refine ⟨?_, b, c⟩
 unfold Znw
 cases hp : pj (Zgm c1 d1 c2 d2) with
 | none => rw [hp] at a; cases a
 | some x => rfl
noncomputable def Zmp (dress : Int) (k : Nat) : Bool := (dress.fdiv ((2 : Int) ^ k)).fmod 2 != 0
noncomputable def dsd (sg : List Nat) (dress : Int) (k : Nat) : Str := dsS (sg.getD k 0) (Zmp dress k)
noncomputable def drs (sg : List Nat) (dress : Int) : List V := (List.range 5).map fun k => V.str (dsd sg dress k)
theorem Zya : ∀ k < 4, ∀ j < k + 1, prs.take (k * (k + 1) / 2 + j + 1) = prs.take (k * (k + 1) / 2 + j) ++ [(j, k + 1)] := by decide
theorem Zpz (c : Nat) (d : Bool) : (dsS c d).length ≤ 3 := by
 have e2 : (Str.ofString "[").length = 1 := by decide +kernel
 have e3 : (Str.ofString "]").length = 1 := by decide +kernel
 have e4 : (⟨#[c]⟩ : Str).length = 1 := rfl
 unfold dsS
 cases d <;> simp only [Bool.false_eq_true, if_false, if_true, Zbg, e2, e3, e4] <;> k_units
theorem Ztl {P : Params} {G : Gl} (g : G3 P G) (n : Nat) (sa : Addr) (sg : List Nat) (hsl : sg.length = 5) (hsg : ∀ c ∈ sg, c ∈ stock8) (dress : Int) (hd0 : 0 ≤ dress) (hd1 : dress < 2 ^ 30) (l0 : List (PK × Addr)) (obs : List (Addr × AO)) :
  Fn G (.ref 234) (n + 6) [.ref sa, .int dress] ((sa, .list (sg.map ch)) :: (pt3 l0 ++ obs)) fun v o => ∃ pa l, v = .ref pa ∧ o = (pa, .list (prs.map (Zbk sg))) :: (sa, .list (sg.map ch)) :: (pt3 l ++ obs) := by
 refine Zk4 g ["signs", "dress"] ["dressed", "pairs", "high", "low"] [("signs", some (.ref sa)), ("dressed", none), ("pairs", none), ("high", none), ("low", none)] (fun L => [(L + 1, .cell (some (.int dress)))]) rfl rfl rfl rfl rfl (by kpf_rest) (by decide +kernel) (by decide +kernel) (by decide +kernel) (by kernel_rfl) (by kernel_rfl) (by kernel_rfl) ?_ (fun L => by kernel_rfl) (by kernel_rfl)
 intro N R L
 refine XV.opq fun K hKK => ?_
 injection (fun sa sg dress l0 obs L K => 5) with g hsl hsg hd0 hd1 N hKK
 have hzz : sizeLine = 16777216 := by decide
 kpf_tidy
 refine Zag ?_
 refine Za3 ["rank", "sign"] [("dress", L + 1)] (fun _ _ h => h) ?_ (by kernel_rfl) (by kernel_rfl) (by intro _; kernel_rfl) (by kernel_rfl) (by kernel_rfl) (by decide +kernel)
 w_why
 intro e ite
 injection (e ite)
 w_why
 intro L2 acc I
 injection (L2 acc I)
 refine ⟨Zit (by k_qdec), ?_⟩
 simp only [List.map_cons, List.map_nil]
 refine Zn6 (fun _ _ h => h) ?_ (Zlx (l := sg.map ch) R.good.h) (fun k => V.str (dsd sg dress k)) (fun k loc o => ∃ o1 o2, loc = ([("rank", o1), ("sign", o2)] : Loc) ∧ o = (L + 1, .cell (some (.int dress))) :: (sa, .list (sg.map ch)) :: (pt3 l0 ++ obs)) (by k_bytesUnr) ?_ ?_ (fun _ _ h => h.tail) ?_ ?_
 ·rw [List.length_map]; lia
 ·exact ei2 _ _ rfl rfl
 ·intro k loc o hI
  refine ex2 loc o hI fun o1 o2 => ?_
  k_qdec
 ·intro k loc o O O2 l hk hI
  refine ex2 loc o hI fun o1 o2 => ?_
  injection (k loc o O O2 l o1 o2) with hk hI
  have hk5 : k < 5 := by simpa [hsl] using hk
  have e1 : (sg.map ch).getD k V.none = ch (sg.getD k 0) := Zah (by lia)
  rw [e1]
  w_how
  rename_i xq1 xq2
  injection (xq1) with xq2
  refine Zhk R.good.h ?_ (by kernel_rfl)
  have hside : (2 : Int) ^ ((k : Nat) : Int).toNat ≠ 0 ∧ ((2 : Int) ^ ((k : Nat) : Int).toNat).natAbs < 1073741824 ∧ (Builtin.Int.intBits 2 : Int) * (k : Int) ≤ 2 ^ 27 := by
   rcases k with _ | _ | _ | _ | _ | k <;> first | decide +kernel | lia
  have hb2 : (Str.ofString "[").length = 1 := by decide +kernel
  have hb3 : (Str.ofString "]").length = 1 := by decide +kernel
  have hb4 : (⟨#[sg.getD k 0]⟩ : Str).length = 1 := rfl
  w_why
  ·refine ⟨fun h => ?_, fun h => ?_⟩
   ·have hb : Zmp dress k = true := by unfold Zmp; rw [Int.toNat_natCast] at h; exact h
    w_why
    ·refine ⟨?_, _, by k_bytesUnr, _, _, rfl, rfl⟩
     unfold dsd
     rw [hb]
     rfl
    all_goals (simp only [Zbg, hb2, hb3, hb4]; decide)
   ·have hb : Zmp dress k = false := by unfold Zmp; rw [Int.toNat_natCast] at h; exact h
    w_why
    refine ⟨?_, _, by k_bytesUnr, _, _, rfl, rfl⟩
    unfold dsd
    rw [hb]
    rfl
  all_goals first | exact hside.1 | exact hside.2.1 | exact hside.2.2 | simp | decide
 ·intro loc o hI
  refine ex2 loc o hI fun o1 o2 => ?_
  injection (loc o o1 o2) with hI
  rw [List.length_map, hsl]
  w_why
  intro pa
  injection (pa)
  w_why
  refine Zdt ?_
  intro rg
  injection (rg)
  w_why
  refine Zbn (by k_listUnr) ?_ (by decide)
  intro it
  injection (it)
  have fx : ∀ (X : List (Addr × AO)) (l : List (PK × Addr)), (X ++ (pt3 l ++ obs)).Perm (pt3 l ++ (X ++ obs)) := fun X l => List.perm_append_comm_assoc X (pt3 l) obs
  refine Zbv .name (fun _ _ h => h) R.good.h 4 (fun k loc o => ∃ oh ol l, loc = ([("signs", some (.ref sa)), ("dressed", some (.ref acc)), ("pairs", some (.ref pa)), ("high", oh), ("low", ol)] : Loc) ∧ o = (pa, .list ((prs.take (k * (k + 1) / 2)).map (Zbk sg))) :: (acc, .list (drs sg dress)) :: (L + 1, .cell (some (.int dress))) :: (sa, .list (sg.map ch)) :: (pt3 l ++ obs)) (by k_listUnr) (by decide) ?_ ?_ ?_
  ·exact ei3 _ _ l0 rfl rfl
  ·intro k loc o O hk hI
   refine ex3 loc o hI fun oh ol l => ?_
   injection (k loc o O oh ol l) with hk hI
   rw [show (1 : Int) + (k : Int) * 1 = ((k + 1 : Nat) : Int) by lia]
   w_how
   rename_i xq3 xq4 xq5 xq6
   injection (xq3 xq4) with xq5 xq6
   w_why
   refine Zfc ?_
   intro rg2
   injection (rg2)
   w_why
   refine Zbn (by k_listUnr) ?_ (Zd8 (by k_units) (by lia))
   intro it2
   injection (it2)
   refine Zbv .name (fun _ _ h => h) R.good.h (k + 1) (fun j loc o => ∃ ol l, loc = ([("signs", some (.ref sa)), ("dressed", some (.ref acc)), ("pairs", some (.ref pa)), ("high", some (.int ((k + 1 : Nat) : Int))), ("low", ol)] : Loc) ∧ o = (it, O) :: (pa, .list ((prs.take (k * (k + 1) / 2 + j)).map (Zbk sg))) :: (acc, .list (drs sg dress)) :: (L + 1, .cell (some (.int dress))) :: (sa, .list (sg.map ch)) :: (pt3 l ++ obs)) (by k_listUnr) (Ztp (by k_units)) ?_ ?_ ?_
   ·exact ei2 _ l rfl rfl
   ·intro j loc o O2 hj hI
    refine ex2 loc o hI fun ol l => ?_
    injection (j loc o O2 ol l) with hj hI
    rw [show (0 : Int) + (j : Int) * 1 = (j : Int) by simp]
    have dat : ∀ i, i < 5 → (drs sg dress)[i]? = some (V.str (dsd sg dress i)) := fun i hi => by
     unfold drs
     rw [List.getElem?_map, List.getElem?_range hi]; rfl
    have hdl : (drs sg dress).length = 5 := by simp [drs]
    have cj : sg.getD j 0 ∈ stock8 := hsg _ (Zam (by lia))
    have ck : sg.getD (k + 1) 0 ∈ stock8 := hsg _ (Zam (by lia))
    obtain ⟨g1, g2, g3⟩ := Zs8 _ cj (Zmp dress j) _ ck (Zmp dress (k + 1))
    have s1 : (Str.ofString "*").length = 1 := by decide +kernel
    have s2 := Zpz (sg.getD j 0) (Zmp dress j)
    have s3 := Zpz (sg.getD (k + 1) 0) (Zmp dress (k + 1))
    have hpt : (Zxj (sg.getD j 0) (Zmp dress j) (sg.getD (k + 1) 0) (Zmp dress (k + 1))).length ≤ 100 := by
     unfold Zxj
     simp only [Zbg, s1]
     lia
    w_how
    rename_i xq7 xq8 xq9 xq10
    injection (xq7 xq8) with xq9 xq10
    w_why
    refine Zai (x := .str (dsd sg dress j)) (by k_qdec) ?_ (by intro o i; exact ⟨[o, i], by kernel_rfl⟩) (by k_units) (by lia) (by simpa using dat j (by lia))
    w_why
    refine Zai (x := .str (dsd sg dress (k + 1))) (by k_qdec) ?_ (by intro o i; exact ⟨[o, i], by kernel_rfl⟩) (by k_units) (by lia) (by simpa using dat (k + 1) (by lia))
    w_why
    ·refine Zea (sel := pt3 l ++ []) (rest := (it2, O2) :: (it, O) :: (pa, .list ((prs.take (k * (k + 1) / 2 + j)).map (Zbk sg))) :: (acc, .list (drs sg dress)) :: (L + 1, .cell (some (.int dress))) :: (sa, .list (sg.map ch)) :: obs) R.good
      (Ziu g n (Zxj (sg.getD j 0) (Zmp dress j) (sg.getD (k + 1) 0) (Zmp dress (k + 1))) _ _ l [] hpt (by rw [Zq5]; exact Zyf _ cj _ _ ck _) (by simp [Zgm]) g1) (by rw [List.append_nil]; exact fx [_, _, _, _, _, _] l) ?_
     rintro v o ⟨l', rfl, rfl⟩
     refine ⟨(it2, O2) :: (it, O) :: (pa, .list ((prs.take (k * (k + 1) / 2 + j)).map (Zbk sg))) :: (acc, .list (drs sg dress)) :: (L + 1, .cell (some (.int dress))) :: (sa, .list (sg.map ch)) :: (pt3 l' ++ obs), .perm (by rw [List.append_nil]; exact (fx [_, _, _, _, _, _] l').symm) .refl, ?_⟩
     w_why
     refine Zed (R.good.less (show 2 ≤ n + 5 by k_units)) (Zvn g 0 _ g2 []) ?_
     rintro r rfl
     rw [g3]
     w_why
     ·refine ⟨_, l', rfl, ?_⟩
      have hp := Zya k hk j (by k_units)
      rw [show k * (k + 1) / 2 + (j + 1) = k * (k + 1) / 2 + j + 1 by lia, hp, List.map_append]
      rfl
     ·have h10 : prs.length = 10 := rfl
      rw [List.length_map, List.length_take, h10]; omega
    all_goals (unfold dsd; simp only [Zbg, s1]; lia)
   ·intro loc o hI
    refine ex2 loc o hI fun ol l => ?_
    w_why
    refine ⟨_, _, l, rfl, ?_⟩
    have e : (k + 1) * (k + 1 + 1) / 2 = k * (k + 1) / 2 + (k + 1) := by
     rcases k with _ | _ | _ | _ | k <;> first | rfl | lia
    rw [e]
  ·intro loc o hI
   refine ex3 loc o hI fun oh ol l => ?_
   w_why
   ·exact ei2 pa l rfl rfl
   ·exact .keep (.cons (.cons .refl))
section
variable {C : Cx} {σ : St}
theorem Zxs {i : Int} {K : V → St → Prop} (k : K (.int i) σ) : CF C (.ty "int") [.int i] σ K := by
 injection (C σ i K) with k
 intro s fv vs H rf rl
 o_facts rf
 revert rl
 intro rl0
 refine VRs.consK rl0 fun _ _ r rl e0 => ?_
 subst e0
 o_facts rl
 o_facts r
 exact .of (call_int_int (Pst.here H (.int _ _) k))
theorem Zna {a b : Bool} {K : V → St → Prop} (k : K (.bool (a == b)) σ) : OP2 C VR (compareOp .Eq) (.bool a) (.bool b) σ K := fun s v u H r1 r2 => by
 o_facts r1; o_facts r2
 exact .of (PyProof.Rows.eq_bool (Pst.here H (.bool _) k))
theorem Zk8 {a b : Addr} {l m : List V} {K : V → St → Prop} (hl : LkO a (.list l) σ.obs) (hm : LkO b (.list m) σ.obs) (k : ∀ c, K (.ref c) ⟨σ.loc, (c, .list (l ++ m)) :: σ.obs⟩) (hz : l.length + m.length ≤ sizeLine) : OP2 C VR (binaryOp .Add) (.ref a) (.ref b) σ K := by
 injection (C σ a b l m K) with hl hm k hz
 intro s v u H r1 r2
 o_facts r1; o_facts r2
 refine Zb4 (H.list hl) fun vs n e1 r1 => ?_
 refine Zb4 (H.list hm) fun ws n2 e2 r2 => ?_
 have l1 := r1.length
 have l2 := r2.length
 have e : vs.toArray ++ ws.toArray = (vs ++ ws).toArray := by simp
 refine .of (concat_meets ⟨_, e1, rfl⟩ ⟨_, e2, rfl⟩ noFill_list_add seq_list_add PySem.F.slot_list_add PySem.F.entry_list_add (PySem.F.args_list_add_2 _ _) (list_addW a b vs.toArray ws.toArray n n2 none none #[] #[] (by simp; lia)) ⟨e1, e2, ?_⟩)
 rw [e]
 exact ⟨_, _, k _, .ref _, H.alloc (n := s.toks) (fun b o e => Heap.get?_push_of_some _ e) (Nat.le_refl _) (Heap.get?_push_size _ rfl) (.list 0 ((r1.append r2).mono (.of_ext fun b o e => Heap.get?_push_of_some _ e))), .of_ext fun b o e => Heap.get?_push_of_some _ e⟩
theorem Ztv {h : Heap} : ∀ {l : List Int} {vs : List Value}, VRs h (l.map V.int) vs → ∃ xs : List (Int × Tok), vs = xs.map (fun p => Value.int p.1 p.2) ∧ xs.map (·.1) = l
 | [], _, .nil => ⟨[], rfl, rfl⟩
 | a :: l, _, .cons r rl => by
  obtain ⟨xs, e1, e2⟩ := Ztv rl
  refine VR.intK r fun t e0 => ?_
  subst e0
  exact ⟨(_, t) :: xs, by rw [e1]; rfl, by rw [List.map_cons, e2]⟩
theorem Zt7 {B : Int} (hB : 0 ≤ B) : ∀ (l : List Int), (∀ x ∈ l, 0 ≤ x ∧ x ≤ B) → 0 ≤ l.sum ∧ l.sum ≤ B * l.length
 | [], _ => by simp
 | x :: l, h => by
  have ih := Zt7 hB l fun y hy => h y (.tail _ hy)
  have hx := h x (.head _)
  simp only [List.sum_cons, List.length_cons]
  have e : B * ((l.length + 1 : Nat) : Int) = B * (l.length : Int) + B := by push_cast; rw [Int.mul_add, Int.mul_one]
  rw [e]
  lia
theorem Zxd {a : Addr} {l : List Int} {K : V → St → Prop} (hl : LkO a (.list (l.map V.int)) σ.obs) (k : K (.int l.sum) σ) (hb : ∀ x ∈ l, 0 ≤ x ∧ x ≤ 1000000) (hz : l.length ≤ 100) (hh : C.A.handled = none) : CF C (.bi "sum") [.ref a] σ K := by
 injection (C σ a l K) with hl k hb hz hh
 intro s fv vs H rf rl
 o_facts rf
 revert rl
 intro rl0
 refine VRs.consK rl0 fun _ _ r rl e0 => ?_
 subst e0
 o_facts rl
 o_facts r
 refine Zb4 (H.list hl) fun ws n e r => ?_
 obtain ⟨xs, e1, e2⟩ := Ztv r
 have hlen : xs.length = l.length := by have := congrArg List.length e2; simpa using this
 have hit : ws.toArray = intItems xs.toArray := by rw [e1]; simp [intItems]
 have hps : ∀ j, preSum (numAt xs.toArray) j = (l.take j).sum := fun j => by rw [preSum_eq]; rw [show xs.toArray.toList = xs from rfl, e2]
 have hnum : ∀ i, numAt xs.toArray i = l.getD i 0 := by
  intro i
  unfold numAt
  have : (xs.map (·.1))[i]? = l[i]? := by rw [e2]
  simp only [List.getElem?_map] at this
  simp only [List.getElem?_toArray, List.getD_eq_getElem?_getD]
  rw [← this]
 refine .of (sum_intList hh ⟨_, e, rfl, n, by rw [hit]⟩ (fun j hj => ?_) fun h' tk t' hk => ?_)
 ·rw [hnum, hps]
  have hj' : j < l.length := by simpa [hlen] using hj
  have h1 := hb (l.getD j 0) (by simp [List.getD, List.getElem?_eq_getElem hj'])
  have h2 := Zt7 (by decide : (0 : Int) ≤ 1000000) (l.take (j + 1)) fun x hx => hb x (List.mem_of_mem_take hx)
  have h3 : (l.take (j + 1)).length ≤ 100 := by rw [List.length_take]; lia
  unfold InLong
  lia
 ·rw [hps]
  have hs : xs.toArray.size = l.length := by simpa using hlen
  rw [hs, List.take_length]
  exact ⟨_, _, k, .int _ _, H.ext hk tk, .of_ext hk⟩
end
theorem Zds {α : Type} : ∀ (l : List α) (i : Nat) (d : α), i < l.length → (l.getD i d :: l.eraseIdx i).Perm l
 | a :: l, 0, d, _ => by simp
 | a :: l, i + 1, d, h => by
  have ih := Zds l i d (by simpa using h)
  show ((l.getD i d) :: a :: l.eraseIdx i).Perm (a :: l)
  exact (List.Perm.swap ..).trans (ih.cons a)
theorem Zd1 (pick : Int) : ∀ k, k ≤ 5 → ((Zbs pick k).2.2 ++ (Zbs pick k).2.1).Perm Ztt
 | 0, _ => .refl _
 | k + 1, h => by
  have ih := Zd1 pick k (by lia)
  have h0 : 0 ≤ (Zbs pick k).1.fmod (8 - k : Int) := Int.fmod_nonneg_of_pos _ (by lia)
  have h1 : (Zbs pick k).1.fmod (8 - k : Int) < 8 - k := Int.fmod_lt_of_pos _ (by lia)
  have hl := Zcp pick k (by lia)
  have ep := Zds (Zbs pick k).2.1 ((Zbs pick k).1.fmod (8 - k : Int)).toNat 0 (by omega)
  simp only [Zbs, List.append_assoc, List.singleton_append]
  exact (ep.append_left _).trans ih
theorem Zmi (pick : Int) : ∀ c ∈ Zg0 pick, c ∈ stock8 := fun c hc => (Zd1 pick 5 (by decide)).mem_iff.mp (List.mem_append_left _ hc)
theorem Zio (pick : Int) : (Zg0 pick).length = 5 := Zb8 pick 5 (by decide)
theorem Zrb (pick : Int) : (Zg0 pick).Nodup := (List.nodup_append.mp ((Zd1 pick 5 (by decide)).nodup_iff.mpr (by decide))).1
theorem Zle (c : Nat → Int) : ∀ k, k ≤ 4 → Zfi c k = Znk ((List.range 4).map fun j => ((c j).fmod (j + 2 : Int)).toNat) k
 | 0, _ => rfl
 | k + 1, h => by
  have ih := Zle c k (by lia)
  have e : ((List.range 4).map fun j => ((c j).fmod (j + 2 : Int)).toNat).getD k 0 = ((c k).fmod (k + 2 : Int)).toNat := by
   have hk : k < (List.range 4).length := by rw [List.length_range]; lia
   rw [List.getD, List.getElem?_map, List.getElem?_range (by lia)]; rfl
  simp only [Zfi, Znk, e, ih]
theorem Zl9 (c : Nat → Int) : ((List.range 4).map fun j => ((c j).fmod (j + 2 : Int)).toNat) ∈ cellsAll := by
 have hb : ∀ j : Nat, ((c j).fmod (j + 2 : Int)).toNat < j + 2 := fun j => by
  have h0 : 0 ≤ (c j).fmod (j + 2 : Int) := Int.fmod_nonneg_of_pos _ (by lia)
  have h1 : (c j).fmod (j + 2 : Int) < j + 2 := Int.fmod_lt_of_pos _ (by lia)
  omega
 have h0 := hb 0; have h1 := hb 1; have h2 := hb 2; have h3 := hb 3
 have e : ((List.range 4).map fun j => ((c j).fmod (j + 2 : Int)).toNat) = [((c 0).fmod (((0 : Nat) : Int) + 2)).toNat, ((c 1).fmod (((1 : Nat) : Int) + 2)).toNat, ((c 2).fmod (((2 : Nat) : Int) + 2)).toNat, ((c 3).fmod (((3 : Nat) : Int) + 2)).toNat] := rfl
 rw [e]
 generalize ((c 0).fmod (((0 : Nat) : Int) + 2)).toNat = a at *
 generalize ((c 1).fmod (((1 : Nat) : Int) + 2)).toNat = b at *
 generalize ((c 2).fmod (((2 : Nat) : Int) + 2)).toNat = d at *
 generalize ((c 3).fmod (((3 : Nat) : Int) + 2)).toNat = f at *
 unfold cellsAll
 simp only [List.mem_flatMap, List.mem_map, List.mem_range]
 exact ⟨a, h0, b, h1, d, h2, f, h3, rfl⟩
theorem Zpg (c : Nat → Int) : Zxt (Zfi c 4) = true := by
 rw [Zle c 4 (by decide)]
 exact List.all_eq_true.mp Zuq _ (Zl9 c)
theorem Zta (pick : Int) : Cd (Zg0 pick) := ⟨Zio pick, fun x hx => (by decide : ∀ c ∈ stock8, c < 256) x (Zmi pick x hx), Zrb pick⟩
section
set_option maxRecDepth 1000000
noncomputable def permsAll : List (List Nat) := cellsAll.map fun c => Znk c 4
theorem Zjm : (permsAll.all fun rk => permsAll.contains (Zcf rk)) = true := by decide +kernel
theorem Znm : (permsAll.all fun rk => (Zek rk).all fun q => decide (q.length ≤ 100) && q.all fun r => decide (r < 5)) = true := by decide +kernel
theorem Ztg : (permsAll.all fun rk => decide (rk.length = 5) && rk.all fun r => decide (r < 5)) = true := by decide +kernel
structure Pm (rk : List Nat) : Prop where
 mem : rk ∈ permsAll
 len : rk.length = 5
 lt : ∀ r ∈ rk, r < 5
 ex : ∀ q ∈ Zek rk, q.length ≤ 100 ∧ ∀ r ∈ q, r < 5
theorem Pm.of {rk : List Nat} (h : rk ∈ permsAll) : Pm rk := by
 have h1 := List.all_eq_true.mp Znm rk h
 have h2 := List.all_eq_true.mp Ztg rk h
 simp only [Bool.and_eq_true, List.all_eq_true, decide_eq_true_eq] at h1 h2
 exact ⟨h, h2.1, h2.2, h1⟩
theorem Pm.turned {rk : List Nat} (h : Pm rk) : Pm (Zcf rk) := .of (by
 have := List.all_eq_true.mp Zjm rk h.mem
 simpa using this)
theorem Pm.laid (c : Nat → Int) : Pm (Zfi c 4) := .of (by
 rw [Zle c 4 (by decide)]
 exact List.mem_map.mpr ⟨_, Zl9 c, rfl⟩)
theorem Zry (rk : List Nat) : (Zek rk).length ≤ 4 := by
 unfold Zek
 rw [List.length_map]; exact Zis rk
end
noncomputable abbrev Zty (script drawn cells pairs low high ranks wrong torn middle row rows times : Option V) : Loc :=
 [("script", script), ("drawn", drawn), ("cells", cells), ("pairs", pairs), ("low", low), ("high", high), ("ranks", ranks), ("wrong", wrong), ("torn", torn), ("middle", middle), ("row", row), ("rows", rows), ("times", times)]
noncomputable def lob (L pa ca : Addr) (nm sg : Option V) (codes : List Nat) (B : List (Addr × AO)) : List (Addr × AO) :=
 (L + 1 + 1 + 1, .cell nm) :: (L + 1 + 1, .cell (some (.ref ca))) :: (L + 1, .cell sg) :: (pa, .list (prs.map (Zbk codes))) :: (ca, .list (codes.map vi)) :: B
noncomputable def lawB (k : Nat) : List Stmt := (fd3 29).body.drop k
noncomputable abbrev LFd : FuncData := Zig (fd3 29) "law_rx0085_03" 722 260
theorem Drp.tl {a b : List (Addr × AO)} (h : Drp a b) : ∀ {x : Addr × AO} {l : List (Addr × AO)}, b = x :: l → Drp a l := by
 induction h with
 | refl => intro x l e; subst e; exact .cons .refl
 | keep h _ => intro x l e; cases e; exact .cons h
 | cons h ih => intro x l e; exact .cons (ih e)
 | perm p h ih => intro x l e; exact .perm p (ih e)
theorem Zsc {P : Params} {G : Gl} (g : G3 P G) (N : Nm G gl3 bl3) {n : Nat} (R : Ar G (n + 7)) (L : Addr) (fr : Frs) (hfr : FrIn (R.cx (callEnvC LFd L 261) rfl rfl) fr) (pa ca : Addr) (nm sgv : Option V) (codes : List Nat) (c : Cd codes) (rk : List Nat) (hrk : Pm rk)
  (res : List (List Nat) × Nat) (hlaw : Zc8 5 rk (Zek rk) 0 = some res) (hres : res.1 = []) (hbool : ∀ tr : Int, (tr = 0 ↔ Zoy (Zey rk) = 0) → (decide ((res.2 : Int) < 2) == (tr == 0)) = true)
  (tr : Int) (htr : tr = 0 ↔ Zoy (Zey rk) = 0) (script drawn cells low high ranks wrong middle rows times : Option V) (B : List (Addr × AO)) (K : Fl → St → Prop)
  (hK : Hid (∀ loc o, Drp o (B ++ Zax fr) → K (.ret (.bool true)) ⟨loc, o⟩)) :
  XV (R.cx (callEnvC LFd L 261) rfl rfl) (execs (lawB 12) (callEnvC LFd L 261)) ⟨Zty script drawn cells (some (.ref pa)) low high ranks wrong (some (.int tr)) middle (some (Zf8 codes rk)) rows times, lob L pa ca nm sgv codes (B ++ Zax fr)⟩ K := by
 injection (fun L fr pa ca nm sgv codes rk res tr script drawn cells low high ranks wrong middle rows times B K => 7) with g N hfr c hrk hlaw hres hbool htr hK
 have hzz : sizeLine = 16777216 := by decide
 unfold lob
 refine Zag ?_
 with_reducible refine Za7 "rows" "times" R.good.h ?_ (by kernel_rfl) (by kernel_rfl)
 have hvr : ∀ q : List Nat, Zf8 codes q = .bytes (q.map (cd codes)) := fun _ => rfl
 have hcl := c.len
 have pmid : ∀ (x1 x2 x3 x4 x5 : Addr × AO) (l : List (Addr × AO)), (x1 :: x2 :: x3 :: x4 :: x5 :: l).Perm (x5 :: x1 :: x2 :: x3 :: x4 :: l) := fun x1 x2 x3 x4 x5 l => List.perm_middle (l₁ := [x1, x2, x3, x4])
 rw [hvr]
 w_why
 refine Zea (sel := [(ca, .list (codes.map vi))]) (rest := (L + 1 + 1 + 1, .cell nm) :: (L + 1 + 1, .cell (some (.ref ca))) :: (L + 1, .cell sgv) :: (pa, .list (prs.map (Zbk codes))) :: (B ++ Zax fr)) (R.good.less (show 2 ≤ n + 7 by k_units)) (Zqj g 0 ca codes rk c hrk.len hrk.lt []) (pmid ..) ?_
 rintro v o ⟨b, rfl, rfl⟩
 injection (b)
 refine ⟨(b, .list ((Zek rk).map (Zf8 codes))) :: lob L pa ca nm sgv codes (B ++ Zax fr), .keep (.perm (pmid ..).symm .refl), ?_⟩
 unfold lob
 w_why
 refine WL.mono (K' := fun fl σ' => fl = .next ∧ ∃ row rb, σ'.loc = Zty script drawn cells (some (.ref pa)) low high ranks wrong (some (.int tr)) middle row (some (.ref rb)) (some (.int res.2)) ∧ Drp σ'.obs ((rb, .list []) :: lob L pa ca nm sgv codes (B ++ Zax fr))) ?_ ?_
 ·refine Zc1 (fun _ _ h => h) (fun q σ => ∃ (m t : Nat) (rk : List Nat) (rb : Addr), q = m + 1 ∧ m + t = 5 ∧ Pm rk ∧ Zc8 m rk (Zek rk) t = some res ∧ σ.loc = Zty script drawn cells (some (.ref pa)) low high ranks wrong (some (.int tr)) middle (some (Zf8 codes rk)) (some (.ref rb)) (some (.int t)) ∧ Drp σ.obs ((rb, .list ((Zek rk).map (Zf8 codes))) :: lob L pa ca nm sgv codes (B ++ Zax fr))) ?_ ?_ 6 _ ?_
  ·rintro σ ⟨m, t, rk, rb, h, _⟩; cases h
  ·rintro q ⟨loc0, o0⟩ ⟨m, t, rk, rb, hq, hmt, hrk, hlaw, hl0, hd⟩
   injection (q loc0 o0 m t rk rb) with hq hmt hrk hlaw hl0 hd
   have hq' : q = m := by lia
   subst hq'
   have hl1 : loc0 = _ := hl0
   subst hl1
   refine W.drp hd ?_
   unfold lob
   have hxl := Zry rk
   rw [hvr]
   have stop : (Zek rk).isEmpty = true ∨ 4 ≤ t → res = (Zek rk, t) := by
    intro h
    cases q with
    | zero => exact (Option.some.inj hlaw).symm
    | succ q =>
     unfold Zc8 at hlaw
     rw [if_pos (by simpa using h)] at hlaw
     exact (Option.some.inj hlaw).symm
   w_how
   rename_i xq1 xq2 xq3 xq4
   injection (xq1 xq2) with xq3 xq4
   w_why
   rotate_left
   ·rw [List.length_map]; lia
   refine ⟨fun h1 => ?_, fun h1 => ?_⟩
   ·w_why
    refine ⟨fun h2 => ?_, fun h2 => ?_⟩
    ·w_why
     refine ⟨fun _ => ?_, fun h => (by cases h)⟩
     have ht4 : t < 4 := by have := of_decide_eq_true h2; lia
     have hne : (Zek rk).isEmpty = false := by simpa using h1
     cases q with
     | zero => omega
     | succ q =>
     unfold Zc8 at hlaw
     rw [if_neg (by rw [hne]; simp; k_units)] at hlaw
     dsimp only at hlaw
     cases hgr : Zzx (Zek rk) with
     | none => rw [hgr] at hlaw; cases hlaw
     | some r' =>
     rw [hgr] at hlaw
     dsimp only at hlaw
     by_cases hrt : r' = Zcf rk
     case neg => rw [if_neg hrt] at hlaw; cases hlaw
     rw [if_pos hrt] at hlaw
     w_why
     refine Zk5 (sel := [(ca, .list (codes.map vi))]) (rest := (rb, .list ((Zek rk).map (Zf8 codes))) :: (L + 1 + 1 + 1, .cell nm) :: (L + 1 + 1, .cell (some (.ref ca))) :: (L + 1, .cell sgv) :: (pa, .list (prs.map (Zbk codes))) :: (B ++ Zax fr)) (R.good.less (show 2 ≤ n + 7 by k_units)) (Zq1 g 0 ca codes rk c hrk.len hrk.lt []) (List.perm_middle (l₁ := [_, _, _, _, _])) ?_
     rintro v rfl
     w_why
     refine Zp1 (fr := fr) (sel := [(rb, .list ((Zek rk).map (Zf8 codes))), (pa, .list (prs.map (Zbk codes))), (ca, .list (codes.map vi))]) (rest := (L + 1 + 1 + 1, .cell nm) :: (L + 1 + 1, .cell (some (.ref ca))) :: (L + 1, .cell sgv) :: B) R.good (Zr8 g n rb ca pa codes c (Zek rk) r' [] hrk.ex (by lia) hgr) hfr ?_ ?_
     ·exact Zb0 [[_], [_], [_], [_], [_], [_], B, Zax fr] [0, 1, 2, 3, 4, 5, 6, 7] [0, 4, 5, 7, 1, 2, 3, 6] rfl
     rintro v o ⟨rfl, rfl⟩
     refine W.drp (o' := (rb, .list ((Zek rk).map (Zf8 codes))) :: lob L pa ca nm sgv codes (B ++ Zax fr)) (.perm ?_ .refl) ?_
     ·exact Zb0 [[_], [_], [_], Zax fr, [_], [_], [_], B] [0, 1, 2, 3, 4, 5, 6, 7] [0, 4, 5, 6, 1, 2, 7, 3] rfl
     unfold lob
     rw [hvr]
     w_why
     refine ⟨fun h => ?_, fun _ => ?_⟩
     ·rw [hrt] at h; simp at h
     w_why
     with_reducible refine Za7 "rows" "times" R.good.h ?_ (by kernel_rfl) (by kernel_rfl)
     w_why
     refine Zea (sel := [(ca, .list (codes.map vi))]) (rest := (rb, .list ((Zek rk).map (Zf8 codes))) :: (L + 1 + 1 + 1, .cell nm) :: (L + 1 + 1, .cell (some (.ref ca))) :: (L + 1, .cell sgv) :: (pa, .list (prs.map (Zbk codes))) :: (B ++ Zax fr)) (R.good.less (show 2 ≤ n + 7 by k_units)) (Zqj g 0 ca codes (Zcf rk) c hrk.turned.len hrk.turned.lt []) (List.perm_middle (l₁ := [_, _, _, _, _])) ?_
     rintro v o ⟨b2, rfl, rfl⟩
     refine ⟨(b2, .list ((Zek (Zcf rk)).map (Zf8 codes))) :: lob L pa ca nm sgv codes (B ++ Zax fr), .keep (.perm (List.perm_middle (l₁ := [_, _, _, _, _])).symm (.cons .refl)), ?_⟩
     unfold lob
     w_why
     exact ⟨q, t + 1, Zcf rk, b2, rfl, by lia, hrk.turned, hlaw, rfl, .refl⟩
    ·refine ⟨fun h => (by cases h), fun _ => ?_⟩
     have ht4 : 4 ≤ t := by have := of_decide_eq_false h2; lia
     have hr := stop (.inr ht4)
     have hex : Zek rk = [] := by rw [hr] at hres; exact hres
     w_why
     refine ⟨rfl, some (Zf8 codes rk), rb, ?_, ?_⟩
     ·rw [hr]; rfl
     ·rw [hex]; exact .refl
   ·refine ⟨fun h => (by cases h), fun _ => ?_⟩
    have hne : (Zek rk).isEmpty = true := by simpa using h1
    have hr := stop (.inl hne)
    have hex : Zek rk = [] := by rw [hr] at hres; exact hres
    w_why
    refine ⟨rfl, some (Zf8 codes rk), rb, ?_, ?_⟩
    ·rw [hr]; rfl
    ·rw [hex]; exact .refl
  ·exact ⟨5, 0, rk, b, rfl, rfl, hrk, hlaw, rfl, .refl⟩
 ·rintro fl ⟨loc0, o0⟩ ⟨rfl, row, rb, hl0, hd⟩
  have hl1 : loc0 = _ := hl0
  subst hl1
  refine Zar ?_
  refine W.drp hd ?_
  unfold lob
  w_why
  intro e
  refine Zng (by k_qdec) (by k_qdec) ?_ (by intro j a b h; simp at h) R.room
  w_why
  refine ⟨fun _ => ?_, fun h => (by cases h)⟩
  w_why
  refine Zna ?_
  rw [hbool tr htr]
  w_why
  refine hK.out _ _ ?_
  exact .cons (.cons (.cons (.cons (.cons (.cons (.cons .refl))))))
noncomputable def mob (L pa ca sa cl : Addr) (nm : Option V) (sg : List Nat) (cs : List Int) (B : List (Addr × AO)) : List (Addr × AO) :=
 (L + 1 + 1 + 1, .cell nm) :: (L + 1 + 1, .cell (some (.ref ca))) :: (L + 1, .cell (some (.ref sa))) :: (pa, .list (prs.map (Zbk sg))) :: (ca, .list (sg.map vi)) :: (sa, .list (sg.map ch)) :: (cl, .list (cs.map V.int)) :: B
noncomputable def Zdd (w : List (Nat × Nat)) (p : Nat × Nat) (m : Nat) : Bool := !(w.contains (p.1, m)) || !(w.contains (m, p.2))
noncomputable def Zvc (w l : List (Nat × Nat)) : Nat := (l.flatMap fun p => (List.range' (p.1 + 1) (p.2 - (p.1 + 1))).filter (Zdd w p)).length
noncomputable def vp2 (e : Nat × Nat) : V := .tup [vi e.1, vi e.2]
theorem Zlv (sg : List Nat) {k : Nat} (h : k < 10) : (prs.map (Zbk sg)).getD k V.none = .tup [vi (prs.getD k (0, 0)).1, vi (prs.getD k (0, 0)).2, .str ⟨#[cd sg (prs.getD k (0, 0)).1, cd sg (prs.getD k (0, 0)).2]⟩] := by
 rw [List.getD, List.getElem?_map, List.getElem?_eq_getElem (show k < prs.length from h)]
 simp [List.getD, List.getElem?_eq_getElem (show k < prs.length from h), Zbk]
theorem Zqk : ∀ k < 10, (prs.getD k (0, 0)).1 < 5 ∧ (prs.getD k (0, 0)).2 < 5 ∧ (prs.getD k (0, 0)).1 < (prs.getD k (0, 0)).2 := by decide
theorem Zx7 (a b : Nat) : (⟨#[a]⟩ : Str) ++ ⟨#[b]⟩ = ⟨#[a, b]⟩ := by
 show (⟨(⟨#[a]⟩ : Str).cps ++ (⟨#[b]⟩ : Str).cps⟩ : Str) = _
 rfl
noncomputable def teq (a b : Nat) : V → Bool
 | .tup l => Zq3 l [vi a, vi b]
 | _ => false
theorem Zkj (a b : Nat) : ∀ w : List (Nat × Nat), (w.map vp2).any (teq a b) = w.contains (a, b)
 | [] => rfl
 | p :: w => by
  rw [List.map_cons, List.any_cons, Zkj a b w, List.contains_cons]
  congr 1
  obtain ⟨x, y⟩ := p
  show (((x : Int) == (a : Int)) && (((y : Int) == (b : Int)) && true)) = ((a, b) == (x, y))
  rw [Bool.and_true, Bool.eq_iff_iff]
  simp only [Bool.and_eq_true, beq_iff_eq, Prod.mk.injEq]
  k_units
theorem Zoh {a b : Nat} {w : List (Nat × Nat)} (y : V) (h : y ∈ w.map vp2) : Cmp y (.tup [vi a, vi b]) (teq a b y) := by
 injection (a b w y) with h
 obtain ⟨p, _, rfl⟩ := List.mem_map.mp h
 refine .tup rfl fun j x y hx hy => ?_
 rcases j with _ | _ | j
 ·cases hx; cases hy; exact .int _ _
 ·cases hx; cases hy; exact .int _ _
 ·simp at hx
theorem Zvy {P : Params} {G : Gl} (g : G3 P G) (N : Nm G gl3 bl3) {n : Nat} (R : Ar G (n + 7)) (L : Addr) (fr : Frs) (hfr : FrIn (R.cx (callEnvC LFd L 261) rfl rfl) fr) (pa ca sa cl : Addr) (sg : List Nat) (c : Cd sg) (cs : List Int) (hcs : cs.length = 5)
  (script drawn : Option V) (B : List (Addr × AO)) (K : Fl → St → Prop) (hK : Hid (∀ loc o, Drp o (B ++ Zax fr) → K (.ret (.bool true)) ⟨loc, o⟩)) :
  XV (R.cx (callEnvC LFd L 261) rfl rfl) (execs (lawB 5) (callEnvC LFd L 261)) ⟨Zty script drawn (some (.ref cl)) (some (.ref pa)) none none none none none none none none none, mob L pa ca sa cl none sg cs (B ++ Zax fr)⟩ K := by
 injection (fun L fr pa ca sa cl sg cs script drawn B K => 7) with g N hfr c hcs hK
 have hzz : sizeLine = 16777216 := by decide
 have hcl := c.len
 have hpl : prs.length = 10 := rfl
 unfold mob
 refine Zag ?_
 refine XV.cut (fun fl σ' => fl = .next ∧ σ'.loc = Zty script drawn (some (.ref cl)) (some (.ref pa)) none none none none none none none none none ∧ Drp σ'.obs (mob L pa ca sa cl none sg cs (B ++ Zax fr))) ?_ ?_
 ·w_how
  rename_i xq1 xq2
  injection (xq1) with xq2
  refine x_if ?_
  refine Zl0 ?_
  refine Zf9 ["low", "high", "pair"] [("signs", L + 1)] (fun _ _ h => h) ?_ (by kernel_rfl) (by intro _; kernel_rfl) (by kernel_rfl) (by kernel_rfl) (by decide +kernel)
  w_why
  intro it L2 acc I
  injection (it L2 acc I)
  refine ⟨Zaz (by k_qdec), ?_⟩
  simp only [List.map_cons, List.map_nil]
  refine Zev (fun _ _ h => h) ?_ (Zav (l := prs.map (Zbk sg)) .tuple R.good.h) (fun _ => false) (fun _ => V.none) (fun k loc o => ∃ o1 o2 o3, loc = ([("low", o1), ("high", o2), ("pair", o3)] : Loc) ∧ o = mob L pa ca sa cl none sg cs (B ++ Zax fr)) (by k_bytesUnr) ?_ ?_ (fun _ _ h => .tail h) ?_ ?_
  ·rw [List.length_map, hpl]; decide
  ·exact ei3 _ _ _ rfl rfl
  ·intro k loc o hI
   refine ex3 loc o hI fun o1 o2 o3 => ?_
   unfold mob; k_qdec
  ·intro k loc o O l hk hI
   refine ex3 loc o hI fun o1 o2 o3 => ?_
   have hk10 : k < 10 := by simpa [hpl] using hk
   obtain ⟨p1, p2, _⟩ := Zqk k hk10
   rw [Zlv sg hk10]
   generalize prs.getD k (0, 0) = e at *
   unfold mob
   w_how
   rename_i xq3 xq4 xq5 xq6 xq7
   injection (k loc o O l o1 o2 o3 e xq4 xq5) with hk hI hk10 p1 p2 xq3 xq6 xq7
   refine Zhv R.good.h ?_ (by kernel_rfl)
   have sat : ∀ i, i < 5 → (sg.map ch)[i]? = some (ch (cd sg i)) := fun i hi => Zg6 (by k_units) ch
   w_why
   refine Zai (x := ch (cd sg e.1)) (by k_qdec) ?_ (by intro o i; exact ⟨[o, i], by kernel_rfl⟩) (by k_units) (by k_units) (by simpa using sat e.1 p1)
   w_why
   refine Zai (x := ch (cd sg e.2)) (by k_qdec) ?_ (by intro o i; exact ⟨[o, i], by kernel_rfl⟩) (by k_units) (by k_units) (by simpa using sat e.2 p2)
   w_why
   ·refine ⟨?_, fun h => (by cases h), fun _ => ?_⟩
    ·show ((⟨#[cd sg e.1, cd sg e.2]⟩ : Str) != (⟨#[cd sg e.1]⟩ : Str) ++ ⟨#[cd sg e.2]⟩) = false
     rw [Zx7]; simp
    ·k_cls
     exact ⟨_, by k_bytesUnr, _, _, _, rfl, rfl⟩
   ·show (1 + 1 : Nat) ≤ sizeLine
    decide
  ·intro loc o hI
   refine ex3 loc o hI fun o1 o2 o3 => ?_
   have he : List.map (fun _ : Nat => V.none) (List.filter (fun _ => false) (List.range (List.map (Zbk sg) prs).length)) = [] := by simp
   rw [he]
   unfold mob
   w_why
   ·refine ⟨fun h => (by cases h), fun _ => ?_⟩
    w_why
    exact ⟨rfl, rfl, .cons .refl⟩
   ·decide
 rintro fl ⟨loc0, o0⟩ ⟨rfl, hl0, hd⟩
 injection (loc0 o0) with hl0 hd
 have hl1 : loc0 = _ := hl0
 subst hl1
 refine Zar ?_
 refine W.drp hd ?_
 unfold mob
 w_why
 generalize hrk0 : Zfi (cs.getD · 0) 4 = rk
 have hrk : Pm rk := by rw [← hrk0]; exact Pm.laid _
 have hlaw : Zxt rk = true := by rw [← hrk0]; exact Zpg _
 refine Zea (sel := [(cl, .list (cs.map V.int))]) (rest := (L + 1 + 1 + 1, .cell none) :: (L + 1 + 1, .cell (some (.ref ca))) :: (L + 1, .cell (some (.ref sa))) :: (pa, .list (prs.map (Zbk sg))) :: (ca, .list (sg.map vi)) :: (sa, .list (sg.map ch)) :: (B ++ Zax fr)) (R.good.less (show 1 ≤ n + 7 by k_units)) (Zr2 g 0 cl cs hcs []) (List.perm_middle (l₁ := [_, _, _, _, _, _])) ?_
 rintro v o ⟨rb, rfl, rfl⟩
 injection (rk rb) with hrk0 hrk hlaw
 rw [hrk0]
 refine ⟨(rb, .list (rk.map vi)) :: mob L pa ca sa cl none sg cs (B ++ Zax fr), .keep (.perm (List.perm_middle (l₁ := [_, _, _, _, _, _])).symm .refl), ?_⟩
 unfold mob
 have hrl := hrk.len
 have hrlt := hrk.lt
 w_why
 refine Zf9 ["rank"] [("signs", L + 1)] (fun _ _ h => h) ?_ (by kernel_rfl) (by intro _; kernel_rfl) (by kernel_rfl) (by kernel_rfl) (by decide +kernel)
 w_why
 intro it L2 acc I
 injection (it L2 acc I)
 refine ⟨Zaz (by k_qdec), ?_⟩
 simp only [List.map_cons, List.map_nil]
 refine Za1 (fun _ _ h => h) ?_ (Zav (l := rk.map vi) .name R.good.h) (fun k => ch ((rk.map (cd sg)).getD k 0)) (fun k loc o => ∃ o1, loc = ([("rank", o1)] : Loc) ∧ o = (rb, .list (rk.map vi)) :: mob L pa ca sa cl none sg cs (B ++ Zax fr)) (by k_bytesUnr) ?_ ?_ (fun _ _ h => .tail h) ?_ ?_
 ·rw [List.length_map]; k_units
 ·exact ei1 _ rfl rfl
 ·intro k loc o hI
  refine ex1 loc o hI fun o1 => ?_
  k_qdec
 ·intro k loc o O l hk hI
  refine ex1 loc o hI fun o1 => ?_
  have hk5 : k < rk.length := by simpa using hk
  have e1 : (rk.map vi).getD k V.none = vi (rk.getD k 0) := Zah hk5
  have e2 : (rk.map (cd sg)).getD k 0 = cd sg (rk.getD k 0) := Zah hk5
  have h5 : rk.getD k 0 < 5 := hrlt _ (Zam hk5)
  rw [e1, e2]
  unfold mob
  w_how
  w_why
  refine Zai (x := ch (cd sg (rk.getD k 0))) (by k_qdec) ?_ (by intro o i; exact ⟨[o, i], by kernel_rfl⟩) (by k_units) (by k_units) (by rw [Int.toNat_natCast]; exact Zg6 (by k_units) ch)
  k_cls
  exact ⟨rfl, _, by k_bytesUnr, _, rfl, rfl⟩
 intro loc o hI
 refine ex1 loc o hI fun o1 => ?_
 injection (loc o o1) with hI
 rw [List.length_map, show rk.length = (rk.map (cd sg)).length by rw [List.length_map], Zap ch 0, Zmg]
 unfold mob
 w_why
 refine Zh9 (l := (rk.map (cd sg)).map fun c => (⟨#[c]⟩ : Str)) (by k_listUnr) ?_ ?_
 rotate_left
 ·simp only [Zj9, List.length_map, hrl, Zbh]; decide
 rw [Zbh, Zxf]
 w_why
 generalize hnm : (⟨(rk.map (cd sg)).toArray⟩ : Str) = nmS
 have hnl : nmS.length = 5 := by
  rw [← hnm]
  show ((rk.map (cd sg)).toArray).size = 5
  simp [hrl]
 refine Za3 ["low", "high", "pair"] [("name", L + 1 + 1 + 1)] (fun _ _ h => h) ?_ (by kernel_rfl) (by kernel_rfl) (by intro _; kernel_rfl) (by kernel_rfl) (by kernel_rfl) (by decide +kernel)
 w_why
 intro it3 L3 acc3 I3
 injection (nmS it3 L3 acc3 I3) with hnm hnl
 refine ⟨Zaz (by k_qdec), ?_⟩
 simp only [List.map_cons, List.map_nil]
 refine Zev (fun _ _ h => h) ?_ (Zav (l := prs.map (Zbk sg)) .tuple R.good.h) (fun k => (prs.map fun e => !(Za6 e.1 e.2 rk)).getD k false) (fun k => (prs.map vp2).getD k V.none) (fun k loc o => ∃ o1 o2 o3, loc = ([("low", o1), ("high", o2), ("pair", o3)] : Loc) ∧ o = (rb, .list (rk.map vi)) :: mob L pa ca sa cl (some (.str nmS)) sg cs (B ++ Zax fr)) (by k_bytesUnr) ?_ ?_ (fun _ _ h => .tail h) ?_ ?_
 ·rw [List.length_map, hpl]; decide
 ·exact ei3 _ _ _ rfl rfl
 ·intro k loc o hI
  refine ex3 loc o hI fun o1 o2 o3 => ?_
  unfold mob; k_qdec
 ·intro k loc o O l hk hI
  refine ex3 loc o hI fun o1 o2 o3 => ?_
  have hk10 : k < 10 := by simpa [hpl] using hk
  have hkp : k < prs.length := hk10
  obtain ⟨p1, p2, _⟩ := Zqk k hk10
  have e1 : (prs.map fun e => !(Za6 e.1 e.2 rk)).getD k false = !(Za6 (prs.getD k (0, 0)).1 (prs.getD k (0, 0)).2 rk) := Zah hkp
  have e2 : (prs.map vp2).getD k V.none = vp2 (prs.getD k (0, 0)) := Zah hkp
  rw [Zlv sg hk10, e1, e2]
  generalize prs.getD k (0, 0) = e at *
  unfold mob
  w_how
  rename_i xq8 xq9 xq10 xq11 xq12
  injection (k loc o O l o1 o2 o3 e xq9 xq10) with hk hI hk10 hkp p1 p2 xq8 e1 e2 xq11 xq12
  refine Zhv R.good.h ?_ (by kernel_rfl)
  w_why
  refine Zed (R.good.less (show 1 ≤ n + 7 by k_units)) (Zml g 0 (cd sg e.1) (cd sg e.2) nmS (by k_units) []) ?_
  have htk := Zmd c p1 p2 hrlt
  rw [hnm] at htk
  rintro r rfl
  rw [htk]
  w_why
  refine ⟨rfl, fun _ => ?_, fun _ => ?_⟩
  ·w_why
   exact ⟨rfl, _, by k_bytesUnr, _, _, _, rfl, rfl⟩
  ·k_cls
   exact ⟨_, by k_bytesUnr, _, _, _, rfl, rfl⟩
 intro loc o hI
 refine ex3 loc o hI fun o1 o2 o3 => ?_
 injection (loc o o1 o2 o3) with hI
 rw [List.length_map, Zhe (fun e : Nat × Nat => !(Za6 e.1 e.2 rk)) vp2 V.none prs]
 have hw : prs.filter (fun e => !(Za6 e.1 e.2 rk)) = Zey rk := rfl
 rw [hw]
 generalize hwr : Zey rk = w
 have hwl : w.length ≤ 10 := by rw [← hwr]; exact List.length_filter_le _ prs
 have hwm : ∀ e ∈ w, e.1 < 5 ∧ e.2 < 5 ∧ e.1 < e.2 := fun e he => by
  rw [← hwr] at he
  exact (by decide : ∀ e ∈ prs, e.1 < 5 ∧ e.2 < 5 ∧ e.1 < e.2) e (List.mem_filter.mp he).1
 unfold mob
 w_why
 intro it4
 injection (w it4) with hwr hwl hwm
 refine Zbr (fun _ _ h => h) (Zav (l := w.map vp2) .tuple R.good.h) (fun k loc o => ∃ lo hi mi, loc = Zty script drawn (some (.ref cl)) (some (.ref pa)) lo hi (some (.ref rb)) (some (.ref acc3)) (some (.int (Zvc w (w.take k)))) mi none none none ∧ o = (acc3, .list (w.map vp2)) :: (rb, .list (rk.map vi)) :: mob L pa ca sa cl (some (.str nmS)) sg cs (B ++ Zax fr)) (by k_listUnr) ?_ ?_ ?_ ?_
 ·exact ei3 _ _ _ rfl rfl
 ·intro k loc o hI
  refine ex3 loc o hI fun lo hi mi => ?_
  k_qdec
 ·intro k loc o O hk hI
  refine ex3 loc o hI fun lo hi mi => ?_
  have hk5 : k < w.length := by simpa using hk
  have e1 : (w.map vp2).getD k V.none = vp2 (w.getD k (0, 0)) := Zah hk5
  obtain ⟨p1, p2, p3⟩ := hwm (w.getD k (0, 0)) (Zam hk5)
  injection (k loc o O lo hi mi) with hk hI hk5 e1 p1 p2 p3
  have et : w.take (k + 1) = w.take k ++ [w.getD k (0, 0)] := by rw [List.take_add_one, getD_some (d := (0, 0)) hk5]; rfl
  have hts : Zvc w (w.take (k + 1)) = Zvc w (w.take k) + ((List.range' ((w.getD k (0, 0)).1 + 1) ((w.getD k (0, 0)).2 - ((w.getD k (0, 0)).1 + 1))).filter (Zdd w (w.getD k (0, 0)))).length := by
   rw [et]
   unfold Zvc
   rw [List.flatMap_append, List.length_append]
   simp
  rw [e1, show vp2 (w.getD k (0, 0)) = .tup [vi (w.getD k (0, 0)).1, vi (w.getD k (0, 0)).2] from rfl]
  generalize hT : Zvc w (w.take k) = T at *
  generalize w.getD k (0, 0) = e at *
  unfold mob
  w_how
  rename_i xq13 xq14 xq15 xq16
  injection (T e xq13 xq14) with hT hI e1 p1 p2 p3 et hts xq15 xq16
  refine Zhk R.good.h ?_ (by kernel_rfl)
  w_why
  refine Zdt ?_
  intro rg
  injection (rg)
  refine Zbn (by k_listUnr) ?_ (PySem.small_one (by k_units) (by k_units) (by k_units) (by k_units))
  intro it5
  injection (it5)
  refine Zbv .name (fun _ _ h => h) R.good.h (e.2 - (e.1 + 1)) (fun j loc o => ∃ mi, loc = Zty script drawn (some (.ref cl)) (some (.ref pa)) (some (vi e.1)) (some (vi e.2)) (some (.ref rb)) (some (.ref acc3)) (some (.int ((T + ((List.range' (e.1 + 1) j).filter (Zdd w e)).length : Nat) : Int))) mi none none none ∧ o = (it4, O) :: (acc3, .list (w.map vp2)) :: (rb, .list (rk.map vi)) :: mob L pa ca sa cl (some (.str nmS)) sg cs (B ++ Zax fr)) (by k_listUnr) (by rw [rangeSize_one]; split <;> k_units) ?_ ?_ ?_
  ·exact ei1 _ rfl rfl
  ·intro j loc o O5 hj hI
   refine ex1 loc o hI fun mi => ?_
   injection (j loc o O5 mi) with hj hI
   rw [show (e.1 : Int) + 1 + (j : Int) * 1 = ((e.1 + 1 + j : Nat) : Int) by k_units]
   have hfj : ((List.range' (e.1 + 1) (j + 1)).filter (Zdd w e)).length = ((List.range' (e.1 + 1) j).filter (Zdd w e)).length + (if Zdd w e (e.1 + 1 + j) = true then 1 else 0) := by
    rw [List.range'_1_concat, List.filter_append, List.length_append]
    by_cases h : Zdd w e (e.1 + 1 + j) = true
    ·simp [h]
    ·simp [h]
   rw [hfj]
   generalize hm : e.1 + 1 + j = mm at *
   unfold mob
   w_how
   rename_i xq17 xq18 xq19 xq20
   injection (mm xq17 xq18) with hm hfj xq19 xq20
   w_why
   refine Zdm (teq e.1 mm) (by k_qdec) ?_ (fun y hy => Zoh y hy) R.room
   rw [Zkj]
   w_why
   have yes : Zdd w e mm = true → ∀ X : Nat, ((T + (X + if Zdd w e mm = true then 1 else 0) : Nat) : Int) = ((T + X : Nat) : Int) + 1 := fun h X => by rw [if_pos h]; k_units
   refine ⟨fun h1 => ?_, fun h1 => ?_⟩
   ·w_why
    refine Zdm (teq mm e.2) (by k_qdec) ?_ (fun y hy => Zoh y hy) R.room
    rw [Zkj]
    w_why
    refine ⟨fun h2 => ?_, fun h2 => ?_⟩
    ·w_why
     refine ⟨fun h => (by cases h), fun _ => ?_⟩
     w_why
     have htc : Zdd w e mm = false := by unfold Zdd; rw [h1, h2]; rfl
     refine ⟨some (vi mm), ?_, rfl⟩
     rw [htc]
     rfl
    ·have htc : Zdd w e mm = true := by unfold Zdd; rw [h2, Bool.or_true]
     refine ⟨fun _ => ?_, fun h => (by cases h)⟩
     w_why
     refine ⟨some (vi mm), ?_, rfl⟩
     rw [yes htc]
   ·have htc : Zdd w e mm = true := by unfold Zdd; rw [h1, Bool.true_or]
    refine ⟨fun _ => ?_, fun h => (by cases h)⟩
    w_why
    refine ⟨some (vi mm), ?_, rfl⟩
    rw [yes htc]
  ·intro loc o hI
   refine ex1 loc o hI fun mi => ?_
   w_why
   refine ⟨some (vi e.1), some (vi e.2), mi, ?_, rfl⟩
   rw [hts]
 ·intro loc o hI
  refine ex3 loc o hI fun lo hi mi => ?_
  injection (loc o lo hi mi) with hI
  rw [List.length_map, List.take_length]
  unfold mob
  w_why
  refine Zf9 ["rank"] [("codes", L + 1 + 1)] (fun _ _ h => h) ?_ (by kernel_rfl) (by intro _; kernel_rfl) (by kernel_rfl) (by kernel_rfl) (by decide +kernel)
  w_why
  intro it6 L6 acc6 I6
  injection (it6 L6 acc6 I6)
  refine ⟨Zaz (by k_qdec), ?_⟩
  simp only [List.map_cons, List.map_nil]
  refine Za1 (fun _ _ h => h) ?_ (Zav (l := rk.map vi) .name R.good.h) (fun k => vi ((rk.map (cd sg)).getD k 0)) (fun k loc o => ∃ o1, loc = ([("rank", o1)] : Loc) ∧ o = (acc3, .list (w.map vp2)) :: (rb, .list (rk.map vi)) :: mob L pa ca sa cl (some (.str nmS)) sg cs (B ++ Zax fr)) (by k_bytesUnr) ?_ ?_ (fun _ _ h => .tail h) ?_ ?_
  ·rw [List.length_map]; k_units
  ·exact ei1 _ rfl rfl
  ·intro k loc o hI
   refine ex1 loc o hI fun o1 => ?_
   k_qdec
  ·intro k loc o O l hk hI
   refine ex1 loc o hI fun o1 => ?_
   have hk5 : k < rk.length := by simpa using hk
   have e1 : (rk.map vi).getD k V.none = vi (rk.getD k 0) := Zah hk5
   have e2 : (rk.map (cd sg)).getD k 0 = cd sg (rk.getD k 0) := Zah hk5
   have h5 : rk.getD k 0 < 5 := hrlt _ (Zam hk5)
   rw [e1, e2]
   unfold mob
   w_how
   w_why
   refine Zai (x := vi (cd sg (rk.getD k 0))) (by k_qdec) ?_ (by intro o i; exact ⟨[o, i], by kernel_rfl⟩) (by k_units) (by k_units) (by rw [Int.toNat_natCast]; exact Zg6 (by k_units) vi)
   k_cls
   exact ⟨rfl, _, by k_bytesUnr, _, rfl, rfl⟩
  intro loc o hI
  refine ex1 loc o hI fun o1 => ?_
  injection (loc o o1) with hI
  rw [List.length_map, show rk.length = (rk.map (cd sg)).length by rw [List.length_map], Zap vi 0]
  unfold mob
  w_why
  have hb256 : ∀ x ∈ rk.map (cd sg), x < 256 := fun x hx => by
   obtain ⟨r, hr, rfl⟩ := List.mem_map.mp hx
   exact Zsj c (hrlt r hr)
  refine Zb9 (l := rk.map (cd sg)) (by k_qdec) ?_ hb256 (by rw [List.length_map, hrl]; decide) R.good.h
  refine Zbz (by kernel_rfl) (by kernel_rfl) (by k_ownname) ?_
  refine Zar ?_
  unfold Zxt at hlaw
  cases hll : Zc8 5 rk (Zek rk) 0 with
  | none => rw [hll] at hlaw; cases hlaw
  | some res =>
  rw [hll] at hlaw
  obtain ⟨rows0, t0⟩ := res
  simp only [Bool.and_eq_true] at hlaw
  obtain ⟨hl1, hl2⟩ := hlaw
  have htw : Zvc w w = Zoy (Zey rk) := by rw [hwr]; rfl
  refine W.drp (o' := lob L pa ca (some (.str nmS)) (some (.ref sa)) sg (((sa, .list (sg.map ch)) :: (cl, .list (cs.map V.int)) :: B) ++ Zax fr)) (.cons (.cons (.cons .refl))) ?_
  exact Zsc g N R L fr hfr pa ca (some (.str nmS)) (some (.ref sa)) sg c rk hrk (rows0, t0) hll (by simpa using hl1) (fun tr htr => by
   have e1 : decide (((rows0, t0) : List (List Nat) × Nat).2 < 2) = decide (((t0 : Nat) : Int) < 2) := by congr 1; simp; k_units
   have e2 : (tr == 0) = decide (Zoy (Zey rk) = 0) := by rw [Bool.eq_iff_iff]; simp [htr]
   rw [e2]
   have : decide (((t0 : Nat) : Int) < 2) = decide (t0 < 2) := by congr 1; simp; k_units
   rw [this]
   exact hl2) (Zvc w w : Nat) (by rw [htw]; k_units) script drawn _ lo hi _ _ mi none none _ K ⟨fun loc o d => hK.out loc o ((d.tl rfl).tl rfl)⟩
section
variable {C : Cx} {σ : St}
noncomputable abbrev rawL (vs : List Value) (n : Nat) : Obj := { cls := .type "list", data := .seq vs.toArray n }
theorem Holds.rawL {s : Shared} (H : Holds C σ s) {a : Addr} {vs : List Value} {n : Nat} (h : LkO a (.raw (rawL vs n)) σ.obs) : s.heap.get? a = some (Mine.rawL vs n) := by
 obtain ⟨O, e, r⟩ := H.obj h
 o_facts r
 exact e
theorem Zjq {a sl : Addr} {l : List V} {vs : List Value} {n : Nat} {lo hi : Option Int} {rest : List (Addr × AO)} {K : V → St → Prop} (hv : ∀ h, VRs h l vs) (p : Pick (sl, .slice lo hi) σ.obs rest) (hl : LkO a (.raw (rawL vs n)) rest) (k : ∀ r, K (.ref r) ⟨σ.loc, (r, .list (slc l lo hi)) :: rest⟩) (hz : l.length ≤ sizeLine) :
  OP2 C VR getItem (.ref a) (.ref sl) σ K := fun s v u H r1 r2 => by
 o_facts r1; o_facts r2
 obtain ⟨O, e, ro⟩ := H.obs _ p.mem
 have H' := H.drop p
 have e2 := H'.rawL hl
 have r := hv s.heap
 have q := OR.ownE ro
 obtain ⟨vl, vu, rfl, p1, p2⟩ := q
 have eq : (slicePick vs.toArray lo hi none) = (slc vs lo hi).toArray := by rw [slicePick_plain]; simp [slc]
 refine .of (wpAny_getItem_list_slice (lo := lo) (hi := hi) (st := none) ⟨_, e2, rfl, n, rfl⟩ ⟨_, e, rfl, rfl⟩ p1 p2 .none (by simp) ?_ (by simpa [r.length] using hz))
 rw [eq]
 have kp : ∀ b o, s.heap.get? b = some o → (s.heap.push { cls := .type "list", data := .seq (slc vs lo hi).toArray }).get? b = some o := fun b o e => Heap.get?_push_of_some _ e
 refine ⟨_, _, k _, .ref _, H'.alloc (n := s.toks) kp (Nat.le_refl _) (Heap.get?_push_size _ rfl) ?_, .of_ext kp⟩
 exact .list 0 (VRs.slc lo hi (r.mono (.of_ext kp)))
theorem Zk6 {v sl : Expr} {a s : Addr} {l : List V} {vs : List Value} {n : Nat} {lo hi : Option Int} {rest : List (Addr × AO)} {K : V → St → Prop} (hv : ∀ h, VRs h l vs) (p : Pick (s, .slice lo hi) σ.obs rest) (hl : LkO a (.raw (rawL vs n)) rest) (hl' : LkO a (.raw (rawL vs n)) σ.obs) (k : ∀ r, K (.ref r) ⟨σ.loc, (r, .list (slc l lo hi)) :: rest⟩)
  (hs : ∀ o i, ∃ xs, subscripted sl false o i = operate xs (getItem o i)) (hz : l.length ≤ sizeLine) : OP2 C VR (subscriptTail v sl) (.ref a) (.ref s) σ K :=
 Zca "list" (fun s va r H => by o_facts r; exact ⟨_, H.rawL hl', rfl⟩) slot_list_getitem.lookup (Zjq hv p hl k hz) hs
end
noncomputable def Zcq (xs : List Int) : List Int := (xs.take 5).map fun i => i.fmod (10 ^ 6)
noncomputable def Zan (xs : List Int) : List Int := Zcq xs ++ ([2, 5, 4, 8, 10] : List Int).drop (Zcq xs).length
theorem Zii (xs : List Int) : (Zcq xs).length ≤ 5 := by unfold Zcq; rw [List.length_map, List.length_take]; k_units
theorem Zq2 (xs : List Int) : (Zan xs).length = 5 := by
 have h := Zii xs
 unfold Zan
 rw [List.length_append, List.length_drop]
 show _ + (5 - _) = 5
 k_units
theorem Zre (xs : List Int) : ∀ x ∈ Zan xs, 0 ≤ x ∧ x < 10 ^ 6 := fun x hx => by
 rcases List.mem_append.mp hx with h | h
 ·obtain ⟨i, _, rfl⟩ := List.mem_map.mp h
  exact ⟨Int.fmod_nonneg_of_pos _ (by decide), Int.fmod_lt_of_pos _ (by decide)⟩
 ·exact (by decide : ∀ x ∈ ([2, 5, 4, 8, 10] : List Int), 0 ≤ x ∧ x < 10 ^ 6) x (List.mem_of_mem_drop h)
theorem Zlo {α : Type} (l : List α) (k : Nat) : slc l none (some (k : Int)) = l.take k := by
 unfold slc
 simp only [Option.elim, clipAt_nat, List.drop_zero, Nat.sub_zero]
 by_cases h : k ≤ l.length
 ·rw [Nat.min_eq_left h]
 ·rw [Nat.min_eq_right (by k_units), List.take_of_length_le (Nat.le_refl _), List.take_of_length_le (by k_units)]
theorem Zst {α : Type} (l : List α) (k : Nat) (h : k ≤ l.length) : slc l (some (k : Int)) none = l.drop k := Zg7 l k h
theorem Zy5 {P : Params} {G : Gl} (g : G3 P G) (n : Nat) (sl : Addr) (xs : List Int) (vs : List Value) (kk : Nat) (hv : ∀ h, VRs h (xs.map V.int) vs) (hx : xs.length ≤ 63) :
  FnR G (.ref 261) (n + 8) [.ref sl] (pt3 [] ++ [(sl, .raw (rawL vs kk))]) fun v o => v = .bool true ∧ ∃ l, o = pt3 l ++ [(sl, .raw (rawL vs kk))] := by
 refine Zow g ["script"] ["drawn", "cells", "pairs", "low", "high", "ranks", "wrong", "torn", "middle", "row", "rows", "times"] (Zty (some (.ref sl)) none none none none none none none none none none none none) (fun L => [(L + 1 + 1 + 1, .cell none), (L + 1 + 1, .cell none), (L + 1, .cell none)]) rfl rfl rfl rfl rfl (by kpf_grow) (by decide +kernel) (by decide +kernel) (by decide +kernel) (by kernel_rfl) (by kernel_rfl) (by kernel_rfl) ?_ (fun L => by kernel_rfl) (by kernel_rfl)
 intro N R L fr hfr
 refine XV.opq fun K hKK => ?_
 injection (fun sl xs vs kk L fr K => 7) with g hv hx N hfr hKK
 have hzz : sizeLine = 16777216 := by decide
 have hdl := Zii xs
 have hcl := Zq2 xs
 have hcb := Zre xs
 kpf_tidy
 show XV _ _ ⟨_, (L + 1 + 1 + 1, .cell none) :: (L + 1 + 1, .cell none) :: (L + 1, .cell none) :: ((71, .own (Zbd [])) :: (sl, .raw (rawL vs kk)) :: Zax fr)⟩ _
 refine Zag ?_
 refine Za3 ["cell"] [] (fun _ _ h => h) ?_ (by kernel_rfl) (by kernel_rfl) (by intro _; kernel_rfl) (by kernel_rfl) (by kernel_rfl) (by decide +kernel)
 w_why
 intro s1
 injection (s1)
 w_why
 refine Zk6 hv (by k_listUnr) (by k_qdec) (by k_qdec) ?_ (by intro o i; exact ⟨_, by with_unfolding_all exact rfl⟩) (by rw [List.length_map]; k_units)
 intro a0
 injection (a0)
 have e5 : slc xs none (some 5) = xs.take 5 := Zlo xs 5
 rw [Zh2, e5]
 w_why
 intro it L2 acc I
 injection (it L2 acc I)
 refine ⟨Zaz (by k_qdec), ?_⟩
 simp only [List.map_cons, List.map_nil]
 refine Za1 (fun _ _ h => h) ?_ (Zav (l := (xs.take 5).map V.int) .name R.good.h) (fun k => V.int ((Zcq xs).getD k 0)) (fun k loc o => ∃ o1, loc = ([("cell", o1)] : Loc) ∧ o = (a0, .list ((xs.take 5).map V.int)) :: (L + 1 + 1 + 1, .cell none) :: (L + 1 + 1, .cell none) :: (L + 1, .cell none) :: ((71, .own (Zbd [])) :: (sl, .raw (rawL vs kk)) :: Zax fr)) (by k_bytesUnr) ?_ ?_ (fun _ _ h => .tail h) ?_ ?_
 ·rw [List.length_map, List.length_take]; k_units
 ·exact ei1 _ rfl rfl
 ·intro k loc o hI
  refine ex1 loc o hI fun o1 => ?_
  k_qdec
 ·intro k loc o O l hk hI
  refine ex1 loc o hI fun o1 => ?_
  have hk5 : k < (xs.take 5).length := by simpa using hk
  have e1 : ((xs.take 5).map V.int).getD k V.none = V.int ((xs.take 5).getD k 0) := Zah hk5
  have e2 : (Zcq xs).getD k 0 = ((xs.take 5).getD k 0).fmod (10 ^ 6) := Zah hk5
  rw [e1, e2]
  w_how
  w_why
  refine Zxs ?_
  w_why
  ·exact ⟨rfl, _, by k_bytesUnr, _, rfl, rfl⟩
  all_goals decide
 intro loc o hI
 refine ex1 loc o hI fun o1 => ?_
 injection (loc o o1) with hI
 have hlen : ((xs.take 5).map V.int).length = (Zcq xs).length := by unfold Zcq; rw [List.length_map, List.length_map]
 rw [hlen, Zap V.int 0]
 w_why
 intro bl
 injection (bl)
 w_why
 ·intro s2
  injection (s2)
  w_why
  refine Zcg (by k_listUnr) (by k_qdec) (by k_qdec) ?_ (by intro o i; exact ⟨_, by with_unfolding_all exact rfl⟩) (by decide)
  intro b2
  injection (b2)
  w_why
  refine Zk8 (by k_qdec) (by k_qdec) ?_ (by
   have := Zje ([V.int 2, .int 5, .int 4, .int 8, .int 10] : List V) (some (((Zcq xs).map V.int).length : Nat)) none
   simp only [List.length_cons, List.length_nil] at this
   rw [List.length_map] at *
   k_units)
  intro cl
  injection (cl)
  have ecl : (Zcq xs).map V.int ++ slc [V.int 2, .int 5, .int 4, .int 8, .int 10] (some ((((Zcq xs).map V.int).length : Nat) : Int)) none = (Zan xs).map V.int := by
   rw [List.length_map, Zst _ _ (by show _ ≤ 5; k_units)]
   unfold Zan
   rw [List.map_append, List.map_drop]
   rfl
  rw [ecl]
  refine OP1.drp (o' := (cl, .list ((Zan xs).map V.int)) :: (L + 1 + 1 + 1, .cell none) :: (L + 1 + 1, .cell none) :: (L + 1, .cell none) :: ((71, .own (Zbd [])) :: (sl, .raw (rawL vs kk)) :: Zax fr)) (by k_strUnr) ?_
  w_why
  refine Zf9 ["cell"] [] (fun _ _ h => h) ?_ (by kernel_rfl) (by intro _; kernel_rfl) (by kernel_rfl) (by kernel_rfl) (by decide +kernel)
  w_why
  intro s3
  injection (s3)
  w_why
  refine Zcg (by k_listUnr) (by k_qdec) (by k_qdec) ?_ (by intro o i; exact ⟨_, by with_unfolding_all exact rfl⟩) (by rw [List.length_map]; k_units)
  intro c4
  injection (c4)
  have e4 : slc (Zan xs) none (some 4) = (Zan xs).take 4 := Zlo _ 4
  have h4 : ((Zan xs).take 4).length = 4 := by rw [List.length_take]; k_units
  rw [Zh2, e4]
  w_why
  intro it2 L3 acc2 I2
  injection (it2 L3 acc2 I2)
  refine ⟨Zaz (by k_qdec), ?_⟩
  simp only [List.map_cons, List.map_nil]
  refine Za1 (fun _ _ h => h) ?_ (Zav (l := ((Zan xs).take 4).map V.int) .name R.good.h) (fun k => V.int ((((Zan xs).take 4).map fun i => i.fdiv 5).getD k 0)) (fun k loc o => ∃ o1, loc = ([("cell", o1)] : Loc) ∧ o = (c4, .list (((Zan xs).take 4).map V.int)) :: (cl, .list ((Zan xs).map V.int)) :: (L + 1 + 1 + 1, .cell none) :: (L + 1 + 1, .cell none) :: (L + 1, .cell none) :: ((71, .own (Zbd [])) :: (sl, .raw (rawL vs kk)) :: Zax fr)) (by k_bytesUnr) ?_ ?_ (fun _ _ h => .tail h) ?_ ?_
  ·rw [List.length_map]; k_units
  ·exact ei1 _ rfl rfl
  ·intro k loc o hI
   refine ex1 loc o hI fun o1 => ?_
   k_qdec
  ·intro k loc o O l hk hI
   refine ex1 loc o hI fun o1 => ?_
   have hk5 : k < ((Zan xs).take 4).length := by simpa using hk
   have e1 : (((Zan xs).take 4).map V.int).getD k V.none = V.int (((Zan xs).take 4).getD k 0) := Zah hk5
   have e2 : (((Zan xs).take 4).map fun i => i.fdiv 5).getD k 0 = (((Zan xs).take 4).getD k 0).fdiv 5 := Zah hk5
   rw [e1, e2]
   w_how
   w_why
   ·exact ⟨rfl, _, by k_bytesUnr, _, rfl, rfl⟩
   all_goals decide
  intro loc o hI
  refine ex1 loc o hI fun o1 => ?_
  injection (loc o o1) with hI
  have hlen4 : (((Zan xs).take 4).map V.int).length = (((Zan xs).take 4).map fun i => i.fdiv 5).length := by rw [List.length_map, List.length_map]
  rw [hlen4, Zap V.int 0]
  w_why
  refine Zxd (by k_qdec) ?_ ?_ (by rw [List.length_map]; k_units) R.good.h
  ·generalize (((Zan xs).take 4).map fun i => i.fdiv 5).sum = pick
   have hcd := Zta pick
   have hsin := Zmi pick
   have hsgl := Zio pick
   w_why
   refine Zea (sel := []) (rest := (acc2, .list ((((Zan xs).take 4).map fun i => i.fdiv 5).map V.int)) :: (c4, .list (((Zan xs).take 4).map V.int)) :: (cl, .list ((Zan xs).map V.int)) :: (L + 1 + 1 + 1, .cell none) :: (L + 1 + 1, .cell none) :: (L + 1, .cell none) :: ((71, .own (Zbd [])) :: (sl, .raw (rawL vs kk)) :: Zax fr)) (R.good.less (show 1 ≤ n + 7 by k_units)) (Zr4 g 0 pick []) (.refl _) ?_
   rintro v o ⟨sa, rfl, rfl⟩
   injection (pick sa) with hcd hsin hsgl
   generalize Zg0 pick = sg at *
   refine ⟨(sa, .list (sg.map ch)) :: (cl, .list ((Zan xs).map V.int)) :: (L + 1 + 1 + 1, .cell none) :: (L + 1 + 1, .cell none) :: (L + 1, .cell none) :: ((71, .own (Zbd [])) :: (sl, .raw (rawL vs kk)) :: Zax fr), .keep (.cons (.cons .refl)), ?_⟩
   w_why
   refine Zf9 ["sign"] [] (fun _ _ h => h) ?_ (by kernel_rfl) (by intro _; kernel_rfl) (by kernel_rfl) (by kernel_rfl) (by decide +kernel)
   w_why
   intro it3 L4 ca I3
   injection (sg it3 L4 ca I3) with hcd hsin hsgl
   refine ⟨Zaz (by k_qdec), ?_⟩
   simp only [List.map_cons, List.map_nil]
   refine Za1 (fun _ _ h => h) ?_ (Zav (l := sg.map ch) .name R.good.h) (fun k => vi (sg.getD k 0)) (fun k loc o => ∃ o1, loc = ([("sign", o1)] : Loc) ∧ o = (sa, .list (sg.map ch)) :: (cl, .list ((Zan xs).map V.int)) :: (L + 1 + 1 + 1, .cell none) :: (L + 1 + 1, .cell none) :: (L + 1, .cell (some (.ref sa))) :: ((71, .own (Zbd [])) :: (sl, .raw (rawL vs kk)) :: Zax fr)) (by k_bytesUnr) ?_ ?_ (fun _ _ h => .tail h) ?_ ?_
   ·rw [List.length_map]; k_units
   ·exact ei1 _ rfl rfl
   ·intro k loc o hI
    refine ex1 loc o hI fun o1 => ?_
    k_qdec
   ·intro k loc o O l hk hI
    refine ex1 loc o hI fun o1 => ?_
    have hk5 : k < sg.length := by simpa using hk
    have e1 : (sg.map ch).getD k V.none = ch (sg.getD k 0) := Zah hk5
    rw [e1]
    w_how
    w_why
    refine Zzb ?_
    w_why
    exact ⟨rfl, _, by k_bytesUnr, _, rfl, rfl⟩
   intro loc o hI
   refine ex1 loc o hI fun o1 => ?_
   rw [List.length_map, Zap vi 0]
   w_why
   refine Zai (x := .int ((Zan xs).getD 4 0)) (by k_qdec) ?_ (by intro o i; exact ⟨[o, i], by kernel_rfl⟩) (by k_units) (by k_units) (by
    show ((Zan xs).map V.int)[4]? = _
    rw [List.getElem?_map, getD_some (d := 0) (by k_units)]; rfl)
   have hd4 : 0 ≤ (Zan xs).getD 4 0 ∧ (Zan xs).getD 4 0 < 10 ^ 6 := hcb _ (Zam (by k_units))
   have hd30 : (Zan xs).getD 4 0 < 2 ^ 30 := Int.lt_trans hd4.2 (by decide)
   w_why
   refine Zea (sel := (sa, .list (sg.map ch)) :: (pt3 [] ++ [(sl, .raw (rawL vs kk))])) (rest := (ca, .list (sg.map vi)) :: (cl, .list ((Zan xs).map V.int)) :: (L + 1 + 1 + 1, .cell none) :: (L + 1 + 1, .cell (some (.ref ca))) :: (L + 1, .cell (some (.ref sa))) :: Zax fr) (R.good.less (show n + 6 ≤ n + 7 by k_units)) (Ztl g n sa sg hsgl hsin ((Zan xs).getD 4 0) hd4.1 hd30 [] [(sl, .raw (rawL vs kk))]) ?_ ?_
   ·exact Zb0 [[_], [_], [_], [_], [_], [_], [_], [_], Zax fr] [0, 1, 2, 3, 4, 5, 6, 7, 8] [1, 6, 7, 0, 2, 3, 4, 5, 8] rfl
   rintro v o ⟨pa, l, rfl, rfl⟩
   refine ⟨mob L pa ca sa cl none sg (Zan xs) ((pt3 l ++ [(sl, .raw (rawL vs kk))]) ++ Zax fr), .perm ?_ .refl, ?_⟩
   ·exact Zb0 [[_], [_], pt3 l ++ [(sl, .raw (rawL vs kk))], [_], [_], [_], [_], [_], Zax fr] [0, 1, 2, 3, 4, 5, 6, 7, 8] [5, 6, 7, 0, 3, 1, 4, 2, 8] rfl
   refine Zbz (by kernel_rfl) (by kernel_rfl) (by k_ownname) ?_
   refine Zar ?_
   refine Zvy g N R L fr hfr pa ca sa cl sg hcd (Zan xs) hcl _ _ (pt3 l ++ [(sl, .raw (rawL vs kk))]) _ ⟨fun loc o d => ?_⟩
   k_cls
   exact ⟨(pt3 l ++ [(sl, .raw (rawL vs kk))]) ++ Zax fr, ⟨_, rfl, rfl, l, rfl⟩, d⟩
  ·intro x hx
   obtain ⟨i, hi, rfl⟩ := List.mem_map.mp hx
   have hb := hcb i (List.mem_of_mem_take hi)
   have h0 : i.fdiv 5 = i / 5 := Int.fdiv_eq_ediv_of_nonneg _ (by decide)
   rw [h0]
   have := hb.1; have := hb.2
   constructor
   ·k_units
   ·have : (10 : Int) ^ 6 = 1000000 := by decide
    k_units
 ·rw [List.length_map]; k_units
section
open Sem (wp)
theorem Zr3 {prog : Program} {w : World} {t : Sem Fin} {s : Shared} {R : Result → Shared → Prop} (hz : s.asleep) (ht : 1 ≤ s.toks)
  (h : wpP (model prog w) callerA t (fun fin s' => ∃ f, fin = .done f ∧ R (.ok f) s' ∧ AllBare s'.gens) (fun e s' => R (.error e) s' ∧ AllBare s'.gens) s) :
  ∃ n r s' s'', PySem.runN (denote table) prog w n s ⟨t, .builtin "claim.caller" {}, default, []⟩ = .halted (outcomeOf r) s' ∧
   schedN (denote table) prog w n (.single s ⟨t, .builtin "claim.caller" {}, default, []⟩) = .halted (outcomeOf r) s' ∧ s'.forget = s''.forget ∧ R r s'' := by
 injection (prog w t s R) with hz ht h
 have h1 := h ht ⟨.builtin "claim.caller" {}, none, none, [], none⟩ default caller_in (by decide) (fun _ hx => by cases hx)
 obtain ⟨n, r, s₁, s₂, a, b, c, d⟩ := wp_halts_full (M := model prog w) (R := R) (p := default) hz (Sem.wp_mono _ _ _ (by
  rintro fin p s' ⟨f, e, x, y⟩
  subst e; exact ⟨x, leftWithCleanup_false_of_bare y⟩) (by rintro e p s' ⟨x, y⟩; exact ⟨x, leftWithCleanup_false_of_bare y⟩) _ _ h1)
 exact ⟨n, r, s₂, s₁, b, a, c, d⟩
theorem Zl3 {R : WRecords} {cl : Str → Option Addr} {P : Params} {ord : List DictEntry → List DictEntry} : ∀ (xs : List Int) (s : Shared),
  ∃ vs, layAllW R cl P ord (xs.map WData.int) s = some (vs, { s with toks := s.toks + xs.length }) ∧ ∀ h, VRs h (xs.map V.int) vs
 | [], s => ⟨[], by simp [layAllW], fun _ => .nil⟩
 | x :: xs, s => by
  obtain ⟨vs, e, r⟩ := Zl3 (R := R) (cl := cl) (P := P) (ord := ord) xs { s with toks := s.toks + 1 }
  refine ⟨.int x s.toks :: vs, ?_, fun h => .cons (.int _ _) (r h)⟩
  simp only [List.map_cons, layAllW, layW, e, List.length_cons]
  have q : s.toks + 1 + xs.length = s.toks + (xs.length + 1) := by lia
  rw [q]
noncomputable def Zcd (s : Shared) (vs : List Value) (k : Nat) : Shared := { s with toks := s.toks + k, heap := s.heap.push { cls := .type "list", data := .seq vs.toArray } }
noncomputable abbrev A3 := List (Option Obj) × Option Obj × List (Option Value) × List (Option Value) × List (Option Value) × Bool × Bool
theorem neRo : Nonempty OpenRow := ⟨PySem.Challenge.rw_rx0085_03.row⟩
theorem neDe : Nonempty DefRec := ⟨⟨⟨#[]⟩, default, [], default, default⟩⟩
theorem rootP {r : OpenRow} {q : Program} {loose : List Str} {Yf : Shared → A3} {Ya : World → A3} {d : DefRec} {kwd : List (Str × Expr)} {N : Nat}
  (left : LeftO r.prog q loose (fun _ => true) Yf Ya N) (hdef : defOf q r.name = some (d, kwd)) (hp : r.prog.theDef r.name = some (d.params, d.body, d.scope)) (hk : kwWritten? d.params.kwonlyargs d.params.kw_defaults = some kwd)
  (hrec : r.records = []) (hargs : r.args = [.list .int]) (hwr : r.writes = false) (k1 : r.wellSaid = true) (ok : (chainsOk q && opensWell r.prog && (frees r.toRowW && r.within.isEmpty)) = true) (hb : r.prog.bare) (hw : r.toRowW.promised)
  (call : ∀ (w : World) (s : Shared) (mb : Str → Option Value), s.heap.Ns mainGlobals (s.heap.nsMap mainGlobals) → s.heap.Ns builtinsNs mb → mb = s.heap.nsMap builtinsNs → s.heap.NoLimit → s.gens = #[] → sysModules < s.heap.objs.size → Yf s = Ya w →
   1 ≤ s.toks ∧ ∀ (xs : List Int) (vs : List Value), r.claim.pre [.list (xs.map .int)] = true → (∀ h, VRs h (xs.map V.int) vs) → ∃ f, s.heap.nsMap mainGlobals r.name = some f ∧
    wpP (model r.prog w) callerA (PySem.call f [.ref s.heap.objs.size]) (fun v s' => GoodWG r.claim (classAt s.heap) (ExcName.means s.heap) [.list (xs.map .int)] (Zcd s vs xs.length) (.ok (.ret v)) s')
     (fun _ _ => False) (Zcd s vs xs.length)) : r.Holds := by
 injection (r q loose Yf Ya d kwd N) with left hdef hp hk hrec hargs hwr k1 ok hb hw call
 obtain ⟨ok1, ok2⟩ := Bool.and_eq_true_iff.mp ok
 obtain ⟨hch, o1⟩ := Bool.and_eq_true_iff.mp ok1
 obtain ⟨fr, wi⟩ := Bool.and_eq_true_iff.mp ok2
 obtain ⟨hsame, hu, ha, hap, hm⟩ := frees_parts fr
 have hrec' : r.claim.records = [] := hrec
 have hback := left.behind (XP := fun _ _ => True) (fun _ _ => trivial) hch
 refine ⟨k1, hw, ⟨hb, o1, by show r.makers.map _ = []; rw [hm]; rfl⟩, hw.witness, fun w => ⟨(hback w).1, fun sa ha' => ?_⟩⟩
 injection (w sa) with ha'
 obtain ⟨s₀, hf, hg0, s, hT, hz, hgens, hg, G0, y⟩ := (hback w).2 sa ha'
 have hgens : s.gens = #[] := Array.eq_empty_of_size_eq_zero (beq_iff_eq.mp hgens)
 refine ⟨s₀, hf, hg0, s, hT, fun n hn => ?_, fun x hx => by (rw [hrec'] at hx; cases hx), fun x hx => by (rw [hrec'] at hx; cases hx), fun args hpre hlay ord hord => ?_⟩
 ·obtain rfl : n = r.name := by split at hn <;> simp_all
  exact pinned_of_view hg G0 hdef hp hk
 have hsh := (pre_splitW hpre).1
 rw [hargs] at hsh
 obtain ⟨d0, rest, rfl, h0, h1⟩ := hasAllW_cons hsh
 obtain rfl := hasAllW_nil h1
 obtain ⟨ds, rfl, hit⟩ := hasW_list h0
 obtain ⟨xs, rfl⟩ := items_int hit
 obtain ⟨vs, el, hv⟩ := Zl3 (R := r.claim.records) (cl := classAt s.heap) (P := w.params) (ord := ord) xs s
 rename_i xq1
 injection (s₀ s ord xs vs) with hf hg0 hT hz xq1 hg G0 y hgens hord hit h0 hpre hlay hsh el hv
 have hlaid : layAllW r.claim.records (classAt s.heap) w.params ord [.list (xs.map .int)] s = some ([.ref s.heap.objs.size], Zcd s vs xs.length) := by
  simp only [layAllW, layW, el]
  rfl
 have hal := layAllW_rest _ _ _ hlaid
 obtain ⟨as, hrd, hin, hold⟩ := reads_layAllW hord _ _ _ hlaid hlay (Zcd s vs xs.length).heap (fun _ _ e => e)
 have L : Laid r.records w s (Zcd s vs xs.length) [.list (xs.map .int)] [.ref s.heap.objs.size] as := ⟨⟨ord, hord, hlaid⟩, hrd, hin, hold, layAllW_keeps _ _ _ hlaid, hal.1.trans hgens, hal.2.2.1⟩
 obtain ⟨ht, hc⟩ := call w s (s.heap.nsMap builtinsNs) G0.T.g G0.T.b rfl G0.T.nolimit hgens G0.low y
 obtain ⟨f, hfn, hcall⟩ := hc xs vs hpre hv
 have hi := ident_freeW hu ha hap
 have hwi : r.claim.within = [] := List.isEmpty_iff.mp wi
 have hg1 : (Zcd s vs xs.length).heap.Ns mainGlobals (s.heap.nsMap mainGlobals) := G0.T.g.keeps (layAllW_keeps _ _ _ hlaid)
 obtain ⟨k, rr, s', s'', hrun, hsched, hfo, hcase, hos⟩ := Zr3 (prog := r.prog) (w := w) (t := do match ← nsGet mainNs r.name with
   | some f => do ret (← PySem.call f [.ref s.heap.objs.size])
   | none => unsupported "claim.caller:no-such-global") (s := Zcd s vs xs.length)
  (R := fun x s' => r.claim.Ends s [.list (xs.map .int)] [.ref s.heap.objs.size] (Zcd s vs xs.length) x s' ∧ s'.os = s.os) (Shared.asleep_of_life hal.2.2.2 hz) (by show 1 ≤ s.toks + xs.length; lia) (by
   refine Zaa (.of (wpAny_nsGet hg1 ?_))
   rw [hfn]
   refine Zaa (Zae hcall (fun v s' g => Zab ?_) fun _ _ x => x.elim)
   have z := g.laid (c := r.claim) hsame hwi hi L
   exact ⟨_, rfl, ⟨z.1, z.2.1⟩, z.2.2⟩)
 obtain ⟨eh, _, _, eo, _⟩ := Shared.forget_eq hfo
 have hcase := hcase.congr eh
 rw [← eo] at hos
 have hlife : s'.heap.life = s.heap.life := (runN_life _ _ _ hrun).trans hal.2.2.2
 refine ⟨_, _, hlaid, k, _, s', hsched, ?_, (fun _ i x hx => by rw [hgens] at hx; simp at hx), (by intro q; rw [hwr] at q; cases q), by rw [hlife], Shared.rest_eq hos⟩
 rcases hcase with ⟨v, rfl, d1, d2, d3, d4, d5⟩ | ⟨e, ob, cls, rfl, d1, d2, d3, d4, d5⟩
 ·exact .inl ⟨v, rfl, d1, d2, d3, fun b o y _ => d4 b o y, d5⟩
 ·exact .inr ⟨e, ob, cls, rfl, d1, d2, d3, d4, fun b o y _ => d5 b o y⟩
end
theorem Zl6 (P : Params) : keys3 = (K3 P).map (·.1) := by kernel_rfl
theorem Zd5 {α β : Type} [BEq α] [LawfulBEq α] {a : α} {b : β} : ∀ {l : List (α × β)}, l.lookup a = some b → (a, b) ∈ l
 | (x, y) :: l, h => by
  rw [List.lookup_cons] at h
  split at h
  ·rename_i e
   cases h
   rw [eq_of_beq e]
   exact .head _
  ·exact .tail _ (Zd5 h)
noncomputable def isS : V → Bool
 | .ref _ => true
 | .ty _ => true
 | .bi _ => true
 | .int _ => true
 | _ => false
theorem Zh4 {v : V} (h : isS v = true) {m : Option Value} (e : m.map Zoc = some (vOf v)) : ∃ val, m = some val ∧ ∀ h, VR h v val := by
 cases m with
 | none => cases e
 | some val =>
  refine ⟨val, rfl, fun hp => ?_⟩
  have e' : Zoc val = vOf v := Option.some.inj e
  cases v <;> first | (cases h; done) | (cases val <;> simp [Zoc, vOf] at e' <;> subst e' <;> constructor)
theorem Zzs {p : Str × V} (hp : p ∈ gl3) : isS p.2 = true := List.all_eq_true.mp (by decide +kernel : (gl3.all fun p => isS p.2) = true) p hp
theorem Zyc {p : Str × V} (hp : p ∈ bl3) : isS p.2 = true := List.all_eq_true.mp (by decide +kernel : (bl3.all fun p => isS p.2) = true) p hp
theorem Ns.moved {h h' : Heap} {a : Addr} {m : Str → Option Value} (x : h.Ns a m) (k : ∀ o, h.get? a = some o → h'.get? a = some o) : h'.Ns a m := (by obtain ⟨o, es, ep, e, r⟩ := x; exact ⟨o, es, ep, k o e, r⟩)
noncomputable abbrev row3 : OpenRow := PySem.Challenge.rw_rx0085_03.row
theorem pre3 {xs : List Int} (h : row3.claim.pre [.list (xs.map .int)] = true) : xs.length ≤ 63 := by
 have h2 := (pre_splitW h).2
 have e : row3.pre = .and (.not (.lt (.lit (.int 63)) (.len (.arg 0)))) (.lit (.bool true)) := rfl
 rw [e] at h2
 simp only [WTm.holds, WTm.value, List.getElem?_cons_zero, PySem.W.less?, Num.less?] at h2
 cases hd : decide ((63 : Int) < ((List.map WData.int xs).length : Nat)) with
 | true => rw [hd] at h2; simp at h2
 | false =>
  have := of_decide_eq_false hd
  rw [List.length_map] at this
  k_units
theorem tab71 (P : Params) : ∃ oc vs, (K3 P).lookup 75 = some oc ∧ oc.cls = .type "code" ∧ oc.data = .fields vs ∧ vs[11]? = some (.ref 71) := ⟨_, _, by with_unfolding_all rfl, rfl, rfl, by kernel_rfl⟩
theorem call3 (w : World) (s : Shared) (mb : Str → Option Value) (hN : s.heap.Ns mainGlobals (s.heap.nsMap mainGlobals)) (hB : s.heap.Ns builtinsNs mb) (hmb : mb = s.heap.nsMap builtinsNs) (hlim : s.heap.NoLimit) (hgens : s.gens = #[]) (hlow : sysModules < s.heap.objs.size) (y : Zzw s = Zzz w) :
  1 ≤ s.toks ∧ ∀ (xs : List Int) (vs : List Value), row3.claim.pre [.list (xs.map .int)] = true → (∀ h, VRs h (xs.map V.int) vs) → ∃ f, s.heap.nsMap mainGlobals row3.name = some f ∧
   wpP (model row3.prog w) callerA (PySem.call f [.ref s.heap.objs.size]) (fun v s' => GoodWG row3.claim (classAt s.heap) (ExcName.means s.heap) [.list (xs.map .int)] (Zcd s vs xs.length) (.ok (.ret v)) s')
    (fun _ _ => False) (Zcd s vs xs.length) := by
 injection (w s mb) with hN hB hmb hlim hgens hlow y
 unfold Zzw Zzz at y
 simp only [Prod.mk.injEq] at y
 obtain ⟨y1, y2, y3, y4, y5, y6, y7⟩ := y
 have hK : ∀ p ∈ K3 w.params, s.heap.get? p.1 = some p.2 := by
  rw [Zl6 w.params, List.map_map] at y1
  exact fun p hp => List.map_inj_left.mp y1 p hp
 have hKl : ∀ a o, (K3 w.params).lookup a = some o → s.heap.get? a = some o := fun a o e => hK (a, o) (Zd5 e)
 have hK71 : ∀ a o, (K3 w.params).lookup a = some o → a ≠ 71 := fun a o e q => by
  subst q
  have : (71 : Nat) ∈ keys3 := by rw [Zl6 w.params]; exact List.mem_map.mpr ⟨_, Zd5 e, rfl⟩
  exact absurd this (by decide)
 have hg := List.map_inj_left.mp y3
 have hb1 := List.map_inj_left.mp y4
 have hb2 := List.map_inj_left.mp y5
 refine ⟨by simpa using y6, fun xs vs hpre hv => ⟨.ref 261, ?_, ?_⟩⟩
 ·obtain ⟨val, e, r⟩ := Zh4 (v := .ref 261) rfl (hg ("law", .ref 261) (Mb.mem (by k_slotget)))
  have := r s.heap
  cases this
  exact e
 injection (xs vs) with hpre hv
 have hx := pre3 hpre
 have hgrow : ∀ b o, s.heap.get? b = some o → (Zcd s vs xs.length).heap.get? b = some o := fun b o e => Heap.get?_push_of_some _ e
 have hsl : (Zcd s vs xs.length).heap.get? s.heap.objs.size = some (rawL vs 0) := Heap.get?_push_size _ rfl
 have hlt : ∀ b o, s.heap.get? b = some o → b ≠ s.heap.objs.size := fun b o e => Nat.ne_of_lt (Heap.lt_size e)
 have h71 : (Zcd s vs xs.length).heap.get? 71 = some (tabObj #[]) := hgrow _ _ y2
 let G : Gl := ⟨row3.prog, w, K3 w.params, s.heap.nsMap mainGlobals, mb⟩
 let fz : Addr → Option Obj := fun b => if b = 71 ∨ b = s.heap.objs.size then none else (Zcd s vs xs.length).heap.get? b
 have hfz : ∀ b o, s.heap.get? b = some o → b ≠ 71 → fz b = some o := fun b o e h => by
  show (if _ then _ else _) = _
  rw [if_neg (fun q => q.elim h (hlt b o e))]
  exact hgrow b o e
 have hNs : ∀ (a : Addr) (m : Str → Option Value), a ≠ 71 → s.heap.Ns a m → ∀ h : Heap, (∀ b o, fz b = some o → h.get? b = some o) → h.Ns a m := fun a m ha x h k => Ns.moved x fun o e => k _ _ (hfz _ _ e ha)
 have ok : G.Ok fz := by
  refine ⟨fun a o e => hfz _ _ (hKl a o e) (hK71 a o e), fun h k => ⟨hNs _ _ (by decide) hN h k, hNs _ _ (by decide) hB h k, ?_⟩, ?_⟩
  ·obtain ⟨mc, x, z⟩ := hlim
   exact ⟨mc, hNs _ _ (by decide) x h k, z⟩
  ·obtain ⟨o, e⟩ := Option.isSome_iff_exists.mp y7
   exact ⟨o, hfz _ _ e (by decide)⟩
 have g3 : G3 w.params G := by
  refine ⟨rfl, fun p hp => Zh4 (Zzs hp) (hg p hp), fun p hp => ⟨hb1 p hp, ?_⟩⟩
  show ∃ val, mb p.1 = some val ∧ _
  rw [hmb]
  exact Zh4 (Zyc hp) (hb2 p hp)
 have hne : s.heap.objs.size ≠ 71 := fun q => hlt _ _ y2 q.symm
 have led : Led fz (pt3 [] ++ [(s.heap.objs.size, .raw (rawL vs 0))] ++ Zax []) (Zcd s vs xs.length) := by
  show Led fz [(71, .own (Zbd [])), (s.heap.objs.size, .raw (rawL vs 0))] _
  refine ⟨fun b o e => ?_, fun p hp => ?_, ?_, fun a ha => ?_⟩
  ·have e' : (if b = 71 ∨ b = s.heap.objs.size then none else (Zcd s vs xs.length).heap.get? b) = some o := e
   split at e'
   ·cases e'
   ·exact e'
  ·rcases List.mem_cons.mp hp with e | hp
   ·subst e; exact ⟨_, h71, .own (by show tabObj #[] = tabObj (Zih []); rfl)⟩
   ·rcases List.mem_cons.mp hp with e | hp
    ·subst e; exact ⟨_, hsl, .raw _ (fun vs n e => by simp [Zb7] at e)⟩
    ·cases hp
  ·simpa using fun q => hne q.symm
  ·have ha' : a = 71 ∨ a = s.heap.objs.size := by simpa using ha
   show (if _ then _ else _) = _
   rw [if_pos ha']
 have hgood : Good callerA (0 + 8) := ⟨by decide +kernel, by decide +kernel, rfl, ⟨_, rfl⟩, rfl⟩
 refine Zae (Zy5 g3 0 s.heap.objs.size xs vs 0 hv hx [] callerA fz (Zcd s vs xs.length) [.ref s.heap.objs.size] (fun _ _ => False) ⟨[], rfl, fun _ h => by cases h⟩ hgood ok led (.cons (.ref _) .nil)) ?_ fun _ _ x => x
 rintro v s' ⟨r, o, ⟨o2, rfl, rfl, l, rfl⟩, hr, hL, tk, gk, hdr, hos⟩
 cases hr
 obtain ⟨O, e71, r71⟩ := hL.has (71, .own (Zbd l)) (by simp [pt3, Zgh])
 obtain ⟨O2, esl, rsl⟩ := hL.has (s.heap.objs.size, .raw (rawL vs 0)) (by simp)
 have eO : O = tabObj (Zih l) := by cases r71 with | own p => exact p
 subst eO
 have eO2 : O2 = rawL vs 0 := by cases rsl; rfl
 subst eO2
 have kept : ∀ b o, (Zcd s vs xs.length).heap.get? b = some o → b ≠ 71 → s'.heap.get? b = some o := fun b o e h => by
  by_cases hb : b = s.heap.objs.size
  ·subst hb
   rw [hsl] at e
   cases e
   exact esl
  ·exact hL.frz b o (by show (if _ then _ else _) = _; rw [if_neg (fun q => q.elim h hb)]; exact e)
 refine ⟨.inl ⟨.bool true, .bool true, [], rfl, fun _ => rfl, .bool true, ?_, fun _ => ⟨.nil, fun a ha => by cases ha⟩⟩, ⟨fun b o e => ?_, fun b o e => ?_⟩, hos, gk.2.2 (.of_eq hgens)⟩
 ·show (WShape.has [] (.bool true) .bool && WTm.holds [] (.eq .res (.lit (.bool true))) _) = true
  simp [WShape.has, WShape.arms, WTm.holds, WTm.value, PySem.W.same]
 ·by_cases hb : b = 71
  ·subst hb
   rw [h71] at e
   cases e
   refine .inr (.inl ⟨?_, rfl, #[], Zih l, rfl, by simpa using e71⟩)
   obtain ⟨oc, vc, c1, c2, c3, c4⟩ := tab71 w.params
   exact ⟨75, oc, vc, hgrow _ _ (hKl _ _ c1), c2, c3, c4⟩
  ·exact .inl (kept b o e hb)
 ·by_cases hb : b = 71
  ·subst hb; exact ⟨_, e71⟩
  ·exact ⟨_, kept b o e hb⟩
theorem row3_ok (k1 : row3.wellSaid = true) : row3.Holds :=
 rootP (r := row3) left3 (by rfl) (by rfl) (by rfl) rfl rfl rfl k1 (by decide +kernel) ⟨rfl, rfl, rfl, rfl, rfl, by decide +kernel⟩ ⟨[.list []], by decide +kernel, by decide +kernel⟩ fun w s mb h1 h2 h3 h4 h5 h6 y => call3 w s mb h1 h2 h3 h4 h5 h6 y
end Mine
end
set_option maxRecDepth 100000 in
set_option maxHeartbeats 8000000 in
theorem PySem.Challenge.cw_rx0085_03_holds : PySem.Challenge.rw_rx0085_03.Holds := by
 exact holds_law Mine.well3 fun said => Mine.row3_ok said
