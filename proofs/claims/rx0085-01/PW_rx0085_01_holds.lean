import PyProof.Rows.All
import KE.KLam
import KE.KBytesCut
import KE.KDictIter
import KE.KNestM
import ObjForm.ListNI
import KE.KBoundM
import Lean
import PySem.Challenge.RW_rx0085_01
open PySem PySem.Calls PyProof.Rows PySem.W
set_option Elab.async false
set_option linter.unusedVariables false
set_option maxRecDepth 1000000
set_option maxHeartbeats 64000000
set_option compiler.extract_closed false
set_option tactic.hygienic false
noncomputable section
set_option genSizeOf false
set_option genInjectivity false
namespace Mine
theorem Qa{h:Heap}{x:Obj}:∀ b o,h.get? b=some o->(h.push x).get? b=some o:=λ_ _ e=>Heap.get?_push_of_some _ e
theorem Qb{α:Type}{a b:α}{l:List α}(h:a∈b::l):a=b\/a∈l:=List.mem_cons.mp h
theorem Qc{α:Type}{a:α}{l:List α}(h:(a::l).Nodup):¬ a∈l/\l.Nodup:=List.nodup_cons.mp h
theorem Qd{α:Type}{a:α}{l:List α}(h:¬ a∈l/\l.Nodup):(a::l).Nodup:=List.nodup_cons.mpr h
theorem Qe{α β:Type}{f:α->β}{b:β}{l:List α}(h:∃ a,a∈l/\f a=b):b∈l.map f:=List.mem_map.mpr h
theorem Qf{α β:Type}{f:α->β}{b:β}{l:List α}(h:b∈l.map f):∃ a,a∈l/\f a=b:=List.mem_map.mp h
abbrev Qg:=@Heap.get?_push_size
abbrev Qh:=@wpAny_bind
abbrev Qi:=@wpAny_pure
abbrev Qj:=@List.length_map
abbrev Qk:=@List.mem_append_right
abbrev Ql:=@List.mem_append_left
abbrev Qm:=@builtinLookup_eq_fast
abbrev Qn:=@typeLookup_type
abbrev Qo:=@Nat.le_of_ble_eq_true
abbrev Qp:=@Nat.eq_of_beq_eq_true
abbrev Qq:=@List.map_append
abbrev Qr:=@List.map_cons
abbrev Qs:=@List.append_assoc
abbrev Qt:=@Bool.and_eq_true
abbrev Qu:=@List.getElem?_eq_getElem
abbrev Qv:=@Option.some.inj
abbrev Qw:=@Nat.le_refl
abbrev Qx:=@Nat.le_trans
abbrev Qy:=@wpAny_of_eq
abbrev Qz:=@Heap.lt_size
abbrev Wa:=@Bool.false_ne_true
abbrev Wb{α β γ δ:Type}(_:α)(_:β)(_:γ)(_:δ):Bool:=false
abbrev Wc{α β γ:Type}(_:α)(_:β)(_:γ):Bool:=false
abbrev Wd{α β:Type}(_:α)(_:β):Bool:=false
abbrev We{α:Type}(_:α):Bool:=false
abbrev Wf{α:Type}(_:α):Type:=Bool
abbrev Wh:=Value->Shared->Prop
theorem Zaj{α:Type}{A B:α->Prop}{P:Prop}(h:∃ a,A a/\B a)(k:∀ a,A a->B a->P):P:=h.elim λa c=>k a c.1 c.2
theorem Zbp{α β:Type}{A B:α->β->Prop}{P:Prop}(h:∃ a b,A a b/\B a b)(k:∀ a b,A a b->B a b->P):P:=h.elim λa h=>h.elim λb c=>k a b c.1 c.2
set_option genInjectivity true in
inductive V where
 | none|bool (b:Bool)|int (i:Int)|str (s:Str)|bytes (b:List Nat)
 | ty (n:String)|bi (n:String)|ref (a:Addr)|tup (l:List V)
noncomputable def vOf:V->Value
 | .ref a=>.ref a
 | .ty n=>.type n
 | .bi n=>.builtin n
 | .int i=>.int i 0
 | _=>.none
noncomputable def Zm0:Value->Value
 | .int i _=>.int i 0
 | v=>v
namespace L1
open Mine
noncomputable abbrev P3:Program:=PySem.Challenge.pw_rx0085_01
structure Fd where
 name:Str
 params:Arguments
 body:List Stmt
 scope:Scope
deriving Inhabited
noncomputable def fdOf:Stmt->Fd
 | .FunctionDef n a b _ _ _ s _ _ _=>⟨n,a,b,s⟩
 | _=>default
noncomputable def clOf:Stmt->List Stmt
 | .ClassDef _ _ _ b _ _ _ _ _ _ _=>b
 | _=>[]
noncomputable def fd3(i:Nat):Fd:=fdOf (P3.main.body.getD i default)
noncomputable def md3(i j:Nat):Fd:=fdOf ((clOf (P3.main.body.getD i default)).getD j default)
noncomputable def Zg3(d:Fd)(m:String)(t:Tok)(c:Addr):FuncData:={ name:=d.name,qualname:=d.name,params:=d.params,body:=.stmts d.body,scope:=d.scope,globals:=3,closure:=[],defaults:=.none,kwdefaults:=.none,doc:=.none,pyModule:=.str m t,code:=.ref c,builtins:=0 }
noncomputable def Zfs(d:Fd)(m:String)(t:Tok)(c:Addr):Obj:={ cls:=.type "function",data:=.func (Zg3 d m t c) }
noncomputable def Zy8(d:Fd)(q m:String)(t:Tok)(c:Addr)(dfl:Value):FuncData:={ name:=d.name,qualname:=q,params:=d.params,body:=.stmts d.body,scope:=d.scope,globals:=3,closure:=[],defaults:=dfl,kwdefaults:=.none,doc:=.none,pyModule:=.str m t,code:=.ref c,builtins:=0 }
noncomputable def Zb1(d:Fd)(q m:String)(t:Tok)(c:Addr)(dfl:Value):Obj:={ cls:=.type "function",data:=.func (Zy8 d q m t c dfl) }
noncomputable def K3(P:Params):Frag:=[
 (203,Zfs (fd3 18) "cpy313.wave" 709 202),
 (202,{ cls:=.type "code",data:=.fields #[.str "_byteswap" 711,.str "_byteswap" 712,.str "/claim/cut.py" 713,.int (228) 0,.int (2) 0,.int (0) 0,.int (0) 0,.int (3) 0,.ref 197,.bool true,.int (276) 0,.ref 198,.none,.ref 199,.ref 200,.ref 201,.int (719) 0,.int (228) 0,.str "/claim/cut.py" 720] }),
 (170,Zfs (fd3 10) "cpy313.fnmatch" 471 169),
 (169,{ cls:=.type "code",data:=.fields #[.str "translate" 511,.str "translate" 512,.str "/claim/cut.py" 513,.int (125) 0,.int (1) 0,.int (0) 0,.int (0) 0,.int (3) 0,.ref 164,.bool true,.int (276) 0,.ref 165,.none,.ref 166,.ref 167,.ref 168,.int (517) 0,.int (125) 0,.str "/claim/cut.py" 518] }),
 (182,Zfs (fd3 13) "re" 520 181),
 (181,{ cls:=.type "code",data:=.fields #[.str "escape" 668,.str "escape" 669,.str "/claim/cut.py" 670,.int (131) 0,.int (1) 0,.int (0) 0,.int (0) 0,.int (3) 0,.ref 176,.bool true,.int (276) 0,.ref 177,.none,.ref 178,.ref 179,.ref 180,.int (672) 0,.int (131) 0,.str "/claim/cut.py" 673] }),
 (189,Zfs (fd3 15) "cpy313.fnmatch" 675 188),
 (188,{ cls:=.type "code",data:=.fields #[.str "_translate" 677,.str "_translate" 678,.str "/claim/cut.py" 679,.int (138) 0,.int (3) 0,.int (0) 0,.int (0) 0,.int (3) 0,.ref 183,.bool true,.int (276) 0,.ref 184,.none,.ref 185,.ref 186,.ref 187,.int (693) 0,.int (138) 0,.str "/claim/cut.py" 694] }),
 (196,Zfs (fd3 16) "cpy313.fnmatch" 675 195),
 (195,{ cls:=.type "code",data:=.fields #[.str "_join_translated_parts" 696,.str "_join_translated_parts" 697,.str "/claim/cut.py" 698,.int (200) 0,.int (2) 0,.int (0) 0,.int (0) 0,.int (3) 0,.ref 190,.bool true,.int (276) 0,.ref 191,.none,.ref 192,.ref 193,.ref 194,.int (706) 0,.int (200) 0,.str "/claim/cut.py" 707] }),
 (210,Zfs (fd3 20) "law_rx0085_01" 722 209),
 (209,{ cls:=.type "code",data:=.fields #[.str "_law_signs" 724,.str "_law_signs" 725,.str "/claim/cut.py" 726,.int (235) 0,.int (1) 0,.int (0) 0,.int (0) 0,.int (3) 0,.ref 204,.bool true,.int (276) 0,.ref 205,.none,.ref 206,.ref 207,.ref 208,.int (730) 0,.int (235) 0,.str "/claim/cut.py" 731] }),
 (217,Zfs (fd3 21) "law_rx0085_01" 722 216),
 (216,{ cls:=.type "code",data:=.fields #[.str "_law_pattern" 733,.str "_law_pattern" 734,.str "/claim/cut.py" 735,.int (239) 0,.int (4) 0,.int (0) 0,.int (0) 0,.int (3) 0,.ref 211,.bool true,.int (276) 0,.ref 212,.none,.ref 213,.ref 214,.ref 215,.int (740) 0,.int (239) 0,.str "/claim/cut.py" 741] }),
 (224,Zfs (fd3 22) "law_rx0085_01" 722 223),
 (223,{ cls:=.type "code",data:=.fields #[.str "_law_sign" 743,.str "_law_sign" 744,.str "/claim/cut.py" 745,.int (241) 0,.int (2) 0,.int (0) 0,.int (0) 0,.int (3) 0,.ref 218,.bool true,.int (276) 0,.ref 219,.none,.ref 220,.ref 221,.ref 222,.int (749) 0,.int (241) 0,.str "/claim/cut.py" 750] }),
 (231,Zfs (fd3 23) "law_rx0085_01" 722 230),
 (230,{ cls:=.type "code",data:=.fields #[.str "_law_judge" 752,.str "_law_judge" 753,.str "/claim/cut.py" 754,.int (246) 0,.int (1) 0,.int (0) 0,.int (0) 0,.int (3) 0,.ref 225,.bool true,.int (276) 0,.ref 226,.none,.ref 227,.ref 228,.ref 229,.int (759) 0,.int (246) 0,.str "/claim/cut.py" 760] }),
 (238,Zfs (fd3 24) "law_rx0085_01" 722 237),
 (237,{ cls:=.type "code",data:=.fields #[.str "_law_told" 762,.str "_law_told" 763,.str "/claim/cut.py" 764,.int (257) 0,.int (2) 0,.int (0) 0,.int (0) 0,.int (3) 0,.ref 232,.bool true,.int (276) 0,.ref 233,.none,.ref 234,.ref 235,.ref 236,.int (771) 0,.int (257) 0,.str "/claim/cut.py" 772] }),
 (245,Zfs (fd3 25) "law_rx0085_01" 722 244),
 (244,{ cls:=.type "code",data:=.fields #[.str "_law_sorter" 774,.str "_law_sorter" 775,.str "/claim/cut.py" 776,.int (262) 0,.int (1) 0,.int (0) 0,.int (0) 0,.int (3) 0,.ref 239,.bool true,.int (276) 0,.ref 240,.none,.ref 241,.ref 242,.ref 243,.int (787) 0,.int (262) 0,.str "/claim/cut.py" 788] }),
 (250,Zfs (fd3 26) "law_rx0085_01" 722 249),
 (249,{ cls:=.type "code",data:=.fields #[.str "_law_driven" 790,.str "_law_driven" 791,.str "/claim/cut.py" 792,.int (274) 0,.int (2) 0,.int (0) 0,.int (0) 0,.int (3) 0,.ref 246,.bool true,.int (276) 0,.ref 247,.none,.none,.none,.ref 248,.int (793) 0,.int (274) 0,.str "/claim/cut.py" 794] }),
 (257,Zfs (fd3 27) "law_rx0085_01" 722 256),
 (256,{ cls:=.type "code",data:=.fields #[.str "_law_heights" 796,.str "_law_heights" 797,.str "/claim/cut.py" 798,.int (283) 0,.int (1) 0,.int (0) 0,.int (0) 0,.int (3) 0,.ref 251,.bool true,.int (276) 0,.ref 252,.none,.ref 253,.ref 254,.ref 255,.int (803) 0,.int (283) 0,.str "/claim/cut.py" 804] }),
 (262,Zfs (fd3 28) "law_rx0085_01" 722 261),
 (261,{ cls:=.type "code",data:=.fields #[.str "_law_due" 806,.str "_law_due" 807,.str "/claim/cut.py" 808,.int (289) 0,.int (3) 0,.int (0) 0,.int (0) 0,.int (3) 0,.ref 258,.bool true,.int (276) 0,.ref 259,.none,.none,.none,.ref 260,.int (809) 0,.int (289) 0,.str "/claim/cut.py" 810] }),
 (269,Zfs (fd3 29) "law_rx0085_01" 722 268),
 (268,{ cls:=.type "code",data:=.fields #[.str "_law_turned" 812,.str "_law_turned" 813,.str "/claim/cut.py" 814,.int (292) 0,.int (2) 0,.int (0) 0,.int (0) 0,.int (3) 0,.ref 263,.bool true,.int (276) 0,.ref 264,.none,.ref 265,.ref 266,.ref 267,.int (818) 0,.int (292) 0,.str "/claim/cut.py" 819] }),
 (274,Zfs (fd3 30) "law_rx0085_01" 722 273),
 (273,{ cls:=.type "code",data:=.fields #[.str "law" 821,.str "law" 822,.str "/claim/cut.py" 823,.int (297) 0,.int (1) 0,.int (0) 0,.int (0) 0,.int (3) 0,.ref 270,.bool true,.int (276) 0,.ref 271,.none,.none,.none,.ref 272,.int (824) 0,.int (297) 0,.str "/claim/cut.py" 825] }),
 (90,Zb1 (md3 7 0) "TopologicalSorter.__init__" "cpy313.graphlib" 289 89 (.ref 83)),
 (89,{ cls:=.type "code",data:=.fields #[.str "__init__" 364,.str "TopologicalSorter.__init__" 365,.str "/claim/cut.py" 366,.int (19) 0,.int (2) 0,.int (0) 0,.int (0) 0,.int (3) 0,.ref 84,.bool true,.int (276) 0,.ref 85,.none,.ref 86,.ref 87,.ref 88,.int (371) 0,.int (19) 0,.str "/claim/cut.py" 372] }),
 (97,Zb1 (md3 7 1) "TopologicalSorter._get_nodeinfo" "cpy313.graphlib" 289 96 (.none)),
 (96,{ cls:=.type "code",data:=.fields #[.str "_get_nodeinfo" 374,.str "TopologicalSorter._get_nodeinfo" 375,.str "/claim/cut.py" 376,.int (28) 0,.int (2) 0,.int (0) 0,.int (0) 0,.int (3) 0,.ref 91,.bool true,.int (276) 0,.ref 92,.none,.ref 93,.ref 94,.ref 95,.int (380) 0,.int (28) 0,.str "/claim/cut.py" 381] }),
 (104,Zb1 (md3 7 2) "TopologicalSorter.add" "cpy313.graphlib" 289 103 (.none)),
 (103,{ cls:=.type "code",data:=.fields #[.str "add" 383,.str "TopologicalSorter.add" 384,.str "/claim/cut.py" 385,.int (33) 0,.int (2) 0,.int (0) 0,.int (0) 0,.int (7) 0,.ref 98,.bool true,.int (276) 0,.ref 99,.none,.ref 100,.ref 101,.ref 102,.int (392) 0,.int (33) 0,.str "/claim/cut.py" 393] }),
 (109,Zb1 (md3 7 3) "TopologicalSorter.prepare" "cpy313.graphlib" 289 108 (.none)),
 (108,{ cls:=.type "code",data:=.fields #[.str "prepare" 395,.str "TopologicalSorter.prepare" 396,.str "/claim/cut.py" 397,.int (42) 0,.int (1) 0,.int (0) 0,.int (0) 0,.int (3) 0,.ref 105,.bool true,.int (276) 0,.ref 106,.none,.none,.none,.ref 107,.int (398) 0,.int (42) 0,.str "/claim/cut.py" 399] }),
 (116,Zb1 (md3 7 4) "TopologicalSorter.get_ready" "cpy313.graphlib" 289 115 (.none)),
 (115,{ cls:=.type "code",data:=.fields #[.str "get_ready" 401,.str "TopologicalSorter.get_ready" 402,.str "/claim/cut.py" 403,.int (50) 0,.int (1) 0,.int (0) 0,.int (0) 0,.int (3) 0,.ref 110,.bool true,.int (276) 0,.ref 111,.none,.ref 112,.ref 113,.ref 114,.int (408) 0,.int (50) 0,.str "/claim/cut.py" 409] }),
 (123,Zb1 (md3 7 5) "TopologicalSorter.is_active" "cpy313.graphlib" 289 122 (.none)),
 (122,{ cls:=.type "code",data:=.fields #[.str "is_active" 411,.str "TopologicalSorter.is_active" 412,.str "/claim/cut.py" 413,.int (61) 0,.int (1) 0,.int (0) 0,.int (0) 0,.int (3) 0,.ref 117,.bool true,.int (276) 0,.ref 118,.none,.ref 119,.ref 120,.ref 121,.int (415) 0,.int (61) 0,.str "/claim/cut.py" 416] }),
 (130,Zb1 (md3 7 6) "TopologicalSorter.__bool__" "cpy313.graphlib" 289 129 (.none)),
 (129,{ cls:=.type "code",data:=.fields #[.str "__bool__" 418,.str "TopologicalSorter.__bool__" 419,.str "/claim/cut.py" 420,.int (66) 0,.int (1) 0,.int (0) 0,.int (0) 0,.int (3) 0,.ref 124,.bool true,.int (276) 0,.ref 125,.none,.ref 126,.ref 127,.ref 128,.int (422) 0,.int (66) 0,.str "/claim/cut.py" 423] }),
 (137,Zb1 (md3 7 7) "TopologicalSorter.done" "cpy313.graphlib" 289 136 (.none)),
 (136,{ cls:=.type "code",data:=.fields #[.str "done" 425,.str "TopologicalSorter.done" 426,.str "/claim/cut.py" 427,.int (69) 0,.int (1) 0,.int (0) 0,.int (0) 0,.int (7) 0,.ref 131,.bool true,.int (276) 0,.ref 132,.none,.ref 133,.ref 134,.ref 135,.int (436) 0,.int (69) 0,.str "/claim/cut.py" 437] }),
 (144,Zb1 (md3 7 8) "TopologicalSorter._find_cycle" "cpy313.graphlib" 289 143 (.none)),
 (143,{ cls:=.type "code",data:=.fields #[.str "_find_cycle" 439,.str "TopologicalSorter._find_cycle" 440,.str "/claim/cut.py" 441,.int (92) 0,.int (1) 0,.int (0) 0,.int (0) 0,.int (3) 0,.ref 138,.bool true,.int (276) 0,.ref 139,.none,.ref 140,.ref 141,.ref 142,.int (449) 0,.int (92) 0,.str "/claim/cut.py" 450] }),
 (53,Zb1 (md3 5 1) "_NodeInfo.__init__" "cpy313.graphlib" 289 52 (.none)),
 (52,{ cls:=.type "code",data:=.fields #[.str "__init__" 313,.str "_NodeInfo.__init__" 314,.str "/claim/cut.py" 315,.int (11) 0,.int (2) 0,.int (0) 0,.int (0) 0,.int (3) 0,.ref 47,.bool true,.int (276) 0,.ref 48,.none,.ref 49,.ref 50,.ref 51,.int (318) 0,.int (11) 0,.str "/claim/cut.py" 319] }),
 (57,{ cls:=.type "type",data:=.cls { name := "_NodeInfo",bases:=[.type "object"],mro:=[.ref 57,.type "object"],ns:=56,qualname := "_NodeInfo",hasDict:=false,slotNames:=["node", "npredecessors", "successors"],subclasses:=[],abstract:=false,hasDel:=false },slots:=#[none,none,some (.str "_NodeInfo" 297),some (.str "_NodeInfo" 305),some (.builtin "object.__new__"),some (.bool false)] }),
 (56,{ cls:=.type "dict",data:=.dict #[⟨PyData.keyHash P "__module__",.str "__module__" 304,.str "cpy313.graphlib" 289⟩,⟨PyData.keyHash P "__firstlineno__",.str "__firstlineno__" 308,.int (8) 307⟩,⟨PyData.keyHash P "__slots__",.str "__slots__" 312,.ref 46⟩,⟨PyData.keyHash P "__init__",.str "__init__" 320,.ref 53⟩,⟨PyData.keyHash P "__static_attributes__",.str "__static_attributes__" 324,.ref 54⟩,⟨PyData.keyHash P "node",.str "node" 326,.ref 58⟩,⟨PyData.keyHash P "npredecessors",.str "npredecessors" 328,.ref 59⟩,⟨PyData.keyHash P "successors",.str "successors" 330,.ref 60⟩,⟨PyData.keyHash P "__doc__",.str "__doc__" 331,.none⟩] 5 }),
 (58,{ cls:=.type "member_descriptor",data:=.fields #[.str "node" 325,.ref 57,.builtin "proto.slot",.builtin "proto.slot#set",.int (2) 0] }),
 (59,{ cls:=.type "member_descriptor",data:=.fields #[.str "npredecessors" 327,.ref 57,.builtin "proto.slot",.builtin "proto.slot#set",.int (1) 0] }),
 (60,{ cls:=.type "member_descriptor",data:=.fields #[.str "successors" 329,.ref 57,.builtin "proto.slot",.builtin "proto.slot#set",.int (0) 0] }),
 (72,{ cls:=.type "type",data:=.cls { name := "CycleError",bases:=[.type "ValueError"],mro:=[.ref 72,.type "ValueError",.type "Exception",.type "BaseException",.type "object"],ns:=71,qualname := "CycleError",hasDict:=true,slotNames:=[],subclasses:=[],abstract:=false,hasDel:=false },slots:=#[some (.ref 63),none,some (.str "CycleError" 334),some (.str "CycleError" 342),some (.builtin "ValueError.__new__"),some (.bool true)] }),
 (71,{ cls:=.type "dict",data:=.dict #[⟨PyData.keyHash P "__module__",.str "__module__" 341,.str "cpy313.graphlib" 289⟩,⟨PyData.keyHash P "__firstlineno__",.str "__firstlineno__" 345,.int (15) 344⟩,⟨PyData.keyHash P "__static_attributes__",.str "__static_attributes__" 346,.ref 70⟩,⟨PyData.keyHash P "__weakref__",.str "__weakref__" 348,.ref 73⟩,⟨PyData.keyHash P "__doc__",.str "__doc__" 349,.none⟩] 3 }),
 (154,{ cls:=.type "type",data:=.cls { name := "TopologicalSorter",bases:=[.type "object"],mro:=[.ref 154,.type "object"],ns:=153,qualname := "TopologicalSorter",hasDict:=true,slotNames:=[],subclasses:=[],abstract:=false,hasDel:=false },slots:=#[none,none,some (.str "TopologicalSorter" 352),some (.str "TopologicalSorter" 360),some (.builtin "object.__new__"),some (.bool true)] }),
 (153,{ cls:=.type "dict",data:=.dict #[⟨PyData.keyHash P "__module__",.str "__module__" 359,.str "cpy313.graphlib" 289⟩,⟨PyData.keyHash P "__firstlineno__",.str "__firstlineno__" 363,.int (17) 362⟩,⟨PyData.keyHash P "__init__",.str "__init__" 373,.ref 90⟩,⟨PyData.keyHash P "_get_nodeinfo",.str "_get_nodeinfo" 382,.ref 97⟩,⟨PyData.keyHash P "add",.str "add" 394,.ref 104⟩,⟨PyData.keyHash P "prepare",.str "prepare" 400,.ref 109⟩,⟨PyData.keyHash P "get_ready",.str "get_ready" 410,.ref 116⟩,⟨PyData.keyHash P "is_active",.str "is_active" 417,.ref 123⟩,⟨PyData.keyHash P "__bool__",.str "__bool__" 424,.ref 130⟩,⟨PyData.keyHash P "done",.str "done" 438,.ref 137⟩,⟨PyData.keyHash P "_find_cycle",.str "_find_cycle" 451,.ref 144⟩,⟨PyData.keyHash P "static_order",.str "static_order" 458,.ref 151⟩,⟨PyData.keyHash P "__static_attributes__",.str "__static_attributes__" 463,.ref 152⟩,⟨PyData.keyHash P "__dict__",.str "__dict__" 465,.ref 155⟩,⟨PyData.keyHash P "__weakref__",.str "__weakref__" 467,.ref 156⟩,⟨PyData.keyHash P "__doc__",.str "__doc__" 468,.none⟩] 4 }),
 (155,{ cls:=.type "getset_descriptor",data:=.fields #[.str "__dict__" 464,.ref 154,.builtin "function.__dict__",.builtin "function.__dict__#set"] }),
 (156,{ cls:=.type "getset_descriptor",data:=.fields #[.str "__weakref__" 466,.ref 154,.builtin "ExceptionGroup.__weakref__",.none] }),
 (163,{ cls:=.type "re.Pattern",data:=.fields #[.str "([&~|])" 474,.int (32) 509,.int (1) 0,.none,.none,.ref 162,.int (0) 0] }),
 (162,{ cls:=.type "tuple",data:=.seq #[.int (14) 0,.int (14) 0,.int (4) 0,.int (1) 0,.int (1) 0,.int (9) 0,.int (0) 0,.int (64) 0,.int (0) 0,.int (1342177280) 0,.int (0) 0,.int (0) 0,.int (0) 0,.int (0) 0,.int (0) 0,.int (17) 0,.int (0) 0,.int (13) 0,.int (11) 0,.int (9) 0,.int (0) 0,.int (64) 0,.int (0) 0,.int (1342177280) 0,.int (0) 0,.int (0) 0,.int (0) 0,.int (0) 0,.int (0) 0,.int (17) 0,.int (1) 0,.int (1) 0] 0 }),
 (83,{ cls:=.type "tuple",data:=.seq #[.none] 0 }),
 (172,{ cls:=.type "dict",data:=.dict #[⟨40,.int (40) 523,.str "\\(" 527⟩,⟨41,.int (41) 529,.str "\\)" 533⟩,⟨91,.int (91) 535,.str "\\[" 539⟩,⟨93,.int (93) 541,.str "\\]" 545⟩,⟨123,.int (123) 547,.str "\\{" 551⟩,⟨125,.int (125) 553,.str "\\}" 557⟩,⟨63,.int (63) 559,.str "\\?" 563⟩,⟨42,.int (42) 565,.str "\\*" 569⟩,⟨43,.int (43) 571,.str "\\+" 575⟩,⟨45,.int (45) 577,.str "\\-" 581⟩,⟨124,.int (124) 583,.str "\\|" 587⟩,⟨94,.int (94) 589,.str "\\^" 593⟩,⟨36,.int (36) 595,.str "\\$" 599⟩,⟨92,.int (92) 601,.str "\\\\" 605⟩,⟨46,.int (46) 607,.str "\\." 611⟩,⟨38,.int (38) 613,.str "\\&" 617⟩,⟨126,.int (126) 619,.str "\\~" 623⟩,⟨35,.int (35) 625,.str "\\#" 629⟩,⟨32,.int (32) 631,.str "\\ " 635⟩,⟨9,.int (9) 637,.str "\\\t" 641⟩,⟨10,.int (10) 643,.str "\\\n" 647⟩,⟨13,.int (13) 649,.str "\\\x0d" 653⟩,⟨11,.int (11) 655,.str "\\\x0b" 659⟩,⟨12,.int (12) 661,.str "\\\x0c" 665⟩] 24 }),
 (4,{ cls:=.type "module",dict:=some 0,data:=.plain })]
noncomputable abbrev gl3:List (Str×V):=[("__builtins__",.ref 4),("_NODE_OUT",.int (-1)),("_NODE_DONE",.int (-2)),("_NodeInfo",.ref 57),("CycleError",.ref 72),("TopologicalSorter",.ref 154),("_twin_re_1",.ref 163),("translate",.ref 170),("_special_chars_map",.ref 172),("escape",.ref 182),("_translate",.ref 189),("_join_translated_parts",.ref 196),("_byteswap",.ref 203),("_law_signs",.ref 210),("_law_pattern",.ref 217),("_law_sign",.ref 224),("_law_judge",.ref 231),("_law_told",.ref 238),("_law_sorter",.ref 245),("_law_driven",.ref 250),("_law_heights",.ref 257),("_law_due",.ref 262),("_law_turned",.ref 269),("law",.ref 274)]
noncomputable abbrev bl3:List (Str×V):=[("bytearray",.ty "bytearray"),("len",.bi "len"),("range",.ty "range"),("bytes",.ty "bytes"),("list",.ty "list"),("enumerate",.ty "enumerate"),("isinstance",.bi "isinstance"),("str",.ty "str"),("object",.ty "object"),("set",.ty "set"),
 ("tuple",.ty "tuple"),("iter",.bi "iter"),("StopIteration",.ty "StopIteration"),("bool",.ty "bool"),("max",.bi "max"),("chr",.bi "chr"),("ord",.bi "ord"),("sum",.bi "sum"),("int",.ty "int"),("ValueError",.ty "ValueError"),("sorted",.bi "sorted")]
end L1
namespace L1
open Mine
noncomputable def keys3:List Addr:=[203,202,170,169,182,181,189,188,196,195,210,209,217,216,224,223,231,230,238,237,245,244,250,249,257,256,262,261,269,268,274,273,90,89,97,96,104,103,109,108,116,115,123,122,130,129,137,136,144,143,53,52,57,56,58,59,60,72,71,154,153,155,156,163,162,83,172,4]
noncomputable def Z4r(s:Shared):=(keys3.map s.heap.get?,s.heap.get? 184,gl3.map (λp=>(s.heap.nsMap mainGlobals p.1).map Zm0),bl3.map (λp=>s.heap.nsMap mainGlobals p.1),bl3.map (λp=>(s.heap.nsMap builtinsNs p.1).map Zm0),decide (1<=s.toks),(s.heap.get? sysModules).isSome)
noncomputable def Z4v(w:World):=((K3 w.params).map (λp=>some p.2),some (tabObj #[]),gl3.map (λp=>some (vOf p.2)),bl3.map (λY=>(none:Option Value)),bl3.map (λp=>some (vOf p.2)),true,true)
end L1
section
set_option maxHeartbeats 0
namespace L1
open Mine
noncomputable def q3:Program:=view PySem.Challenge.pw_rx0085_01 [0,30]
noncomputable def Zp5:List Str:=[Str.ofString "_wall",Str.ofString "_NODE_OUT",Str.ofString "_NODE_DONE",Str.ofString "_NodeInfo",Str.ofString "CycleError",Str.ofString "TopologicalSorter",Str.ofString "_twin_re_1",Str.ofString "translate",Str.ofString "_special_chars_map",Str.ofString "escape",Str.ofString "_translate",Str.ofString "_join_translated_parts",Str.ofString "_byteswap",Str.ofString "_law_signs",Str.ofString "_law_pattern",Str.ofString "_law_sign",Str.ofString "_law_judge",Str.ofString "_law_told",Str.ofString "_law_sorter",Str.ofString "_law_driven",Str.ofString "_law_heights",Str.ofString "_law_due",Str.ofString "_law_turned"]
def Lw(w:World):Prop:=(openEnds treeTable PySem.Challenge.pw_rx0085_01 w 2980).map (λs=>(openSeen q3 Zp5 (importedModules PySem.Challenge.pw_rx0085_01.main.body) (λ_=>true) true s,Z4r s))=some (openGood q3 Zp5,Z4v w)
theorem l00 (w:World):Lw ((w.withFollow "special-get-raises" false).withFollow "comprehension-iter-twice" false):=by
 unfold Lw
 kernel_rfl
theorem l01 (w:World):Lw ((w.withFollow "special-get-raises" false).withFollow "comprehension-iter-twice" true):=by
 unfold Lw
 kernel_rfl
theorem l10 (w:World):Lw ((w.withFollow "special-get-raises" true).withFollow "comprehension-iter-twice" false):=by
 unfold Lw
 kernel_rfl
theorem l11 (w:World):Lw ((w.withFollow "special-get-raises" true).withFollow "comprehension-iter-twice" true):=by
 unfold Lw
 kernel_rfl
theorem left3:LeftO PySem.Challenge.pw_rx0085_01 q3 Zp5 (λ_=>true) Z4r Z4v 2980:=byRow2 "comprehension-iter-twice" (P:=Lw) (byRow2 "special-get-raises" (P:=λw=>Lw (w.withFollow "comprehension-iter-twice" false)) l00 l10) (byRow2 "special-get-raises" (P:=λw=>Lw (w.withFollow "comprehension-iter-twice" true)) l01 l11)
end L1
end
namespace L1
open Mine
theorem well3:PySem.Challenge.rw_rx0085_01.wellSaid=true:=by kernel_rfl
end L1
theorem yy{α:Type}(ne:Nonempty α){p:α->Prop}(h:p (@Classical.epsilon α ne λx=>¬ p x)):∀ x,p x:=λx=>Classical.byContradiction λhn=>(@Classical.epsilon_spec_aux α ne (λz=>¬ p z) ⟨x,hn⟩) h
theorem nePr{A B:Type}(a:Nonempty A)(b:Nonempty B):Nonempty (A×B):=⟨(Classical.choice a,Classical.choice b)⟩
noncomputable def y1{A0:Type}(ne:Nonempty A0)(p:A0->Prop):A0:=@Classical.epsilon _ ne λx=>¬ p x
theorem z1{A0:Type}(ne:Nonempty A0){p:A0->Prop}(h:p (y1 ne p)):∀ x0,p x0:=yy ne h
section
variable {A0 A1:Type} (ne:Nonempty (A0×A1)) (p:A0->A1->Prop)
noncomputable def y2:=@Classical.epsilon _ ne λx=>¬ p x.1 x.2
noncomputable def y2_0:=(y2 ne p).1
noncomputable def y2_1:=(y2 ne p).2
variable {p}
theorem z2(h:p (y2_0 ne p) (y2_1 ne p)):∀ x0 x1,p x0 x1:=λx0 x1=>@yy _ ne (λx=>p x.1 x.2) h ⟨x0,x1⟩
end
section
variable {A0 A1 A2:Type} (ne:Nonempty (A0×A1×A2)) (p:A0->A1->A2->Prop)
noncomputable def y3:=@Classical.epsilon _ ne λx=>¬ p x.1 x.2.1 x.2.2
noncomputable def y3_0:=(y3 ne p).1
noncomputable def y3_1:=(y3 ne p).2.1
noncomputable def y3_2:=(y3 ne p).2.2
variable {p}
theorem z3(h:p (y3_0 ne p) (y3_1 ne p) (y3_2 ne p)):∀ x0 x1 x2,p x0 x1 x2:=λx0 x1 x2=>@yy _ ne (λx=>p x.1 x.2.1 x.2.2) h ⟨x0,x1,x2⟩
end
section
variable {A0 A1 A2 A3:Type} (ne:Nonempty (A0×A1×A2×A3)) (p:A0->A1->A2->A3->Prop)
noncomputable def y4:=@Classical.epsilon _ ne λx=>¬ p x.1 x.2.1 x.2.2.1 x.2.2.2
noncomputable def y4_0:=(y4 ne p).1
noncomputable def y4_1:=(y4 ne p).2.1
noncomputable def y4_2:=(y4 ne p).2.2.1
noncomputable def y4_3:=(y4 ne p).2.2.2
variable {p}
theorem z4(h:p (y4_0 ne p) (y4_1 ne p) (y4_2 ne p) (y4_3 ne p)):∀ x0 x1 x2 x3,p x0 x1 x2 x3:=λx0 x1 x2 x3=>@yy _ ne (λx=>p x.1 x.2.1 x.2.2.1 x.2.2.2) h ⟨x0,x1,x2,x3⟩
end
section
variable {A0 A1 A2 A3 A4:Type} (ne:Nonempty (A0×A1×A2×A3×A4)) (p:A0->A1->A2->A3->A4->Prop)
noncomputable def y5:=@Classical.epsilon _ ne λx=>¬ p x.1 x.2.1 x.2.2.1 x.2.2.2.1 x.2.2.2.2
noncomputable def y5_0:=(y5 ne p).1
noncomputable def y5_1:=(y5 ne p).2.1
noncomputable def y5_2:=(y5 ne p).2.2.1
noncomputable def y5_3:=(y5 ne p).2.2.2.1
noncomputable def y5_4:=(y5 ne p).2.2.2.2
variable {p}
theorem z5(h:p (y5_0 ne p) (y5_1 ne p) (y5_2 ne p) (y5_3 ne p) (y5_4 ne p)):∀ x0 x1 x2 x3 x4,p x0 x1 x2 x3 x4:=λx0 x1 x2 x3 x4=>@yy _ ne (λx=>p x.1 x.2.1 x.2.2.1 x.2.2.2.1 x.2.2.2.2) h ⟨x0,x1,x2,x3,x4⟩
end
section
variable {A0 A1 A2 A3 A4 A5:Type} (ne:Nonempty (A0×A1×A2×A3×A4×A5)) (p:A0->A1->A2->A3->A4->A5->Prop)
noncomputable def y6:=@Classical.epsilon _ ne λx=>¬ p x.1 x.2.1 x.2.2.1 x.2.2.2.1 x.2.2.2.2.1 x.2.2.2.2.2
noncomputable def y6_0:=(y6 ne p).1
noncomputable def y6_1:=(y6 ne p).2.1
noncomputable def y6_2:=(y6 ne p).2.2.1
noncomputable def y6_3:=(y6 ne p).2.2.2.1
noncomputable def y6_4:=(y6 ne p).2.2.2.2.1
noncomputable def y6_5:=(y6 ne p).2.2.2.2.2
variable {p}
theorem z6(h:p (y6_0 ne p) (y6_1 ne p) (y6_2 ne p) (y6_3 ne p) (y6_4 ne p) (y6_5 ne p)):∀ x0 x1 x2 x3 x4 x5,p x0 x1 x2 x3 x4 x5:=λx0 x1 x2 x3 x4 x5=>@yy _ ne (λx=>p x.1 x.2.1 x.2.2.1 x.2.2.2.1 x.2.2.2.2.1 x.2.2.2.2.2) h ⟨x0,x1,x2,x3,x4,x5⟩
end
section
variable {A0 A1 A2 A3 A4 A5 A6:Type} (ne:Nonempty (A0×A1×A2×A3×A4×A5×A6)) (p:A0->A1->A2->A3->A4->A5->A6->Prop)
noncomputable def y7:=@Classical.epsilon _ ne λx=>¬ p x.1 x.2.1 x.2.2.1 x.2.2.2.1 x.2.2.2.2.1 x.2.2.2.2.2.1 x.2.2.2.2.2.2
noncomputable def y7_0:=(y7 ne p).1
noncomputable def y7_1:=(y7 ne p).2.1
noncomputable def y7_2:=(y7 ne p).2.2.1
noncomputable def y7_3:=(y7 ne p).2.2.2.1
noncomputable def y7_4:=(y7 ne p).2.2.2.2.1
noncomputable def y7_5:=(y7 ne p).2.2.2.2.2.1
noncomputable def y7_6:=(y7 ne p).2.2.2.2.2.2
variable {p}
theorem z7(h:p (y7_0 ne p) (y7_1 ne p) (y7_2 ne p) (y7_3 ne p) (y7_4 ne p) (y7_5 ne p) (y7_6 ne p)):∀ x0 x1 x2 x3 x4 x5 x6,p x0 x1 x2 x3 x4 x5 x6:=λx0 x1 x2 x3 x4 x5 x6=>@yy _ ne (λx=>p x.1 x.2.1 x.2.2.1 x.2.2.2.1 x.2.2.2.2.1 x.2.2.2.2.2.1 x.2.2.2.2.2.2) h ⟨x0,x1,x2,x3,x4,x5,x6⟩
end
section
variable {A0 A1 A2 A3 A4 A5 A6 A7:Type} (ne:Nonempty (A0×A1×A2×A3×A4×A5×A6×A7)) (p:A0->A1->A2->A3->A4->A5->A6->A7->Prop)
noncomputable def y8:=@Classical.epsilon _ ne λx=>¬ p x.1 x.2.1 x.2.2.1 x.2.2.2.1 x.2.2.2.2.1 x.2.2.2.2.2.1 x.2.2.2.2.2.2.1 x.2.2.2.2.2.2.2
noncomputable def y8_0:=(y8 ne p).1
noncomputable def y8_1:=(y8 ne p).2.1
noncomputable def y8_2:=(y8 ne p).2.2.1
noncomputable def y8_3:=(y8 ne p).2.2.2.1
noncomputable def y8_4:=(y8 ne p).2.2.2.2.1
noncomputable def y8_5:=(y8 ne p).2.2.2.2.2.1
noncomputable def y8_6:=(y8 ne p).2.2.2.2.2.2.1
noncomputable def y8_7:=(y8 ne p).2.2.2.2.2.2.2
variable {p}
theorem z8(h:p (y8_0 ne p) (y8_1 ne p) (y8_2 ne p) (y8_3 ne p) (y8_4 ne p) (y8_5 ne p) (y8_6 ne p) (y8_7 ne p)):∀ x0 x1 x2 x3 x4 x5 x6 x7,p x0 x1 x2 x3 x4 x5 x6 x7:=λx0 x1 x2 x3 x4 x5 x6 x7=>@yy _ ne (λx=>p x.1 x.2.1 x.2.2.1 x.2.2.2.1 x.2.2.2.2.1 x.2.2.2.2.2.1 x.2.2.2.2.2.2.1 x.2.2.2.2.2.2.2) h ⟨x0,x1,x2,x3,x4,x5,x6,x7⟩
end
noncomputable def Zvq:Params:={ strHash:=λY=>0,shareClass:=λY=>0,mergeTok:=id,idOf:=λY=>0,idOfShared:=λY Y=>0,followText:=λY=>false,idOfImm:=λY=>0 }
noncomputable def exW:World:=⟨λY Y=>0,Zvq⟩
theorem neM:Nonempty Model:=⟨model default exW⟩
theorem neW:Nonempty World:=⟨exW⟩
theorem neP:Nonempty Params:=⟨Zvq⟩
theorem neA:Nonempty Around:=⟨callerA⟩
theorem neDr:Nonempty Drawn:=⟨{}⟩
theorem neS:Nonempty Shared:=⟨{}⟩
section
open Lean
def xnd(k:Name)(l:List Syntax):Syntax:=.node .none k l.toArray
def xa0:Syntax:=.atom .none ""
def xnu(l:List Syntax):Syntax:=xnd `null l
def xtn(k:String)(l:List Syntax):Syntax:=xnd (.mkStr `Lean.Parser.Tactic k) (xa0::l)
def xmn(k:String)(l:List Syntax):Syntax:=xnd (.mkStr `Lean.Parser.Term k) l
def xts(l:List Syntax):Syntax:=xnd `Lean.Parser.Tactic.tacticSeq [xnd `Lean.Parser.Tactic.tacticSeq1Indented [xnu (l.intersperse xa0)]]
def xid(s:String):Syntax:=.ident .none s.toRawSubstring s.toName []
def xap(l:List Syntax):Syntax:=match l with|[]=>xa0|[f]=>f|f::as=>xmn "app" [f,xnu as]
def xwd(s:String):Syntax:=xnd s.toName [xa0]
def xby(t:Syntax):Syntax:=xmn "byTactic" [xa0,xts [t]]
def xty(s:String):Syntax:=xmn "typeAscription" [xmn "hygienicLParen" [.atom .none "(",xnd `hygieneInfo [.ident .none "".toRawSubstring .anonymous []]],xmn "hole" [.atom .none "_"],.atom .none ":",xnu [xid s],.atom .none ")"]
def xoc(l:List Syntax):Syntax:=xnd `Lean.Parser.Tactic.optConfig [xnu l]
def xrd(tab:List (String×Syntax))(s:String):Syntax:=
 ((s.splitOn " ").foldl (λst w=>
  let its:=λ(_:Unit)=>(st.takeWhile λx=>!x.isMissing).reverse
  let push:=λt=>t::(st.dropWhile λx=>!x.isMissing).drop 1
  match w with
  | "(" => .missing::st
  | ")" => push (xap (its ()))
  | "R" => push (xtn "refine" [xap (its ())])
  | "|" => push (xtn "first" [xnu ((its ()).map λt=>xnd `group [xa0,xts [t]])])
  | ";" => push (xtn "paren" [xts (its ()),xa0])
  | ">" => push (xmn "anonymousCtor" [xa0,xnu ((its ()).intersperse xa0),xa0])
  | "λ" => push (xmn "fun" [xa0,xmn "basicFun" [xnu (its ()).dropLast,xnu [],xa0,(its ()).getLastD xa0]])
  | "I" => push (xtn "intro" [xnu (its ())])
  | "?" => xmn "syntheticHole" [xa0,xa0]::st
  | "_" => xmn "hole" [xa0]::st
  | "F1" => xty "TKF" :: st
  | "F2" => xty "TKV" :: st
  | "F3" => xty "TKS" :: st
  | "Q" => xtn "subst" [xnu [xid "q"]]::st
  | "li" => xtn "lia" [xoc []]::st
  | "om" => xtn "omega" [xoc []]::st
  | "ff" => xtn "allGoals" [xts [xtn "fail" [xnu []]]]::st
  | "aa" => xtn "applyAssumption" [xoc (["exfalso", "symm"].map λs=>xnd `Lean.Parser.Tactic.configItem [xnd `Lean.Parser.Tactic.negConfigItem [.atom .none "-",xid s]]),xnu [],xnu [],xnu []]::st
  | _=>if 2<w.length then (if w.startsWith "!" then xwd (w.toRawSubstring.drop 1).toString else xid w)::st else match st with
   | t::s=>match w with
    | "A" => xtn "apply" [t]::s
    | "E" => xtn "exact" [t]::s
    | "S" => xtn "show" [t]::s
    | "G" => xtn "failIfSuccess" [xts [xtn "failIfSuccess" [xts [xtn "show" [t]]]]]::s
    | "W" => xtn "withReducible" [xts [t]]::s
    | "U" => xtn "withUnfoldingAll" [xts [t]]::s
    | "*" => xtn "tacticRepeat_" [xts [t]]::s
    | "b" => xby t::s
    | "N" => xmn "nomatch" [xa0,xnu [t]]::s
    | "H" => xtn "tacticHave__" [xmn "letConfig" [xnu []],xmn "letDecl" [xmn "letIdDecl" [xmn "letId" [xid "q"],xnu [],xnu [],xa0,t]]]::s
    | "C" => xtn "cases" [xnu [xnd `Lean.Parser.Tactic.elimTarget [xnu [],t]],xnu [],xnu []]::s
    | _=>((tab.lookup w).getD (xid w))::st
   | []=>[]) []).headD xa0
def xtb:List (String×Syntax):=("k !tacticKernel_rfl b;kr !tacticKernel_rfl;a !Lean.Parser.Tactic.assumption b;as !Lean.Parser.Tactic.assumption;t !PySem.W.tacticK_qdec b;s !PySem.W.tacticK_closed b;e !PySem.W.tacticK_listUnr b;ee !PySem.W.tacticK_listUnr;m !PySem.W.tacticK_slotget b;l !PySem.W.tacticK_slotset b;p !PySem.W.tacticL_hasStore b;u rfl E U b;r !Lean.Parser.Tactic.tacticRfl b;ii !Lean.Parser.Tactic.tacticInfer_instance;yn !PySem.W.tacticK_ne b;im !PySem.W.tacticK_cls;ln !PySem.W.tacticK_lenW;un !PySem.W.tacticK_openite".splitOn ";").map λe=>((e.splitOn " ").headD "",xrd [] ("( ".append (" ".intercalate (e.splitOn " ").tail)))
def rd(s:String):TSyntax `tactic:=⟨xrd xtb s⟩
def rds(x:Syntax)(s:String):TSyntax `tactic:=⟨xrd (("$",x)::xtb) s⟩
def xz1(ds hs:List Syntax):List Syntax:=
 let n:=ds.length
 let k:=xby (xwd "PySem.W.tacticK_ne")
 let ne:=(List.range (n-1)).foldl (λt _=>xap [xid "nePr",k,t]) k
 let h:=xmn "hole" [xa0]
 let es:=ds.zipIdx.map λ(d,i)=>xnd `Lean.Parser.Tactic.generalizeArg [xnu [],xap [xid (if n==1 then "y1" else s!"y{n}_{i}"),h,h],xa0,d]
 (if hs.isEmpty then [] else [xtn "revert" [xnu hs]])++[xtn "revert" [xnu ds],xtn "refine" [xmn "noImplicitLambda" [xa0,xap [xid s!"z{n}",ne,xmn "syntheticHole" [xa0,xa0]]]],xtn "withReducible" [xts [xtn "generalize" [xnu (es.intersperse xa0),xnu []]]]]++(if hs.isEmpty then [] else [xtn "intro" [xnu hs]])
def xzt(ds hs:List Syntax):List Syntax:=
 let w:=λ(l:List Syntax)=>if hs.isEmpty then l else [xtn "revert" [xnu hs]]++l++[xtn "intro" [xnu hs]]
 (List.range ((ds.length-1) / 8)).flatMap (λi=>w (xz1 ((ds.drop (8 * i)).take 8) (ds.drop (8 * i+8))))++xz1 (ds.drop ((ds.length-1) / 8 * 8)) hs
def xzs(k:Syntax)(ds hs:List Syntax):List Syntax:=
 let vs:=["P", "G", "n", "R"]
 let h:=xmn "hole" [xa0]
 let es:=vs.map λv=>xnd `Lean.Parser.Tactic.generalizeArg [xnu [],xap [xid ("ZS." ++ v),xap [xid "y1",h,h]],xa0,xid v]
 [xtn "revert" [xnu hs],xtn "revert" [xnu ds],xtn "revert" [xnu (vs.map xid)],xtn "refine" [xmn "noImplicitLambda" [xa0,xap [xid "zs",xmn "namedArgument" [xa0,xid "k",xa0,k,xa0],xby (xtn "decide" [xoc []]),xmn "syntheticHole" [xa0,xa0]]]],xtn "withReducible" [xts [xtn "generalize" [xnu (es.intersperse xa0),xnu []]]],xtn "intro" [xnu (ds++hs)]]++xzt ds hs
def zzm(t:Syntax)(hs:List Syntax):MacroM Syntax:=
 if t.isOfKind `Lean.Parser.Term.paren then
  let b:=t[1]
  return xtn "paren" [xts (if b.isOfKind `Lean.Parser.Term.fun then xzs b[1][3] b[1][0].getArgs.toList hs else if b.isOfKind `Lean.Parser.Term.app then xzt (b[0]::b[1].getArgs.toList) hs else xzt [b] hs),xa0]
 else Macro.throwUnsupported
end
local macro_rules | `(tactic| k_ne)=>return rd "( ii neSr E neDe E neRo E neDr E neIn2 E neM E neGl E neA E neP E neW E neAO E neS E neV E neSt E neCx E MI.neMA E MI.neMO E MI.neMS E MI.neFI E MI.nePg E MI.neFm E MI.neRec E MI.neCC E MI.neEn E MI.neCt E ( ( _ ( Classical.choice yn ) λ > E ( nePr yn yn ) E |"
local macro_rules
 | `(tactic| exists $t, $hs,*) => zzm t (hs.getElems.toList.map (·.raw))
 | `(tactic| exists $t) => zzm t []
local macro_rules | `(tactic| k_units)=>return rd "( ( Int.natCast_nonneg _ ) E W ( Nat.le_add_left _ _ ) E W as W li om |"
section
open Sem (wp)
noncomputable def Zsb:Code->Bool
 | .builtin id _=>Builtin.Bytes.decodersThatHold.contains id
 | _=>false
def Zks(l:List (Code×Pos)):Prop:=∀ x∈l,Zsb x.1=false
def wpP{α:Type}(M:Model)(A:Around)(t:Sem α)(Q:α->Shared->Prop)(E:Wh)(s:Shared):Prop:=
 1<=s.toks->∀ Γ p,Γ.In A->Zsb Γ.code=false->Zks Γ.below->wp M Γ t (λa Y s'=>Q a s') (λe Y s'=>E e s') p s
def codeP(M:Model)(A:Around)(c:Code)(R:Result->Shared->Prop)(s:Shared):Prop:=
 1<=s.toks->∀ Γ p,Γ.code=c->Γ.Below A->Zks Γ.below->wpCode M Γ R p s
section
variable {α β:Type} {M:Model} {A:Around} {E:Wh} {s:Shared}
theorem wpP.of{t:Sem α}{Q:α->Shared->Prop}(h:wpAny M A t Q E s):wpP M A t Q E s:=λY Γ p hΓ Y Y=>h Γ p hΓ
theorem codeP.of{c:Code}{R:Result->Shared->Prop}(h:codeAny M A c R s):codeP M A c R s:=λY Γ p hc hΓ Y=>h Γ p hc hΓ
theorem Zxe{t:Sem α}{Q:α->Shared->Prop}(h:1<=s.toks->wpP M A t Q E s):wpP M A t Q E s:=λht=>h ht ht
theorem Zab{a:α}{Q:α->Shared->Prop}(h:Q a s):wpP M A (pure a) Q E s:=.of (Qi h)
theorem Zad{t:Sem α}{Q Q':α->Shared->Prop}{E':Wh}(h:wpP M A t Q E s)(hQ:∀ a s,Q a s->Q' a s)(hE:∀ e s,E e s->E' e s):wpP M A t Q' E' s:=
 λht Γ p hΓ b c=>Sem.wp_mono M Γ t (λa Y s=>hQ a s) (λe Y s=>hE e s) p s (h ht Γ p hΓ b c)
theorem Zaa{m:Sem α}{f:α->Sem β}{Q:β->Shared->Prop}(h:wpP M A m (λa s'=>wpP M A (f a) Q E s') E s):wpP M A (m >>= f) Q E s:=λht Γ p hΓ b c=>by
 rw[Sem.wp_bind']
 exact Sem.wp_mono M Γ m (λa p' s' h'=>h'.2 h'.1 Γ p' hΓ b c) (λY Y Y h'=>h'.2) p s (Sem.wp_toks M Γ 1 m _ _ p s ht (h ht Γ p hΓ b c))
theorem Zac{pos:Pos}{Q:Unit->Shared->Prop}(h:Q () s):wpP M A (standAt pos) Q E s:=.of (wpAny_standAt h)
theorem Zcy{Q:Unit->Shared->Prop}(h:Q () s):wpP M A point Q E s:=.of (wpAny_point h)
theorem Zae{vs:List Value}{m:Sem α}{Q:α->Shared->Prop}(h:wpP M A m Q E s):wpP M A (holding vs m) Q E s:=λht Γ p hΓ b c=>by rw[Sem.wp_holding];exact h ht Γ p hΓ b c
theorem Zk5{vs:List Value}{m:Sem α}{Q:α->Shared->Prop}(h:wpP M A m Q E s):wpP M A (m.keep vs) Q E s:=λht Γ p hΓ b c=>by rw[Sem.wp_keep];exact h ht Γ p hΓ b c
theorem Zas{vs:List Value}{m:Sem Value}{Q:Wh}(h:wpP M A m Q E s):wpP M A (operate vs m) Q E s:=λht Γ p hΓ b c=>by rw[Sem.wp_operate];exact h ht Γ p hΓ b c
theorem Za2{env:Env}{x:Str}{v:Value}{Q:Unit->Shared->Prop}(h:wpP M A (storeName env x v) Q E s):wpP M A (bindName env x v) Q E s:=λht Γ p hΓ b c=>by rw[Sem.wp_bindName];exact h ht Γ p hΓ b c
theorem Zah{m:Sem α}{k:Value->Sem Unit}{Q:α->Shared->Prop}(h:wpP M A m Q (λe s'=>wpP M A (k e) (λY s''=>E e s'') E s') s):wpP M A (m.onRaise k) Q E s:=λht Γ p hΓ b c=>by
 rw[Sem.wp_onRaise]
 exact Sem.wp_mono M Γ m (λY Y Y h'=>h'.2) (λe p' s' h'=>h'.2 h'.1 Γ p' hΓ b c) p s (Sem.wp_toks M Γ 1 m _ _ p s ht (h ht Γ p hΓ b c))
theorem Zbb{m:Sem α}{Q:Except Value α->Shared->Prop}(h:wpP M A m (λa=>Q (.ok a)) (λe=>Q (.error e)) s):wpP M A m.attempt Q E s:=λht Γ p hΓ b c=>by rw[Sem.wp_attempt];exact h ht Γ p hΓ b c
theorem Zk8{a:Addr}{o:Obj}{Q:Obj->Shared->Prop}(ho:s.heap.get? a=some o)(h:Q o s):wpP M A (load a) Q E s:=.of (wpAny_load ho h)
theorem Zn3{t:Sem α}{a:α}{Q:α->Shared->Prop}(ht:t=pure a)(h:Q a s):wpP M A t Q E s:=ht▸Zab h
theorem Zcm{c:Code}{p:Pos}{l:List (Code×Pos)}(b:Zsb c=false)(h:Zks l):Zks ((c,p)::l):=λx hx=>by
 rcases Qb hx with e|e
 .subst e;exact b
 .exact h x e
theorem Zge{c:Code}{h:Option Value}{Q:Flow->Shared->Prop}(hc:codeP M (A.mark h) c (λr s'=>match r with | .ok f=>Q f s' | .error e=>E e s') s)(hnb:h≠some byPass:=by intro x;cases x) :
  wpP M A (run c h) Q E s:=λht Γ p hΓ b cl=>by rw[Sem.wp_run];exact hc ht _ p rfl (hΓ.enter c h p hnb) (Zcm b cl)
theorem Zi1{c:Code}{Q:Wh}(hc:codeP M A c (λr s'=>match r with | .ok (.ret v)=>Q v s' | .ok _=>False | .error e=>E e s') s):wpP M A (runValue c) Q E s:=λht Γ p hΓ b cl=>by
 rw[Sem.wp_runValue];exact hc ht _ p rfl (hΓ.enter c none p (by intro x;cases x)) (Zcm b cl)
theorem Za6{f:Value}{pos:List Value}{kw:List (Str×Value)}{Q:Wh}(hc:codeP M A (.call f ⟨pos,kw⟩) (λr s'=>match r with | .ok (.ret v)=>Q v s' | .ok _=>False | .error e=>E e s') s) :
  wpP M A (call f pos kw) Q E s:=Zi1 hc
theorem Zal{c:Code}{R R':Result->Shared->Prop}(h:codeP M A c R s)(hR:∀ r s,R r s->R' r s):codeP M A c R' s:=λht Γ p hc hΓ cl=>wpCode_mono hR (h ht Γ p hc hΓ cl)
theorem Zaf{c:Code}{R:Result->Shared->Prop}(b:Zsb c=false)
  (h:wpP M (A.under c) (M.den c) (λfin s'=>match fin with | .done f=>R (.ok f) s' | .again c'=>c'.quiet=true/\codeP M A c' R s') (λe s'=>R (.error e) s') s):codeP M A c R s:=λht Γ p hc hΓ cl=>by
 rw[wpCode_iff_wp,hc]
 refine Sem.wp_mono M Γ _ (λfin p' s' h'=>?_) (λY Y Y h'=>h'.2) p s (Sem.wp_toks M Γ 1 _ _ _ p s ht (h ht Γ p (hc▸hΓ.in) (hc▸b) cl))
 induction fin with
 | done f=>exact h'.2
 | again c'=>exact⟨h'.2.1,h'.2.2 h'.1 (Γ.goto c') p' rfl (hΓ.goto c') cl⟩
theorem Zhg{f:Code×Pos->Bool}{Q:Bool->Shared->Prop}(hg:A.guards=some [])(hf:∀ c p,c.isGuard=false->Zsb c=false->f (c,p)=false)(h:Q false s) :
  wpP M A (do return (<- stack).any f) Q E s:=λY Γ p hΓ b cl=>by
 show Q (((Γ.code,p)::Γ.below).any f) s
 have key:((Γ.code,p)::Γ.below).any f=false:=by
  rw[List.any_eq_false]
  rintro⟨c,q⟩ hm
  have hb:Zsb c=false:=(Zcm (p:=p) b cl) _ hm
  have hgd:c.isGuard=false:=by
   cases e:c.isGuard with
   | false=>rfl
   | true=>
    exfalso
    have:c∈guardsOf ((Γ.code,p)::Γ.below):=by
     unfold guardsOf
     exact List.mem_filter.mpr ⟨Qe ⟨_,hm,rfl⟩,e⟩
    rw[guardsOf_cons,hΓ.2.2.2.1 _ hg] at this
    cases this
  exact Bool.eq_false_iff.mp (hf c q hgd hb)
 rw[key]
 exact h
theorem Zif{self:Value}{Q:Bool->Shared->Prop}(hg:A.guards=some [])(h:Q false s):wpP M A (Builtin.Bytes.exported self) Q E s:=by
 unfold Builtin.Bytes.exported
 refine Zhg hg (λc p hgd hb=>?_) h
 induction c with
 | builtin id args=>
  have n:∀ x,guardIds.contains x=true->id≠x:=λx hx e=>by subst e;rw[show guardIds.contains id=false from hgd] at hx;cases hx
  delta Builtin.Bytes.exported.match_1
  refine(dif_neg (n "bytearray.__contains__" (by decide))).trans ?_
  refine(dif_neg (n "bytearray.__mod__" (by decide))).trans ?_
  refine(dif_neg (n "bytearray.__rmod__" (by decide))).trans ?_
  refine(dif_neg (n "_struct.pack_into.held" (by decide))).trans ?_
  refine(dif_neg (n "bytearray.find.held" (by decide))).trans ?_
  obtain⟨_|⟨v,l⟩,nm⟩:=args
  .rfl
  .exact(congrArg (_&&·) hb).trans (Bool.and_false _)
 | _=>rfl
end
end
noncomputable abbrev Zbk(vs:Array Value)(n:Nat):Obj:={ cls:=.type "tuple",data:=.seq vs n }
def TK(h h':Heap):Prop:=∀ b vs n,h.get? b=some (Zbk vs n)->h'.get? b=some (Zbk vs n)
theorem TK.refl(h:Heap):TK h h:=λY Y Y e=>e
theorem TK.trans{a b c:Heap}(x:TK a b)(y:TK b c):TK a c:=λi o n e=>y i o n (x i o n e)
def GK(g g':Array GenState):Prop:=g.size<=g'.size/\(∀ i,i<g.size->g'[i]?=g[i]?)/\(AllBare g->AllBare g')
theorem GK.refl(g:Array GenState):GK g g:=⟨Qw _,λY Y=>rfl,id⟩
theorem GK.trans{a b c:Array GenState}(x:GK a b)(y:GK b c):GK a c:=⟨Qx x.1 y.1,λi h=>(y.2.1 i (Nat.lt_of_lt_of_le h x.1)).trans (x.2.1 i h),λh=>y.2.2 (x.2.2 h)⟩
structure Ob where
 P:Heap->Obj->Prop
 mono:∀ h h' o,TK h h'->P h o->P h' o
 noTup:∀ h o,P h o->∀ vs n,o≠Zbk vs n
set_option genInjectivity true in
inductive AO where
 | own (x:Ob)
 | list (l:List V)
 | raw (o:Obj)
 | ba (b:List Nat)
 | liter (l:Addr) (i:Nat)
 | riter (x left step:Int)
 | titer (l:List V) (i:Nat)
 | cell (v:Option V)
abbrev Wg:=List (Addr×AO)
def VR(h:Heap)(a:V):Value->Prop:=V.rec (motive_1:=λY=>Value->Prop) (motive_2:=λY=>List Value->Prop) (λv=>v = .none) (λb v=>v = .bool b) (λi v=>∃ t,v = .int i t) (λs v=>∃ t,v = .str s t)
 (λb v=>∃ t,(∀ x∈b,x<256)/\v = .bytes (b.map Nat.toUInt8).toArray t) (λn v=>v = .type n) (λn v=>v = .builtin n) (λa v=>v = .ref a) (λY ih v=>∃ a vs n,v = .ref a/\h.get? a=some (Zbk vs.toArray n)/\ih vs) (λvs=>vs=[]) (λY Y ia il vs=>∃ v ws,vs=v::ws/\ia v/\il ws) a
def F2{α β:Type}(R:α->β->Prop)(l:List α):List β->Prop:=List.rec (motive:=λY=>List β->Prop) (λm=>m=[]) (λa Y ih m=>∃ b n,m=b::n/\R a b/\ih n) l
section
variable {α β:Type} {R:α->β->Prop} {l:List α} {m:List β} {a:α} {b:β}
theorem F2.cons(x:R a b)(r:F2 R l m):F2 R (a::l) (b::m):=⟨b,m,rfl,x,r⟩
theorem F2.ind{P:List α->List β->Prop}(r:F2 R l m)(n:P [] [])(c:∀ a b l m,R a b->F2 R l m->P l m->P (a::l) (b::m)):P l m:=by
 induction l generalizing m with
 | nil=>obtain rfl:m=[]:=r;exact n
 | cons a l ih=>obtain⟨b,m,rfl,x,r⟩:=r;exact c a b l m x r (ih r)
theorem F2.mono{R':α->β->Prop}(r:F2 R l m)(k:∀ a b,R a b->R' a b):F2 R' l m:=r.ind (P:=F2 R') rfl λa b Y Y x Y ih=>.cons (k a b x) ih
theorem F2.length(r:F2 R l m):m.length=l.length:=r.ind (P:=λl m=>m.length=l.length) rfl λY Y Y Y Y Y ih=>congrArg (·+1) ih
theorem F2.append{l':List α}{m':List β}(r:F2 R l m)(y:F2 R l' m'):F2 R (l++l') (m++m'):=r.ind (P:=λl m=>F2 R (l++l') (m++m')) y λY Y Y Y x Y ih=>.cons x ih
theorem F2.get(i:Nat)(r:F2 R l m)(q:l[i]?=some a):∃ b,m[i]?=some b/\R a b:=by
 induction l generalizing m i with
 | nil=>exact nomatch q
 | cons c l ih=>
  obtain⟨b,m,rfl,x,r⟩:=r
  induction i with
  | zero=>exact⟨b,rfl,Qv q▸x⟩
  | succ i=>exact ih i r q
theorem F2.set(x:R a b)(i:Nat)(r:F2 R l m):F2 R (l.set i a) (m.set i b):=by
 induction l generalizing m i with
 | nil=>obtain rfl:m=[]:=r;exact rfl
 | cons c l ih=>
  obtain⟨d,m,rfl,y,r⟩:=r
  induction i with
  | zero=>exact .cons x r
  | succ i=>exact .cons y (ih i r)
end
def VRs(h:Heap)(l:List V)(vs:List Value):Prop:=F2 (VR h) l vs
theorem VRs.eqv{h:Heap}{l:List V}{vs:List Value}:(V.rec_1 (motive_1:=λY=>Value->Prop) (motive_2:=λY=>List Value->Prop) (λv=>v = .none) (λb v=>v = .bool b) (λi v=>∃ t,v = .int i t) (λs v=>∃ t,v = .str s t)
 (λb v=>∃ t,(∀ x∈b,x<256)/\v = .bytes (b.map Nat.toUInt8).toArray t) (λn v=>v = .type n) (λn v=>v = .builtin n) (λa v=>v = .ref a) (λY ih v=>∃ a vs n,v = .ref a/\h.get? a=some (Zbk vs.toArray n)/\ih vs) (λvs=>vs=[]) (λY Y ia il vs=>∃ v ws,vs=v::ws/\ia v/\il ws) l:List Value->Prop) vs↔VRs h l vs:=by
 induction l generalizing vs with
 | nil=>exact .rfl
 | cons a l ih=>exact exists_congr λv=>exists_congr λws=>and_congr_right λY=>and_congr_right λY=>ih
section
variable {h:Heap}
theorem VR.none:VR h .none .none:=rfl
theorem VR.bool(b:Bool):VR h (.bool b) (.bool b):=rfl
theorem VR.int(i:Int)(t:Tok):VR h (.int i) (.int i t):=⟨t,rfl⟩
theorem VR.str(s:Str)(t:Tok):VR h (.str s) (.str s t):=⟨t,rfl⟩
theorem VR.bytes{b:List Nat}(t:Tok)(hb:∀ x∈b,x<256):VR h (.bytes b) (.bytes (b.map Nat.toUInt8).toArray t):=⟨t,hb,rfl⟩
theorem VR.ty(n:String):VR h (.ty n) (.type n):=rfl
theorem VR.bi(n:String):VR h (.bi n) (.builtin n):=rfl
theorem VR.ref(a:Addr):VR h (.ref a) (.ref a):=rfl
theorem VR.tup{l:List V}{a:Addr}{vs:List Value}{n:Nat}(e:h.get? a=some { cls:=.type "tuple",data:=.seq vs.toArray n })(r:VRs h l vs):VR h (.tup l) (.ref a):=⟨a,vs,n,rfl,e,VRs.eqv.mpr r⟩
theorem VRs.nil:VRs h [] []:=rfl
theorem VRs.cons{a:V}{v:Value}{l:List V}{vs:List Value}(x:VR h a v)(r:VRs h l vs):VRs h (a::l) (v::vs):=⟨v,vs,rfl,x,r⟩
theorem VRs.nilE{vs:List Value}(r:VRs h [] vs):vs=[]:=r
theorem VRs.consK{P:Prop}{a:V}{l:List V}{vs:List Value}(r:VRs h (a::l) vs)(k:∀ v ws,VR h a v->VRs h l ws->vs=v::ws->P):P:=by
 obtain⟨v,ws,e,x,y⟩:=r
 exact k v ws x y e
end
theorem TK.of_ext{h h':Heap}(k:∀ b o,h.get? b=some o->h'.get? b=some o):TK h h':=λY Y Y e=>k _ _ e
theorem TK.of_same{h h':Heap}{a:Addr}(hs:Heap.SameBut a h h')(hn:∀ vs n,h.get? a≠some (Zbk vs n)):TK h h':=λb vs n e=>by
 by_cases hb:b=a
 .subst hb;exact absurd e (hn vs n)
 .exact(hs.2 b hb).trans e
theorem VR.mono{h h':Heap}(k:TK h h'){a:V}{v:Value}(x:VR h a v):VR h' a v:=by
 refine V.rec (motive_1:=λa=>∀ v,VR h a v->VR h' a v) (motive_2:=λl=>∀ vs,VRs h l vs->VRs h' l vs) (λY h=>h) (λY Y h=>h) (λY Y h=>h) (λY Y h=>h) (λY Y h=>h) (λY Y h=>h) (λY Y h=>h) (λY Y h=>h) (λl ih v q=>?_) (λY h=>h) (λa l x y vs q=>?_) a v x
 .obtain⟨a,vs,n,e,q,r⟩:=q
  exact⟨a,vs,n,e,k _ _ _ q,VRs.eqv.mpr (ih _ (VRs.eqv.mp r))⟩
 .obtain⟨v,ws,e,p,q⟩:=q
  exact⟨v,ws,e,x v p,y ws q⟩
theorem VRs.mono{h h':Heap}(k:TK h h'){a:List V}{v:List Value}(x:VRs h a v):VRs h' a v:=F2.mono x λY Y=>VR.mono k
theorem VRs.length{h:Heap}{l:List V}{vs:List Value}(x:VRs h l vs):vs.length=l.length:=F2.length x
theorem VRs.append{h:Heap}{l:List V}{vs:List Value}{l':List V}{vs':List Value}(x:VRs h l vs)(y:VRs h l' vs'):VRs h (l++l') (vs++vs'):=F2.append x y
theorem VRs.get{h:Heap}{l:List V}{vs:List Value}(i:Nat){a:V}(x:VRs h l vs)(q:l[i]?=some a):∃ v,vs[i]?=some v/\VR h a v:=F2.get i x q
def ORes(h:Heap):Option V->Option Value->Prop
 | none,none=>True
 | some a,some v=>VR h a v
 | _,_=>False
theorem ORes.mono{h h':Heap}(k:TK h h'){a:Option V}{v:Option Value}(r:ORes h a v):ORes h' a v:=by
 induction a with
 | none=>induction v with
  | none=>exact r
  | some v=>exact r
 | some a=>induction v with
  | none=>exact r
  | some v=>exact VR.mono k r
def OR(h:Heap)(a:AO)(o:Obj):Prop:=AO.rec (motive:=λY=>Prop) (λx=>x.P h o) (λl=>∃ vs n,VRs h l vs/\o={ cls:=.type "list",data:=.seq vs.toArray n }) (λp=>o=p/\∀ vs n,p≠Zbk vs n) (λb=>(∀ x∈b,x<256)/\o={ cls:=.type "bytearray",data:=.bytearray (b.map Nat.toUInt8).toArray 0 })
 (λl i=>o.cls = .type "list_iterator" /\ o.data = .fields #[.ref l,.int i 0]) (λx l s=>o={ cls:=.type "range_iterator",data:=.fields #[rawInt x,rawInt l,rawInt s] })
 (λl i=>∃ t vs n,o.cls = .type "tuple_iterator" /\ o.data = .fields #[.ref t,.int i 0]/\h.get? t=some (Zbk vs.toArray n)/\VRs h l vs) (λa=>∃ v,o.data = .cell v/\ORes h a v) a
section
variable {h:Heap}
theorem OR.own{x:Ob}{o:Obj}(p:x.P h o):OR h (.own x) o:=p
theorem OR.list{l:List V}{vs:List Value}(n:Nat)(r:VRs h l vs):OR h (.list l) { cls:=.type "list",data:=.seq vs.toArray n }:=⟨vs,n,r,rfl⟩
theorem OR.raw(o:Obj)(hn:∀ vs n,o≠Zbk vs n):OR h (.raw o) o:=⟨rfl,hn⟩
theorem OR.ba{b:List Nat}(hb:∀ x∈b,x<256):OR h (.ba b) { cls:=.type "bytearray",data:=.bytearray (b.map Nat.toUInt8).toArray 0 }:=⟨hb,rfl⟩
theorem OR.cell{a:Option V}{v:Option Value}{o:Obj}(d:o.data = .cell v)(r:ORes h a v):OR h (.cell a) o:=⟨v,d,r⟩
theorem OR.liter {l:Addr} {i:Nat} {o:Obj} (c:o.cls = .type "list_iterator") (d:o.data = .fields #[.ref l,.int i 0]):OR h (.liter l i) o:=⟨c,d⟩
theorem OR.riter(x left step:Int):OR h (.riter x left step) { cls:=.type "range_iterator",data:=.fields #[rawInt x,rawInt left,rawInt step] }:=rfl
theorem OR.titer {l:List V} {i:Nat} {o:Obj} {t:Addr} {vs:List Value} {n:Nat} (c:o.cls = .type "tuple_iterator") (d:o.data = .fields #[.ref t,.int i 0]) (e:h.get? t=some (Zbk vs.toArray n)) (r:VRs h l vs):OR h (.titer l i) o:=⟨t,vs,n,c,d,e,r⟩
end
theorem OR.mono{h h':Heap}(k:TK h h'){a:AO}{o:Obj}(x:OR h a o):OR h' a o:=by
 induction a with
 | own p=>exact Ob.mono _ _ _ _ k x
 | list l=>obtain⟨vs,n,r,e⟩:=x;exact⟨vs,n,r.mono k,e⟩
 | raw p=>exact x
 | ba b=>exact x
 | cell a=>obtain⟨v,d,r⟩:=x;exact⟨v,d,r.mono k⟩
 | liter l i=>exact x
 | riter a b c=>exact x
 | titer l i=>obtain⟨t,vs,n,c,d,e,r⟩:=x;exact⟨t,vs,n,c,d,k _ _ _ e,r.mono k⟩
theorem OR.noTup{h:Heap}{a:AO}{o:Obj}(x:OR h a o):∀ vs n,o≠Zbk vs n:=by
 induction a with
 | own p=>exact Ob.noTup _ _ _ x
 | list l=>obtain⟨vs,n,r,e⟩:=x;intro vs k q;rw[e] at q;simp[Zbk] at q
 | raw p=>exact x.1▸x.2
 | ba b=>intro vs k q;rw[x.2] at q;simp[Zbk] at q
 | cell a=>obtain⟨v,d,r⟩:=x;rintro vs k rfl;simp at d
 | liter l i=>have:=x.1;rintro vs k rfl;simp at this
 | riter a b c=>intro vs k q;rw[show o=_ from x] at q;simp[Zbk] at q
 | titer l i=>obtain⟨t,vs,n,c,_⟩:=x;rintro vs k rfl;simp at c
section
variable {h:Heap} {P:Prop}
theorem VR.noneE{v:Value}(r:VR h .none v):v = .none:=r
theorem VR.boolE{b:Bool}{v:Value}(r:VR h (.bool b) v):v = .bool b:=r
theorem VR.tyE{n:String}{v:Value}(r:VR h (.ty n) v):v = .type n:=r
theorem VR.biE{n:String}{v:Value}(r:VR h (.bi n) v):v = .builtin n:=r
theorem VR.refE{a:Addr}{v:Value}(r:VR h (.ref a) v):v = .ref a:=r
theorem VR.intK{i:Int}{v:Value}(r:VR h (.int i) v)(k:∀ t,v = .int i t->P):P:=r.elim k
theorem VR.strK{x:Str}{v:Value}(r:VR h (.str x) v)(k:∀ t,v = .str x t->P):P:=r.elim k
theorem VR.bytesK{b:List Nat}{v:Value}(r:VR h (.bytes b) v)(k:∀ t,(∀ x∈b,x<256)->v = .bytes (b.map Nat.toUInt8).toArray t->P):P:=r.elim λt h=>k t h.1 h.2
theorem VR.tupK{l:List V}{v:Value}(r:VR h (.tup l) v)(k:∀ a vs n,h.get? a=some { cls:=.type "tuple",data:=.seq vs.toArray n }->VRs h l vs->v = .ref a->P):P:=by
 obtain⟨a,vs,n,e,q,r⟩:=r
 exact k a vs n q (VRs.eqv.mp r) e
theorem OR.ownE{x:Ob}{o:Obj}(r:OR h (.own x) o):x.P h o:=r
theorem OR.literE {l:Addr} {i:Nat} {o:Obj} (r:OR h (.liter l i) o):o.cls = .type "list_iterator" /\ o.data = .fields #[.ref l,.int i 0]:=r
theorem OR.listK{l:List V}{o:Obj}(r:OR h (.list l) o)(k:∀ vs n,VRs h l vs->o={ cls:=.type "list",data:=.seq vs.toArray n }->P):P:=by
 obtain⟨vs,n,r,e⟩:=r
 exact k vs n r e
theorem OR.titerK {l:List V} {i:Nat} {o:Obj} (r:OR h (.titer l i) o) (k:∀ t vs n,o.cls = .type "tuple_iterator" -> o.data = .fields #[.ref t,.int i 0]->h.get? t=some (Zbk vs.toArray n)->VRs h l vs->P):P:=by
 obtain⟨t,vs,n,c,d,e,r⟩:=r
 exact k t vs n c d e r
theorem OR.baK{b:List Nat}{o:Obj}(r:OR h (.ba b) o)(k:(∀ x∈b,x<256)->o={ cls:=.type "bytearray",data:=.bytearray (b.map Nat.toUInt8).toArray 0 }->P):P:=k r.1 r.2
theorem OR.cellK{a:Option V}{o:Obj}(r:OR h (.cell a) o)(k:∀ v,o.data = .cell v->ORes h a v->P):P:=r.elim λv h=>k v h.1 h.2
theorem OR.rawE{x o:Obj}(r:OR h (.raw x) o):o=x:=r.1
theorem OR.riterE{x l s:Int}{o:Obj}(r:OR h (.riter x l s) o):o={ cls:=.type "range_iterator",data:=.fields #[rawInt x,rawInt l,rawInt s] }:=r
end
local macro_rules | `(tactic| o_facts $h:ident)=>return rds h "( ( ( VR.refE $ ) H Q ; ( ( VR.biE $ ) H Q ; ( ( VRs.nilE $ ) H Q ; ( ( VR.strK $ ( _ q ? λ R Q ; ( ( VR.intK $ ( _ q ? λ R Q ; ( ( VR.tyE $ ) H Q ; ( ( VR.boolE $ ) H Q ; ( ( VR.noneE $ ) H Q ; ( ( VR.bytesK $ ( _ _ q ? λ R Q ; |"
structure Gl where
 prog:Program
 w:World
 K:Frag
 mg:Str->Option Value
 mb:Str->Option Value
structure Gl.Ok(G:Gl)(fz:Addr->Option Obj):Prop where
 sub:∀ a o,G.K.lookup a=some o->fz a=some o
 top:∀ h:Heap,(∀ b o,fz b=some o->h.get? b=some o)->h.Ns mainGlobals G.mg/\h.Ns builtinsNs G.mb/\h.NoLimit
 sm:∃ o,fz sysModules=some o
structure Good(A:Around)(n:Nat):Prop where
 d:A.depth+n<recursionLimit
 u:A.units+20 * n<cLine
 h:A.handled=none
 f:∃ l,A.frames=some l
 g:A.guards=some []
structure Cx where
 G:Gl
 A:Around
 env:Env
 fz:Addr->Option Obj
 gens:Array GenState
 drawn:Drawn
 os:OsState
 E:Wh
 ok:G.Ok fz
 eg:env.globals=mainGlobals
 eb:env.builtins=builtinsNs
structure St where
 loc:List (Str×Option V)
 obs:Wg
structure Holds(C:Cx)(J:St)(s:Shared):Prop where
 frz:∀ b o,C.fz b=some o->s.heap.get? b=some o
 loc:∃ m,s.heap.Ns C.env.locals m/\∀ x v,(x,some v)∈J.loc->∃ val,m x=some val/\VR s.heap v val
 obs:∀ p∈J.obs,∃ O,s.heap.get? p.1=some O/\OR s.heap p.2 O
 nd:(C.env.locals::J.obs.map (·.1)).Nodup
 ap:∀ a∈C.env.locals::J.obs.map (·.1),C.fz a=none
 nn:(J.loc.map (·.1)).Nodup
 gens:GK C.gens s.gens
 drawn:s.drawn=C.drawn
 os:s.os=C.os
noncomputable def Zox:Obj:={ cls:=.none,data:=.dict #[] 0 }
noncomputable def exGl:Gl:=⟨default,exW,[],λY=>none,λY=>none⟩
noncomputable def Z41:Addr->Option Obj:=λY=>some Zox
local macro_rules | `(tactic| k_slotget)=>return rd "( Mb.head E ( Mb.tail A !PySem.W.tacticK_slotget ; | W"
local macro_rules | `(tactic| k_slotset)=>return rd "( Lk.head E ( Lk.tail A !PySem.W.tacticK_slotset ; | W"
local macro_rules | `(tactic| l_hasStore)=>return rd "( Up.head E ( Up.tail A !PySem.W.tacticL_hasStore ; | W"
local macro_rules | `(tactic| k_qdec)=>return rd "( LkO.head E ( LkO.tail A !PySem.W.tacticK_qdec ; | W"
local macro_rules | `(tactic| k_closed)=>return rd "( UpO.head E ( UpO.tail A !PySem.W.tacticK_closed ; | W"
local macro_rules | `(tactic| k_listUnr)=>return rd "( Pick.head E ( Pick.tail A !PySem.W.tacticK_listUnr ; | W"
local macro_rules | `(tactic| w_how)=>return rd "( ( U1.opqL ( _ _ _ _ ? λ R ( U1.opqB ( _ _ _ _ ? λ R ( U1.opqE ( _ _ ? λ R ( BV.opqW ( _ _ _ _ ? λ R ( XV.opq ( _ _ ? λ R |"
local macro_rules | `(tactic| k_cls)=>return rd "( ( ( F1 _ _ ) S aa ; ( ( F2 _ _ ) S aa ; ( ( F3 _ ) S aa ; | W"
local macro_rules | `(tactic| k_rangeUnr)=>return rd "( Drp.refl E ( Drp.keep A !PySem.W.tacticK_rangeUnr ; ( Drp.cons A !PySem.W.tacticK_rangeUnr ; | W"
local macro_rules | `(tactic| k_accS)=>return rd "( ( op_str_mul ? ? R ( op_bool_ne ? R ( op_bytes_eq ? R ( ( _ e ? > R ( ev_free u t k u k k ? R ( ( EV _ ( PySem.eval ( PySem.Expr.Name _ _ ) _ ) _ _ ) G ( ( ev_cell u t k u k ? R ( ev_cell r t k k k ? R | ; ( ev_free r t k k k k ? R ( ( _ rfl ? > R ( ( _ _ _ rfl ? > R ( ( _ _ rfl ? > R ( Z0l ? R ( Zti ? R im | W"
local macro_rules | `(tactic| k_gentoks)=>return rd "( ( ( CA _ ( Mine.V.ref _ ) List.nil _ _ _ _ _ ) G ( ca_K0 ( keep3 a u ) E b ? k R ; ( ca_stop ? R ( ( CA _ ( Mine.V.ty _ ) List.nil _ _ _ _ _ ) G ( Z08 ? k R ; ( ( CA _ ( Mine.V.bi _ ) ( List.cons _ List.nil ) _ _ _ _ _ ) G ( Ztn ? k R ; ( ( CA _ ( Mine.V.bi _ ) List.nil _ _ _ _ _ ) G ( Z19 ? k R ; | W"
local macro_rules | `(tactic| k_accL)=>return rd "( ( je_nil ? R ( je_cons ? R ( jv_nil ? ? R ( jv_cons ? R ( pv_some ? R ( pv_none ? R ( aio_nil ? R ( aio_cons ? R ( ( LK _ _ ) G ( lk_ok ? k R ; ( ( OP3 _ _ _ ( Mine.V.ref _ ) ( Mine.V.int _ ) ( Mine.V.int _ ) _ _ ) G ( Zg8 s ? ? ? ? ? ? R ; | W"
local macro_rules | `(tactic| k_acc1)=>return rd "( ( Zlw F.slot_str_join F.type_str_join ? R ( Zlw F.slot_str_find type_str_find ? R ( ( GM _ ( Mine.V.ref _ ) _ _ _ ) G ( ( Zda t F.slot_list_remove type_list_remove ? R ( Zda t F.slot_list_index type_list_index ? R ( Zda t F.slot_list_insert type_list_insert ? R ( Zda t F.slot_list_pop type_list_pop ? R ( Zda t F.slot_list_append type_list_append ? R | ; | W"
local macro_rules | `(tactic| k_few)=>return rd "( ( cf_set0 ? R ( cf_len_tup ? ? R ( cf_isi_str ? R ( ( CF _ ( Mine.V.bi _ ) ( List.cons ( Mine.V.ref _ ) List.nil ) _ _ ) G ( cf_len_list t ? ? R ; ( Zdg ? ? R ( cf_len_str ? ? R ( ( CF _ ( Mine.V.ty _ ) ( List.cons ( Mine.V.ref _ ) List.nil ) _ _ ) G ( cf_enum t ? R ; ( ( CF _ ( Mine.V.bi _ ) ( List.cons ( Mine.V.ref _ ) ( List.cons _ List.nil ) ) _ _ ) G ( cf_append s ? ? R ; | W"
local macro_rules | `(tactic| k_idxSplit)=>return rd "( ( ( OP2 _ _ ( PySem.compareOp PySem.CmpOp.In ) ( Mine.V.int _ ) ( Mine.V.ref _ ) _ _ ) G ( ( op_dict_in t ? R ( op_set_in t ? ? R | ; ( op_str_ne ? R ( op_str_eq ? R ( op_str_add ? ? R ( op_bytes_ne ? R ( op_bytes_add ? ? R ( ( OP2 _ _ ( PyProof.Rows.subscriptTail _ _ ) ( Mine.V.bytes _ ) ( Mine.V.ref _ ) _ _ ) G ( op_bytes_subs e ? ( ( o i I ( _ rfl E U b > E ; b ? R ; ( op_str_notin ? R ( op_str_in ? R ( ( OP2 _ _ ( PyProof.Rows.subscriptTail _ _ ) ( Mine.V.str _ ) ( Mine.V.ref _ ) _ _ ) G ( op_str_subs e ? ( ( o i I ( _ rfl E U b > E ; b ? R ; ( op_isnot_str_ref ? R ( op_isnot_self ? R ( op_is_self ? R ( op_isnot_none ? R ( op_is_none ? R ( op_floordiv ? ? ? R ( Z4c ? ? ? R ( Zuz ? ? R ( Ztj ? ? R ( ( OP2 _ _ ( PyProof.Rows.subscriptTail _ _ ) ( Mine.V.bytes _ ) ( Mine.V.int _ ) _ _ ) G ( Zdh ? ( ( o i I ( ( List.cons o ( List.cons i List.nil ) ) k > E ; b ? ? ? R ; ( Z4b ? R ( Z0i ? R ( Z2o ? R ( Z0d ? R ( Zzz ? R ( Zp9 ? R ( Zn5 ? R ( Zue ? R ( Ztv ? R | W"
local macro_rules | `(tactic| k_get)=>return rd "( ( ev_dict0 ? R ( ( EV _ ( PySem.eval ( PySem.Expr.Attribute _ _ _ ) _ ) _ _ ) G ( ev_attr ? u R ; ( ( EV _ ( PySem.loadName _ _ ) _ _ ) G ( Zgx k k l ? R ; ( ev_formatted ? R ( ev_joined ? R ( ev_named ? R ( ev_or2 ? R ( ev_and2 ? R ( ev_slice ? R ( ev_tuple ? R ( ev_list ? R ( ( EV _ ( PySem.eval ( PySem.Expr.Name _ _ ) _ ) _ _ ) G ( ( ev_l l k k k ? R ( ev_g a m k k k ? R ( ev_b a m k k k ? R | ; ( Zla ? R ( Zk9 ? R ( Zon ? R ( ( EV _ ( PySem.eval ( PySem.Expr.Compare _ ( List.cons _ List.nil ) ( List.cons _ List.nil ) _ ) _ ) _ _ ) G ( Ztt ? k R ; ( Zkx ? R ( Zli ? R ( Zql ? R ( Zn6 ? R ( Z4g ? R ( Zto ? R ( ( EV _ ( PySem.eval ( PySem.Expr.Call ( PySem.Expr.Attribute _ _ _ ) _ List.nil _ ) _ ) _ _ ) G ( Zj7 ? u R ; ( ( EV _ ( PySem.eval ( PySem.Expr.Call _ _ List.nil _ ) _ ) _ _ ) G ( Zgw ? k R ; | W"
local macro_rules | `(tactic| k_put)=>return rd "( ( x_aug_attr ? R ( ( XV _ ( PySem.exec ( PySem.Stmt.Assign ( List.cons ( PySem.Expr.Attribute _ _ _ ) List.nil ) _ _ ) _ ) _ _ ) G ( x_assign_attr ? u R ; ( x_del_sub ? R ( ( XV _ ( PySem.exec ( PySem.Stmt.Assign ( List.cons _ ( List.cons _ List.nil ) ) _ _ ) _ ) _ _ ) G ( x_assign2 ? ( ( v I kr ; b k k R ; ( x_assert ? R ( ( XV _ ( PySem.exec ( PySem.Stmt.Expr _ _ ) _ ) _ _ ) G ( x_expr ? k k R ; ( ( XV _ ( PySem.exec ( PySem.Stmt.For _ _ _ _ _ ) _ ) _ _ ) G ( Zuo ? ( ( _ I kr ; b R ; ( Zex ? R ( Z4t ? R ( Zth ? R ( Zvw ? R ( Z10 ? R ( ( XV _ ( PySem.exec ( PySem.Stmt.Assign ( List.cons ( PySem.Expr.Subscript _ _ _ ) List.nil ) _ _ ) _ ) _ _ ) G ( Zdq ? k R ; ( Z2b ? R ( ( XV _ ( PySem.exec ( PySem.Stmt.Assign ( List.cons ( PySem.Expr.Name _ _ ) List.nil ) _ _ ) _ ) _ _ ) G ( Zd7 ? u R ; ( Zo7 ? R ( Zag ? R | W"
local macro_rules | `(tactic| k_is)=>return rd "( ( as_attr ? R ( as_sub ? R ( tr_str ? ? R ( ( U1 _ ( PySem.storeName _ _ ) _ _ _ ) G ( ( uv_cell u s k u ? R ( uv_cell r s k k ? R | ; ( ( TR _ ( Mine.V.ref _ ) _ _ ) G ( tr_list t ? ? R ; ( tr_none ? R ( bn_store ? R ( Ze3 ? R ( Zjx ? R ( Ztk ? R ( Zt4 ? R ( ( OP1 _ _ ( PySem.storeName _ _ ) _ _ _ ) G ( Zbv k k p ? R ; | W"
local macro_rules | `(tactic| k_node)=>return rd "( ( Zh1 ? R ( Zfx ? R ( Z2z ? R ( Zt7 ? R ( bv_const ? R ( bv_name ? R ( bv_call ? R ( Zof ? R ( Zuk ? R ( ( BV _ ( PySem.isTrue ( PySem.Expr.Compare _ ( List.cons _ List.nil ) ( List.cons _ List.nil ) _ ) _ _ ) _ _ ) G ( Zuv ? k R ; | W"
local macro_rules | `(tactic| k_accG)=>return rd "( ( ( IT _ ( Mine.V.ref _ ) _ _ ) G ( ( it_enum t ? R ( Zor t ? R | ; ( Ztq ? R | W"
local macro_rules | `(tactic| k_fold)=>return rd "( ( ( LV _ ( PySem.spliced _ ) _ _ ) G ( ( Zkf ? k R ( Zk6 ? R | ; | W"
local macro_rules | `(tactic| k_here)=>return rd "( ( ( fnK _ ( Fl.ret _ ) _ ) G Z1u A ; ( Z0h ? R ( Zwu ? R ( Zzt ? R ( Zz3 ? R ( Zan ? R | W"
local macro_rules | `(tactic| k_accD2)=>return rd "( ( ( EV _ _ _ _ ) G !PySem.W.tacticK_get ; ( ( OP2 _ _ _ _ _ _ _ ) G !PySem.W.tacticK_idxSplit ; ( ( OP1 _ _ _ _ _ _ ) G !PySem.W.tacticK_is ; ( ( SA _ _ _ _ _ _ ) G !PySem.W.tacticK_accD ; ( ( XV _ _ _ _ ) G !PySem.W.tacticK_put ; ( ( LV _ _ _ _ ) G !PySem.W.tacticK_fold ; ( ( CF _ _ _ _ _ ) G !PySem.W.tacticK_few ; ( ( CA _ _ _ _ _ _ _ _ ) G !PySem.W.tacticK_gentoks ; ( ( BV _ _ _ _ ) G !PySem.W.tacticK_node ; ( ( GM _ _ _ _ _ ) G !PySem.W.tacticK_acc1 ; ( ( IT _ _ _ _ ) G !PySem.W.tacticK_accG ; !PySem.W.tacticK_here !PySem.W.tacticK_accL !PySem.W.tacticK_accS | W"
local macro_rules | `(tactic| w_why)=>return rd "!PySem.W.tacticK_accD2 *"
local macro_rules | `(tactic| k_one)=>return rd "( bn1 ( _ k λ ) E"
local macro_rules | `(tactic| k_obj1)=>return rd "( bn2 ( _ _ k λ ) E"
local macro_rules | `(tactic| k_acc1L)=>return rd "( bn3 ( _ _ _ k λ ) E"
local macro_rules | `(tactic| k_unrEndL)=>`(tactic| simp only[List.cons_append,List.nil_append])
local macro_rules | `(tactic| k_unrEnd)=>return rd "( Sel.nil E ( Sel.cons A ee !PySem.W.tacticK_unrEnd ; | W"
section
variable {C:Cx}{J:St}{α:Type}{β:Type}{K:Wk}{s:Shared}{a:Addr}{pos:Pos}{l:List V}{h:Heap}{x:Str}{env:Env}{n:Nat}{vs:List Value}{body:List Stmt}{it:Addr}{i:Nat}{rest:Wg}{args:List V}{d:Addr}{R:Heap->β->α->Prop}{b:List Nat}{id:String}{Q:Wh}{obs':Wg}{target:Expr}{es:List DictEntry}{orelse:List Stmt}{prog:Program}{o:Obj}{fd:FuncData}{f:Addr}{E:Wh}{lo:Option Int}{hi:Option Int}{scope:Scope}{oe:Option Nat}{k:Nat}{m:Addr}{c:Addr}{elts:List Expr}{loc:Wm}{binds:List (Str×Value)}{kv:List (Int×Value)}{h':Heap}{obs:Wg}{v:V}{clo:List (Str×Addr)}{t:Tok}{K':V->Wg->Prop}{sel:Wg}{sl:Expr}{value:Expr}{M:Model}{e:Expr}{iter:Expr}{elt:Expr}{y:Str}{ep:Nat}{l':Wg}{dx:Addr}{fr:Frs}{T:String}{test:Expr}{pos':Pos}{q:PK->Str}{Kn:Wl}{G:Gl}{p:Pos}{P:Wl}
theorem exNs(k:∀ b o,Z41 b=some o->h.get? b=some o)(a:Addr):h.Ns a λY=>none:=⟨Zox,#[],0,k a _ rfl,rfl,λe he=>by simp at he,λY=>rfl⟩
theorem exOk:exGl.Ok Z41:=⟨λa o e=>by simp[exGl] at e,λh k=>⟨exNs k _,exNs k _,⟨λY=>none,exNs k _,rfl⟩⟩,⟨Zox,rfl⟩⟩
theorem neV:Nonempty V:=⟨.none⟩
theorem neAO:Nonempty AO:=⟨.cell none⟩
theorem neSt:Nonempty St:=⟨⟨[],[]⟩⟩
theorem neGl:Nonempty Gl:=⟨exGl⟩
theorem neCx:Nonempty Cx:=⟨⟨exGl,callerA,{ (default:Env) with globals:=mainGlobals,builtins:=builtinsNs },Z41,#[],{},{},λY Y=>True,exOk,rfl,rfl⟩⟩
def Pst(C:Cx)(R:Heap->β->α->Prop)(K:β->St->Prop)(s:Shared):α->Shared->Prop:=λv s'=>
 ∃ a J',K a J'/\R s'.heap a v/\Holds C J' s'/\TK s.heap s'.heap
def W(C:Cx)(R:Heap->β->α->Prop)(t:Sem α)(J:St)(K:β->St->Prop):Prop:=
 ∀ s,Holds C J s->wpP (model C.G.prog C.G.w) C.A t (Pst C R K s) C.E s
abbrev EV(C:Cx)(t:Sem Value)(J:St)(K:V->St->Prop):Prop:=W C VR t J K
abbrev BV(C:Cx)(t:Sem Bool)(J:St)(K:Bool->St->Prop):Prop:=W C (λ_ (b:Bool) v=>v=b) t J K
abbrev LV(C:Cx)(t:Sem (List Value))(J:St)(K:List V->St->Prop):Prop:=W C VRs t J K
inductive Fl where
 | next|brk|cont|ret (v:V)
abbrev Wn:=List (Str×V)
abbrev Wm:=List (Str×Option V)
abbrev Wl:=St->Prop
abbrev Wk:=V->Wl
abbrev Wj:=Fl->Wl
inductive FlR(h:Heap):Fl->Flow->Prop
 | next:FlR h .next .next
 | brk:FlR h .brk .brk
 | cont:FlR h .cont .cont
 | ret {a:V} {v:Value} (r:VR h a v):FlR h (.ret a) (.ret v)
abbrev XV(C:Cx)(t:Sem Flow)(J:St)(K:Wj):Prop:=W C FlR t J K
def OP1(C:Cx)(R:Heap->β->α->Prop)(f:Value->Sem α)(a:V)(J:St)(K:β->Wl):Prop:=
 ∀ s v,Holds C J s->VR s.heap a v->wpP (model C.G.prog C.G.w) C.A (f v) (Pst C R K s) C.E s
def OP2(C:Cx)(R:Heap->β->α->Prop)(f:Value->Value->Sem α)(a b:V)(J:St)(K:β->Wl):Prop:=
 ∀ s v u,Holds C J s->VR s.heap a v->VR s.heap b u->wpP (model C.G.prog C.G.w) C.A (f v u) (Pst C R K s) C.E s
def OP3(C:Cx)(R:Heap->β->α->Prop)(f:Value->Value->Value->Sem α)(a b c:V)(J:St)(K:β->Wl):Prop:=
 ∀ s v u x,Holds C J s->VR s.heap a v->VR s.heap b u->VR s.heap c x->wpP (model C.G.prog C.G.w) C.A (f v u x) (Pst C R K s) C.E s
def OPL(C:Cx)(R:Heap->β->α->Prop)(f:List Value->Sem α)(l:List V)(J:St)(K:β->Wl):Prop:=
 ∀ s vs,Holds C J s->VRs s.heap l vs->wpP (model C.G.prog C.G.w) C.A (f vs) (Pst C R K s) C.E s
theorem Zax{A:Around}{t:Sem α}{K:β->Wl}{s_0:Shared}{Q:α->Shared->Prop}{E':Wh}(hE:∀ e s,¬ E e s)(h:wpP M A t (Pst C R K s_0) E s)(k:∀ v s' a J',K a J'->R s'.heap a v->Holds C J' s'->TK s_0.heap s'.heap->Q v s'):wpP M A t Q E' s:=
 Zad h (λv s' z=>z.elim λa z=>z.elim λJ' z=>k v s' a J' z.1 z.2.1 z.2.2.1 z.2.2.2) λY Y e=>absurd e (hE _ _)
theorem Zap{A:Around}{t:Sem α}{K:β->Wl}{s_0:Shared}{Q:α->Shared->Prop}(h:wpP M A t (Pst C R K s_0) E s)(k:∀ v s' a J',K a J'->R s'.heap a v->Holds C J' s'->TK s_0.heap s'.heap->Q v s'):wpP M A t Q E s:=
 Zad h (λv s' z=>z.elim λa z=>z.elim λJ' z=>k v s' a J' z.1 z.2.1 z.2.2.1 z.2.2.2) λY Y e=>e
theorem Pst.tk{K:β->Wl}{s_1:Shared}(k:TK s.heap s_1.heap){v:α}{s':Shared}(h:Pst C R K s_1 v s'):Pst C R K s v s':=by
 obtain⟨a,J',x,y,z,u⟩:=h
 exact⟨a,J',x,y,z,k.trans u⟩
theorem W.step{t:Sem α}{K:β->Wl}(h:W C R t J K)(H:Holds C J s){Q:α->Shared->Prop}
  (k:∀ a J' v s',K a J'->R s'.heap a v->Holds C J' s'->TK s.heap s'.heap->Q v s'):wpP (model C.G.prog C.G.w) C.A t Q C.E s:=
 Zap (h s H) (λv s' a J' x y z u=>k a J' v s' x y z u)
theorem W.mono{t:Sem α}{K K':β->Wl}(h:W C R t J K)(k:∀ a J',K a J'->K' a J'):W C R t J K':=
 λs H=>h.step H λa J' Y Y x y z u=>⟨a,J',k a J' x,y,z,u⟩
theorem Pst.here{K:β->Wl}{a:β}{v:α}(H:Holds C J s)(r:R s.heap a v)(k:K a J):Pst C R K s v s:=⟨a,J,k,r,H,TK.refl _⟩
theorem Holds.toks(H:Holds C J s)(n:Nat):Holds C J { s with toks:=n }:=⟨H.frz,H.loc,H.obs,H.nd,H.ap,H.nn,H.gens,H.drawn,H.os⟩
theorem Pst.hereT{K:β->Wl}{a:β}{v:α}{n:Nat}(H:Holds C J s)(r:R s.heap a v)(k:K a J):Pst C R K s v { s with toks:=n }:=⟨a,J,k,r,H.toks n,TK.refl _⟩
def Lk(x:Str)(v:V)(l:Wm):Prop:=(x,some v)∈l
theorem Lk.head{l:Wm}:Lk x v ((x,some v)::l):=List.Mem.head _
theorem Lk.tail{y:Str×Option V}{l:Wm}(h:Lk x v l):Lk x v (y::l):=List.Mem.tail _ h
theorem Lk.mem{l:Wm}(h:Lk x v l):(x,some v)∈l:=h
def UpG{α β:Type}(x:α)(o o':β)(l l':List (α×β)):Prop:=∃ p q,l=p++(x,o)::q/\l'=p++(x,o')::q
section
variable {x:α}{o o':β}{l l':List (α×β)}
theorem UpG.head:UpG x o o' ((x,o)::l) ((x,o')::l):=⟨[],l,rfl,rfl⟩
theorem UpG.tail{y:α×β}(h:UpG x o o' l l'):UpG x o o' (y::l) (y::l'):=by
 obtain⟨p,q,rfl,rfl⟩:=h
 exact⟨y::p,q,rfl,rfl⟩
theorem UpG.lk(h:UpG x o o' l l'):(x,o)∈l:=by
 obtain⟨p,q,rfl,rfl⟩:=h
 exact Qk _ (.head _)
theorem UpG.nw(h:UpG x o o' l l'):(x,o')∈l':=by
 obtain⟨p,q,rfl,rfl⟩:=h
 exact Qk _ (.head _)
theorem UpG.keys(h:UpG x o o' l l'):l'.map (·.1)=l.map (·.1):=by
 obtain⟨p,q,rfl,rfl⟩:=h
 rw[Qq,Qq];rfl
theorem UpG.mem(h:UpG x o o' l l')(nd:(l.map (·.1)).Nodup)(z:α×β)(hm:z∈l'):z=(x,o')\/(z.1≠x/\z∈l):=by
 obtain⟨p,q,rfl,rfl⟩:=h
 have nd:=Qc ((List.perm_middle.map (λy:α×β=>y.1)).nodup_iff.mp nd)
 rcases Qb (List.perm_middle.mem_iff.mp hm) with e|e
 .exact .inl e
 .exact .inr ⟨λk=>nd.1 (k▸Qe ⟨z,e,rfl⟩),List.perm_middle.mem_iff.mpr (.tail _ e)⟩
end
def Up(x:Str)(v:Option V)(l l':Wm):Prop:=∃ o,UpG x o v l l'
section
variable {x:Str}{v:Option V}{l l':Wm}
theorem Up.head{o:Option V}:Up x v ((x,o)::l) ((x,v)::l):=⟨o,.head⟩
theorem Up.tail{y:Str×Option V}(h:Up x v l l'):Up x v (y::l) (y::l'):=h.imp λY h=>h.tail
theorem Up.names(h:Up x v l l'):l'.map (·.1)=l.map (·.1):=h.elim λY h=>h.keys
theorem Up.mem(h:Up x v l l')(nd:(l.map (·.1)).Nodup)(y:Str)(u:Option V)(hm:(y,u)∈l'):(y=x/\u=v)\/(y≠x/\(y,u)∈l):=h.elim λY h=>(h.mem nd (y,u) hm).imp Prod.mk.inj id
end
theorem Cx.glo(C:Cx)(H:Holds C J s):s.heap.Ns C.env.globals C.G.mg:=C.eg▸(C.ok.top _ H.frz).1
theorem Cx.blt(C:Cx)(H:Holds C J s):s.heap.Ns C.env.builtins C.G.mb:=C.eb▸(C.ok.top _ H.frz).2.1
theorem Zgx(hk:C.env.scope.kind = .function)(hl:C.env.kindOf x=some .local)(h:Lk x v J.loc)(k:K v J) :
  EV C (loadName C.env x) J K:=λs H=>by
 refine Zaj (H.loc) λm hn hm=>?_
 obtain⟨val,e,r⟩:=hm x v h.mem
 exact .of (wpAny_loadName_local hk hl hn e (Pst.here H r k))
theorem Zkk (h:EV C (loadName env x) J K) (hd:(x==("__debug__" : Str))=false:=by decide):EV C (eval (.Name x pos) env) J K:=λs H=>by
 rw[eval_Name env x pos hd]
 exact Zaa (Zac (h s H))
theorem Zgd(hk:C.env.scope.kind = .function)(hl:C.env.kindOf x=some .local)(h:Lk x v J.loc)(k:K v J)
  (hd:(x==("__debug__" : Str))=false:=by decide):EV C (eval (.Name x pos) C.env) J K:=Zkk (Zgx hk hl h k) hd
theorem Znt{val:Value}(hk:C.env.scope.kind = .function)(hx:C.env.kindOf x=some .globalImplicit)(hv:C.G.mg x=some val)
  (r:∀ h,VR h v val) (k:K v J) (hd:(x==("__debug__" : Str))=false:=by decide):EV C (eval (.Name x pos) C.env) J K:=λs H=>
 .of (Name_function_global hk hx (loadGlobal_global (C.glo H) hv (Pst.here H (r _) k)) hd)
theorem Zuy{val:Value}(hk:C.env.scope.kind = .function)(hx:C.env.kindOf x=some .globalImplicit)(hm:C.G.mg x=none)(hv:C.G.mb x=some val)
  (r:∀ h,VR h v val) (k:K v J) (hd:(x==("__debug__" : Str))=false:=by decide):EV C (eval (.Name x pos) C.env) J K:=λs H=>
 .of (Name_function_global hk hx (loadGlobal_builtin (C.glo H) hm (C.blt H) hv (Pst.here H (r _) k)) hd)
theorem Zto{i:Int}(h:K (.int i) J):EV C (eval (.Constant (.int i) k pos) env) J K:=λs H=>
 .of (wpAny_Constant_int (Pst.hereT H (.int i _) h))
theorem Z4g(h:K (.str x) J):EV C (eval (.Constant (.str x) k pos) env) J K:=λs H=>
 .of (wpAny_Constant_str (Pst.hereT H (.str x _) h))
theorem Zn6(h:K .none J):EV C (eval (.Constant .none k pos) env) J K:=λs H=>
 .of (wpAny_Constant_none (Pst.here H .none h))
theorem Zql{b:Bool}(h:K (.bool b) J):EV C (eval (.Constant (.bool b) k pos) env) J K:=λs H=>
 .of (wpAny_Constant_bool (Pst.here H (.bool b) h))
theorem Z07(b:List UInt8):((b.map UInt8.toNat).map Nat.toUInt8)=b:=by
 rw[List.map_map]
 conv=>rhs;rw[<- List.map_id b]
 apply List.map_congr_left
 intro x _
 simp
theorem VR.ofBytes(b:List UInt8)(t:Tok):VR h (.bytes (b.map UInt8.toNat)) (.bytes b.toArray t):=by
 have:=VR.bytes (h:=h) (b:=b.map UInt8.toNat) t (λx hx=>by obtain⟨y,_,rfl⟩:=Qf hx;exact y.toNat_lt)
 rwa [Z07] at this
theorem Zli{b:List UInt8}(h:K (.bytes (b.map UInt8.toNat)) J):EV C (eval (.Constant (.bytes b) k pos) env) J K:=λs H=>
 (λY Y Y Y Y Y=>Pst.hereT H (VR.ofBytes b _) h)
theorem Zkx{l r:Expr}{op:Operator}(h:EV C (eval l env) J λa J_1=>EV C (eval r env) J_1 λb J_2=>OP2 C VR (binaryOp op) a b J_2 K) :
  EV C (eval (.BinOp l op r pos) env) J K:=λs H=>by
 rw[arm_eval_BinOp]
 exact Zaa (h.step H λa J_1 va s_1 h_1 ra H_1 k_1=>Zaa (Zae (h_1.step H_1 λb J_2 vb s_2 h_2 rb H_2 k_2=>Zaa (Zac (Zas
  (Zad (h_2 s_2 va vb H_2 (ra.mono k_2) rb) (λY Y p=>p.tk (k_1.trans k_2)) λY Y e=>e))))))
theorem Ztt{l r:Expr}{op:CmpOp}(h:EV C (eval l env) J λa J_1=>EV C (eval r env) J_1 λb J_2=>OP2 C VR (compareOp op) a b J_2 K)
  (hm:behindInMarks op r=false:=by with_unfolding_all rfl):EV C (eval (.Compare l [op] [r] pos) env) J K:=λs H=>by
 rw[eval_Compare1,markedBehindIn_of_false hm]
 exact Zaa (h.step H λa J_1 va s_1 h_1 ra H_1 k_1=>Zaa (Zae (h_1.step H_1 λb J_2 vb s_2 h_2 rb H_2 k_2=>Zaa (Zac (Zas
  (Zad (h_2 s_2 va vb H_2 (ra.mono k_2) rb) (λY Y p=>p.tk (k_1.trans k_2)) λY Y e=>e))))))
theorem Zon{v:Expr}(h:EV C (eval v env) J λa J_1=>EV C (eval sl env) J_1 λb J_2=>OP2 C VR (subscriptTail v sl) a b J_2 K) :
  EV C (eval (.Subscript v sl pos) env) J K:=λs H=>by
 rw[eval_Subscript]
 exact Zaa (h.step H λa J_1 va s_1 h_1 ra H_1 k_1=>Zaa (Zae (h_1.step H_1 λb J_2 vb s_2 h_2 rb H_2 k_2=>Zaa (Zac
  (Zad (h_2 s_2 va vb H_2 (ra.mono k_2) rb) (λY Y p=>p.tk (k_1.trans k_2)) λY Y e=>e)))))
theorem Zk9{op:UnaryOp}{x:Expr}(h:EV C (eval x env) J λa J_1=>OP1 C VR (unaryOp op) a J_1 K) :
  EV C (eval (.UnaryOp op x pos) env) J K:=λs H=>by
 rw[arm_eval_UnaryOp]
 exact Zaa (h.step H λa J_1 va s_1 h_1 ra H_1 k_1=>Zaa (Zac (Zae (Zad (h_1 s_1 va H_1 ra) (λY Y p=>p.tk k_1) λY Y e=>e))))
abbrev TR(C:Cx)(a:V)(J:St)(K:Bool->Wl):Prop:=OP1 C (λ_ (b:Bool) v=>v=b) truthy a J K
theorem Zd3{t:Sem Value}{K:Bool->Wl}(h:EV C t J λa J_1=>TR C a J_1 K)
  (he:isTrue e env t=(do let v <- t;standAt e.pos;holding [v] (truthy v)):=by rfl):BV C (isTrue e env t) J K:=λs H=>by
 rw[he]
 exact Zaa (h.step H λa J_1 va s_1 h_1 ra H_1 k_1=>Zaa (Zac (Zae (Zad (h_1 s_1 va H_1 ra) (λY Y p=>p.tk k_1) λY Y e=>e))))
theorem Zuv{l r:Expr}{op:CmpOp}{t:Sem Value}{K:Bool->Wl}
  (h:EV C (eval l env) J λa J_1=>EV C (eval r env) J_1 λb J_2=>OP2 C VR (compareOp op) a b J_2 λc J_3=>TR C c J_3 K)
  (hm:behindInMarks op r=false:=by with_unfolding_all rfl):BV C (isTrue (.Compare l [op] [r] pos) env t) J K:=λs H=>by
 rw[isTrue_Compare1,markedBehindIn_of_false hm]
 exact Zaa (h.step H λa J_1 va s_1 h_1 ra H_1 k_1=>Zaa (Zae (h_1.step H_1 λb J_2 vb s_2 h_2 rb H_2 k_2=>Zaa (Zac (Zaa (Zas
  (Zap (h_2 s_2 va vb H_2 (ra.mono k_2) rb) (λc s_3 cv J_3 h_3 rc H_3 k_3=>Zae (Zad (h_3 s_3 c H_3 rc) (λY Y p=>p.tk ((k_1.trans k_2).trans k_3)) λY Y e=>e)))))))))
theorem Zuk{x:Expr}{t:Sem Value}{K:Bool->Wl}(h:BV C (isTrue x env (eval x env)) J λb J_1=>K (!b) J_1) :
  BV C (isTrue (.UnaryOp .Not x pos) env t) J K:=λs H=>by
 rw[arm_isTrue_UnaryOp]
 exact Zaa (h.step H λb J_1 v s_1 k r H_1 k_1=>Zab ⟨!b,J_1,k,by rw[r],H_1,k_1⟩)
theorem Zof{op:BoolOp}{vs:List Expr}{t:Sem Value}{K:Bool->Wl}(h:BV C (allTrue op vs env) J K):BV C (isTrue (.BoolOp op vs pos) env t) J K:=λs H=>by
 rw[arm_isTrue_BoolOp];exact h s H
theorem Zfx{K:Bool->Wl}(h:K true J):BV C (allTrue .And [] env) J K:=λs H=>.of (wpAny_allTrue_And_nil (Pst.here H rfl h))
theorem Zh1{K:Bool->Wl}(h:K false J):BV C (allTrue .Or [] env) J K:=λs H=>.of (wpAny_allTrue_Or_nil (Pst.here H rfl h))
theorem Zt7{x:Expr}{rest:List Expr}{K:Bool->Wl}
  (h:BV C (isTrue x env (eval x env)) J λb J_1=>(b=true->BV C (allTrue .And rest env) J_1 K)/\(b=false->K false J_1)):BV C (allTrue .And (x::rest) env) J K:=λs H=>by
 show wpP _ _ (do match BoolOp.And,<- isTrue x env (eval x env) with | .And,false=>pure false | .Or,true=>pure true|_,_=>allTrue .And rest env) _ _ _
 exact Zaa (h.step H λb J_1 v s_1 k r H_1 k_1=>by
  subst r
  induction v with
  | true=>exact Zad (k.1 rfl s_1 H_1) (λY Y p=>p.tk k_1) λY Y e=>e
  | false=>exact Zab ⟨false,J_1,k.2 rfl,rfl,H_1,k_1⟩)
theorem Z2z{x:Expr}{rest:List Expr}{K:Bool->Wl}
  (h:BV C (isTrue x env (eval x env)) J λb J_1=>(b=false->BV C (allTrue .Or rest env) J_1 K)/\(b=true->K true J_1)):BV C (allTrue .Or (x::rest) env) J K:=λs H=>by
 show wpP _ _ (do match BoolOp.Or,<- isTrue x env (eval x env) with | .And,false=>pure false | .Or,true=>pure true|_,_=>allTrue .Or rest env) _ _ _
 exact Zaa (h.step H λb J_1 v s_1 k r H_1 k_1=>by
  subst r
  induction v with
  | false=>exact Zad (k.1 rfl s_1 H_1) (λY Y p=>p.tk k_1) λY Y e=>e
  | true=>exact Zab ⟨true,J_1,k.2 rfl,rfl,H_1,k_1⟩)
theorem Zla{body orelse:Expr}
  (h:BV C (isTrue test env (eval test env)) J λb J_1=>(b=true->EV C (eval body env) J_1 K)/\(b=false->EV C (eval orelse env) J_1 K)):EV C (eval (.IfExp test body orelse pos) env) J K:=λs H=>by
 rw[arm_eval_IfExp]
 exact Zaa (h.step H λb J_1 v s_1 k r H_1 k_1=>by
  subst r
  induction v with
  | true=>exact Zad (k.1 rfl s_1 H_1) (λY Y p=>p.tk k_1) λY Y e=>e
  | false=>exact Zad (k.2 rfl s_1 H_1) (λY Y p=>p.tk k_1) λY Y e=>e)
theorem Zk6{K:List V->Wl}(h:K [] J):LV C (spliced (backTo pos (starEach [] env))) J K:=λs H=>.of (args_nil (Pst.here H .nil h))
theorem Zkf{rest:List Expr}{K:List V->Wl}
  (h:EV C (eval e env) J λa J_1=>LV C (spliced (backTo pos (starEach rest env))) J_1 λl J_2=>K (a::l) J_2)
  (he:starEach (e::rest) env=(false,eval e env)::starEach rest env:=by rfl):LV C (spliced (backTo pos (starEach (e::rest) env))) J K:=λs H=>by
 rw[he]
 show wpP _ _ (do
  let v <- eval e env
  let here <- (pure [v]:Sem (List Value))
  return here++(<- holding here (spliced (backTo pos (starEach rest env))))) _ _ _
 exact Zaa (h.step H λa J_1 va s_1 h_1 ra H_1 k_1=>Zaa (Zab (Zaa (Zae (h_1.step H_1 λl J_2 vs s_2 h_2 rl H_2 k_2=>Zab ⟨a::l,J_2,h_2,.cons (ra.mono k_2) rl,H_2,k_1.trans k_2⟩)))))
theorem Zo7{K:Wj}(h:K .next J):XV C (execs [] env) J K:=λs H=>.of (wpAny_execs_nil (Pst.here H .next h))
def sqK(P:Wl)(K:Wj):Wj
 | .next,J=>P J
 | .brk,J=>K .brk J
 | .cont,J=>K .cont J
 | .ret v,J=>K (.ret v) J
theorem Zan{K:Wj}(h:P J):sqK P K .next J:=h
theorem Zzt{K:Wj}(h:K .brk J):sqK P K .brk J:=h
theorem Zz3{K:Wj}(h:K (.ret v) J):sqK P K (.ret v) J:=h
def lpK(P:Wl)(K:Wj):Wj
 | .next,J=>P J
 | .cont,J=>P J
 | .brk,J=>K .next J
 | .ret v,J=>K (.ret v) J
theorem Zwu{K:Wj}(h:P J):lpK P K .next J:=h
theorem Z0h{K:Wj}(h:K .next J):lpK P K .brk J:=h
def Drp(l l':Wg):Prop:=∃ l0,l.Perm l0/\l'.Sublist l0
section
variable {x:Addr×AO}{l l' l'':Wg}
theorem Drp.refl:Drp l l:=⟨l,.refl _,.refl _⟩
theorem Drp.keep(h:Drp l l'):Drp (x::l) (x::l'):=by
 obtain⟨l0,a,b⟩:=h
 exact⟨_,a.cons x,b.cons_cons x⟩
theorem Drp.cons(h:Drp l l'):Drp (x::l) l':=by
 obtain⟨l0,a,b⟩:=h
 exact⟨_,a.cons x,b.cons x⟩
theorem Drp.perm(p:l.Perm l')(h:Drp l' l''):Drp l l'':=by
 obtain⟨l0,a,b⟩:=h
 exact⟨l0,p.trans a,b⟩
theorem Drp.sub(h:Drp l l'):∃ l0,l.Perm l0/\l'.Sublist l0:=h
end
theorem Drp.mem{l:Wg}(h:Drp l l'){p:Addr×AO}(hp:p∈l'):p∈l:=by
 obtain⟨l0,a,b⟩:=h.sub
 exact a.mem_iff.mpr (b.subset hp)
theorem Drp.nd{l:Wg}(h:Drp l l')(n:(l.map (·.1)).Nodup):(l'.map (·.1)).Nodup:=by
 obtain⟨l0,a,b⟩:=h.sub
 exact List.Nodup.sublist (b.map _) ((a.map (λx:Addr×AO=>x.1)).nodup_iff.mp n)
theorem Drp.keys{l:Wg}(h:Drp l l')(ha:a∈l'.map (·.1)):a∈l.map (·.1):=by
 obtain⟨p,hp,e⟩:=Qf ha
 exact Qe ⟨p,h.mem hp,e⟩
def fnK(K:V->Wg->Prop):Wj
 | .ret v,J=>∃ l,K v l/\Drp J.obs l
 | _,J=>∃ l,K .none l/\Drp J.obs l
theorem Z1u{K:V->Wg->Prop}{l:Wg}(h:K v l)(d:Drp J.obs l):fnK K (.ret v) J:=⟨l,h,d⟩
theorem Zag{st:Stmt}{rest:List Stmt}{K:Wj}
  (h:XV C (exec st env) J (sqK (λJ_1=>XV C (execs rest env) J_1 K) K)):XV C (execs (st::rest) env) J K:=by
 exists (C J env st rest K),h
 intro s H
 rw[execs_cons]
 exact Zaa (h.step H λf J_1 v s_1 k r H_1 k_1=>by
  induction r with
  | next=>exact Zad (k s_1 H_1) (λY Y p=>p.tk k_1) λY Y e=>e
  | brk=>exact Zab ⟨.brk,J_1,k,.brk,H_1,k_1⟩
  | cont=>exact Zab ⟨.cont,J_1,k,.cont,H_1,k_1⟩
  | ret r=>exact Zab ⟨.ret _,J_1,k,.ret r,H_1,k_1⟩)
theorem Z4t{K:Wj}
  (h:BV C (isTrue test env (eval test env)) J λb J_1=>(b=true->XV C (execs body env) J_1 K)/\(b=false->XV C (execs orelse env) J_1 K)):XV C (exec (.If test body orelse pos) env) J K:=λs H=>by
 rw[exec_If]
 exact Zaa (Zac (Zaa (h.step H λb J_1 v s_1 k r H_1 k_1=>by
  subst r
  induction v with
  | true=>exact Zad (k.1 rfl s_1 H_1) (λY Y p=>p.tk k_1) λY Y e=>e
  | false=>exact Zad (k.2 rfl s_1 H_1) (λY Y p=>p.tk k_1) λY Y e=>e)))
theorem Z10{K:Wj}(h:EV C (eval e env) J λa J_1=>K (.ret a) J_1):XV C (exec (.Return (some e) pos) env) J K:=λs H=>by
 rw[exec_Return_some]
 exact Zaa (Zac (Zaa (h.step H λa J_1 v s_1 k r H_1 k_1=>Zab ⟨.ret a,J_1,k,.ret r,H_1,k_1⟩)))
theorem Zvw{K:Wj}(h:K .brk J):XV C (exec (.Break pos) env) J K:=λs H=>.of (wpAny_Break (Pst.here H .brk h))
theorem Zth{K:Wj}(h:K .cont J):XV C (exec (.Continue pos) env) J K:=λs H=>.of (wpAny_Continue (Pst.here H .cont h))
theorem Zti{K:Wj}(h:K .next J):XV C (exec (.Pass pos) env) J K:=λs H=>.of (wpAny_Pass (Pst.here H .next h))
theorem Ns.noTup{m:Str->Option Value}(x:h.Ns a m):∀ vs n,h.get? a≠some (Zbk vs n):=λvs n e=>by
 obtain⟨o,es,ep,e',hd,_⟩:=x
 rw[e] at e'
 cases e'
 cases hd
theorem Holds.store{a:V}{v:Value}{l':Wm}(H:Holds C J s)(u:Up x (some a) J.loc l')
  (hn:∀ m,s.heap.Ns C.env.locals m->h'.Ns C.env.locals (λy=>if y=x then some v else m y)) (hs:Heap.SameBut C.env.locals s.heap h') (r:VR s.heap a v) (n:Nat) :
  Holds C ⟨l',J.obs⟩ { s with heap:=h',toks:=n }/\TK s.heap h':=by
 exists (C J s x h' a v l' n),H,u,hn,hs,r
 refine Zaj (H.loc) λm hN hm=>?_
 have tk:TK s.heap h':=TK.of_same hs (Ns.noTup hN)
 refine⟨⟨λb o e=>?_,⟨_,hn m hN,λy u' hy=>?_⟩,λp hp=>?_,H.nd,H.ap,?_,H.gens,H.drawn,H.os⟩,tk⟩
 .have:b≠C.env.locals:=λq=>by
   have:=H.ap C.env.locals (.head _)
   rw[<- q,e] at this;cases this
  exact(hs.2 b this).trans (H.frz b o e)
 .rcases u.mem H.nn y (some u') hy with⟨rfl,e⟩|⟨hne,hy'⟩
  .cases e
   exact⟨v,if_pos rfl,r.mono tk⟩
  .obtain⟨val,e,r'⟩:=hm y u' hy'
   exact⟨val,by rw[if_neg hne];exact e,r'.mono tk⟩
 .refine Zaj (H.obs p hp) λO e ro=>?_
  have:p.1≠C.env.locals:=λq=>(Qc H.nd).1 (Qe ⟨p,hp,q⟩)
  exact⟨O,(hs.2 _ this).trans e,ro.mono tk⟩
 .show(l'.map (·.1)).Nodup
  rw[u.names];exact H.nn
theorem Zbv{x:Str}{a:V}{l':Wm}{K:Wl}(hl:C.env.kindOf x=some .local)
  (hp:(C.env.scope.kind == .class||(C.env.scope.kind == .module&&C.env.locals != C.env.globals))=false) (u:Up x (some a) J.loc l') (k:K ⟨l',J.obs⟩) :
  OP1 C (λ_ (_:Unit) _=>True) (storeName C.env x) a J (λY J=>K J):=by
 exists (C J x a l' K),hl,hp,u,k
 intro s v H r
 refine Zaj (H.loc) λm hN hm=>?_
 refine .of (wpAny_storeName_local hl hN (λh' hn' hs'=>?_) hp)
 have z:=H.store u (h':=h') (v:=v) (λm2 hN2=>?_) hs' r (s.toks+1)
 .exact⟨(),_,k,trivial,z.1,z.2⟩
 .obtain⟨o,es,ep,e,hd,hk,hf⟩:=hN
  obtain⟨o2,es2,ep2,e2,hd2,hk2,hf2⟩:=hN2
  rw[e] at e2;cases e2
  rw[hd] at hd2;cases hd2
  have:m=m2:=by funext y;rw[<- hf y,hf2 y]
  subst this
  exact hn'
abbrev U1(C:Cx)(f:Value->Sem Unit)(a:V)(J:St)(K:Wl):Prop:=OP1 C (λ_ (_:Unit) _=>True) f a J λY J=>K J
theorem Zd7{K:Wj}(h:EV C (eval value C.env) J λa J_1=>U1 C (storeName C.env x) a J_1 λJ=>K .next J)
  (hs:swapsWith value (some (.Name x pos')) pos.line C.env=pure false:=by rfl):XV C (exec (.Assign [.Name x pos'] value pos) C.env) J K:=λs H=>by
 rw[exec_Assign_Name C.env x pos' value pos hs]
 exact Zaa (Zac (Zaa (h.step H λa J_1 va s_1 h_1 ra H_1 k_1=>Zaa (Zac (Zaa (Za2 (Zap (h_1 s_1 va H_1 ra) (λY s_2 Y J' k Y H' t=>Zab ⟨.next,J',k,.next,H',k_1.trans t⟩))))))))
theorem Z2b{x:Str}{op:Operator}{value:Expr}{pos pos':Pos}{K:Wj}
  (h:EV C (loadName C.env x) J λa J_1=>EV C (eval value C.env) J_1 λb J_2=>OP2 C VR (inplaceOp op) a b J_2 λc J_3=>U1 C (storeName C.env x) c J_3 λJ=>K .next J) :
  XV C (exec (.AugAssign (.Name x pos') op value pos) C.env) J K:=by
 exists (C J x op value pos pos' K),h
 intro s H
 rw[exec_AugAssign_Name]
 exact Zaa (Zac (Zaa (h.step H λa J_1 va s_1 h_1 ra H_1 k_1=>Zaa (Zae (h_1.step H_1 λb J_2 vb s_2 h_2 rb H_2 k_2=>Zaa (Zac (Zaa (Zas
  (Zap (h_2 s_2 va vb H_2 (ra.mono k_2) rb) (λc s_3 cv J_3 h_3 rc H_3 k_3=>Zaa (Zac (Zaa (Za2 (Zap (h_3 s_3 c H_3 rc)
   (λY s_4 Y J' k Y H' t=>Zab ⟨.next,J',k,.next,H',((k_1.trans k_2).trans k_3).trans t⟩)))))))))))))))
def LkO(a:Addr)(o:AO)(l:Wg):Prop:=(a,o)∈l
theorem LkO.head{o:AO}{l:Wg}:LkO a o ((a,o)::l):=List.Mem.head _
theorem LkO.tail{o:AO}{y:Addr×AO}{l:Wg}(h:LkO a o l):LkO a o (y::l):=List.Mem.tail _ h
theorem LkO.mem{o:AO}{l:Wg}(h:LkO a o l):(a,o)∈l:=h
def UpO(a:Addr)(o o':AO)(l l':Wg):Prop:=UpG a o o' l l'
section
variable {a:Addr}{o o':AO}{l l':Wg}
theorem UpO.head:UpO a o o' ((a,o)::l) ((a,o')::l):=UpG.head
theorem UpO.tail{y:Addr×AO}(h:UpO a o o' l l'):UpO a o o' (y::l) (y::l'):=UpG.tail h
theorem UpO.lk(h:UpO a o o' l l'):LkO a o l:=UpG.lk h
theorem UpO.nw(h:UpO a o o' l l'):LkO a o' l':=UpG.nw h
theorem UpO.keys(h:UpO a o o' l l'):l'.map (·.1)=l.map (·.1):=UpG.keys h
theorem UpO.mem(h:UpO a o o' l l')(nd:(l.map (·.1)).Nodup)(p:Addr×AO)(hm:p∈l'):(p=(a,o'))\/(p.1≠a/\p∈l):=UpG.mem h nd p hm
end
theorem Holds.obj(H:Holds C J s){o:AO}(h:LkO a o J.obs):∃ O,s.heap.get? a=some O/\OR s.heap o O:=H.obs _ h.mem
theorem Holds.list(H:Holds C J s)(h:LkO a (.list l) J.obs):∃ vs n,s.heap.get? a=some (listOf vs.toArray n)/\VRs s.heap l vs:=by
 refine Zaj (H.obj h) λO e r=>?_
 revert r
 intro r0
 refine OR.listK r0 λY n r e0=>?_
 subst e0
 exact⟨_,n,e,r⟩
theorem Holds.locLt(H:Holds C J s):C.env.locals<s.heap.objs.size:=by
 refine Zaj (H.loc) λm hN Y=>?_
 exact hN.lt
theorem Holds.ltOf(H:Holds C J s){p:Addr×AO}(hp:p∈J.obs):p.1<s.heap.objs.size:=by
 refine Zaj (H.obs p hp) λO e Y=>?_
 exact Qz e
theorem Holds.fzLt(H:Holds C J s){b:Addr}(e:C.fz b=some o):b<s.heap.objs.size:=Qz (H.frz b o e)
theorem Holds.ext(H:Holds C J s)(k:∀ b o,s.heap.get? b=some o->h'.get? b=some o)(n:Nat):Holds C J { s with heap:=h',toks:=n }:=by
 refine Zaj (H.loc) λm hN hm=>?_
 exact⟨λb o e=>k _ _ (H.frz b o e),⟨m,hN.keeps k,λx v hx=>(by obtain⟨val,e,r⟩:=hm x v hx;exact⟨val,e,r.mono (.of_ext k)⟩)⟩,
  λp hp=>(by obtain⟨O,e,r⟩:=H.obs p hp;exact⟨O,k _ _ e,r.mono (.of_ext k)⟩),H.nd,H.ap,H.nn,H.gens,H.drawn,H.os⟩
theorem Holds.alloc(H:Holds C J s)(k:∀ b o,s.heap.get? b=some o->h'.get? b=some o){o:AO}{O:Obj}(hge:s.heap.objs.size<=a)(e:h'.get? a=some O)(r:OR h' o O)(n:Nat) :
  Holds C ⟨J.loc,(a,o)::J.obs⟩ { s with heap:=h',toks:=n }:=by
 have E:=H.ext k n
 refine⟨E.frz,E.loc,λp hp=>?_,?_,λb hb=>?_,E.nn,E.gens,E.drawn,E.os⟩
 .rcases Qb hp with q|q
  .subst q;exact⟨O,e,r⟩
  .exact E.obs p q
 .have h1:=H.nd
  have h2:C.env.locals≠a:=Nat.ne_of_lt (Nat.lt_of_lt_of_le H.locLt hge)
  have h3:a ∉ J.obs.map (·.1):=λhm=>by
   obtain⟨p,hp,q⟩:=Qf hm
   have:=H.ltOf hp
   rw[q] at this
   exact absurd this (Nat.not_lt.mpr hge)
  rw[List.nodup_cons] at h1 ⊢
  refine⟨λhm=>?_,?_⟩
  .rcases Qb hm with q|q
   .exact h2 q
   .exact h1.1 q
  .exact Qd ⟨h3,h1.2⟩
 .rcases Qb hb with q|q
  .exact H.ap b (q ▸ .head _)
  .rcases Qb q with q|q
   .have q':b=a:=q
    rw[q']
    cases e2:C.fz a with
    | none=>rfl
    | some o2=>exact absurd (H.fzLt e2) (Nat.not_lt.mpr hge)
   .exact H.ap b (.tail _ q)
theorem Holds.set(H:Holds C J s){o o':AO}(u:UpO a o o' J.obs l')(hs:Heap.SameBut a s.heap h'){O:Obj}(e:h'.get? a=some O)
  (r:OR s.heap o' O) (n:Nat):Holds C ⟨J.loc,l'⟩ { s with heap:=h',toks:=n }/\TK s.heap h':=by
 exists (C J s a h' l' o o' O n),H,u,hs,e,r
 refine Zaj (H.loc) λm hN hm=>?_
 refine Zaj (H.obj u.lk) λO0 e_0 r_0=>?_
 have tk:TK s.heap h':=TK.of_same hs λvs n q=>by
  rw[e_0] at q
  exact r_0.noTup vs n (Qv q)
 have hne:C.env.locals≠a:=λq=>(Qc H.nd).1 (q▸Qe ⟨_,u.lk.mem,rfl⟩)
 refine⟨⟨λb ob eb=>?_,⟨m,hN.sameBut hs hne,λx v hx=>?_⟩,λp hp=>?_,?_,?_,H.nn,H.gens,H.drawn,H.os⟩,tk⟩
 .have:b≠a:=λq=>by
   have:=H.ap a (.tail _ (Qe ⟨_,u.lk.mem,rfl⟩))
   rw[<- q,eb] at this;cases this
  exact(hs.2 b this).trans (H.frz b ob eb)
 .obtain⟨val,e1,r1⟩:=hm x v hx
  exact⟨val,e1,r1.mono tk⟩
 .rcases u.mem (Qc H.nd).2 p hp with q|⟨q,hp'⟩
  .subst q;exact⟨O,e,r.mono tk⟩
  .refine Zaj (H.obs p hp') λO1 e1 r1=>?_
   exact⟨O1,(hs.2 _ q).trans e1,r1.mono tk⟩
 .show(C.env.locals::l'.map (·.1)).Nodup
  rw[u.keys];exact H.nd
 .show ∀ b∈C.env.locals::l'.map (·.1),C.fz b=none
  rw[u.keys];exact H.ap
section
variable {i j:Int}{K:Wk}{KB:Bool->Wl}
theorem Ztv(h:K (.int (i+j)) J):OP2 C VR (binaryOp .Add) (.int i) (.int j) J K:=λs v u H r1 r2=>by
 o_facts r1;o_facts r2;exact .of (PyProof.Rows.add_int (Pst.hereT H (.int _ _) h))
theorem Zue(h:K (.int (i-j)) J):OP2 C VR (binaryOp .Sub) (.int i) (.int j) J K:=λs v u H r1 r2=>by
 o_facts r1;o_facts r2;exact .of (PyProof.Rows.sub_int (Pst.hereT H (.int _ _) h))
theorem Zuz(h:K (.int (i * j)) J)(hm:IntMulOk i j):OP2 C VR (binaryOp .Mult) (.int i) (.int j) J K:=λs v u H r1 r2=>by
 o_facts r1;o_facts r2;exact .of (PyProof.Rows.mul_int (Pst.hereT H (.int _ _) h) hm)
theorem Ztj(h:K (.int (i.fmod j)) J)(hj:j≠0):OP2 C VR (binaryOp .Mod) (.int i) (.int j) J K:=λs v u H r1 r2=>by
 o_facts r1;o_facts r2;exact .of (PyProof.Rows.mod_int hj (Pst.hereT H (.int _ _) h))
theorem Z4c(h:K (.int (i ^ j.toNat)) J)(hn:0<=j)(hsz:(Builtin.Int.intBits i:Int) * j<=2 ^ 27):OP2 C VR (binaryOp .Pow) (.int i) (.int j) J K:=λs v u H r1 r2=>by
 o_facts r1;o_facts r2;exact .of (PyProof.Rows.pow_int hn hsz (Pst.hereT H (.int _ _) h))
theorem Zn5(h:K (.int (i+j)) J):OP2 C VR (inplaceOp .Add) (.int i) (.int j) J K:=λs v u H r1 r2=>by
 o_facts r1;o_facts r2;exact .of (PySem.P.iadd_int (Pst.hereT H (.int _ _) h))
theorem Zp9(h:K (.int (i-j)) J):OP2 C VR (inplaceOp .Sub) (.int i) (.int j) J K:=λs v u H r1 r2=>by
 o_facts r1;o_facts r2;exact .of (PySem.P.isub_int (Pst.hereT H (.int _ _) h))
theorem Zzz(h:K (.bool (i==j)) J):OP2 C VR (compareOp .Eq) (.int i) (.int j) J K:=λs v u H r1 r2=>by
 o_facts r1;o_facts r2;exact .of (PySem.P.eq_int (Pst.here H (.bool _) h))
theorem Z0d(h:K (.bool (i != j)) J):OP2 C VR (compareOp .NotEq) (.int i) (.int j) J K:=λs v u H r1 r2=>by
 o_facts r1;o_facts r2;exact .of (PySem.P.ne_int (Pst.here H (.bool _) h))
theorem Z2o(h:K (.bool (decide (i<j))) J):OP2 C VR (compareOp .Lt) (.int i) (.int j) J K:=λs v u H r1 r2=>by
 o_facts r1;o_facts r2;exact .of (PySem.P.lt_int (Pst.here H (.bool _) h))
theorem Z0l(h:K (.bool (decide (i<=j))) J):OP2 C VR (compareOp .LtE) (.int i) (.int j) J K:=λs v u H r1 r2=>by
 o_facts r1;o_facts r2;exact .of (PySem.P.le_int (Pst.here H (.bool _) h))
theorem Z0i(h:K (.bool (decide (i > j))) J):OP2 C VR (compareOp .Gt) (.int i) (.int j) J K:=λs v u H r1 r2=>by
 o_facts r1;o_facts r2;exact .of (PySem.P.gt_int (Pst.here H (.bool _) h))
theorem Z4b(h:K (.bool (decide (i>=j))) J):OP2 C VR (compareOp .GtE) (.int i) (.int j) J K:=λs v u H r1 r2=>by
 o_facts r1;o_facts r2;exact .of (PySem.P.ge_int (Pst.here H (.bool _) h))
theorem Zt4(h:K (.int (-i)) J):OP1 C VR (unaryOp .USub) (.int i) J K:=λs v H r1=>by
 o_facts r1;exact .of (PySem.P.neg_int (Pst.hereT H (.int _ _) h))
theorem Ztk(h:KB (i != 0) J):OP1 C (λ_ (b:Bool) v=>v=b) truthy (.int i) J KB:=λs v H r1=>by
 o_facts r1;exact .of (PySem.P.truthy_int (Pst.here H rfl h))
theorem Zjx{b:Bool}(h:KB b J):OP1 C (λ_ (b:Bool) v=>v=b) truthy (.bool b) J KB:=λs v H r1=>by
 o_facts r1;exact .of (wpAny_truthy_bool (Pst.here H rfl h))
end
structure Led(fz:Addr->Option Obj)(obs:Wg)(s:Shared):Prop where
 frz:∀ b o,fz b=some o->s.heap.get? b=some o
 has:∀ p∈obs,∃ O,s.heap.get? p.1=some O/\OR s.heap p.2 O
 nd:(obs.map (·.1)).Nodup
 ap:∀ a∈obs.map (·.1),fz a=none
def Fn(G:Gl)(f:Value)(n:Nat)(args:List V)(obs:Wg)(K:V->Wg->Prop):Prop:=
 ∀ (A:Around) (fz:Addr->Option Obj) (s:Shared) (vs:List Value) (E:Wh),Good A n->G.Ok fz->Led fz obs s->VRs s.heap args vs ->
  wpP (model G.prog G.w) A (call f vs) (λv s'=>∃ r obs',K r obs'/\VR s'.heap r v/\Led fz obs' s'/\TK s.heap s'.heap/\GK s.gens s'.gens/\s'.drawn=s.drawn/\s'.os=s.os) E s
def Pick(x:Addr×AO)(l l':Wg):Prop:=l.Perm (x::l')
theorem Pick.head{x:Addr×AO}{l:Wg}:Pick x (x::l) l:=List.Perm.refl _
theorem Pick.tail{x y:Addr×AO}{l:Wg}(h:Pick x l l'):Pick x (y::l) (y::l'):=(List.Perm.cons _ h).trans (.swap ..)
theorem Pick.perm{x:Addr×AO}{l:Wg}(h:Pick x l l'):l.Perm (x::l'):=h
noncomputable def pdn{α:Type}(L:List (List α)):List Nat->List α
 | []=>[]
 | [i]=>L.getD i []
 | i::r=>L.getD i []++pdn L r
theorem Ztz(L:List (List α))(x:List Nat):pdn L x=x.flatMap λi=>L.getD i []:=by
 induction x with
 | nil=>rfl
 | cons i r ih=>
  induction r with
  | nil=>exact(List.append_nil _).symm
  | cons j r=>exact congrArg (L.getD i []++·) ih
theorem Zxm(L:List (List α))(x y:List Nat)(h:x.isPerm y=true):(pdn L x).Perm (pdn L y):=by
 rw[Ztz,Ztz]
 exact List.Perm.flatMap_right _ (List.isPerm_iff.mp h)
def Sel(l sel rest:Wg):Prop:=l.Perm (sel++rest)
theorem Sel.nil{l:Wg}:Sel l [] l:=List.Perm.refl _
theorem Sel.cons{x:Addr×AO}{l:Wg}(p:Pick x l l')(h:Sel l' sel rest):Sel l (x::sel) rest:=p.trans (List.Perm.cons _ h)
theorem Sel.perm{l:Wg}(h:Sel l sel rest):l.Perm (sel++rest):=h
open Classical in
theorem Zo6{f:Value}(F:Fn C.G f n args sel K')(g:Good C.A n)(S:Sel J.obs sel rest)
  (k:∀ r obs',K' r obs'->K r ⟨J.loc,obs'++rest⟩):OPL C VR (λvs=>call f vs) args J K:=by
 exists (C J K n rest args K' sel f),F,g,S,k
 intro s vs H R
 have P:=S.perm
 have nd:=H.nd
 have nd2:(sel.map (·.1)++rest.map (·.1)).Nodup:=by
  have:=(P.map (·.1)).nodup_iff.mp (Qc nd).2
  rwa [Qq] at this
 have ndl:C.env.locals ∉ sel.map (·.1):=λhm=>(Qc nd).1 ((P.map (·.1)).mem_iff.mpr (by rw[Qq];exact Ql _ hm))
 have ndr:C.env.locals ∉ rest.map (·.1):=λhm=>(Qc nd).1 ((P.map (·.1)).mem_iff.mpr (by rw[Qq];exact Qk _ hm))
 let fz':Addr->Option Obj:=λb=>if b∈sel.map (·.1) then none else s.heap.get? b
 have up:∀ b o,C.fz b=some o->fz' b=some o:=λb o e=>by
  have hb:b ∉ sel.map (·.1):=λhm=>by
   have:=H.ap b (.tail _ ((P.map (·.1)).mem_iff.mpr (by rw[Qq];exact Ql _ hm)))
   rw[e] at this;cases this
  show(if b∈sel.map (·.1) then none else s.heap.get? b)=some o
  rw[if_neg hb];exact H.frz b o e
 have ok':C.G.Ok fz':=⟨λa o e=>up a o (C.ok.sub a o e),λh hk=>C.ok.top h λb o e=>hk b o (up b o e),(by obtain⟨o,e⟩:=C.ok.sm;exact⟨o,up _ _ e⟩)⟩
 have L:Led fz' sel s:=by
  refine⟨λb o e=>?_,λp hp=>H.obs p (P.mem_iff.mpr (Ql _ hp)),(List.nodup_append.mp nd2).1,λa ha=>if_pos ha⟩
  by_cases hb:b∈sel.map (·.1)
  .have:fz' b=none:=if_pos hb
   rw[this] at e;cases e
  .have:fz' b=s.heap.get? b:=if_neg hb
   rw[this] at e;exact e
 refine Zad (F C.A fz' s vs C.E g ok' L R) ?_ λY Y e=>e
 rintro v s' ⟨r,obs',hK,hr,L',tk,h1,h2,h3⟩
 refine⟨r,_,k r obs' hK,hr,?_,tk⟩
 have kept:∀ b o,b ∉ sel.map (·.1)->s.heap.get? b=some o->s'.heap.get? b=some o:=λb o hb e=>L'.frz b o (by show(if b∈sel.map (·.1) then none else s.heap.get? b)=some o;rw[if_neg hb];exact e)
 obtain⟨m,⟨o,es,ep,e1,e2⟩,hm⟩:=H.loc
 have some_of:∀ b o,b ∉ sel.map (·.1)->s.heap.get? b=some o->b ∉ obs'.map (·.1):=λb o hb e hm=>by
  have:=L'.ap b hm
  have q:fz' b=s.heap.get? b:=if_neg hb
  rw[q,e] at this;cases this
 have rest_ne:∀ p∈rest,p.1 ∉ sel.map (·.1):=λp hp hm=>(List.nodup_append.mp nd2).2.2 _ hm _ (Qe ⟨p,hp,rfl⟩) rfl
 refine⟨λb o e=>L'.frz b o (up b o e),⟨m,⟨o,es,ep,kept _ _ ndl e1,e2⟩,λx v hx=>(by obtain⟨val,e,r⟩:=hm x v hx;exact⟨val,e,r.mono tk⟩)⟩,λp hp=>?_,?_,λa ha=>?_,H.nn,H.gens.trans h1,h2.trans H.drawn,h3.trans H.os⟩
 .rcases List.mem_append.mp hp with hp|hp
  .exact L'.has p hp
  .refine Zaj (H.obs p (P.mem_iff.mpr (Qk _ hp))) λO e ro=>?_
   exact⟨O,kept _ _ (rest_ne p hp) e,ro.mono tk⟩
 .show(C.env.locals::(obs'++rest).map (·.1)).Nodup
  rw[Qq,List.nodup_cons,List.mem_append,List.nodup_append]
  refine⟨?_,L'.nd,(List.nodup_append.mp nd2).2.1,λa ha b hb e=>?_⟩
  .rintro (q|q)
   .exact some_of _ _ ndl e1 q
   .exact ndr q
  .subst e
   obtain⟨p,hp,rfl⟩:=Qf hb
   refine Zaj (H.obs p (P.mem_iff.mpr (Qk _ hp))) λO e Y=>?_
   exact some_of _ _ (rest_ne p hp) e ha
 .rcases Qb ha with q|q
  .subst q;exact H.ap _ (.head _)
  .rw[Qq] at q
   rcases List.mem_append.mp q with q|q
   .cases e:C.fz a with
    | none=>rfl
    | some o2=>have:=L'.ap a q;rw[up a o2 e] at this;cases this
   .exact H.ap a (.tail _ ((P.map (·.1)).mem_iff.mpr (by rw[Qq];exact Qk _ q)))
noncomputable def Fl.val:Fl->V
 | .ret v=>v
 | _=>.none
structure Ar(G:Gl)(n:Nat) where
 A:Around
 fz:Addr->Option Obj
 gens:Array GenState
 drawn:Drawn
 os:OsState
 ok:G.Ok fz
 good:Good A n
noncomputable abbrev Ar.cx{G:Gl}{n:Nat}(R:Ar G n)(env:Env)(eg:env.globals=mainGlobals)(eb:env.builtins=builtinsNs):Cx:=⟨G,R.A,env,R.fz,R.gens,R.drawn,R.os,λY Y=>False,R.ok,eg,eb⟩
theorem Good.deeper{A:Around}(g:Good A (n+1))(env:Env):Good (A.deeper env) n:=by
 obtain⟨d,u,h,⟨l,f⟩,gg⟩:=g
 refine⟨?_,?_,h,⟨env::l,by show A.frames.map _=_;rw[f];rfl⟩,gg⟩
 .show A.depth+1+n<_
  lia
 .show A.units+3+20 * n<_
  lia
theorem Good.less{A:Around}{m:Nat}(g:Good A n)(h:m<=n):Good A m:=⟨by have:=g.d;lia,by have:=g.u;lia,g.h,g.f,g.g⟩
theorem Zcx{v:α}{l:List (Str×α)}(nd:(l.map (·.1)).Nodup)(h:(x,v)∈l):l.lookup x=some v:=by
 induction l with
 | nil=>cases h
 | cons p l ih=>
  rw[List.lookup_cons]
  rcases Qb h with e|e
  .subst e;simp
  .rw[beq_eq_false_iff_ne.mpr λq=>(Qc nd).1 (Qe ⟨_,e,q⟩)]
   exact ih (Qc nd).2 e
theorem Zcl{binds:List (Str×Value)}{names:List Str}(R:VRs h l vs)(hl:names.length=l.length)(hn:names.Nodup)(x:Str)(v:V)
  (hm:(x,some v)∈names.zip (l.map some)):∃ val,(names.zip vs).reverse.lookup x=some val/\VR h v val:=by
 exists (l h vs binds names x v),R,hl,hn,hm
 have key:∀ (names:List Str) (l:List V) (vs:List Value),VRs h l vs->names.length=l.length->names.Nodup->(x,some v)∈names.zip (l.map some)->∃ val,(x,val)∈names.zip vs/\VR h v val:=by
  intro names
  induction names with
  | nil=>intro l vs R hl hn hm;simp at hm
  | cons y names ih=>
   intro l vs R hl hn hm
   induction l with
   | nil=>simp at hm
   | cons a l=>
    obtain⟨w,ws,rfl,r,R⟩:=R
    simp only[Qr,List.zip_cons_cons,List.mem_cons] at hm ⊢
    rcases hm with e|e
    .cases e;exact⟨_,.inl rfl,r⟩
    .obtain⟨val,a,b⟩:=ih _ _ R (by simpa using hl) (Qc hn).2 e
     exact⟨val,.inr a,b⟩
 obtain⟨val,a,b⟩:=key names l vs R hl hn hm
 refine⟨val,?_,b⟩
 have nd:((names.zip vs).reverse.map (·.1)).Nodup:=by
  rw[List.map_reverse]
  refine(List.reverse_perm _).nodup_iff.mpr ?_
  have:(names.zip vs).map (·.1)=names:=List.map_fst_zip (by rw[R.length,hl];exact Qw _)
  rw[this];exact hn
 exact Zcx nd (List.mem_reverse.mpr a)
section
variable {prog:Program}{w:World}{A:Around}{R:Result->Shared->Prop}{s:Shared}
theorem Zf4{body env}
  (h:wpP (model prog w) (A.deeper env) (execs body env) (λf s'=>R (.ok (.ret (match f with | .ret v=>v|_=>.none))) s')
   (λe s'=>wpP (model prog w) (A.deeper env) (leaving env e) (λY s''=>R (.error e) s'') (λe' s''=>R (.error e') s'') s') s):codeP (model prog w) A (.func body env) R s:=by
 refine Zaf rfl ?_
 show wpP _ (A.deeper env) (do point;match <- (execs body env).onRaise (leaving env) with | .ret v=>ret v|_=>ret .none) _ _ s
 refine Zaa (Zcy (Zaa (wpP_onRaise' ?_)))
 exact Zad h (λf s' h'=>by induction f <;> exact Zab h') λY Y h'=>h'
where
 wpP_onRaise' {α:Type} {M:Model} {A:Around} {E:Wh} {s:Shared} {m:Sem α} {k:Value->Sem Unit} {Q:α->Shared->Prop} (h:wpP M A m Q (λe s'=>wpP M A (k e) (λY s''=>E e s'') E s') s):wpP M A (m.onRaise k) Q E s:=Zah h
theorem Zbd{a:Addr}{args:Args}{o:Obj}{fd:FuncData}{body:List Stmt}(hroom:A.depth<recursionLimit)
  (ho:s.heap.get? a=some o) (hd':o.data = .func fd) (hco:fd.scope.isCoroutine=false) (hgen:fd.scope.isGenerator=false) (hbody:fd.body = .stmts body) (hcd:s.heap.CodeRec fd.code fd.qualname)
  (h:wpP (model prog w) A.in1 (bindArgs fd args) (λbinds s_1=>
   wpP (model prog w) A.in1 (newFunctionEnv fd.scope fd.globals fd.closure binds (fd.qualname ++ ".<locals>.") (some a) fd.code none fd.builtins)
    (λenv s_2=>s_2.heap.NoLimit/\codeP (model prog w) A (.func body env) R s_2) (λe s'=>R (.error e) s') s_1) (λe s'=>R (.error e) s') s) :
  codeP (model prog w) A (.call (.ref a) args) R s:=by
 exists (prog w A R s a args o fd body),hroom,ho,hd',hco,hgen,hbody,hcd,h
 refine Zaf rfl ?_
 show wpP _ A.in1 (callAny (.ref a) args) _ _ s
 refine Zaa (m:=load a) (Zk8 ho ?_)
 obtain⟨c,oc,vs,tq,hc,hoc,hdc,hq⟩:=hcd
 obtain⟨_,_,data,_⟩:=o
 cases (show data=_ from hd')
 show wpP _ A.in1 (callFunction a fd args) _ _ _
 unfold callFunction
 rw[hc,hbody,hco,hgen]
 rw[hc] at h
 refine Zaa (m:=field (.ref c) 1) (.of (wpAny_field hoc hdc hq (Zaa (Zab ?_))))
 exact Zaa (Zad h (λbinds s_1 h_1=>Zaa (Zad h_1 (λenv s_2 h_2=>Zaa (.of (wpAny_enterFrame h_2.1 hroom (Zab ⟨rfl,h_2.2⟩)))) λY Y h'=>h')) λY Y h'=>h')
end
structure ZS(k:Nat) where
 P:Params
 G:Gl
 n:Nat
 R:Ar G (n+k)
theorem Zou(k:Nat)(hk:k<=12):Nonempty (ZS k):=
 ⟨⟨Zvq,exGl,0,⟨callerA,Z41,#[],{},{},exOk,⟨by
   have h:callerA.depth+12<recursionLimit:=by decide +kernel
   omega,by
   have h:callerA.units+20 * 12<cLine:=by decide +kernel
   omega,rfl,⟨_,rfl⟩,rfl⟩⟩⟩⟩
theorem zs(hk:k<=12){p:∀ (P:Params) (G:Gl) (n:Nat),Ar G (n+k)->Prop}(h:p (y1 (Zou k hk) λz:ZS k=>p z.P z.G z.n z.R).P (y1 (Zou k hk) λz:ZS k=>p z.P z.G z.n z.R).G (y1 (Zou k hk) λz:ZS k=>p z.P z.G z.n z.R).n (y1 (Zou k hk) λz:ZS k=>p z.P z.G z.n z.R).R) :
  ∀ P G n R,p P G n R:=λP G n R=>yy (Zou k hk) (p:=λz:ZS k=>p z.P z.G z.n z.R) h ⟨P,G,n,R⟩
theorem Pick.mem{x:Addr×AO}:∀ {l l':Wg},Pick x l l'->x∈l:=λh=>h.perm.mem_iff.mpr (.head _)
theorem Holds.dropExt(H:Holds C J s){o:AO}(p:Pick (a,o) J.obs l')(hs:Heap.ExtBut a s.heap h')(n:Nat) :
  Holds C ⟨J.loc,l'⟩ { s with heap:=h',toks:=n }/\TK s.heap h':=by
 exists (C J s a h' l' o n),H,p,hs
 refine Zaj (H.loc) λm hN hm=>?_
 refine Zaj (H.obs _ p.mem) λO0 e_0 r_0=>?_
 have P:=p.perm
 have tk:TK s.heap h':=λb vs k e=>by
  by_cases hb:b=a
  .subst hb
   have e0':s.heap.get? b=some O0:=e_0
   rw[e0'] at e
   exact absurd (Qv e) (r_0.noTup vs k)
  .exact hs b _ hb e
 have nd:=(Qc H.nd).2
 have nd2:(a::l'.map (·.1)).Nodup:=(P.map (λx:Addr×AO=>x.1)).nodup_iff.mp nd
 have hL:C.env.locals≠a:=λq=>(Qc H.nd).1 (q▸Qe ⟨_,p.mem,rfl⟩)
 have sub:∀ q∈l',q∈J.obs:=λq hq=>P.mem_iff.mpr (.tail _ hq)
 have ne:∀ q∈l',q.1≠a:=λq hq e=>(Qc nd2).1 (e▸Qe ⟨q,hq,rfl⟩)
 refine⟨⟨λb ob eb=>hs b ob (λq=>?_) (H.frz b ob eb),⟨m,hN.extBut hs hL,λx v hx=>(by obtain⟨val,e,r⟩:=hm x v hx;exact⟨val,e,r.mono tk⟩)⟩,λq hq=>?_,?_,λb hb=>?_,H.nn,H.gens,H.drawn,H.os⟩,tk⟩
 .have:=H.ap a (.tail _ (Qe ⟨_,p.mem,rfl⟩))
  rw[<- q,eb] at this;cases this
 .refine Zaj (H.obs q (sub q hq)) λO e r=>?_
  exact⟨O,hs _ _ (ne q hq) e,r.mono tk⟩
 .refine Qd ⟨λhm=>?_,(Qc nd2).2⟩
  obtain⟨q,hq,e⟩:=Qf hm
  exact(Qc H.nd).1 (e▸Qe ⟨q,sub q hq,rfl⟩)
 .rcases Qb hb with q|q
  .exact H.ap b (q ▸ .head _)
  .obtain⟨p',hp',e⟩:=Qf q
   exact H.ap b (.tail _ (e▸Qe ⟨p',sub p' hp',rfl⟩))
theorem Holds.drop(H:Holds C J s){x:Addr×AO}(p:Pick x J.obs l'):Holds C ⟨J.loc,l'⟩ s:=by
 obtain⟨a,o⟩:=x
 exact(H.dropExt p (λY Y Y e=>e) s.toks).1
abbrev Rf(C:Cx)(K:Wj)(s:Shared):Result->Shared->Prop:=λr s'=>match r with
 | .ok f=>Pst C FlR K s f s'
 | .error _=>False
def FL(C:Cx)(target:Expr)(it:Value)(body orelse:List Stmt)(J:St)(K:Wj):Prop:=
 ∀ s,Holds C J s->codeP (model C.G.prog C.G.w) C.A (.forLoop target it body orelse C.env) (Rf C K s) s
def WL(C:Cx)(test:Expr)(body orelse:List Stmt)(J:St)(K:Wj):Prop:=
 ∀ s,Holds C J s->codeP (model C.G.prog C.G.w) C.A (.whileLoop test body orelse C.env) (Rf C K s) s
def NX(C:Cx)(it:Value)(J:St)(Ks:Wk)(Kn:Wl):Prop:=
 ∀ s E,Holds C J s->wpP (model C.G.prog C.G.w) C.A (pyNext it) (λr s'=>match r with
  | some v=>∃ a J',Ks a J'/\VR s'.heap a v/\Holds C J' s'/\TK s.heap s'.heap
  | none=>∃ J',Kn J'/\Holds C J' s'/\TK s.heap s'.heap) E s
def NL(C:Cx)(target:Expr)(it:Value)(J:St)(Ks:Wk)(Kn:Wl):Prop:=
 ∀ s E,Holds C J s->wpP (model C.G.prog C.G.w) C.A (pyNext it) (λr s'=>match r with
  | some v=>wpP (model C.G.prog C.G.w) C.A (letOwnedTupleGo target it v) (λY s''=>∃ a J',Ks a J'/\VR s''.heap a v/\Holds C J' s''/\TK s.heap s''.heap) C.E s'
  | none=>∃ J',Kn J'/\Holds C J' s'/\TK s.heap s'.heap) E s
theorem NL.name{it:Value}{Ks:Wk}(h:NX C it J Ks Kn):NL C (.Name x p) it J Ks Kn:=λs E H=>
 Zad (h s E H) (λr s' h=>by
  induction r with
  | some v=>exact Zab h
  | none=>exact h) λY Y e=>e
theorem NL.mono{it:Value}{Ks Ks':Wk}{Kn':Wl}(h:NL C target it J Ks Kn)(k:∀ v J,Ks v J->Ks' v J)(k':∀ J,Kn J->Kn' J):NL C target it J Ks' Kn':=λs E H=>
 Zad (h s E H) (λr s' h=>by
  induction r with
  | some v=>exact Zad h (by rintro _ s'' ⟨a,J',x,y⟩;exact⟨a,J',k _ _ x,y⟩) λY Y e=>e
  | none=>obtain⟨J',x,y⟩:=h;exact⟨J',k' _ x,y⟩) λY Y e=>e
noncomputable def ownsTuple:List String:=["enumerate", "zip", "dict_itemiterator", "dict_reverseitemiterator", "odict_iterator", "itertools.zip_longest", "itertools.pairwise"]
theorem NL.tuple{Ks:Wk}(h:NX C (.ref it) J Ks Kn)
  (hp:∀ a J',Ks a J'->∀ s,Holds C J' s->∃ O n,s.heap.get? it=some O/\O.cls = .type n/\ownsTuple.contains n=false):NL C (.Tuple elts k p) (.ref it) J Ks Kn:=by
 exists (C J it k elts Kn p Ks),h,hp
 exact λs E H=>
  Zad (h s E H) (λr s' h=>by
   induction r with
   | some v=>
    obtain⟨a,J',x,y,z,t⟩:=h
    obtain⟨O,n,e,hc,hn⟩:=hp a J' x s' z
    have fin:wpP (model C.G.prog C.G.w) C.A (pure ()) (λY s''=>∃ a J',Ks a J'/\VR s''.heap a v/\Holds C J' s''/\TK s.heap s''.heap) C.E s':=Zab ⟨a,J',x,y,z,t⟩
    unfold letOwnedTupleGo
    induction v with
    | ref b=>
     refine Zaa (.of (wpAny_load e ?_))
     have hn':(["enumerate", "zip", "dict_itemiterator", "dict_reverseitemiterator", "odict_iterator", "itertools.zip_longest", "itertools.pairwise"].contains n)=false:=hn
     rw[hc]
     cases hd:O.data with
     | fields vs=>
      simp only[hn',Bool.false_and,Bool.false_eq_true,if_false]
      exact fin
     | _=>exact fin
    | _=>exact fin
   | none=>exact h) λY Y e=>e
theorem Rf.tk{K:Wj}{s_1:Shared}(k:TK s.heap s_1.heap){r:Result}{s':Shared}(h:Rf C K s_1 r s'):Rf C K s r s':=by
 induction r with
 | ok f=>exact Pst.tk k h
 | error e=>exact h
theorem Zav{A:Around}{c:Code}(h:c.weight=0)(hu:c.cUnits=0):A.under c=A:=Around.under_of_weight h hu
theorem Zje{stmts:List Stmt}{K:Wj}(hE:∀ e s,¬ C.E e s){s_0:Shared}(h:XV C (execs stmts C.env) J K)(H:Holds C J s)(t:TK s_0.heap s.heap):codeP (model C.G.prog C.G.w) C.A (.block stmts C.env) (Rf C K s_0) s:=by
 refine Zaf rfl ?_
 rw[Zav rfl rfl]
 show wpP _ _ (do return Fin.done (<- (execs stmts C.env).onRaise (λx=>do noteFrame x C.env;theTreesLotGoes x))) _ _ s
 exact Zaa (Zah (Zad (h s H) (λf s' p=>Zab (Pst.tk t p)) λe s' he=>absurd he (hE e s')))
theorem Zji{it:Value}{K:Wj}(hE:∀ e s,¬ C.E e s)
  (h:NL C target it J (λa J_2=>U1 C (assign target C.env) a J_2 λJ_3=>XV C (execs body C.env) J_3 (lpK (λJ_4=>FL C target it body orelse J_4 K) K)) (λJ_1=>XV C (execs orelse C.env) J_1 K)):FL C target it body orelse J K:=by
 exists (C J body target orelse it K),hE,h
 intro s H
 exists (s),H
 refine Zaf rfl ?_
 rw[Zav rfl rfl]
 show wpP _ _ ((forTurn target it body orelse C.env).onRaise (λx=>do noteFrame x C.env;theTreesLotGoes x)) _ _ s
 refine Zah ?_
 delta forTurn
 refine Zaa (Zac (Zaa (Zah (Zad (h s _ H) (λr s_1 h_1=>?_) λY Y h'=>Zac h'))))
 induction r with
 | none=>
  obtain⟨J_1,k,H_1,t_1⟩:=h_1
  exact Zab ⟨rfl,Zje hE k H_1 t_1⟩
 | some v=>
  refine Zaa (Zad h_1 (λY s_2 p_2=>?_) λe s_2 he=>absurd he (hE e s_2))
  obtain⟨a,J_2,k_2,r_2,H_2,t_2⟩:=p_2
  refine Zaa (Zax hE (k_2 s_2 v H_2 r_2) (λY s_3 Y J_3 k_3 Y H_3 t_3=>?_))
  have t13:=t_2.trans t_3
  refine Zaa (Zax hE (k_3 s_3 H_3) (λf s_4 fl J_4 k_4 r_4 H_4 t4=>?_))
  have t14:=t13.trans t4
  induction r_4 with
  | next=>exact Zab ⟨rfl,Zal (k_4 s_4 H_4) λr s' x=>Rf.tk t14 x⟩
  | cont=>exact Zab ⟨rfl,Zal (k_4 s_4 H_4) λr s' x=>Rf.tk t14 x⟩
  | brk=>exact Zab ⟨.next,J_4,k_4,.next,H_4,t14⟩
  | ret r=>exact Zab ⟨.ret _,J_4,k_4,.ret r,H_4,t14⟩
theorem Zn0{K:Wj}(hE:∀ e s,¬ C.E e s)
  (h:BV C (isTrue test C.env (eval test C.env)) J λb J_1=>(b=true->XV C (execs body C.env) J_1 (lpK (λJ_2=>WL C test body orelse J_2 K) K))/\(b=false->XV C (execs orelse C.env) J_1 K)):WL C test body orelse J K:=by
 exists (C J body orelse test K),hE,h
 intro s H
 exists (s),H
 refine Zaf rfl ?_
 rw[Zav rfl rfl]
 show wpP _ _ ((whileTurn test body orelse C.env).onRaise (λx=>do noteFrame x C.env;theTreesLotGoes x)) _ _ s
 refine Zah ?_
 delta whileTurn
 refine Zaa (Zax hE (h s H) (λb s_1 b' J_1 k_1 r_1 H_1 t_1=>?_))
 subst r_1
 induction b with
 | false=>
  simp -iota only[Bool.false_eq_true,if_false]
  exact Zaa (Zad (k_1.2 rfl s_1 H_1) (λf s_2 p=>Zab (Pst.tk t_1 p)) λe s_2 he=>absurd he (hE e s_2))
 | true=>
  simp -iota only[if_true]
  refine Zaa (Zax hE (k_1.1 rfl s_1 H_1) (λf s_2 fl J_2 k_2 r_2 H_2 t_2=>?_))
  have t12:=t_1.trans t_2
  induction r_2 with
  | next=>exact Zab ⟨rfl,Zal (k_2 s_2 H_2) λr s' x=>Rf.tk t12 x⟩
  | cont=>exact Zab ⟨rfl,Zal (k_2 s_2 H_2) λr s' x=>Rf.tk t12 x⟩
  | brk=>exact Zab ⟨.next,J_2,k_2,.next,H_2,t12⟩
  | ret r=>exact Zab ⟨.ret _,J_2,k_2,.ret r,H_2,t12⟩
theorem Zlg{c:Code}{K:Wj}{s_0:Shared}(h:codeP (model C.G.prog C.G.w) C.A c (Rf C K s_0) s):wpP (model C.G.prog C.G.w) C.A (runOwn c C.env) (Pst C FlR K s_0) C.E s:=by
 unfold runOwn
 refine Zah (Zge (A:=C.A) (h:=none) ?_)
 exact Zal h λr s' x=>by
  induction r with
  | ok f=>exact x
  | error e=>exact x.elim
theorem Zex{K:Wj}(h:WL C test body orelse J K):XV C (exec (.While test body orelse pos) C.env) J K:=λs H=>by
 rw[exec_While]
 exact Zaa (Zac (Zlg (h s H)))
theorem x_for{K:Wj}
  (h:EV C (eval iter C.env) J λa J_1=>∀ va s,Holds C J_1 s->VR s.heap a va->wpP (model C.G.prog C.G.w) C.A (pyIter va) (λit s'=>∃ J',FL C target it body orelse J' K/\Holds C J' s'/\TK s.heap s'.heap) C.E s)
  (hs:∀ x,foldedSetIterable iter C.env x=pure x:=by intro _;rfl):XV C (exec (.For target iter body orelse pos) C.env) J K:=λs H=>by
 rw[exec_For]
 refine Zaa (Zac (Zaa (h.step H λa J_1 va s_1 h_1 ra H_1 k_1=>?_)))
 rw[hs va]
 exact Zaa (Zab (Zaa (Zac (Zaa (Zae (Zad (h_1 va s_1 H_1 ra) (by rintro it s_2 ⟨J',x,H_2,t_2⟩;exact Zlg (Zal (x s_2 H_2) λr s' y=>Rf.tk (k_1.trans t_2) y)) λY Y e=>e))))))
def IT(C:Cx)(a:V)(J:St)(K:Value->Wl):Prop:=
 ∀ va s,Holds C J s->VR s.heap a va->wpP (model C.G.prog C.G.w) C.A (pyIter va) (λit s'=>∃ J',K it J'/\Holds C J' s'/\TK s.heap s'.heap) C.E s
theorem Zor{K:Value->Wl}(hl:LkO a (.list l) J.obs)(k:∀ it,K (.ref it) ⟨J.loc,(it,.liter a 0)::J.obs⟩):IT C (.ref a) J K:=λva s H r=>by
 o_facts r
 refine Zbp (H.list hl) λvs n e r=>?_
 refine .of <| wpAny_pyIter_list ⟨_,e,rfl,n,rfl⟩ ⟨_,k _,H.alloc Qa (Qw _) (Qg _ rfl) (.liter rfl rfl) s.toks,.of_ext Qa⟩
theorem Ztq{K:Value->Wl}(k:∀ it,K (.ref it) ⟨J.loc,(it,.titer l 0)::J.obs⟩):IT C (.tup l) J K:=λva s H r=>by
 revert r
 intro r0
 refine VR.tupK r0 λY Y Y e r e0=>?_
 subst e0
 refine .of <| wpAny_pyIter_tuple ⟨_,e,rfl,_,rfl⟩ ⟨_,k _,H.alloc Qa (Qw _) (Qg _ rfl) (.titer rfl rfl (Heap.get?_push_of_some _ e) (r.mono (.of_ext Qa))) s.toks,.of_ext Qa⟩
theorem Zga{Ks:Wk}(hh:C.A.handled=none)(hl:LkO a (.list l) J.obs)(u:UpO it (.liter a i) (.liter a (i+1)) J.obs obs')
  (p:Pick (it,.liter a i) J.obs rest) (ks:∀ x,l[i]?=some x->Ks x ⟨J.loc,obs'⟩) (kn:l[i]?=none->Kn ⟨J.loc,rest⟩):NX C (.ref it) J Ks Kn:=by
 exists (C J a l it i rest obs' Kn Ks),hh,hl,u,p,ks,kn
 intro s E H
 refine Zbp (H.list hl) λvs n e r=>?_
 refine Zaj (H.obj u.lk) λO eo ro=>?_
 exists (s E vs O),H,e,r,eo,ro
 refine And.elim (λc d=>?_) (OR.literE ro)
 cases hx:l[i]? with
 | some x=>
  refine Zaj (r.get i hx) λv hv rv=>?_
  refine .of <| wpAny_pyNext_list_item ⟨O,eo,c,d⟩ ⟨_,e,rfl,n,rfl⟩ (by simpa using hv) λh' hi hs=>?_
  obtain⟨o2,e2,c2,d2⟩:=hi
  refine And.elim (λH' tk=>?_) (H.set u hs e2 (.liter c2 d2) s.toks)
  exact⟨x,_,ks x hx,rv.mono tk,H',tk⟩
 | none=>
  have:vs.toArray[i]?=none:=by
   have h1:l.length<=i:=by simpa using hx
   have:=r.length
   simp;lia
  refine .of <| wpAny_pyNext_list_end hh ⟨O,eo,c,d⟩ ⟨_,e,rfl,n,rfl⟩ this λh' hx'=>?_
  refine And.elim (λH' tk=>?_) (H.dropExt p hx' s.toks)
  exact⟨_,kn hx,H',tk⟩
set_option tactic.hygienic true in
theorem Zt2{Ks:Wk}(hh:C.A.handled=none)(u:UpO it (.titer l i) (.titer l (i+1)) J.obs obs')
  (p:Pick (it,.titer l i) J.obs rest) (ks:∀ x,l[i]?=some x->Ks x ⟨J.loc,obs'⟩) (kn:l[i]?=none->Kn ⟨J.loc,rest⟩):NX C (.ref it) J Ks Kn:=λs E H=>by
 refine Zaj (H.obj u.lk) λO eo ro=>?_
 refine OR.titerK ro λ_ _ _ c d e r=>?_
 rename_i t vs n
 cases hx:l[i]? with
 | some x=>
  refine Zaj (r.get i hx) λv hv rv=>?_
  refine .of <| wpAny_pyNext_tuple_item ⟨O,eo,c,d⟩ ⟨_,e,rfl,n,rfl⟩ (by simpa using hv) λh' hi hs=>?_
  obtain⟨o2,e2,c2,d2⟩:=hi
  refine And.elim (λH' tk=>?_) (H.set u hs e2 (.titer c2 d2 e r) s.toks)
  exact⟨x,_,ks x hx,rv.mono tk,H',tk⟩
 | none=>
  have:vs.toArray[i]?=none:=by
   have h1:l.length<=i:=by simpa using hx
   have:=r.length
   simp;lia
  refine .of <| wpAny_pyNext_tuple_end hh ⟨O,eo,c,d⟩ ⟨_,e,rfl,n,rfl⟩ this λh' hx'=>?_
  refine And.elim (λH' tk=>?_) (H.dropExt p hx' s.toks)
  exact⟨_,kn hx,H',tk⟩
theorem Zd4{x left step:Int}{Ks:Wk}(hh:C.A.handled=none)(u:UpO it (.riter x left step) (.riter (x+step) (left-1) step) J.obs obs')
  (p:Pick (it,.riter x left step) J.obs rest) (ks:0<left->Ks (.int x) ⟨J.loc,obs'⟩) (kn:left<=0->Kn ⟨J.loc,rest⟩):NX C (.ref it) J Ks Kn:=λs E H=>by
 refine Zaj (H.obj u.lk) λO eo ro=>?_
 cases ro
 by_cases hp:0<left
 .refine .of <| wpAny_pyNext_range_item eo hp λh' hi hs=>?_
  refine And.elim (λH' tk=>?_) (H.set u hs hi (.riter _ _ _) (s.toks+1))
  exact⟨_,_,ks hp,.int x _,H',tk⟩
 .refine .of <| wpAny_pyNext_range_end hh eo (by lia) λh' hx'=>?_
  refine And.elim (λH' tk=>?_) (H.dropExt p hx' s.toks)
  exact⟨_,kn (by lia),H',tk⟩
theorem Ze3{a:V}{K:Wl}(h:U1 C (storeName C.env x) a J K):U1 C (assign (.Name x pos) C.env) a J K:=λs v H r=>by
 rw[arm_assign_Name]
 exact Zaa (Zac (Za2 (h s v H r)))
theorem Holds.inK(H:Holds C J s):C.G.K.In s.heap:=λa o e=>H.frz _ _ (C.ok.sub _ _ e)
theorem Ziu{A:Around}{f:Value}{first:List Value}{args:List (Bool×Sem Value)}{P:Heap->Prop}(hplain:args.any (·.1)=false)
  (hk:∀ h,P h->∃ k,(k=Keeper.frame\/k=Keeper.machine\/k=Keeper.boundFrame\/k=Keeper.caller)/\Looks M h (keeperOf f) k)
  (h:wpP M A (spliced args) (λvs s_1=>P s_1.heap/\wpP M A (call f (first++vs)) Q E s_1) E s):wpP M A (callWith pos f first args []) Q E s:=by
 exists (s pos Q E M A f first args P),hplain,hk,h
 have ev:wpP M A (evalArgs f true args []) (λa s_1=>a.kw=[]/\P s_1.heap/\wpP M A (call f (first++a.pos)) Q E s_1) E s:=by
  have fin:wpP M A (spliced args >>= λpos=>holding (pos++(none:Option Value).toList) (do
    if ([]:List (Option Str×Sem Value)).all (·.1.isSome) then
     let kw:=(([]:List (Option Str×Sem Value)).filterMap (·.1)).zip (<- evalAll (([]:List (Option Str×Sem Value)).map (·.2)))
     return (⟨pos,kw⟩:Args)
    pure ⟨pos,[]⟩)) (λa s_1=>a.kw=[]/\P s_1.heap/\wpP M A (call f (first++a.pos)) Q E s_1) E s:=by
   refine Zaa (Zad h (λvs s_1 h_1=>Zae ?_) λY Y e=>e)
   exact Zab (M:=M) (A:=A) (E:=E) (a:=(⟨vs,[]⟩:Args)) ⟨rfl,h_1⟩
  unfold evalArgs
  induction args with
  | nil=>exact fin
  | cons x rest=>
   obtain⟨b,x⟩:=x
   have hb:b=false:=by simp at hplain;exact hplain.1
   subst hb
   exact fin
 unfold callWith
 refine Zaa (Zae (Zad ev (λa s_1 h_1=>Zaa (Zac ?_)) λY Y x=>x))
 obtain⟨hkw,hP,hc⟩:=h_1
 obtain⟨k,hk',L⟩:=hk _ hP
 have hst:(args.any (·.1)||([]:List (Option Str×Sem Value)).any (·.1.isNone))=false:=by rw[hplain];rfl
 rw[hst]
 rw[hkw]
 refine Zaa (.of (L.here ?_))
 have tail:∀ {t:Sem Value},wpP M A t Q E s_1->wpP M A (t >>= λr=>holding [r] point >>= λY=>pure r) Q E s_1:=
  λht=>Zaa (Zad ht (λr s_2 hr=>Zaa (Zae (Zcy (Zab hr)))) λY Y x=>x)
 have marked (mk:Value):wpP M A (callMarked mk f (first++a.pos) []) Q E s_1:=by unfold callMarked;exact Zk5 hc
 have oper (vs:List Value):wpP M A (operate vs (call f (first++a.pos) [])) Q E s_1:=Zas hc
 rcases hk' with rfl|rfl|rfl|rfl <;> dsimp only <;> first|exact tail hc|exact tail (oper _)|(split <;> first|exact tail hc|exact tail (marked _))
def CA(C:Cx)(f:V)(first:List V)(args:List Expr)(pos:Pos)(env:Env)(J:St)(K:Wk):Prop:=
 ∀ s fv fs,Holds C J s->VR s.heap f fv->VRs s.heap first fs->wpP (model C.G.prog C.G.w) C.A (callWith pos fv fs (backTo pos (starEach args env)) []) (Pst C VR K s) C.E s
def CF(C:Cx)(f:V)(l:List V)(J:St)(K:Wk):Prop:=
 ∀ s fv vs,Holds C J s->VR s.heap f fv->VRs s.heap l vs->wpP (model C.G.prog C.G.w) C.A (call fv vs) (Pst C VR K s) C.E s
theorem Zpj{f:V}{first:List V}{args:List Expr}(hplain:(backTo pos (starEach args env)).any (·.1)=false)
  (h:LV C (spliced (backTo pos (starEach args env))) J λl J_1=>(∀ s fv,Holds C J_1 s->VR s.heap f fv->∃ k,(k=Keeper.frame\/k=Keeper.machine\/k=Keeper.boundFrame\/k=Keeper.caller)/\Looks (model C.G.prog C.G.w) s.heap (keeperOf fv) k) /\
   CF C f (first++l) J_1 K):CA C f first args pos env J K:=λs fv fs H rf rfs=>by
 refine Ziu (P:=λh=>∃ k,(k=Keeper.frame\/k=Keeper.machine\/k=Keeper.boundFrame\/k=Keeper.caller)/\Looks (model C.G.prog C.G.w) h (keeperOf fv) k) hplain (λY x=>x)
  (h.step H λl J_1 vs s_1 k rl H_1 t=>⟨k.1 s_1 fv H_1 (rf.mono t),Zad (k.2 s_1 fv _ H_1 (rf.mono t) ((rfs.mono t).append rl)) (λY Y p=>p.tk t) λY Y e=>e⟩)
theorem Z30{first:List V}{args:List Expr}
  (h:LV C (spliced (backTo pos (starEach args env))) J λl J_1=>CF C (.bi id) (first++l) J_1 K) (hplain:(backTo pos (starEach args env)).any (·.1)=false:=by rfl):CA C (.bi id) first args pos env J K:=
 Zpj hplain (h.mono λl J_1 k=>⟨λs fv H r=>by o_facts r;exact⟨.machine,.inr (.inl rfl),.now⟩,k⟩)
theorem ca_ty{first:List V}{args:List Expr}
  (h:LV C (spliced (backTo pos (starEach args env))) J λl J_1=>CF C (.ty T) (first++l) J_1 K) (hplain:(backTo pos (starEach args env)).any (·.1)=false:=by rfl):CA C (.ty T) first args pos env J K:=
 Zpj hplain (h.mono λl J_1 k=>⟨λs fv H r=>by o_facts r;exact⟨.machine,.inr (.inl rfl),.now⟩,k⟩)
theorem ca_K{first:List V}{args:List Expr}(hk:keepIn C.G.K (.ref a)=true)
  (h:LV C (spliced (backTo pos (starEach args env))) J λl J_1=>CF C (.ref a) (first++l) J_1 K) (hplain:(backTo pos (starEach args env)).any (·.1)=false:=by rfl):CA C (.ref a) first args pos env J K:=
 Zpj hplain (h.mono λl J_1 k=>⟨λs fv H r=>by
  o_facts r
  obtain⟨k,a,b⟩:=looks_keep (M:=model C.G.prog C.G.w) hk H.inK
  exact⟨k,a.elim .inl (λe=>.inr (.inl e)),b⟩,k⟩)
theorem Zgw{func:Expr}{args:List Expr}(h:EV C (eval func env) J λf J_1=>CA C f [] args pos env J_1 K)
  (he:eval (.Call func args [] pos) env=(do callWith pos (<- eval func env) [] (backTo pos (starEach args env)) (backToKw pos (keywordEach [] env))):=by rfl):EV C (eval (.Call func args [] pos) env) J K:=λs H=>by
 rw[he]
 exact Zaa (h.step H λf J_1 v s_1 k r H_1 t=>Zad (k s_1 v [] H_1 r .nil) (λY Y p=>p.tk t) λY Y e=>e)
def GM(C:Cx)(a:V)(name:Str)(J:St)(K:V->List V->Wl):Prop:=
 ∀ s v pl,Holds C J s->VR s.heap a v->wpP (model C.G.prog C.G.w) C.A (getMethod v name pl) (λfx s'=>∃ f first J',K f first J'/\VR s'.heap f fx.1/\VRs s'.heap first fx.2/\Holds C J' s'/\TK s.heap s'.heap) C.E s
theorem Zj7{o:Expr}{name:Str}{apos:Pos}{args:List Expr}{pl:Sem Bool}
  (h:EV C (eval o env) J λa J_1=>GM C a name J_1 λf first J_2=>CA C f first args pos env J_2 K)
  (he:eval (.Call (.Attribute o name apos) args [] pos) env=(do
   let ov <- eval o env
   standAt apos.atName
   let (f,first) <- holding [ov] (getMethod ov name pl)
   callWith pos f first (backTo pos (starEach args env)) []):=by rfl):EV C (eval (.Call (.Attribute o name apos) args [] pos) env) J K:=λs H=>by
 rw[he]
 refine Zaa (h.step H λa J_1 v s_1 k r H_1 t=>Zaa (Zac (Zaa (Zae (Zad (k s_1 v pl H_1 r) ?_ λY Y e=>e)))))
 rintro fx s_2 ⟨f,first,J_2,k_2,rf,rl,H_2,t_2⟩
 exact Zad (k_2 s_2 fx.1 fx.2 H_2 rf rl) (λY Y p=>p.tk (t.trans t_2)) λY Y e=>e
theorem Zlw {name:Str} {K:V->List V->Wl} (slot:Slot "str" name id) (hty:typeOf (.builtin id)=pure (.type "method_descriptor")) (k:K (.bi id) [.str x] J):GM C (.str x) name J K:=λs v pl H r=>by
 refine VR.strK r λt e0=>?_
 subst e0
 exact .of (getMethod_builtin (typeIs_str s x t) F.plainAttrs_str slot hty (λa e=>by cases e) ⟨_,_,_,k,.bi _,.cons (.str x t) .nil,H,.refl _⟩)
theorem Zda {name:Str} {K:V->List V->Wl} (hl:LkO a (.list l) J.obs) (slot:Slot "list" name id) (hty:typeOf (.builtin id)=pure (.type "method_descriptor")) (k:K (.bi id) [.ref a] J):GM C (.ref a) name J K:=λs v pl H r=>by
 o_facts r
 refine Zbp (H.list hl) λvs n e r=>?_
 exact .of (getMethod_builtin ⟨_,e,rfl⟩ F.plainAttrs_list slot hty (λa' q=>by cases q;exact⟨_,e,rfl⟩) ⟨_,_,_,k,.bi _,.cons (.ref a) .nil,H,.refl _⟩)
theorem ba_slot_init:Slot "bytearray" "__init__" "bytearray.__init__" :=
 .of (owner := "bytearray") (n := "__init__") (by rw[Qn,Qm];kernel_rfl) (by decide +kernel) (by decide +kernel) (by decide +kernel)
  (by first|exact .inl (by decide +kernel)|exact .inr (by decide +kernel)) (by rw[isSubtype_type];kernel_rfl)
theorem Zmj (a:Value):checkBuiltinCall "bytearray.__new__" ⟨[.type "bytearray",a],[]⟩=pure ():=by kernel_rfl
theorem Zlt:plainId "bytearray.__new__" = true:=by decide +kernel
theorem Zgm:plainId "bytearray.__init__" = true:=by decide +kernel
theorem Zrn:entryFor table "bytearray.__new__" = some Builtin.«list.__new__»:=entryFor_alias (id' := "list.__new__") (by rw[fastTable_eq_tree];kernel_rfl) (by decide +kernel) (by decide +kernel) (by rw[fastTable_eq_tree];kernel_rfl)
theorem Zg2:entryFor table "bytearray.__init__" = some Builtin.«bytearray.__init__»:=by first|exact entryFor_of_fast (by kernel_rfl)|exact entryFor_of_tree (by kernel_rfl)
theorem Zij:isSubtype (.type "bytearray") (.type "bytearray")=pure true:=by rw[isSubtype_type];kernel_rfl
theorem Zxj (o n:Value):argsOk "bytearray.__init__" ⟨[o,n],[]⟩:=by unfold argsOk;kernel_rfl
theorem Zxl (n:Value):Builtin.«type.__call__» ⟨[.type "bytearray",n],[]⟩=(do
  let obj <- holding [.builtin "bytearray.__new__"] (call (.builtin "bytearray.__new__") [.type "bytearray",n] [])
  if !(<- isInstance obj (.type "bytearray")) then rule "type.call.new-gave-other-type";return <- ret obj
  match <- holding [obj] (callSpecial? obj "__init__" [n] []) with
  | none=>ret obj
  | some r=>
   if r != .none then
    rule "type.call.init-returned-value"
    raiseError "TypeError" s!"__init__() should return None, not '{← typeNameOf r}'"
   ret obj):=by
 kernel_rfl
set_option maxRecDepth 1000000 in
theorem Zq9:("bytearray.__new__".splitOn ".__new__").headD "" = "bytearray" := by simp +decide [String.splitOn,String.splitOnAux]
section
variable {prog:Program}{w:World}{A:Around}{E:Wh}{s:Shared}
theorem Za5{R:Result->Shared->Prop}{args:Args}{b:Builtin}(hb:entryFor table id=some b)(hbad:Zsb (.builtin id args)=false)
  (h:wpP (model prog w) (A.under (.builtin id args)) (b args)
   (λfin s'=>match fin with | .done f=>R (.ok f) s' | .again c'=>c'.quiet=true/\codeP (model prog w) A c' R s') (λe s'=>R (.error e) s') s) :
  codeP (model prog w) A (.builtin id args) R s:=by
 refine Zaf hbad ?_
 show wpP _ _ (match entryFor table id with|some b=>b args|none=>unsupported ((withoutEnding? id "#data").getD id)) _ _ s
 rw[hb];exact h
theorem Zbh{R:Result->Shared->Prop}{args:Args}{b:Builtin}(hq:plainId id=true)(hb:entryFor table id=some b)(hbad:Zsb (.builtin id args)=false)
  (h:wpP (model prog w) A.in1 (checkBuiltinCall id args) (λY s_1=>wpP (model prog w) A.in1 (b args)
   (λfin s'=>match fin with | .done f=>R (.ok f) s' | .again c'=>c'.quiet=true/\codeP (model prog w) A c' R s') (λe s'=>R (.error e) s') s_1)
   (λe s'=>R (.error e) s') s):codeP (model prog w) A (.call (.builtin id) args) R s:=by
 refine Zaf rfl ?_
 show wpP _ A.in1 (do checkBuiltinCall id args;again (.builtin id args)) _ _ s
 refine Zaa (Zad h (λY s_1 h_1=>Zab (And.intro (plainId_quiet hq args) (Za5 hb hbad (by rw[Around.under_plainId hq args];exact h_1)))) λY Y h'=>h')
theorem Zj1(a:Value){Q₁:Wh}
  (h:Q₁ (.ref s.heap.objs.size) { s with heap:=s.heap.push { cls:=.type "bytearray",data:=.bytearray #[] } }) :
  codeAny (model prog w) A (.call (.builtin "bytearray.__new__") ⟨[.type "bytearray",a],[]⟩) (wants Q₁ E) s:=by
 exists (prog w A E s a Q₁),h
 refine codeAny_of_tree ?_
 show wpAny _ A.in1 (do checkBuiltinCall "bytearray.__new__" ⟨[.type "bytearray",a],[]⟩;again (.builtin "bytearray.__new__" ⟨[.type "bytearray",a],[]⟩)) _ _ s
 refine Qh (Qy (Zmj a) (Qi ⟨plainId_quiet Zlt _,codeAny_builtin_stack Zrn rfl λp st=>?_⟩))
 rw[Around.under_plainId Zlt _]
 have hsub:=Zij
 have hown:=Zq9
 obtain⟨hp,g,d,tk,os⟩:=s
 dsimp only
 simp -iota only[hown]
 wp_walk
 exact h
theorem Zfy:typeLookup (.type "bytearray") "__release_buffer__" = pure (some (.builtin "bytearray.__release_buffer__")):=by rw[Qn,Qm];kernel_rfl
theorem Zh7:typeLookup (.type "int") "__index__" = pure (some (.builtin "int.__index__")):=by rw[Qn,Qm];kernel_rfl
theorem Zx1 (v:Value):Builtin.Bytes.bindOptional "bytearray.__init__" "bytearray" ["source", "encoding", "errors"] [v] []=pure [some v,none,none]:=by kernel_rfl
theorem Zov:("bytearray.__release_buffer__".endsWith ("." ++ "__release_buffer__"))=true:=by decide +kernel
theorem Zoe:("bytearray.__release_buffer__".dropRight ("__release_buffer__".length+1)) = "bytearray" := by decide +kernel
theorem Zgi{b:Array UInt8}{f:Array UInt8->Array UInt8}{Q:Unit->Shared->Prop}(ho:s.heap.get? a=some { cls:=.type "bytearray",data:=.bytearray b 0 })(hz:(f b).size<=sizeLine)
  (h:∀ h',h'.get? a=some { cls:=.type "bytearray",data:=.bytearray (f b) 0 }->Heap.SameBut a s.heap h'->Q () { s with heap:=h' }):wpAny M A (Builtin.Bytes.write (.ref a) f) Q E s:=by
 show wpAny _ _ (updateBytearray a f) _ _ _
 unfold updateBytearray
 refine Qh (wpAny_load ho ?_)
 show wpAny _ _ (update a (Obj.mapBytearray f) >>= λY=>lookBehind a) _ _ _
 refine Qh (wpAny_update ho ?_)
 have hS2:(s.heap.update a (Obj.mapBytearray f)).get? a=some { cls:=.type "bytearray",data:=.bytearray (f b) 0 }:=Heap.get?_update_self (Obj.mapBytearray f) ho rfl
 refine wpAny_lookBehind hS2 ?_ (h _ hS2 (Heap.SameBut.update ..))
 show(if (f b).size > sizeLine then some "bytearray:memory" else none)=none
 rw[if_neg]
 exact Nat.not_lt.mpr hz
theorem Zyr{k:Int}{t:Tok}{Q:Wh}(hg:A.guards=some [])(h0:0<=k)(hk:k<=sizeLine)
  (h:∀ h',h'.get? s.heap.objs.size=some { cls:=.type "bytearray",data:=.bytearray (Array.replicate k.toNat 0) 0 }->(∀ b o,s.heap.get? b=some o->h'.get? b=some o)->Q (.ref s.heap.objs.size) { s with heap:=h' }) :
  wpP (model prog w) A (call (.type "bytearray") [.int k t]) Q E s:=by
 exists (prog w A E s k t Q),hg,h0,hk,h
 refine Za6 (Zaf rfl ?_)
 show wpP _ _ (callAny (.type "bytearray") _) _ _ _
 refine Zab ⟨Code.quiet_builtin _ (by decide +kernel),Za5 F.entry_type_call (by rfl) ?_⟩
 rw[Around.under_plain (weight_type_call_type "bytearray" [.int k t] []) rfl,Zxl]
 refine Zaa (Zae (Za6 (.of (codeAny_mono (Zj1 _ ?_) λr s_1 hr=>hr))))
 refine Zaa (.of (wpAny_isInstance (T := "bytearray") (b:=true) ⟨_,Qg _ rfl,rfl⟩ Zij ?_))
 show wpP _ _ (do
  match <- holding [.ref s.heap.objs.size] (callSpecial? (.ref s.heap.objs.size) "__init__" [.int k t] []) with
  | none=>ret (.ref s.heap.objs.size)
  | some r=>
   if r != .none then
    rule "type.call.init-returned-value"
    raiseError "TypeError" s!"__init__() should return None, not '{← typeNameOf r}'"
   ret (.ref s.heap.objs.size)) _ _ _
 have hT:Shared.TypeIs { s with heap:=s.heap.push { cls:=.type "bytearray",data:=.bytearray #[] } } (.ref s.heap.objs.size) "bytearray" := ⟨_,Qg _ rfl,rfl⟩
 have ho:(s.heap.push { cls:=.type "bytearray",data:=.bytearray #[] }).get? s.heap.objs.size=some { cls:=.type "bytearray",data:=.bytearray #[] 0 }:=Qg _ rfl
 have hk':∀ b o,s.heap.get? b=some o->(s.heap.push { cls:=.type "bytearray",data:=.bytearray #[] }).get? b=some o:=Qa
 revert hT ho hk'
 generalize s.heap.push { cls:=.type "bytearray",data:=.bytearray #[] }=h_1
 intro hT ho hk'
 refine Zaa (Zae ?_)
 simp -iota only[callSpecial?]
 refine Zaa (.of (wpAny_specialOf hT ba_slot_init.lookup ?_))
 dsimp only
 rw[ba_slot_init.bind]
 refine Zae (Zaa (Zab (Zaa (Za6 (Zbh Zgm Zg2 (by rfl) (.of (ba_slot_init.check _ _ _ _ _ _ _ _ hT (Zxj _ _) ?_)))))))
 unfold Builtin.«bytearray.__init__»
 refine Zaa (m:=Builtin.Bytes.ownRelease _) (.of ?_)
 .unfold Builtin.Bytes.ownRelease Builtin.Bytes.slotIsOwn
  refine Qh (Qh (wpAny_specialOf hT Zfy ?_))
  show wpAny _ _ (if (!("bytearray.__release_buffer__".endsWith ("." ++ "__release_buffer__")))=true then pure false else isInstance _ (.type ("bytearray.__release_buffer__".dropRight ("__release_buffer__".length+1)))) _ _ _
  rw[Zov,Zoe]
  refine wpAny_isInstance (T := "bytearray") (b:=true) hT Zij (Qi ?_)
  have hg1:A.in1.in1.guards=some []:=hg
  refine Zaa (.of (Qy (Zx1 _) ?_))
  refine Zaa (.of (Qy (a:=()) rfl ?_))
  refine Zaa (.of (Qy (a:=()) rfl ?_))
  refine Zaa (Zaa (Zif hg1 ?_))
  refine Zaa (.of ?_)
  unfold Builtin.Bytes.exportsOf
  refine Qh (wpAny_load ho ?_)
  refine Qi ?_
  refine Zab ?_
  refine Zaa (.of (Zgi (f:=λY=>#[]) ho (Nat.zero_le _) λh_2 e_2 s_2=>?_))
  refine Zaa (.of (Qy (a:=none) rfl ?_))
  refine Zaa (.of (Qy (a:=()) rfl ?_))
  refine Zaa (.of (wpAny_specialOf (typeIs_int _ k t) Zh7 ?_))
  show wpP _ _ ((asIndex (.int k t)).attempt >>= _) _ _ _
  refine Zaa (Zbb (.of (Qy (rfl:asIndex (.int k t)=pure k) ?_)))
  have f1:Builtin.Bytes.fitsIndex k=true:=by
   have:sizeLine=16777216:=by decide
   unfold Builtin.Bytes.fitsIndex;simp only[Qt,decide_eq_true_eq];clear h;lia
  have f2:¬ k<0:=by clear h;lia
  have f3:(k==2 ^ 63-1)=false:=by
   have:sizeLine=16777216:=by decide
   rw[beq_eq_false_iff_ne];clear h;lia
  have f4:Builtin.Bytes.tooLong k.toNat=false:=by unfold Builtin.Bytes.tooLong;simp;clear h;lia
  dsimp only
  simp -iota only[f1,f2,f3,f4,Bool.not_true,Bool.false_eq_true,if_false]
  refine Zaa (.of (wpAny_rule ?_))
  have kk:∀ b o,s.heap.get? b=some o->h_2.get? b=some o:=λb o e=>s_2.extBut b o (Nat.ne_of_lt (Qz e)) (hk' b o e)
  by_cases hpos:k > 0
  .rw[if_pos hpos]
   refine Zaa (.of (Zgi (f:=λY=>Array.replicate k.toNat 0) e_2 (by simp;clear h;lia) λh_3 e_3 s_3=>?_))
   refine Zab ?_
   refine Zab ?_
   refine Zab ?_
   exact(h h_3 e_3 λb o e=>s_3.extBut b o (Nat.ne_of_lt (Qz e)) (kk b o e))
  .rw[if_neg hpos]
   have hz:k.toNat=0:=by clear h;lia
   refine Zab ?_
   refine Zab ?_
   refine Zab ?_
   exact(h h_2 (by rw[hz];exact e_2) kk)
end
theorem Zb6:Slot "bytearray" "__setitem__" "bytearray.__setitem__" :=
 .of (owner := "bytearray") (n := "__setitem__") (by rw[Qn,Qm];kernel_rfl) (by decide +kernel) (by decide +kernel) (by decide +kernel)
  (by first|exact .inl (by decide +kernel)|exact .inr (by decide +kernel)) (by rw[isSubtype_type];kernel_rfl)
theorem Zdz:entryFor table "bytearray.__setitem__" = some Builtin.«bytearray.__setitem__»:=by first|exact entryFor_of_fast (by kernel_rfl)|exact entryFor_of_tree (by kernel_rfl)
theorem Zq7 (o i n:Value):argsOk "bytearray.__setitem__" ⟨[o,i,n],[]⟩:=by unfold argsOk;kernel_rfl
theorem Zjf:typeLookup (.type "bytearray") "__bytes__" = pure none:=by rw[Qn,Qm];kernel_rfl
theorem Zj5:typeLookup (.type "bytearray") "__index__" = pure none:=by rw[Qn,Qm];kernel_rfl
theorem Zel:typeLookup (.type "bytearray") "__buffer__" = pure (some (.builtin "bytearray.__buffer__")):=by rw[Qn,Qm];kernel_rfl
theorem Zsu:("bytearray.__buffer__".endsWith ("." ++ "__buffer__"))=true:=by decide +kernel
theorem Zrw:("bytearray.__buffer__".dropRight ("__buffer__".length+1)) = "bytearray" := by decide +kernel
section
variable {prog:Program}{w:World}{A:Around}{E:Wh}{s:Shared}
theorem Zmi{a:Addr}{b:List Nat}{i x:Int}{t u:Tok}{Q:Unit->Shared->Prop}(ho:s.heap.get? a=some { cls:=.type "bytearray",data:=.bytearray (b.map Nat.toUInt8).toArray 0 })(h0:0<=i)(h1:i<b.length)
  (hx:0<=x) (hx':x<256) (hz:b.length<=sizeLine)
  (h:∀ h',h'.get? a=some { cls:=.type "bytearray",data:=.bytearray ((b.set i.toNat x.toNat).map Nat.toUInt8).toArray 0 }->Heap.SameBut a s.heap h'->Q () { s with heap:=h' }) :
  wpAny (model prog w) A (setItem (.ref a) (.int i t) (.int x u)) Q E s:=by
 exists (prog w A E s a b i x t u Q),ho,h0,h1,hx,hx',hz,h
 have hT:s.TypeIs (.ref a) "bytearray" := ⟨_,ho,rfl⟩
 have hz':sizeLine=16777216:=by decide
 unfold setItem
 try with_reducible refine wpAny_holding ?_
 first|refine Qh (Qi ?_)|skip
 refine Qh (wpAny_sequenceKey hT (by decide) ?_)
 refine Qh (wpAny_callSpecial?_slot (name:=Str.ofString "__setitem__") hT Zb6
  (wpAny_call_entry Zb6 hT Zdz ?_ (Zq7 _ _ _)))
 show wpAny _ _ (Builtin.Bytes.subscript? (.int i t) >>= _) _ _ s
 refine Qh ?_
 unfold Builtin.Bytes.subscript?
 refine Qh (wpAny_specialOf (typeIs_int s i t) F.slot_int_index.lookup ?_)
 have f1:Builtin.Bytes.fitsIndex i=true:=by
  unfold Builtin.Bytes.fitsIndex;simp only[Qt,decide_eq_true_eq];lia
 show wpAny _ _ (if (!Builtin.Bytes.fitsIndex i)=true then _ else pure (some i)) _ _ s
 rw[f1]
 refine Qi ?_
 show wpAny _ _ (Builtin.Bytes.byteValue (.int x u) >>= _) _ _ s
 refine Qh ?_
 unfold Builtin.Bytes.byteValue
 refine Qh (Qy (rfl:asIndex (.int x u)=pure x) ?_)
 have f2:(decide (x<0)||decide (x>=256))=false:=by simp;lia
 rw[f2]
 refine Qi ?_
 show wpAny _ _ (Builtin.Bytes.payload (.ref a) >>= _) _ _ s
 refine Qh ?_
 unfold Builtin.Bytes.payload Builtin.Bytes.payload?
 refine Qh (Qh (wpAny_load ho ?_))
 refine Qi (Qi ?_)
 have hlen:(b.map Nat.toUInt8).toArray.size=b.length:=by simp
 have f3:seqIndex? i (b.map Nat.toUInt8).toArray.size=some i.toNat:=by
  rw[hlen]
  have hn:¬ i<0:=by lia
  simp[seqIndex?,hn,h0,h1]
 rw[f3]
 refine Qh (Zgi (f:=(·.setIfInBounds i.toNat x.toNat.toUInt8)) ho (by simp;k_units) λh' e' s'=>?_)
 refine Qi ?_
 refine⟨_,rfl,Qi (h h' ?_ s')⟩
 rw[e']
 congr 3
 simp
theorem Zst{a:Addr}{b:List Nat}{Q:Wh}(ho:s.heap.get? a=some { cls:=.type "bytearray",data:=.bytearray (b.map Nat.toUInt8).toArray 0 })(hz:b.length<=sizeLine)
  (h:Q (.bytes (b.map Nat.toUInt8).toArray s.toks) { s with toks:=s.toks+1 }) :
  wpAny (model prog w) A (call (.type "bytes") [.ref a]) Q E s:=by
 exists (prog w A E s a b Q),ho,hz,h
 refine callType_codes (Q₁:=λobj s_1=>s_1.TypeIs obj "bytes" /\ Q obj s_1) F.bm_called (F.bm_typeCall _) F.entry_object_init ?_ λobj s_1 h_1=>
  ⟨h_1.1,F.args_object_init_2 obj _,object_init_meets F.bm_called.init.lookup F.bm_called.made (by decide) prog w A.in1 _ s_1 ⟨h_1.1,rfl,h_1.2⟩⟩
 refine codeAny_of_tree ?_
 show wpAny _ A.in1.in1 (do checkBuiltinCall "bytes.__new__" ⟨[.type "bytes",.ref a],[]⟩;again (.builtin "bytes.__new__" ⟨[.type "bytes",.ref a],[]⟩)) _ _ s
 refine Qh (Qy (F.bm_newCall _) (Qi ⟨plainId_quiet F.bm_plain _,codeAny_builtin F.bm_entry ?_⟩))
 rw[Around.under_plainId F.bm_plain _]
 have hT:s.TypeIs (.ref a) "bytearray" := ⟨_,ho,rfl⟩
 unfold Builtin.«bytes.__new__»
 refine Qh (Qy (a:=true) rfl ?_)
 refine bm_if_false rfl ?_
 refine Qh (Qy F.bm_sub ?_)
 refine bm_if_false rfl ?_
 refine Qh (Qy (F.bm_bind _) ?_)
 refine Qh (Qy (a:=()) rfl ?_)
 refine Qh (Qy (a:=()) rfl ?_)
 refine bm_if_false rfl ?_
 refine Qh (wpAny_specialOf hT Zjf ?_)
 refine Qh (Qh ?_)
 show wpAny _ _ (load a >>= _) _ _ _
 refine Qh (wpAny_load ho ?_)
 refine Qi (Qi ?_)
 refine bm_if_false rfl ?_
 refine Qh (wpAny_specialOf hT Zj5 ?_)
 refine bm_if_true rfl ?_
 first
  | show wpAny _ _ (Builtin.Bytes.buffer? "bytes.__new__" (.ref a) true >>= _) _ _ _
  | (refine Qh ?_;show wpAny _ _ (Builtin.Bytes.buffer? "bytes.__new__" (.ref a) true >>= _) _ _ _)
 refine Qh ?_
 unfold Builtin.Bytes.buffer?
 refine Qh (wpAny_specialOf hT Zel ?_)
 refine Qh ?_
 unfold Builtin.Bytes.slotIsOwn
 refine Qh (wpAny_specialOf hT Zel ?_)
 show wpAny _ _ (if (!("bytearray.__buffer__".endsWith ("." ++ "__buffer__")))=true then pure false else isInstance _ (.type ("bytearray.__buffer__".dropRight ("__buffer__".length+1)))) _ _ _
 rw[Zsu,Zrw]
 refine wpAny_isInstance (T := "bytearray") (b:=true) hT Zij ?_
 refine bm_if_false rfl ?_
 refine Qh (wpAny_specialOf hT Zel ?_)
 refine Qh (m:=Builtin.Bytes.ownRelease _) ?_
 unfold Builtin.Bytes.ownRelease Builtin.Bytes.slotIsOwn
 refine Qh (Qh (wpAny_specialOf hT Zfy ?_))
 show wpAny _ _ (if (!("bytearray.__release_buffer__".endsWith ("." ++ "__release_buffer__")))=true then pure false else isInstance _ (.type ("bytearray.__release_buffer__".dropRight ("__release_buffer__".length+1)))) _ _ _
 rw[Zov,Zoe]
 refine wpAny_isInstance (T := "bytearray") (b:=true) hT Zij (Qi ?_)
 refine bm_if_false rfl ?_
 refine Qh (m:=Builtin.Bytes.payload _) ?_
 unfold Builtin.Bytes.payload Builtin.Bytes.payload?
 refine Qh (Qh (wpAny_load ho ?_))
 refine Qi (Qi ?_)
 refine Qi ?_
 refine Qh (wpAny_rule ?_)
 refine Qh (wpAny_mkBytes ?_ ?hz)
 case hz=>simpa using hz
 show wpAny _ _ (if (Value.type "bytes" == Value.type "bytes")=true then _ else _) _ _ _
 refine bm_if_true (by decide) ?_
 first
  | exact Qi ⟨PySem.W.typeIs_bytes _ _ _,h⟩
  | exact Qh (Qi (Qi ⟨PySem.W.typeIs_bytes _ _ _,h⟩))
end
theorem Zba{A:Around}{keep:List Value}{Q:Unit->Shared->Prop}(h:Q () s):wpP M A (release vs keep) Q E s:=λY Γ p Y Y Y=>by rw[Sem.wp_release];exact h
theorem Zbj{w:World}{A:Around}{v:Expr}{o r:Value}{Q:Unit->Shared->Prop}(h:Q () s):wpP (model prog w) A (letTemporaryGo v o r) Q E s:=by
 refine .of ?_
 have key:∀ x p,wpAny (model prog w) A (letTemporaryGo (.Await x p) o r) Q E s:=λx p=>by
  induction o with
  | ref a=>exact Qh (wpAny_holding (wpAny_runValue (codeAny_builtin entry_let_go (show wpAny _ _ (ret .none) _ _ s from Qi (Qi h)))))
  | _=>exact Qi h
 have cast:∀ v',letTemporaryGo v' o r=letTemporaryGo (.Await (.Constant .none 0 default) default) o r->wpAny (model prog w) A (letTemporaryGo v' o r) Q E s:=λv' e=>e▸key _ _
 cases v with
 | Name _ _=>exact Qi h
 | _=>exact cast _ (by kernel_rfl)
theorem Zbn{v:Expr} {a b:V} (T:String) (hT:∀ s va,VR s.heap a va->Holds C J s->s.TypeIs va T) (hl:typeLookup (.type T) "__getitem__" = pure (some (.builtin id)))
  (h:OP2 C VR getItem a b J K) (hs:∀ o i,∃ xs,subscripted sl false o i=operate xs (getItem o i)):OP2 C VR (subscriptTail v sl) a b J K:=λs va vb H ra rb=>by
 unfold subscriptTail
 have hT':=hT s va ra H
 refine Zaa ?_
 rw[getitemInPython_of_ne hT'.not_modules]
 refine Zaa (.of (wpAny_specialOf hT' hl ?_))
 obtain⟨xs,hs⟩:=hs va vb
 have fin:wpP (model C.G.prog C.G.w) C.A (subscripted sl false va vb) (λr s_3=>wpP (model C.G.prog C.G.w) C.A (letTemporaryGo v va r >>= λY=>pure r) (Pst C VR K s) C.E s_3) C.E s:=by
  rw[hs]
  exact Zas (Zad (h s va vb H ra rb) (λr s_3 h_3=>Zaa (Zbj (Zab h_3))) λY Y x=>x)
 exact Zab (Zaa fin)
theorem Zk3 (s:Shared) (va:Value) (r:VR s.heap (.bytes b) va) (H:Holds C J s):s.TypeIs va "bytes" := by o_facts r;exact typeIs_bytes _ _ _
theorem Zid{i:Int}(hfit:b.length<=1099511627776)(h0:0<=i)(h1:i<b.length)(h:K (.int (b.getD i.toNat 0:Nat)) J):OP2 C VR getItem (.bytes b) (.int i) J K:=λs v u H r1 r2=>by
 refine VR.bytesK r1 λt hb e0=>?_
 subst e0
 o_facts r2
 refine .of (getItem_bytes (l:=b.map Nat.toUInt8) (by simpa using hfit) h0 (by simpa using h1) (Pst.hereT H ?_ h))
 have hlt:i.toNat<b.length:=by lia
 have e:((b.map Nat.toUInt8).getD i.toNat 0).toNat=b.getD i.toNat 0:=by
  have hx:=hb (b[i.toNat]) (List.getElem_mem hlt)
  simp only[List.getD,List.getElem?_map,Qu hlt,Option.map_some,Option.getD_some]
  show(UInt8.ofNat _).toNat=_
  rw[UInt8.toNat_ofNat']
  exact Nat.mod_eq_of_lt hx
 rw[e]
 exact .int _ _
theorem Zdg (h:K (.int b.length) J) (hfit:b.length<=1099511627776):CF C (.bi "len") [.bytes b] J K:=λs fv vs H rf rl=>by
 o_facts rf
 revert rl
 intro rl0
 refine VRs.consK rl0 λY Y r rl e0=>?_
 subst e0
 o_facts rl
 o_facts r
 have:=len_bytes (prog:=C.G.prog) (w:=C.G.w) (A:=C.A) (E:=C.E) (s:=s) (b:=(b.map Nat.toUInt8).toArray) (t:=by assumption) (Q:=Pst C VR K s) (by simpa using hfit) (by simpa using Pst.hereT H (.int _ _) h)
 exact .of this
theorem cf_ba {k:Int} (h:∀ a,K (.ref a) ⟨J.loc,(a,.ba (List.replicate k.toNat 0))::J.obs⟩) (hg:C.A.guards=some []) (h0:0<=k) (hk:k<=sizeLine):CF C (.ty "bytearray") [.int k] J K:=λs fv vs H rf rl=>by
 o_facts rf
 revert rl
 intro rl0
 refine VRs.consK rl0 λY Y r rl e0=>?_
 subst e0
 o_facts rl
 o_facts r
 refine Zyr hg h0 hk λh' e kk=>?_
 refine⟨.ref s.heap.objs.size,_,h _,.ref _,H.alloc (n:=s.toks) kk (Qw _) e ?_,.of_ext kk⟩
 have:(Array.replicate k.toNat (0:UInt8))=((List.replicate k.toNat 0).map Nat.toUInt8).toArray:=by simp
 rw[this]
 exact .ba (λx hx=>by rw[(List.mem_replicate.mp hx).2];decide)
theorem Zi5 (hl:LkO a (.ba b) J.obs) (h:K (.bytes b) J) (hz:b.length<=sizeLine):CF C (.ty "bytes") [.ref a] J K:=λs fv vs H rf rl=>by
 o_facts rf
 revert rl
 intro rl0
 refine VRs.consK rl0 λY Y r rl e0=>?_
 subst e0
 o_facts rl
 o_facts r
 refine Zaj (H.obj hl) λO e ro=>?_
 refine OR.baK ro λhb e0=>?_
 subst e0
 exact .of (Zst e hz (Pst.hereT H (.bytes _ hb) h))
theorem Zg8{i x:Int}{K:Wl}(u:UpO a (.ba b) (.ba (b.set i.toNat x.toNat)) J.obs obs')(k:K ⟨J.loc,obs'⟩)(h0:0<=i)(h1:i<b.length)(hx:0<=x)(hx':x<256)(hz:b.length<=sizeLine)
   : OP3 C (λ_ (_:Unit) _=>True) setItem (.ref a) (.int i) (.int x) J (λY J=>K J):=λs v1 v2 v3 H r1 r2 r3=>by
 o_facts r1;o_facts r2;o_facts r3
 refine Zaj (H.obj u.lk) λO e ro=>?_
 refine OR.baK ro λhb e0=>?_
 subst e0
 refine .of (Zmi e h0 h1 hx hx' hz λh' e' s'=>?_)
 obtain⟨H',tk⟩:=H.set u s' e' (.ba (λy hy=>by
  rcases List.mem_or_eq_of_mem_set hy with q|q
  .exact hb y q
  .subst q;lia)) s.toks
 exact⟨(),_,k,trivial,H',tk⟩
theorem Zdq{o i:Expr}{K:Wj}
  (h:EV C (eval value C.env) J λv J_1=>EV C (eval o C.env) J_1 λov J_2=>EV C (eval i C.env) J_2 λiv J_3=>OP3 C (λ_ (_:Unit) _=>True) setItem ov iv v J_3 λY J=>K .next J)
  (hs:swapsWith value (some (.Subscript o i pos')) pos.line C.env=pure false:=by rfl):XV C (exec (.Assign [.Subscript o i pos'] value pos) C.env) J K:=λs H=>by
 rw[exec_Assign_Subscript o i pos' value pos hs]
 refine Zaa (Zac (Zaa (h.step H λv J_1 va s_1 h_1 ra H_1 k_1=>?_)))
 rw[assign_Subscript]
 refine Zaa (Zaa (Zae (h_1.step H_1 λov J_2 vo s_2 h_2 ro H_2 k_2=>Zaa (Zae (h_2.step H_2 λiv J_3 vi s_3 h_3 ri H_3 k_3=>Zaa (Zac (Zaa (Zae
  (Zap (h_3 s_3 vo vi va H_3 (ro.mono k_3) ri (ra.mono (k_2.trans k_3))) (λY s_4 Y J' k Y H' t=>Zba (Zab ⟨.next,J',k,.next,H',((k_1.trans k_2).trans k_3).trans t⟩)))))))))))
noncomputable def Z1k(a b c:Int):Ob where
 P _ o:=∃ t u v,o={ cls:=.type "range",data:=.fields #[.int a t,.int b u,.int c v] }
 mono _ _ _ _ h:=h
 noTup _ o h vs n e:=by obtain⟨t,u,v,rfl⟩:=h;simp[Zbk] at e
noncomputable abbrev AO.range(a b c:Int):AO:=.own (Z1k a b c)
theorem Zeb(h:Heap)(a b c:Int)(t u v:Tok):OR h (AO.range a b c) { cls:=.type "range",data:=.fields #[.int a t,.int b u,.int c v] }:=.own ⟨t,u,v,rfl⟩
theorem Zhj {n:Int} (h:∀ r,K (.ref r) ⟨J.loc,(r,.range 0 n 1)::J.obs⟩):CF C (.ty "range") [.int n] J K:=λs fv vs H rf rl=>by
 o_facts rf
 revert rl
 intro rl0
 refine VRs.consK rl0 λY Y r rl e0=>?_
 subst e0
 o_facts rl
 o_facts r
 exact .of (call_range_1 ⟨_,_,h _,.ref _,H.alloc (n:=s.toks+1+1) Qa (Qw _) (Qg _ rfl) (Zeb _ _ _ _ _ _ _),.of_ext Qa⟩)
theorem Zn1 {m n:Int} (h:∀ r,K (.ref r) ⟨J.loc,(r,.range m n 1)::J.obs⟩):CF C (.ty "range") [.int m,.int n] J K:=λs fv vs H rf rl=>by
 o_facts rf
 revert rl
 intro rl0
 refine VRs.consK rl0 λY Y r rl e0=>?_
 subst e0
 revert rl
 intro rl0
 refine VRs.consK rl0 λY Y r2 rl e0=>?_
 subst e0
 o_facts rl
 o_facts r;o_facts r2
 exact .of (call_range_2 ⟨_,_,h _,.ref _,H.alloc (n:=s.toks+1) Qa (Qw _) (Qg _ rfl) (Zeb _ _ _ _ _ _ _),.of_ext Qa⟩)
theorem Zh9 {m n c:Int} (h:∀ r,K (.ref r) ⟨J.loc,(r,.range m n c)::J.obs⟩) (hc:c≠0) (hp:Builtin.divisionGoesByPylong (n-m) c=false):CF C (.ty "range") [.int m,.int n,.int c] J K:=by
 exists (C J K m n c),h,hc,hp
 intro s fv vs H rf rl
 o_facts rf
 exists (s vs),H,rl,rf
 revert rl
 intro rl0
 refine VRs.consK rl0 λY Y r rl e0=>?_
 subst e0
 revert rl
 intro rl0
 refine VRs.consK rl0 λY Y r2 rl e0=>?_
 subst e0
 revert rl
 intro rl0
 refine VRs.consK rl0 λY Y r3 rl e0=>?_
 subst e0
 o_facts rl
 o_facts r;o_facts r2;o_facts r3
 exact .of (call_range_3 hc ⟨_,_,h _,.ref _,H.alloc (n:=s.toks) Qa (Qw _) (Qg _ rfl) (Zeb _ _ _ _ _ _ _),.of_ext Qa⟩ (.inl hp))
theorem Zgk{r:Addr}{a b c:Int}{K:Value->Wl}(p:Pick (r,.range a b c) J.obs rest)
  (k:∀ it,K (.ref it) ⟨J.loc,(it,.riter a (Builtin.Range.rangeSize a b c) c)::rest⟩) (hs:Builtin.Range.small a b c=true):IT C (.ref r) J K:=λva s H rr=>by
 cases rr
 refine Zaj (H.obs _ p.mem) λO e ro=>?_
 have q:=OR.ownE ro
 obtain⟨t,u,v,rfl⟩:=q
 refine .of (wpAny_pyIter_range e hs ⟨_,k _,(H.drop p).alloc (J:=⟨J.loc,rest⟩) (n:=s.toks) Qa (Qw _) (Qg _ rfl) (.riter _ _ _),.of_ext Qa⟩)
structure Nm(G:Gl)(gl bl:Wn):Prop where
 mg:∀ p∈gl,∃ val,G.mg p.1=some val/\∀ h,VR h p.2 val
 mb:∀ p∈bl,G.mg p.1=none/\∃ val,G.mb p.1=some val/\∀ h,VR h p.2 val
def Mb(x:Str)(v:V)(l:Wn):Prop:=(x,v)∈l
theorem Mb.head{l:Wn}:Mb x v ((x,v)::l):=List.Mem.head _
theorem Mb.tail{y:Str×V}{l:Wn}(h:Mb x v l):Mb x v (y::l):=List.Mem.tail _ h
theorem Mb.mem{l:Wn}(h:Mb x v l):(x,v)∈l:=h
theorem ev_g{gl bl:Wn}(N:Nm C.G gl bl)(hm:Mb x v gl)(hk:C.env.scope.kind = .function)(hx:C.env.kindOf x=some .globalImplicit)
  (hd:(x==("__debug__" : Str))=false) (k:K v J):EV C (eval (.Name x pos) C.env) J K:=by
 refine Zaj (N.mg _ hm.mem) λval e r=>?_
 exact Znt hk hx e r k hd
theorem ev_b{gl bl:Wn}(N:Nm C.G gl bl)(hm:Mb x v bl)(hk:C.env.scope.kind = .function)(hx:C.env.kindOf x=some .globalImplicit)
  (hd:(x==("__debug__" : Str))=false) (k:K v J):EV C (eval (.Name x pos) C.env) J K:=by
 obtain⟨e1,val,e,r⟩:=N.mb _ hm.mem
 exact Zuy hk hx e1 e r k hd
theorem ev_l (h:Lk x v J.loc) (hk:C.env.scope.kind = .function) (hl:C.env.kindOf x=some .local) (hd:(x==("__debug__" : Str))=false) (k:K v J)
   : EV C (eval (.Name x pos) C.env) J K:=Zgd hk hl h k hd
theorem Zx4(g:Good C.A n)(F:Fn C.G (.ref f) n args sel K')(S:Sel J.obs sel rest)
  (k:∀ r obs',K' r obs'->K r ⟨J.loc,obs'++rest⟩):CF C (.ref f) args J K:=λs fv vs H rf rl=>by
 o_facts rf
 exact Zo6 F g S k s vs H rl
theorem Z19{args:List Expr}
  (h:LV C (spliced (backTo pos (starEach args env))) J λl J_1=>CF C (.bi id) l J_1 K) (hplain:(backTo pos (starEach args env)).any (·.1)=false):CA C (.bi id) [] args pos env J K:=Z30 h hplain
theorem Ztn{a:V}{args:List Expr}
  (h:LV C (spliced (backTo pos (starEach args env))) J λl J_1=>CF C (.bi id) (a::l) J_1 K) (hplain:(backTo pos (starEach args env)).any (·.1)=false):CA C (.bi id) [a] args pos env J K:=Z30 h hplain
theorem Z08{args:List Expr}
  (h:LV C (spliced (backTo pos (starEach args env))) J λl J_1=>CF C (.ty T) l J_1 K) (hplain:(backTo pos (starEach args env)).any (·.1)=false):CA C (.ty T) [] args pos env J K:=ca_ty h hplain
theorem ca_K0{args:List Expr}(hk:keepIn C.G.K (.ref a)=true)
  (h:LV C (spliced (backTo pos (starEach args env))) J λl J_1=>CF C (.ref a) l J_1 K) (hplain:(backTo pos (starEach args env)).any (·.1)=false):CA C (.ref a) [] args pos env J K:=ca_K hk h hplain
theorem Zz8{b:V}{args:List Expr}(hk:keepIn C.G.K (.ref a)=true)
  (h:LV C (spliced (backTo pos (starEach args env))) J λl J_1=>CF C (.ref a) (b::l) J_1 K) (hplain:(backTo pos (starEach args env)).any (·.1)=false):CA C (.ref a) [b] args pos env J K:=ca_K hk h hplain
theorem Zdh{v:Expr}{i:Int}(h:K (.int (b.getD i.toNat 0:Nat)) J)(hs:∀ o i,∃ xs,subscripted sl false o i=operate xs (getItem o i))
  (hfit:b.length<=1099511627776) (h0:0<=i) (h1:i<b.length):OP2 C VR (subscriptTail v sl) (.bytes b) (.int i) J K:=
 Zbn "bytes" Zk3 FB.slot_bytes_getitem.lookup (Zid hfit h0 h1 h) hs
theorem Zmn{n:Int}(h0:0<=n)(h1:n<2 ^ 60):Builtin.Range.small 0 n 1=true:=small_one (by simp) (by simp) (by lia) (by lia)
theorem Z21{n:Int}(h0:0<=n):Builtin.Range.rangeSize 0 n 1=n:=by rw[rangeSize_one];split <;> lia
theorem UpO.pk{x x':AO}{l:Wg}(u:UpO a x x' l l'):∃ r,Pick (a,x) l r/\Pick (a,x') l' r:=by
 obtain⟨p,q,rfl,rfl⟩:=u
 exact⟨p++q,List.perm_middle,List.perm_middle⟩
theorem Holds.perm(H:Holds C J s)(p:J.obs.Perm obs'):Holds C ⟨J.loc,obs'⟩ s:=by
 refine⟨H.frz,H.loc,λq hq=>H.obs q (p.mem_iff.mpr hq),?_,λa ha=>H.ap a ?_,H.nn,H.gens,H.drawn,H.os⟩
 .exact((p.map (λx:Addr×AO=>x.1)).cons C.env.locals).nodup_iff.mp H.nd
 .rcases Qb ha with q|q
  .exact q ▸ .head _
  .exact .tail _ ((p.map (λx:Addr×AO=>x.1)).mem_iff.mpr q)
theorem Zoq{it:Value}{K:Wj}(p:J.obs.Perm obs')(h:FL C target it body orelse ⟨J.loc,obs'⟩ K):FL C target it body orelse J K:=λs H=>h s (H.perm p)
theorem Zuo{K:Wj}
  (h:EV C (eval iter C.env) J λa J_1=>IT C a J_1 λit J'=>FL C target it body orelse J' K)
  (hs:∀ x,foldedSetIterable iter C.env x=pure x):XV C (exec (.For target iter body orelse pos) C.env) J K:=x_for h hs
structure Its(C:Cx)(target:Expr)(it:Addr)(o:Nat->AO)(n:Nat)(x:Nat->V)(need:Wg->Prop):Prop where
 turn:∀ k loc obs,k<n->need obs->NL C target (.ref it) ⟨loc,(it,o k)::obs⟩ (λv J'=>v=x k/\J'=⟨loc,(it,o (k+1))::obs⟩) (λ_=>False)
 stop:∀ loc obs,need obs->NL C target (.ref it) ⟨loc,(it,o n)::obs⟩ (λ_ _=>False) (λJ'=>J'=⟨loc,obs⟩)
theorem OP1.mono{f:Value->Sem α}{a:V}{K K':β->Wl}(h:OP1 C R f a J K)(k:∀ b J,K b J->K' b J):OP1 C R f a J K':=λs v H r=>
 Zad (h s v H r) (by rintro _ _ ⟨b,J,x,y⟩;exact⟨b,J,k b J x,y⟩) λY Y e=>e
theorem Zmu{m:Nat}(h:k+(m+1)=n):k<n:=h▸Nat.lt_add_of_pos_right (Nat.succ_pos m)
theorem Z18{m:Nat}(h:k+(m+1)=n):k+1+m=n:=(Nat.succ_add_eq_add_succ k m).trans h
theorem Zoc{o:Nat->AO}{x:Nat->V}{need:Wg->Prop}{K:Wj}(hE:∀ e s,¬ C.E e s)
  (T:Its C target it o n x need) (I:Nat->Wm->Wg->Prop)
  (p:Pick (it,o 0) J.obs obs) (h0:I 0 J.loc obs) (hn:∀ k loc obs,I k loc obs->need obs)
  (hs:∀ k loc obs O,k<n->I k loc obs->U1 C (assign target C.env) (x k) ⟨loc,(it,O)::obs⟩ λJ_3=>
   XV C (execs body C.env) J_3 (lpK (λJ=>∃ obs',Pick (it,O) J.obs obs'/\I (k+1) J.loc obs') K))
  (hf:∀ loc obs,I n loc obs->XV C (execs orelse C.env) ⟨loc,obs⟩ K):FL C target (.ref it) body orelse J K:=by
 exists (C J n body it target orelse obs o x need K I),hE,T,p,h0,hn,hs,hf
 have main:∀ m k loc obs,k+m=n->k<=n->I k loc obs->FL C target (.ref it) body orelse ⟨loc,(it,o k)::obs⟩ K:=by
  intro m
  induction m with
  | zero=>
   intro k loc obs hm hk hI
   have:k=n:=hm
   subst this
   refine Zji hE ((T.stop loc obs (hn _ _ _ hI)).mono (λY Y f=>f.elim) λJ e=>?_)
   subst e
   exact hf loc obs hI
  | succ m ih=>
   intro k loc obs hm hk hI
   refine Zji hE ((T.turn k loc obs (Zmu hm) (hn _ _ _ hI)).mono (λv J' e=>?_) λJ f=>f.elim)
   obtain⟨rfl,rfl⟩:=e
   refine OP1.mono (hs k loc obs _ (Zmu hm) hI) λY J_3 h_3=>?_
   refine W.mono h_3 λfl J_4 h_4=>?_
   have next:∀ J_4:St,(∃ obs',Pick (it,o (k+1)) J_4.obs obs'/\I (k+1) J_4.loc obs')->FL C target (.ref it) body orelse J_4 K:=by
    rintro J_4 ⟨obs',pk,hI'⟩
    exact Zoq pk.perm (ih (k+1) J_4.loc obs' (Z18 hm) (Zmu hm) hI')
   induction fl with
   | next=>exact next J_4 h_4
   | cont=>exact next J_4 h_4
   | brk=>exact h_4
   | ret v=>exact h_4
 exact Zoq p.perm (main n 0 J.loc obs (Nat.zero_add n) (Nat.zero_le _) h0)
inductive Tgt:Expr->Prop
 | name {x:Str} {p:Pos}:Tgt (.Name x p)
 | tuple {elts:List Expr} {k:Nat} {p:Pos}:Tgt (.Tuple elts k p)
theorem NL.tgt{Ks:Wk}(t:Tgt target)(h:NX C (.ref it) J Ks Kn)
  (hp:∀ a J',Ks a J'->∀ s,Holds C J' s->∃ O n,s.heap.get? it=some O/\O.cls = .type n/\ownsTuple.contains n=false):NL C target (.ref it) J Ks Kn:=by
 induction t with
 | name=>exact .name h
 | tuple=>exact .tuple h hp
theorem Zhd{x l st:Int}(H:Holds C ⟨loc,(it,.riter x l st)::obs⟩ s):∃ O n,s.heap.get? it=some O/\O.cls = .type n/\ownsTuple.contains n=false:=by
 exists (C s it loc obs x l st),H
 refine Zaj (H.obs _ (.head _)) λO e ro=>?_
 cases ro
 exact⟨_,_,e,rfl,by decide⟩
theorem Ziq{x:Addr}(H:Holds C ⟨loc,(it,.liter x i)::obs⟩ s):∃ O n,s.heap.get? it=some O/\O.cls = .type n/\ownsTuple.contains n=false:=by
 refine Zaj (H.obs _ (.head _)) λO e ro=>?_
 refine And.elim (λc d=>?_) (OR.literE ro)
 exact⟨_,_,e,c,by decide⟩
theorem Zoz{x:List V}(H:Holds C ⟨loc,(it,.titer x i)::obs⟩ s):∃ O n,s.heap.get? it=some O/\O.cls = .type n/\ownsTuple.contains n=false:=by
 refine Zaj (H.obs _ (.head _)) λO e ro=>?_
 refine OR.titerK ro λY Y Y c d Y Y=>?_
 exact⟨_,_,e,c,by decide⟩
theorem Ziv{a step:Int}(t:Tgt target)(hh:C.A.handled=none):Its C target it (λk=>.riter (a+k * step) ((n:Int)-k) step) n (λk=>.int (a+k * step)) (λY=>True) where
 turn k loc obs hk _:=.tgt t (Zd4 hh .head .head (λY=>⟨rfl,by
   have e1:(a+((k+1:Nat):Int) * step)=(a+k * step)+step:=by push_cast;rw[Int.add_mul];lia
   have e2:((n:Int)-((k+1:Nat):Int))=((n:Int)-k)-1:=by push_cast;lia
   rw[e1,e2]⟩) (λh=>by lia)) (by rintro a J' ⟨_,e⟩ s H;subst e;exact Zhd H)
 stop loc obs _:=.tgt t (Zd4 hh (.head (o':=.riter (a+n * step+step) ((n:Int)-n-1) step)) .head (λh=>by lia) (λY=>rfl)) λa J' f=>f.elim
theorem Zsq{a left step:Int}{K:Wj}(t:Tgt target)(hE:∀ e s,¬ C.E e s)(hh:C.A.handled=none)(n:Nat)
  (I:Nat->Wm->Wg->Prop)
  (p:Pick (it,.riter a left step) J.obs obs) (hl:left=n) (h0:I 0 J.loc obs)
  (hs:∀ k loc obs O,k<n->I k loc obs->U1 C (assign target C.env) (.int (a+k * step)) ⟨loc,(it,O)::obs⟩ λJ_3=>
   XV C (execs body C.env) J_3 (lpK (λJ=>∃ obs',Pick (it,O) J.obs obs'/\I (k+1) J.loc obs') K))
  (hf:∀ loc obs,I n loc obs->XV C (execs orelse C.env) ⟨loc,obs⟩ K):FL C target (.ref it) body orelse J K:=
 Zoc hE (Ziv t hh) I (by subst hl;simpa using p) h0 (λY Y Y Y=>trivial) hs hf
theorem Zcf(t:Tgt target)(hh:C.A.handled=none):Its C target it (λk=>.liter a k) l.length (λk=>l.getD k .none) (λobs=>LkO a (.list l) obs) where
 turn k loc obs hk hl:=.tgt t (Zga hh (.tail hl) .head .head (λx hx=>⟨by simp[List.getD,hx],rfl⟩) (λh=>by simp at h;lia)) (by rintro a J' ⟨_,e⟩ s H;subst e;exact Ziq H)
 stop loc obs hl:=.tgt t (Zga hh (.tail hl) .head .head (λx hx=>by simp at hx) (λY=>rfl)) λa J' f=>f.elim
abbrev Loc:=Wm
section
variable {X YY:Type}
theorem ei1{T0:Type}{A:T0->X}{B:T0->YY}{x:X}{y:YY}(a:T0)(h1:x=A a)(h2:y=B a):∃ a,x=A a/\y=B a:=⟨a,h1,h2⟩
theorem ei2{T0 T1:Type}{A:T0->T1->X}{B:T0->T1->YY}{x:X}{y:YY}(a:T0)(b:T1)(h1:x=A a b)(h2:y=B a b):∃ a b,x=A a b/\y=B a b:=⟨a,b,h1,h2⟩
theorem ei3{T0 T1 T2:Type}{A:T0->T1->T2->X}{B:T0->T1->T2->YY}{x:X}{y:YY}(a:T0)(b:T1)(c:T2)(h1:x=A a b c)(h2:y=B a b c):∃ a b c,x=A a b c/\y=B a b c:=⟨a,b,c,h1,h2⟩
end
section
variable {M:Loc->Wg->Prop}
@[elab_as_elim] theorem ex1 (loc:Loc) (o:Wg) {T0:Type} {A:T0->Loc} {B:T0->Wg} (h:∃ a,loc=A a/\o=B a) (k:∀ (a:T0),M (A a) (B a)):M loc o:=by
 obtain⟨a,h1,h2⟩:=h
 rw[h1,h2]
 exact k a
@[elab_as_elim] theorem ex2 (loc:Loc) (o:Wg) {T0 T1:Type} {A:T0->T1->Loc} {B:T0->T1->Wg} (h:∃ a b,loc=A a b/\o=B a b) (k:∀ (a:T0) (b:T1),M (A a b) (B a b)):M loc o:=by
 obtain⟨a,b,h1,h2⟩:=h
 rw[h1,h2]
 exact k a b
@[elab_as_elim] theorem ex3 (loc:Loc) (o:Wg) {T0 T1 T2:Type} {A:T0->T1->T2->Loc} {B:T0->T1->T2->Wg} (h:∃ a b c,loc=A a b c/\o=B a b c) (k:∀ (a:T0) (b:T1) (c:T2),M (A a b c) (B a b c)):M loc o:=by
 obtain⟨a,b,c,h1,h2⟩:=h
 rw[h1,h2]
 exact k a b c
end
structure Hid(p:Prop):Prop where
 out:p
theorem XV.opq{t:Sem Flow}{K:Wj}(h:∀ K':Wj,(∀ a J,K a J->K' a J)->XV C t J K'):XV C t J K:=h K λY Y x=>x
theorem U1.opqL{f:Value->Sem Unit}{a:V}{b:Sem Flow}{I:Wl}{K:Wj}(h:∀ (JJ:Wl) (K':Wj),(∀ J,I J->JJ J)->(∀ a J,K a J->K' a J)->U1 C f a J λJ_3=>XV C b J_3 (lpK JJ K')):U1 C f a J λJ_3=>XV C b J_3 (lpK I K):=h I K (λY x=>x) λY Y x=>x
theorem U1.opqE{f:Value->Sem Unit}{a:V}{b:Sem Value}(h:∀ K':Wk,(∀ a J,K a J->K' a J)->U1 C f a J λJ_3=>EV C b J_3 K'):U1 C f a J λJ_3=>EV C b J_3 K:=h K λY Y x=>x
theorem BV.opqW{c:Sem Bool}{b e:Sem Flow}{I:Wl}{K:Wj}(h:∀ (JJ:Wl) (K':Wj),(∀ J,I J->JJ J)->(∀ a J,K a J->K' a J)->BV C c J λt J_1=>(t=true->XV C b J_1 (lpK JJ K'))/\(t=false->XV C e J_1 K')) :
  BV C c J λt J_1=>(t=true->XV C b J_1 (lpK I K))/\(t=false->XV C e J_1 K):=h I K (λY x=>x) λY Y x=>x
abbrev TKF:=Fl->Wl
abbrev TKV:=V->Wl
abbrev TKS:=St->Prop
set_option tactic.hygienic true in
theorem Holds.cellOf(H:Holds C J s)(h:LkO c (.cell (some v)) J.obs):∃ val,s.heap.IsCell c (some val)/\VR s.heap v val:=by
 refine Zaj (H.obj h) λO e r=>?_
 revert r
 intro r0
 refine OR.cellK r0 λ_ d r=>?_
 rename_i w
 induction w with
 | none=>exact r.elim
 | some val=>exact⟨val,⟨O,e,d⟩,r⟩
theorem ev_cell (hc:C.env.cells.lookup x=some c) (h:LkO c (.cell (some v)) J.obs) (hk:C.env.scope.kind = .function) (hl:C.env.kindOf x=some .cell) (hd:(x==("__debug__" : Str))=false)
  (k:K v J):EV C (eval (.Name x pos) C.env) J K:=Zkk (λs H=>by
 refine Zaj (H.cellOf h) λval e r=>?_
 exact .of (wpAny_loadName_cell hk hl hc e (Pst.here H r k))) hd
theorem ev_free (hc:C.env.cells.lookup x=some c) (h:LkO c (.cell (some v)) J.obs) (hk:C.env.scope.kind = .function) (hl:C.env.kindOf x=some .free) (hd:(x==("__debug__" : Str))=false)
  (hn:(x==("__classdict__" : Str))=false) (k:K v J):EV C (eval (.Name x pos) C.env) J K:=Zkk (λs H=>by
 refine Zaj (H.cellOf h) λval e r=>?_
 exact .of (wpAny_loadName_free hk hl hc e (Pst.here H r k) hn)) hd
theorem uv_cell{a:V}{o:Option V}{K:Wl}(hc:C.env.cells.lookup x=some c)(u:UpO c (.cell o) (.cell (some a)) J.obs obs')(hk:C.env.scope.kind = .function)(hl:C.env.kindOf x=some .cell)(k:K ⟨J.loc,obs'⟩) :
  U1 C (storeName C.env x) a J K:=λs v H r=>by
 refine Zaj (H.obj u.lk) λO e ro=>?_
 revert ro
 intro ro0
 refine OR.cellK ro0 λY d ro=>?_
 refine .of (wpAny_storeName_cell hk hl hc ⟨O,e,d⟩ ?_)
 rintro h' ⟨O',e',d'⟩ hs'
 refine And.elim (λH' tk=>?_) (H.set u hs' e' (.cell (a:=some a) (v:=some v) d' r) s.toks)
 exact⟨(),_,k,trivial,H',tk⟩
theorem Zfj{k:Str->Option NameKind}:∀ {binds:List (Str×Value)} {m:Str->Option Value} {x:Str},(∀ v,(x,v) ∉ binds)->bindL k binds m x=m x
 | [],m,x,h=>rfl
 | (n,v)::r,m,x,h=>by
  unfold bindL
  rw[Zfj λv hv=>h v (.tail _ hv)]
  split
  .show(if x=n then some v else m x)=m x
   rw[if_neg];rintro rfl;exact h v (.head _)
  .rfl
theorem Zc3{k:Str->Option NameKind}:∀ {binds:List (Str×Value)} {m:Str->Option Value} {x:Str},(∀ v,(x,v) ∉ binds)->bindC k binds m x=m x
 | [],m,x,h=>rfl
 | (n,v)::r,m,x,h=>by
  unfold bindC
  rw[Zc3 λv hv=>h v (.tail _ hv)]
  split
  .rfl
  .show(if x=n then some v else m x)=m x
   rw[if_neg];rintro rfl;exact h v (.head _)
theorem Zop{k:Str->Option NameKind}:∀ {m:Str->Option Value} {x:Str} {v:Value},(binds.map (·.1)).Nodup->(x,v)∈binds->k x=some .local->bindL k binds m x=some v:=by
 induction binds with
 | nil=>intro _ _ _ _ h;cases h
 | cons b r ih=>
  obtain⟨n,w⟩:=b
  intro m x v nd h hk
  unfold bindL
  have nd':=Qc nd
  rcases Qb h with e|h
  .cases e
   rw[Zfj λv' hv=>nd'.1 (Qe ⟨_,hv,rfl⟩),if_pos hk]
   simp
  .exact ih nd'.2 h hk
theorem Zpx{k:Str->Option NameKind}:∀ {m:Str->Option Value} {x:Str} {v:Value},(binds.map (·.1)).Nodup->(x,v)∈binds->k x≠some .local->bindC k binds m x=some v:=by
 induction binds with
 | nil=>intro _ _ _ _ h;cases h
 | cons b r ih=>
  obtain⟨n,w⟩:=b
  intro m x v nd h hk
  unfold bindC
  have nd':=Qc nd
  rcases Qb h with e|h
  .cases e
   rw[Zc3 λv' hv=>nd'.1 (Qe ⟨_,hv,rfl⟩),if_neg hk]
   simp
  .exact ih nd'.2 h hk
set_option tactic.hygienic true in
theorem Za8{x:Str×Addr}:∀ {names:List (Str×NameKind)} {n:Nat} {acc:List (Str×Addr)},x∈cellsFrom n names acc->x∈acc\/(n<=x.2/\(x.1,NameKind.cell)∈names)
 | [],n,acc,h=>.inl h
 | (m,k)::r,n,acc,h=>by
  unfold cellsFrom at h
  split at h
  .rename_i hk
   rcases Za8 h with q|⟨q,g⟩
   .rcases Qb q with e|e
    .subst e
     have:k = .cell:=by simpa using hk
     subst this
     exact .inr ⟨Qw _,.head _⟩
    .exact .inl e
   .exact .inr ⟨Nat.le_of_succ_le q,.tail _ g⟩
  .rcases Za8 h with q|⟨q,g⟩
   .exact .inl q
   .exact .inr ⟨q,.tail _ g⟩
set_option tactic.hygienic true in
theorem Zgr{names:List (Str×NameKind)}:∀ {n:Nat} {acc:List (Str×Addr)},((x,NameKind.cell)∈names\/∃ c,(x,c)∈acc)->∃ c,(x,c)∈cellsFrom n names acc:=by
 induction names with
 | nil=>
  intro n acc h
  rcases h with h|h
  .cases h
  .exact h
 | cons b r ih=>
  obtain⟨m,k⟩:=b
  intro n acc h
  unfold cellsFrom
  split
  .refine ih ?_
   rcases h with h|⟨c,h⟩
   .rcases Qb h with e|h
    .cases e;exact .inr ⟨n,.head _⟩
    .exact .inl h
   .exact .inr ⟨c,.tail _ h⟩
  .rename_i hk
   refine ih ?_
   rcases h with h|⟨c,h⟩
   .rcases Qb h with e|h
    .cases e;simp at hk
    .exact .inl h
   .exact .inr ⟨c,h⟩
theorem Zb4{names:List (Str×NameKind)}:∀ {n:Nat} {acc:List (Str×Addr)},(names.map (·.1)).Nodup->(acc.map (·.1)).Nodup->(∀ x∈names,∀ y∈acc,x.1≠y.1)->((cellsFrom n names acc).map (·.1)).Nodup:=by
 induction names with
 | nil=>intro n acc h1 h2 h3;exact h2
 | cons b r ih=>
  obtain⟨m,k⟩:=b
  intro n acc h1 h2 h3
  unfold cellsFrom
  have h1':=Qc h1
  split
  .refine ih h1'.2 (Qd ⟨λhm=>?_,h2⟩) (λx hx y hy=>?_)
   .obtain⟨y,hy,e⟩:=Qf hm
    exact h3 _ (.head _) y hy e.symm
   .rcases Qb hy with e|hy
    .subst e
     intro q
     exact h1'.1 (Qe ⟨x,hx,q⟩)
    .exact h3 x (.tail _ hx) y hy
  .exact ih h1'.2 h2 λx hx=>h3 x (.tail _ hx)
set_option tactic.hygienic true in
theorem Zmd(n:Str){names:List Str}:∀ {l:List V} {vs:List Value},VRs h l vs->names.length=l.length ->
  match (names.zip l).lookup n with|some v=>∃ val,(n,val)∈names.zip vs/\VR h v val|none=>∀ val,(n,val) ∉ names.zip vs:=by
 induction names with
 | nil=>intro _ _ _ _;simp
 | cons y names ih=>
  intro l vs RR e
  induction l with
  | nil=>simp at e
  | cons c l=>
  obtain⟨w,ws,rfl,r,R⟩:=RR
  rw[List.zip_cons_cons,List.zip_cons_cons,List.lookup_cons]
  cases hb:n==y with
  | true=>
   have:n=y:=by simpa using hb
   subst this
   exact⟨_,.head _,r⟩
  | false=>
   have ih:=ih R (by simpa using e)
   have hne:n≠y:=by simpa using hb
   dsimp only
   split
   .rename_i v hv
    rw[hv] at ih
    obtain⟨val,a,b⟩:=ih
    exact⟨val,.tail _ a,b⟩
   .rename_i hv
    rw[hv] at ih
    intro val hm
    rcases Qb hm with q|q
    .cases q;exact hne rfl
    .exact ih val q
section
variable {prog:Program}{w:World}{A:Around}{s:Shared}{R:Result->Shared->Prop}
theorem Zdy{vals:List Value}
  (hroom:A.depth<recursionLimit) (ho:s.heap.get? a=some o) (hdata:o.data = .func fd) (hlim:s.heap.NoLimit) (hcd:s.heap.CodeRec fd.code fd.qualname)
  (hbody:fd.body = .stmts body) (hbind:bindArgs fd ⟨vals,[]⟩=pure binds) (hclo:fd.closure=[])
  (hkind:∀ x∈binds,fd.scope.names.lookup x.1=some .local\/(fd.scope.names.lookup x.1=some .cell/\((cellsFrom (s.heap.objs.size+1) fd.scope.names []).lookup x.1).isSome=true))
  (h:∀ s_1,InCallC s (callEnvC fd s.heap.objs.size a).locals (bindL (callEnvC fd s.heap.objs.size a).kindOf binds λY=>none) (callEnvC fd s.heap.objs.size a).cells
    (bindC (callEnvC fd s.heap.objs.size a).kindOf binds λY=>none) s_1 ->
   wpP (model prog w) (A.deeper (callEnvC fd s.heap.objs.size a)) (execs body (callEnvC fd s.heap.objs.size a)) (λf s'=>R (.ok (.ret (match f with | .ret v=>v|_=>.none))) s')
    (λe s'=>wpP (model prog w) (A.deeper (callEnvC fd s.heap.objs.size a)) (leaving (callEnvC fd s.heap.objs.size a) e) (λY s''=>R (.error e) s'') (λe' s''=>R (.error e') s'') s') s_1)
  (hco:fd.scope.isCoroutine=false) (hgen:fd.scope.isGenerator=false) (hk:fd.scope.kind = .function) :
  codeP (model prog w) A (.call (.ref a) ⟨vals,[]⟩) R s:=by
 refine Zbd hroom ho hdata hco hgen hbody hcd ?_
 rw[hbind,hclo]
 refine Zab (.of (wpAny_newFunctionEnv_cells hk hkind λenv he s' x=>?_))
 subst he
 exact⟨hlim.keeps x.toInCall.keep,Zf4 (h s' x)⟩
end
theorem VRs.get_arr(R:VRs h l vs){a:V}(e:l[i]?=some a):∃ v,vs.toArray[i]?=some v/\VR h a v:=by
 refine Zaj (R.get i e) λv e r=>?_
 exact⟨v,by simpa using e,r⟩
theorem VRs.take(n:Nat)(H:VRs h l vs):VRs h (l.take n) (vs.take n):=by
 induction l generalizing n vs with
 | nil=>obtain rfl:=H.nilE;induction n <;> exact .nil
 | cons a l ih=>obtain⟨v,ws,rfl,x,r⟩:=H;induction n with
  | zero=>exact .nil
  | succ n=>exact .cons x (ih n r)
theorem VRs.drop(n:Nat)(H:VRs h l vs):VRs h (l.drop n) (vs.drop n):=by
 induction l generalizing n vs with
 | nil=>obtain rfl:=H.nilE;induction n <;> exact .nil
 | cons a l ih=>obtain⟨v,ws,rfl,x,r⟩:=H;induction n with
  | zero=>exact .cons x r
  | succ n=>exact ih n r
theorem VRs.set{a:V}{v:Value}(x:VR h a v)(n:Nat)(H:VRs h l vs):VRs h (l.set n a) (vs.set n v):=F2.set x n H
noncomputable def slc{α:Type}(l:List α)(lo hi:Option Int):List α:=(l.drop (lo.elim 0 (clipAt l.length))).take (hi.elim l.length (clipAt l.length)-lo.elim 0 (clipAt l.length))
theorem Zs6{l:List α}{d:α}(h:i<l.length):l.getD i d∈l:=by
 rw[List.getD,Qu h]
 exact List.getElem_mem h
theorem Zd2(h:i<=n):clipAt n (i:Int)=i:=(clipAt_nat n i).trans (Nat.min_eq_left h)
theorem Zpf(n:Nat)(i:Int):clipAt n i<=n:=Int.toNat_le.mpr (Int.max_le.mpr ⟨Int.natCast_nonneg _,Int.min_le_right _ _⟩)
theorem Zt3(l:List α)(lo hi:Option Int):(slc l lo hi).length<=l.length:=Qx (List.length_take_le' _ _) (List.length_drop▸Nat.sub_le _ _)
theorem Zwf(l:List α)(i j:Nat)(hi:i<=l.length)(hj:j<=l.length):slc l (some (i:Int)) (some (j:Int))=(l.drop i).take (j-i):=by
 show(l.drop (clipAt _ _)).take (clipAt _ _-clipAt _ _)=_
 rw[Zd2 hi,Zd2 hj]
theorem Zrh(l:List α)(i:Nat)(hi:i<=l.length):slc l (some (i:Int)) none=l.drop i:=by
 show(l.drop (clipAt _ _)).take (l.length-clipAt _ _)=_
 rw[Zd2 hi]
 exact List.take_of_length_le (Nat.le_of_eq List.length_drop)
theorem VRs.slc(lo hi:Option Int)(r:VRs h l vs):VRs h (Mine.slc l lo hi) (Mine.slc vs lo hi):=by
 unfold Mine.slc
 rw[r.length]
 exact(r.drop _).take _
noncomputable def Z1a(lo hi:Option Int):Ob where
 P _ o:=∃ vl vu,o={ cls:=.type "slice",data:=.fields #[vl,vu,.none] }/\IsPart vl lo/\IsPart vu hi
 mono _ _ _ _ h:=h
 noTup _ o h vs n e:=by obtain⟨t,u,rfl,_⟩:=h;simp[Zbk] at e
noncomputable abbrev AO.slice(lo hi:Option Int):AO:=.own (Z1a lo hi)
theorem Znu(h:Heap){vl vu:Value}(p1:IsPart vl lo)(p2:IsPart vu hi):OR h (AO.slice lo hi) { cls:=.type "slice",data:=.fields #[vl,vu,.none] }:=.own ⟨vl,vu,rfl,p1,p2⟩
theorem x_expr{K:Wj}(h:EV C (eval e C.env) J λY J_1=>K .next J_1)(hi:interactive C.env=false)(hs:swapsWith e none pos.line C.env=pure false):XV C (exec (.Expr e pos) C.env) J K:=λs H=>by
 rw[exec_Expr C.env e pos hi hs]
 exact Zaa (Zac (Zaa (h.step H λa J_1 v s_1 k r H_1 t=>.of (wpAny_dropValue ⟨.next,J_1,k,.next,H_1,t⟩))))
def LK(l:List V)(P:Prop):Prop:=l.length<=sizeLine/\P
theorem lk_ok{P:Prop}(h:P)(hz:Nat.ble l.length sizeLine=true):LK l P:=⟨Qo hz,h⟩
theorem ev_list(h:LV C (spliced (backTo pos (starEach elts env))) J λl J_1=>LK l (∀ a,K (.ref a) ⟨J_1.loc,(a,.list l)::J_1.obs⟩)) :
  EV C (eval (.List elts pos) env) J K:=λs H=>by
 rw[arm_eval_List]
 refine Zaa (Zac (Zaa (h.step H λl J_1 vs s_1 k r H_1 t=>?_)))
 refine .of (wpAny_newList ?_ (by rw[r.length];exact k.1))
 exact⟨_,_,k.2 _,.ref _,H_1.alloc (n:=s_1.toks) Qa (Qw _) (Qg _ rfl) (.list 0 (r.mono (.of_ext Qa))),t.trans (.of_ext Qa)⟩
theorem ev_tuple(h:LV C (spliced (backTo pos (starEach elts env))) J λl J_1=>LK l (K (.tup l) J_1)) :
  EV C (eval (.Tuple elts k pos) env) J K:=λs H=>by
 rw[arm_eval_Tuple]
 refine Zaa (Zac (Zaa (h.step H λl J_1 vs s_1 k r H_1 t=>?_)))
 refine .of (wpAny_newTuple ?_ (by rw[r.length];exact k.1))
 have kp:∀ b o,s_1.heap.get? b=some o->(s_1.heap.push { cls:=.type "tuple",data:=.seq vs.toArray }).get? b=some o:=Qa
 exact⟨_,_,k.2,.tup (Qg _ rfl) (r.mono (.of_ext kp)),H_1.ext kp s_1.toks,t.trans (.of_ext kp)⟩
theorem cf_append (u:UpO a (.list l) (.list (l++[v])) J.obs obs') (k:K .none ⟨J.loc,obs'⟩) (hz:l.length<=sizeLine):CF C (.bi "list.append") [.ref a,v] J K:=λs fv vs H rf rl=>by
 o_facts rf
 revert rl
 intro rl0
 refine VRs.consK rl0 λY Y r rl e0=>?_
 subst e0
 revert rl
 intro rl0
 refine VRs.consK rl0 λY Y r2 rl e0=>?_
 subst e0
 o_facts rl
 o_facts r
 refine Zbp (H.list u.lk) λvs n e r=>?_
 refine .of (append_at e (λh' hs' e'=>?_) (by simpa [r.length] using hz))
 obtain⟨H',tk⟩:=H.set (o':=.list (l++[v])) u hs' e' (by
  have:=OR.list (n+1) (r.append (.cons r2 .nil))
  simpa using this) s.toks
 exact⟨_,_,k,.none,H',tk⟩
theorem cf_len_list (hl:LkO a (.list l) J.obs) (k:K (.int l.length) J) (hz:l.length<=sizeLine):CF C (.bi "len") [.ref a] J K:=λs fv vs H rf rl=>by
 o_facts rf
 revert rl
 intro rl0
 refine VRs.consK rl0 λY Y r rl e0=>?_
 subst e0
 o_facts rl
 o_facts r
 have hz':sizeLine=16777216:=by decide
 refine Zbp (H.list hl) λvs n e r=>?_
 have:=call_len_list (prog:=C.G.prog) (w:=C.G.w) (A:=C.A) (E:=C.E) (s:=s) (Q:=Pst C VR K s) (l:=a) (items:=vs.toArray) ⟨_,e,rfl,n,rfl⟩ (by simp[r.length];lia) (by simpa [r.length] using Pst.hereT H (.int _ _) k)
 exact .of this
theorem Zjy (hl:LkO a (.list l) J.obs) (s:Shared) (va:Value) (r:VR s.heap (.ref a) va) (H:Holds C J s):s.TypeIs va "list" := by
 o_facts r
 refine Zbp (H.list hl) λvs n e r=>?_
 exact⟨_,e,rfl⟩
theorem Zjt{i:Int}{x:V}(hl:LkO a (.list l) J.obs)(h0:0<=i)(hi:i<2 ^ 63)(hx:l[i.toNat]?=some x)(k:K x J):OP2 C VR getItem (.ref a) (.int i) J K:=λs v u H r1 r2=>by
 o_facts r1;o_facts r2
 refine Zbp (H.list hl) λvs n e r=>?_
 obtain⟨v,e2,r2⟩:=r.get_arr hx
 exact .of (wpAny_getItem_list ⟨_,e,rfl,n,rfl⟩ h0 hi e2 (Pst.here H r2 k))
theorem Zh2{i:Int}{x:V}(hl:LkO a (.list l) J.obs)(h0:i<0)(h1:-(l.length:Int)<=i)(hi:-(2 ^ 63)<=i)(hx:l[(i+l.length).toNat]?=some x)(k:K x J):OP2 C VR getItem (.ref a) (.int i) J K:=λs v u H r1 r2=>by
 o_facts r1;o_facts r2
 refine Zbp (H.list hl) λvs n e r=>?_
 obtain⟨v,e2,r2⟩:=r.get_arr hx
 exact .of (wpAny_getItem_list_neg ⟨_,e,rfl,n,rfl⟩ h0 (by simpa [r.length] using h1) hi (by simpa [r.length] using e2) (Pst.here H r2 k))
theorem Zf6{sl:Addr}(p:Pick (sl,.slice lo hi) J.obs rest)(hl:LkO a (.list l) rest)(k:∀ r,K (.ref r) ⟨J.loc,(r,.list (slc l lo hi))::rest⟩)(hz:l.length<=sizeLine) :
  OP2 C VR getItem (.ref a) (.ref sl) J K:=λs v u H r1 r2=>by
 o_facts r1;o_facts r2
 refine Zaj (H.obs _ p.mem) λO e ro=>?_
 have H':=H.drop p
 refine Zbp (H'.list hl) λvs n e2 r=>?_
 have q:=OR.ownE ro
 obtain⟨vl,vu,rfl,p1,p2⟩:=q
 have eq:(slicePick vs.toArray lo hi none)=(slc vs lo hi).toArray:=by rw[slicePick_plain];simp[slc]
 refine .of (wpAny_getItem_list_slice (lo:=lo) (hi:=hi) (st:=none) ⟨_,e2,rfl,n,rfl⟩ ⟨_,e,rfl,rfl⟩ p1 p2 .none (by simp) ?_ (by simpa [r.length] using hz))
 rw[eq]
 have kp:∀ b o,s.heap.get? b=some o->(s.heap.push { cls:=.type "list",data:=.seq (slc vs lo hi).toArray }).get? b=some o:=Qa
 refine⟨_,_,k _,.ref _,H'.alloc (n:=s.toks) kp (Qw _) (Qg _ rfl) ?_,.of_ext kp⟩
 exact .list 0 (VRs.slc lo hi (r.mono (.of_ext kp)))
def PV(C:Cx)(env:Env)(o:Option Expr)(J:St)(K:Option Int->Wl):Prop:=W C (λ_ (k:Option Int) v=>IsPart v k) (valueOrNone (evalOpt o env)) J K
theorem pv_none{K:Option Int->Wl}(k:K none J):PV C env none J K:=λs H=>Zab (Pst.here H .none k)
theorem pv_some{K:Option Int->Wl}(h:EV C (eval e env) J λa J_1=>∃ i,a = .int i/\K (some i) J_1):PV C env (some e) J K:=λs H=>by
 show wpP _ _ (eval e env) _ _ _
 exact h.step H (by rintro a J_1 v s_1 ⟨i,e,k⟩ r H_1 t;subst e;o_facts r;exact⟨some i,J_1,k,.int _ _,H_1,t⟩)
theorem ev_slice{lower upper:Option Expr}(h:PV C env lower J λlo J_1=>PV C env upper J_1 λhi J_2=>∀ sl,K (.ref sl) ⟨J_2.loc,(sl,.slice lo hi)::J_2.obs⟩):EV C (eval (.Slice lower upper none pos) env) J K:=λs H=>by
 rw[arm_eval_Slice]
 refine Zaa (W.step h H λlo J_1 vl s_1 k_1 r_1 H_1 t_1=>Zaa (Zae (W.step k_1 H_1 λhi J_2 vu s_2 k_2 r_2 H_2 t_2=>Zaa (Zae (Zab ?_)))))
 have kp:∀ b o,s_2.heap.get? b=some o->(s_2.heap.push { cls:=.type "slice",data:=.fields #[vl,vu,.none] }).get? b=some o:=Qa
 refine .of (show wpAny _ _ (newObj (.type "slice") (.fields #[vl,vu,.none])) _ _ _ from wpAny_newObj_type ?_ (by size_fits))
 exact⟨_,_,k_2 _,.ref _,H_2.alloc (n:=s_2.toks) kp (Qw _) (Qg _ rfl) (Znu _ r_1 r_2),(t_1.trans t_2).trans (.of_ext kp)⟩
structure In2(C:Cx) where
 fz:Addr->Option Obj
 ok:C.G.Ok fz
theorem neIn2:Nonempty (In2 C):=⟨⟨C.fz,C.ok⟩⟩
noncomputable abbrev In2.cx{C:Cx}(I:In2 C)(env:Env)(eg:env.globals=mainGlobals)(eb:env.builtins=builtinsNs):Cx:=⟨C.G,C.A,env,I.fz,C.gens,C.drawn,C.os,C.E,I.ok,eg,eb⟩
noncomputable def Zai(C:Cx)(scope:Scope)(clo:List (Str×Addr))(L:Addr):Env:=
 { newEnv scope L C.env.globals clo C.env.qual none .none (some C.env) builtinsNs with scope:={ scope with names:=scope.names.map λ(n,k)=>if k == .free&&C.env.scope.kind == .function&&C.env.kindOf n==some .cell then (n,.cell) else (n,k) } }
noncomputable def oNs:Ob where
 P _ o:=(∃ es ep,o.data = .dict es ep)/\∀ (h:Heap) (a:Addr),h.get? a=some o->∃ m,h.Ns a m
 mono _ _ _ _ h:=h
 noTup _ o h vs n e:=by obtain⟨⟨es,ep,d⟩,_⟩:=h;subst e;cases d
theorem Zzp{m:Str->Option Value}(N:h.Ns a m):∃ o,h.get? a=some o/\OR h (.own oNs) o:=by
 obtain⟨o,es,ep,e,d,r⟩:=N
 exact⟨o,e,.own ⟨⟨es,ep,d⟩,λh' a' e'=>⟨m,o,es,ep,e',d,r⟩⟩⟩
def CLP(C:Cx)(e:Expr)(it acc:Value)(J:St)(K:Wl):Prop:=
 ∀ s,Holds C J s->codeP (model C.G.prog C.G.w) C.A (.compLoop e 0 it acc C.env) (λr s'=>match r with | .ok .next=>∃ J',K J'/\Holds C J' s'/\TK s.heap s'.heap|_=>False) s
theorem Holds.out{s':Shared}{J':St}{I:In2 C}{eg:env.globals=mainGlobals}{eb:env.builtins=builtinsNs}(H:Holds C J s)(H':Holds (I.cx env eg eb) J' s')(t:TK s.heap s'.heap)
  (hup:∀ b o,C.fz b=some o->I.fz b=some o) (hl:∀ o,s.heap.get? C.env.locals=some o->I.fz C.env.locals=some o):Holds C ⟨J.loc,(env.locals,.own oNs)::J'.obs⟩ s':=by
 refine Zaj (H.loc) λm hN hm=>?_
 obtain⟨o,es,ep,e,hd,hr⟩:=hN
 have ef:=hl o e
 have e':=H'.frz _ _ ef
 have nL:∀ a,a∈env.locals::J'.obs.map (·.1)->a≠C.env.locals:=λa ha q=>by
  have:=H'.ap a ha
  have ef':I.fz C.env.locals=some o:=ef
  have this':I.fz a=none:=this
  rw[q,ef'] at this';cases this'
 refine⟨λb o e=>H'.frz b o (hup b o e),⟨m,⟨o,es,ep,e',hd,hr⟩,λx v hx=>(by obtain⟨val,a,r⟩:=hm x v hx;exact⟨val,a,r.mono t⟩)⟩,λp hp=>?_,?_,λa ha=>?_,H.nn,H'.gens,H'.drawn,H'.os⟩
 .rcases Qb hp with q|q
  .subst q
   refine Zaj (H'.loc) λm' hN' Y=>?_
   exact Zzp hN'
  .exact H'.obs p q
 .refine Qd ⟨λhm=>nL _ hm rfl,H'.nd⟩
 .rcases Qb ha with q|q
  .subst q;exact H.ap _ (.head _)
  .have:=H'.ap a q
   cases e2:C.fz a with
   | none=>rfl
   | some o2=>have z:=hup _ _ e2;have this':I.fz a=none:=this;rw[z] at this';cases this'
abbrev EMIT(C:Cx)(elt:Expr)(acc:Value)(J:St)(K:Wl):Prop:=EV C (eval elt C.env) J λv J_4=>OP1 C VR (λv=>call (.builtin "list.append") [acc,v]) v J_4 λY J5=>K J5
theorem Zgp{it acc:Value}{K:Wl}(hE:∀ e s,¬ C.E e s)
  (h:NL C target it J (λa J_2=>U1 C (assign target C.env) a J_2 λJ_3=>
    EMIT C elt acc J_3 λJ5=>CLP C (.ListComp elt [⟨target,iter,[],0⟩] scope pos) it acc J5 K) K):CLP C (.ListComp elt [⟨target,iter,[],0⟩] scope pos) it acc J K:=by
 exists (C J pos target scope iter elt it acc K),hE,h
 intro s H
 exists (s),H
 refine Zaf rfl ?_
 rw[Zav rfl rfl]
 show wpP _ _ ((compTurn (.ListComp elt [⟨target,iter,[],0⟩] scope pos) 0 it acc C.env).onRaise (λx=>do noteFrame x C.env;theTreesLotGoes x)) _ _ s
 refine Zah ?_
 unfold compTurn
 refine Zaa (Zac (Zaa (Zad (h s _ H) (λr s_1 h_1=>?_) λY Y h'=>h')))
 induction r with
 | none=>
  obtain⟨J_1,k,H_1,t_1⟩:=h_1
  exact Zab ⟨J_1,k,H_1,t_1⟩
 | some v=>
  refine Zaa (Zad h_1 ?_ λe s_2 he=>absurd he (hE e s_2))
  rintro _ s_2 ⟨a,J_2,k_2,r_2,H_2,t_2⟩
  refine Zaa (Zax hE (k_2 s_2 v H_2 r_2) (λY s_3 Y J_3 k_3 Y H_3 t_3=>?_))
  refine Zaa (m:=forIn [] true _) (Zab ?_)
  refine Zaa (Zaa (Zax hE (k_3 s_3 H_3) (λw s_4 b J_4 k_4 r_4 H_4 t4=>?_)))
  refine Zaa (Zax hE (k_4 s_4 w H_4 r_4) (λY s5 Y J5 k_5 Y H_5 t5=>?_))
  have t:=((t_2.trans t_3).trans t4).trans t5
  refine Zab (Zab ⟨rfl,Zal (k_5 s5 H_5) λr s' x=>?_⟩)
  induction r with
  | error e=>exact x.elim
  | ok f=>
   induction f with
   | next=>obtain⟨J',a1,a2,a3⟩:=x;exact⟨J',a1,a2,t.trans a3⟩
   | _=>exact x.elim
theorem Zrr{c:Expr}{it acc:Value}{K:Wl}(hE:∀ e s,¬ C.E e s)
  (h:NL C target it J (λa J_2=>U1 C (assign target C.env) a J_2 λJ_3=>
    BV C (isTrue c C.env (eval c C.env)) J_3 λb J_4=>(b=true->EMIT C elt acc J_4 λJ5=>CLP C (.ListComp elt [⟨target,iter,[c],0⟩] scope pos) it acc J5 K) /\
     (b=false->CLP C (.ListComp elt [⟨target,iter,[c],0⟩] scope pos) it acc J_4 K)) K):CLP C (.ListComp elt [⟨target,iter,[c],0⟩] scope pos) it acc J K:=by
 exists (C J pos target scope iter elt c it acc K),hE,h
 intro s H
 exists (s),H
 refine Zaf rfl ?_
 rw[Zav rfl rfl]
 show wpP _ _ ((compTurn (.ListComp elt [⟨target,iter,[c],0⟩] scope pos) 0 it acc C.env).onRaise (λx=>do noteFrame x C.env;theTreesLotGoes x)) _ _ s
 refine Zah ?_
 unfold compTurn
 refine Zaa (Zac (Zaa (Zad (h s _ H) (λr s_1 h_1=>?_) λY Y h'=>h')))
 induction r with
 | none=>
  obtain⟨J_1,k,H_1,t_1⟩:=h_1
  exact Zab ⟨J_1,k,H_1,t_1⟩
 | some v=>
  refine Zaa (Zad h_1 ?_ λe s_2 he=>absurd he (hE e s_2))
  rintro _ s_2 ⟨a,J_2,k_2,r_2,H_2,t_2⟩
  refine Zaa (Zax hE (k_2 s_2 v H_2 r_2) (λY s_3 Y J_3 k_3 Y H_3 t_3=>?_))
  refine Zaa (m:=forIn [c] true _) ?_
  rw[List.forIn_cons]
  refine Zaa (Zaa (Zax hE (k_3 s_3 H_3) (λb s_0 b' J_0 k_0 r_0 H_0 t0=>?_)))
  subst r_0
  refine Zab (Zab ?_)
  induction b with
  | true=>
   refine Zaa (Zaa (Zax hE (k_0.1 rfl s_0 H_0) (λw s_4 b J_4 k_4 r_4 H_4 t4=>?_)))
   refine Zaa (Zax hE (k_4 s_4 w H_4 r_4) (λY s5 Y J5 k_5 Y H_5 t5=>?_))
   have t:=(((t_2.trans t_3).trans t0).trans t4).trans t5
   refine Zab (Zab ⟨rfl,Zal (k_5 s5 H_5) λr s' x=>?_⟩)
   induction r with
   | error e=>exact x.elim
   | ok f=>
    induction f with
    | next=>obtain⟨J',a1,a2,a3⟩:=x;exact⟨J',a1,a2,t.trans a3⟩
    | _=>exact x.elim
  | false=>
   have t:=((t_2.trans t_3).trans t0)
   refine Zab ⟨rfl,Zal (k_0.2 rfl s_0 H_0) λr s' x=>?_⟩
   induction r with
   | error e=>exact x.elim
   | ok f=>
    induction f with
    | next=>obtain⟨J',a1,a2,a3⟩:=x;exact⟨J',a1,a2,t.trans a3⟩
    | _=>exact x.elim
def Zj9(C:Cx)(it:Value)(J:St):Prop:=∀ s E (Q:Wh),Holds C J s->Q it s->wpP (model C.G.prog C.G.w) C.A (pyIter it) Q E s
theorem Zmh{e:Expr}{it acc:Value}{K:Wl}(hself:Zj9 C it J)(hf:(Code.compStart e 0 it acc C.env).isFrame=false)(ha:((clausesOf e)[0]?).elim false (·.is_async != 0)=false)(hg:∃ g,(clausesOf e)[0]?=some g)(h:CLP C e it acc J K)(s:Shared)(H:Holds C J s)
  (hu:(Code.compStart e 0 it acc C.env).weight=0) (hw:(Code.compStart e 0 it acc C.env).cUnits=0) :
  codeP (model C.G.prog C.G.w) C.A (.compStart e 0 it acc C.env) (λr s'=>match r with | .ok .next=>∃ J',K J'/\Holds C J' s'/\TK s.heap s'.heap|_=>False) s:=by
 exists (C J e it acc K s),hself,hf,ha,hg,h,H,hu,hw
 refine Zaf rfl ?_
 rw[Zav hu hw]
 show wpP _ _ (if (Code.compStart e 0 it acc C.env).isFrame then (compStart e 0 it acc C.env).onRaise (leaving C.env) else (compStart e 0 it acc C.env).onRaise (λx=>do noteFrame x C.env;standAt theWindowsPlace)) _ _ s
 rw[hf]
 show wpP _ _ ((compStart e 0 it acc C.env).onRaise (λx=>do noteFrame x C.env;standAt theWindowsPlace)) _ _ s
 refine Zah ?_
 unfold compStart
 rw[ha]
 show wpP _ _ (ask >>= λr=>if r.params.followText "comprehension-iter-twice" = true then again (.compLoop e 0 it acc C.env) else _) _ _ s
 refine Zaa (.of (wpAny_askSetting ?_))
 split
 .exact Zab ⟨rfl,h s H⟩
 .refine Zaa (.of (wpAny_rule ?_))
  obtain⟨g,hg⟩:=hg
  rw[hg]
  refine Zaa (Zac ?_)
  exact Zaa (hself s _ _ H (Zab ⟨rfl,h s H⟩))
theorem Zcs{e:Expr}{scope:Scope}{pos:Pos}{first:Sem Value}{g:Comprehension}{gs:List Comprehension}{clo:List (Str×Addr)}{use:Option (Value->Sem Unit)}{K:Wk}(ln:List Str)(hE:∀ e s,¬ C.E e s)
  (hclo:closureFor scope C.env=pure clo) (hcl:clausesOf e=g::gs) (ha:g.is_async=0) (hs:∀ x,foldedSetIterable g.iter C.env x=pure x) (hk:scope.kind = .function) (hcell:∀ x∈scope.names,x.2 ≠ .cell)
  (hnames:∀ x∈scope.names,x.2 = .local->(Zai C scope clo 0).kindOf x.1=some .local) (hf:∀ it acc env,(Code.compStart e 0 it acc env).isFrame=false) (hw:∀ it acc env,(Code.compStart e 0 it acc env).weight=0) (hu:∀ it acc env,(Code.compStart e 0 it acc env).cUnits=0)
  (hln:ln.Nodup)
  (h:EV C first J λa J_1=>IT C a J_1 λit J_2=>∀ (L acc:Addr) (I:In2 C),Zj9 (I.cx (Zai C scope clo L) C.eg C.eb) it ⟨ln.map (·,none),(acc,.list [])::J_2.obs⟩ /\
   CLP (I.cx (Zai C scope clo L) C.eg C.eb) e it (.ref acc) ⟨ln.map (·,none),(acc,.list [])::J_2.obs⟩ λJ'=>match use with
    | none=>K (.ref acc) ⟨J_2.loc,J'.obs⟩
    | some u=>U1 C u (.ref acc) ⟨J_2.loc,(L,.own oNs)::J'.obs⟩ λJ_3=>∃ obs3,Pick (L,.own oNs) J_3.obs obs3/\K .none ⟨J_3.loc,obs3⟩) :
  EV C (comprehension e scope C.env pos (newList []) false first use) J K:=by
 exists (C J e scope pos first g gs clo use K ln),hE,hclo,hcl,ha,hs,hk,hcell,hnames,hf,hw,hu,hln,h
 intro s H
 unfold comprehension
 rw[hclo,hcl]
 refine Zaa (h.step H λa J_1 va s_1 h_1 ra H_1 t_1=>Zaa (Zac (Zaa (Zn3 (hs va) (Zaa (Zae (Zad (h_1 va s_1 H_1 ra) ?_ λY Y e=>e)))))))
 rintro it s_2 ⟨J_2,h_2,H_2,t_2⟩
 exists (s a J_1 va s_1 it s_2 J_2),H,h_1,ra,H_1,t_1,h_2,H_2,t_2
 have stand:∀ {k:PUnit->Sem Value} {Q:Wh},wpP (model C.G.prog C.G.w) C.A (k ⟨⟩) Q C.E s_2->wpP (model C.G.prog C.G.w) C.A (if use.isSome=true then (standAt e.pos >>= k) else k ⟨⟩) Q C.E s_2:=λh=>by
  split
  .exact Zaa (Zac h)
  .exact h
 refine stand ?_
 refine Zaa (.of (wpAny_newList ?_ (Nat.zero_le _)))
 refine Zaa (Zab ?_)
 refine Zaa (.of (wpAny_newFunctionEnv (around:=some C.env) hcell (by simp) (λh' hns hsb=>?_) hk))
 exists (h'),hns,hsb
 have kA:∀ b o,s_2.heap.get? b=some o->(s_2.heap.push { cls:=.type "list",data:=.seq #[] }).get? b=some o:=Qa
 have szA:(s_2.heap.push { cls:=.type "list",data:=.seq #[] }).objs.size=s_2.heap.objs.size+1:=Heap.size_push _ _
 have ltL:∀ b o,(s_2.heap.push { cls:=.type "list",data:=.seq #[] }).get? b=some o->b≠(s_2.heap.push { cls:=.type "list",data:=.seq #[] }).objs.size:=λb o e=>Nat.ne_of_lt (Qz e)
 have kB:∀ b o,(s_2.heap.push { cls:=.type "list",data:=.seq #[] }).get? b=some o->h'.get? b=some o:=λb o e=>hsb.extBut b o (ltL b o e) (Heap.get?_push_of_some _ e)
 have kk:∀ b o,s_2.heap.get? b=some o->h'.get? b=some o:=λb o e=>kB b o (kA b o e)
 let fz':Addr->Option Obj:=λb=>if b=C.env.locals then s_2.heap.get? b else C.fz b
 have up:∀ b o,C.fz b=some o->fz' b=some o:=λb o e=>by
  have hb:b≠C.env.locals:=λq=>by have:=H_2.ap _ (.head _);rw[<- q,e] at this;cases this
  show(if b=C.env.locals then s_2.heap.get? b else C.fz b)=some o
  rw[if_neg hb];exact e
 let I:In2 C:=⟨fz',⟨λa o e=>up a o (C.ok.sub a o e),λh hk=>C.ok.top h λb o e=>hk b o (up b o e),(by obtain⟨o,e⟩:=C.ok.sm;exact⟨o,up _ _ e⟩)⟩⟩
 generalize hL:(s_2.heap.push { cls:=.type "list",data:=.seq #[] }).objs.size=L at *
 have hLge:s_2.heap.objs.size<L:=by rw[szA];exact Nat.lt_succ_self _
 obtain⟨hself,hloop⟩:=h_2 L s_2.heap.objs.size I
 have fzl:∀ b o,fz' b=some o->s_2.heap.get? b=some o:=λb o e=>by
  by_cases hb:b=C.env.locals
  .have:fz' b=s_2.heap.get? b:=if_pos hb
   rw[this] at e;exact e
  .have:fz' b=C.fz b:=if_neg hb
   rw[this] at e;exact H_2.frz b o e
 have H_3:Holds (I.cx (Zai C scope clo L) C.eg C.eb) ⟨ln.map (·,none),(s_2.heap.objs.size,.list [])::J_2.obs⟩ { s_2 with heap:=h' }:=by
  refine⟨λb o e=>kk b o (fzl b o e),⟨_,hns,λx v hx=>?_⟩,λp hp=>?_,?_,λa ha=>?_,?_,H_2.gens,H_2.drawn,H_2.os⟩
  .obtain⟨y,_,e⟩:=Qf hx
   cases e
  .rcases Qb hp with q|q
   .subst q
    exact⟨_,kB _ _ (Qg _ rfl),.list 0 .nil⟩
   .refine Zaj (H_2.obs p q) λO e r=>?_
    exact⟨O,kk _ _ e,r.mono (.of_ext kk)⟩
  .show(L::s_2.heap.objs.size::J_2.obs.map (·.1)).Nodup
   have lt:∀ a∈J_2.obs.map (·.1),a<s_2.heap.objs.size:=λa ha=>by obtain⟨p,hp,e⟩:=Qf ha;exact e▸H_2.ltOf hp
   refine Qd ⟨λhm=>?_,Qd ⟨λhm=>Nat.lt_irrefl _ (lt _ hm),(Qc H_2.nd).2⟩⟩
   rcases Qb hm with q|q
   .exact Nat.ne_of_gt hLge q
   .exact absurd (lt _ q) (Nat.not_lt.mpr (Nat.le_of_lt hLge))
  .show fz' a=none
   have big:∀ a,s_2.heap.objs.size<=a->fz' a=none:=λa ha=>by
    cases e:fz' a with
    | none=>rfl
    | some o=>exact absurd (Qz (fzl a o e)) (Nat.not_lt.mpr ha)
   have ha':a∈L::s_2.heap.objs.size::J_2.obs.map (·.1):=ha
   rcases Qb ha' with q|q
   .exact big a (q▸Nat.le_of_lt hLge)
   .rcases Qb q with q|q
    .exact big a (q▸Qw _)
    .have hne:a≠C.env.locals:=λe=>(Qc H_2.nd).1 (e▸q)
     show(if a=C.env.locals then s_2.heap.get? a else C.fz a)=none
     rw[if_neg hne];exact H_2.ap a (.tail _ q)
  .show((ln.map λx=>((x,none):Str×Option V)).map λx=>x.1).Nodup
   rw[List.map_map]
   simpa [Function.comp_def] using hln
 have tA:TK s.heap h':=(t_1.trans t_2).trans (.of_ext kk)
 have run:=Zmh hself (hf _ _ _) (by rw[hcl];simp[ha]) ⟨g,by rw[hcl];rfl⟩ hloop _ H_3 (hw _ _ _) (hu _ _ _)
 have hvars:∀ vs:List (Str×NameKind),(∀ x∈vs,x∈scope.names)->∀ x∈vs,x.2 = .local->(Zai C scope clo L).kindOf x.1=some .local:=λvs hvs x hx e=>hnames x (hvs x hx) e
 have finish:∀ {cellsOf:List (Str×NameKind)->List Value} (vs:List (Str×NameKind)) {J_3:St} {s_3:Shared} {obs3:Wg} {Q:Unit->Shared->Prop},(∀ x∈vs,x∈scope.names)->(∃ m,s_3.heap.Ns L m)->Holds C J_3 s_3->Pick (L,.own oNs) J_3.obs obs3 ->
   (∀ h',Holds C ⟨J_3.loc,obs3⟩ { s_3 with heap:=h' }->TK s_3.heap h'->Q () { s_3 with heap:=h' })->wpP (model C.G.prog C.G.w) C.A (comprehension.letGo (Zai C scope clo L) cellsOf vs) Q C.E s_3:=by
  intro cellsOf vs J_3 s_3 obs3 Q hvs ⟨m,hN⟩ H_3 pk k
  exact .of (wpAny_comp_letGo (cenv:=Zai C scope clo L) hk vs s_3 m (hvars vs hvs) hN λh' m' Y hs'=>by
   refine And.elim (λz1 z2=>?_) (H_3.dropExt pk hs'.extBut s_3.toks)
   exact k h' z1 z2)
 have hfil:∀ x∈(scope.names.filter λ(n,k)=>(k == .local||k == .cell)&&n != (".0" : Str)).reverse,x∈scope.names:=λx hx=>(List.mem_filter.mp (List.mem_reverse.mp hx)).1
 refine Zae (Zaa (Zbb (Zae (Zge (h:=none) (Zal run λr s' hr=>?_)))))
 induction r with
 | error e=>exact hr.elim
 | ok f=>
  induction f with
  | next=>
   obtain⟨J',hK,H',t'⟩:=hr
   have hls:∀ o,s_2.heap.get? C.env.locals=some o->fz' C.env.locals=some o:=λo e=>by
    show(if C.env.locals=C.env.locals then s_2.heap.get? C.env.locals else _)=_
    rw[if_pos rfl];exact e
   have tt:TK s_2.heap s'.heap:=(TK.of_ext kk).trans t'
   have H_4:Holds C ⟨J_2.loc,(L,.own oNs)::J'.obs⟩ s':=Holds.out H_2 H' tt up hls
   refine Zaj (H'.loc) λm' hN' Y=>?_
   induction use with
   | none=>
    refine Zaa (Zae (finish _ hfil ⟨m',hN'⟩ H_4 .head λh_5 H_5 t5=>Zab ?_))
    exact⟨_,_,hK,.ref _,H_5,((t_1.trans t_2).trans tt).trans t5⟩
   | some u=>
    refine Zaa (.of (wpAny_rule ?_))
    refine Zaa (Zae (Zad (hK s' _ H_4 (.ref _)) ?_ λY Y e=>e))
    rintro _ s5 ⟨_,J_3,⟨obs3,pk,hK3⟩,_,H_5,t5⟩
    have hN5:∃ m,s5.heap.Ns L m:=by
     refine Zaj (H_5.obs _ pk.mem) λO e ro=>?_
     have q:=OR.ownE ro
     exact q.2 _ _ e
    refine Zaa (finish _ (λx hx=>?_) hN5 H_5 pk λh_6 H6 t_6=>Zab ?_)
    .rcases List.mem_append.mp hx with q|q
     .exact hfil x (List.mem_of_mem_drop q)
     .exact hfil x (List.mem_of_mem_take q)
    .exact⟨_,_,hK3,.none,H6,(((t_1.trans t_2).trans tt).trans t5).trans t_6⟩
  | _=>exact hr.elim
theorem Zy0{ifs:List Expr}(ln:List Str)(hE:∀ e s,¬ C.E e s)
  (hclo:closureFor scope C.env=pure clo) (hs:∀ x,foldedSetIterable iter C.env x=pure x) (hk:scope.kind = .function) (hcell:∀ x∈scope.names,x.2 ≠ .cell)
  (hnames:∀ x∈scope.names,x.2 = .local->(Zai C scope clo 0).kindOf x.1=some .local) (hln:ln.Nodup)
  (h:EV C (eval iter C.env) J λa J_1=>IT C a J_1 λit J_2=>∀ (L acc:Addr) (I:In2 C),Zj9 (I.cx (Zai C scope clo L) C.eg C.eb) it ⟨ln.map (·,none),(acc,.list [])::J_2.obs⟩ /\
   CLP (I.cx (Zai C scope clo L) C.eg C.eb) (.ListComp elt [⟨target,iter,ifs,0⟩] scope pos) it (.ref acc) ⟨ln.map (·,none),(acc,.list [])::J_2.obs⟩ λJ'=>K (.ref acc) ⟨J_2.loc,J'.obs⟩):EV C (eval (.ListComp elt [⟨target,iter,ifs,0⟩] scope pos) C.env) J K:=by
 rw[arm_eval_ListComp]
 have e1:firstAsync [⟨target,iter,ifs,0⟩]=false:=rfl
 show EV C (comprehension (.ListComp elt [⟨target,iter,ifs,0⟩] scope pos) scope C.env (firstIterPos [⟨target,iter,ifs,0⟩] pos) (newList []) (firstAsync [⟨target,iter,ifs,0⟩]) (firstIter [⟨target,iter,ifs,0⟩] C.env)) J K
 rw[e1]
 exact Zcs (use:=none) ln hE hclo rfl rfl hs hk hcell hnames (λY Y Y=>rfl) (λY Y Y=>rfl) (λY Y Y=>rfl) hln h
theorem Zgv{xp:Pos}{apos:Pos}{ifs:List Expr}{K:Wj}(ln:List Str)(hE:∀ e s,¬ C.E e s)
  (hsw:swapsWith (.ListComp elt [⟨target,iter,ifs,0⟩] scope pos) (some (.Name x xp)) apos.line C.env=pure true)
  (hclo:closureFor scope C.env=pure clo) (hs:∀ x,foldedSetIterable iter C.env x=pure x) (hk:scope.kind = .function) (hcell:∀ x∈scope.names,x.2 ≠ .cell)
  (hnames:∀ x∈scope.names,x.2 = .local->(Zai C scope clo 0).kindOf x.1=some .local) (hln:ln.Nodup)
  (h:EV C (eval iter C.env) J λa J_1=>IT C a J_1 λit J_2=>∀ (L acc:Addr) (I:In2 C),Zj9 (I.cx (Zai C scope clo L) C.eg C.eb) it ⟨ln.map (·,none),(acc,.list [])::J_2.obs⟩ /\
   CLP (I.cx (Zai C scope clo L) C.eg C.eb) (.ListComp elt [⟨target,iter,ifs,0⟩] scope pos) it (.ref acc) ⟨ln.map (·,none),(acc,.list [])::J_2.obs⟩ λJ'=>
    U1 C (storeName C.env x) (.ref acc) ⟨J_2.loc,(L,.own oNs)::J'.obs⟩ λJ_3=>∃ obs3,Pick (L,.own oNs) J_3.obs obs3/\K .next ⟨J_3.loc,obs3⟩):XV C (exec (.Assign [.Name x xp] (.ListComp elt [⟨target,iter,ifs,0⟩] scope pos) apos) C.env) J K:=by
 exists (C J pos x target scope clo iter elt xp apos ifs K ln),hE,hsw,hclo,hs,hk,hcell,hnames,hln,h
 rw[exec_Assign]
 intro s H
 refine Zaa (Zac ?_)
 have hsw':swapsWithSole [.Name x xp] (.ListComp elt [⟨target,iter,ifs,0⟩] scope pos) apos.line C.env=pure true:=hsw
 rw[hsw']
 refine Zaa (Zab ?_)
 have e1:firstAsync [⟨target,iter,ifs,0⟩]=false:=rfl
 show wpP (α:=Flow) _ _ (do
  (do let _ <- comprehension (.ListComp elt [⟨target,iter,ifs,0⟩] scope pos) scope C.env (firstIterPos [⟨target,iter,ifs,0⟩] pos) (newList []) (firstAsync [⟨target,iter,ifs,0⟩]) (firstIter [⟨target,iter,ifs,0⟩] C.env) (some λv=>assign (.Name x xp) C.env v):Sem Unit)
  pure Flow.next) _ _ _
 rw[e1]
 have main:=Zcs (C:=C) (J:=J) (e:=.ListComp elt [⟨target,iter,ifs,0⟩] scope pos) (pos:=firstIterPos [⟨target,iter,ifs,0⟩] pos) (first:=firstIter [⟨target,iter,ifs,0⟩] C.env) (use:=some λv=>assign (.Name x xp) C.env v) (K:=λY J=>K .next J) ln hE hclo rfl rfl hs hk hcell hnames (λY Y Y=>rfl) (λY Y Y=>rfl) (λY Y Y=>rfl) hln
  (h.mono λa J_1 hIT va s_1 H_1 r_1=>Zad (hIT va s_1 H_1 r_1) (λit s_2 ⟨J_2,k,z⟩=>⟨J_2,λL acc I=>⟨(k L acc I).1,λs_3 H_3=>Zal ((k L acc I).2 s_3 H_3) λr s' hr=>?_⟩,z⟩) λY Y e=>e)
 .refine Zaa (Zaa (main.step H λa J_1 v s_1 k r H_1 t=>Zab (Zab ⟨.next,J_1,k,.next,H_1,t⟩)))
 .induction r with
  | error e=>exact hr.elim
  | ok f=>
   induction f with
   | next=>
    obtain⟨J',hU,y⟩:=hr
    exact⟨J',Ze3 hU,y⟩
   | _=>exact hr.elim
theorem Zcg{acc:Addr}{o:Nat->AO}{x:Nat->V}{need:Wg->Prop}{K:Wl}(hE:∀ e s,¬ C.E e s)(hz:n<=sizeLine)
  (T:Its C target it o n x need) (y:Nat->V) (I:Nat->Wm->Wg->Prop)
  (p:Sel J.obs [(it,o 0),(acc,.list [])] obs) (h0:I 0 J.loc obs) (hn:∀ k loc obs,I k loc obs->need obs)
  (hmono:∀ obs l,need obs->need ((acc,.list l)::obs))
  (hs:∀ k loc obs O l,k<n->I k loc obs->U1 C (assign target C.env) (x k) ⟨loc,(it,O)::(acc,.list l)::obs⟩ λJ_3=>
   EV C (eval elt C.env) J_3 λv J_4=>v=y k/\∃ obs',Sel J_4.obs [(it,O),(acc,.list l)] obs'/\I (k+1) J_4.loc obs')
  (hf:∀ loc obs,I n loc obs->K ⟨loc,(acc,.list ((List.range n).map y))::obs⟩):CLP C (.ListComp elt [⟨target,iter,[],0⟩] scope pos) (.ref it) (.ref acc) J K:=by
 exists (C J pos n it target scope obs iter elt acc o x need K y I),hE,hz,T,p,h0,hn,hmono,hs,hf
 have main:∀ m k loc obs,k+m=n->k<=n->I k loc obs->CLP C (.ListComp elt [⟨target,iter,[],0⟩] scope pos) (.ref it) (.ref acc) ⟨loc,(it,o k)::(acc,.list ((List.range k).map y))::obs⟩ K:=by
  intro m
  induction m with
  | zero=>
   intro k loc obs hm hk hI
   have:k=n:=hm
   subst this
   refine Zgp hE ((T.stop loc _ (hmono _ _ (hn _ _ _ hI))).mono (λY Y f=>f.elim) λJ e=>?_)
   subst e
   exact hf loc obs hI
  | succ m ih=>
   intro k loc obs hm hk hI
   refine Zgp hE ((T.turn k loc _ (Zmu hm) (hmono _ _ (hn _ _ _ hI))).mono (λv J' e=>?_) λJ f=>f.elim)
   obtain⟨rfl,rfl⟩:=e
   refine OP1.mono (hs k loc obs _ _ (Zmu hm) hI) λY J_3 h_3=>?_
   refine W.mono h_3 ?_
   rintro v J_4 ⟨hv,obs',sel,hI'⟩
   subst hv
   intro s w H r
   have P:=sel.perm
   have H':Holds C ⟨J_4.loc,(it,o (k+1))::(acc,.list ((List.range k).map y))::obs'⟩ s:=H.perm P
   have ap:=cf_append (C:=C) (J:=⟨J_4.loc,(it,o (k+1))::(acc,.list ((List.range k).map y))::obs'⟩) (v:=y k) (K:=λY J5=>CLP C (.ListComp elt [⟨target,iter,[],0⟩] scope pos) (.ref it) (.ref acc) J5 K) (.tail .head) (by
    have:=ih (k+1) J_4.loc obs' (Z18 hm) (Zmu hm) hI'
    rw[List.range_succ,Qq] at this
    exact this) (by simp;lia)
   exact ap s (.builtin "list.append") [.ref acc,w] H' (.bi _) (.cons (.ref _) (.cons r .nil))
 intro s H
 exact main n 0 J.loc obs (Nat.zero_add n) (Nat.zero_le _) h0 s (H.perm p.perm)
theorem Zpc(f:Array Value->Array Value)(xs:Array Value)(n:Nat):∃ n',Obj.mapSeq f (listOf xs n)=listOf (f xs) n':=⟨_,rfl⟩
theorem VRs.erase(n:Nat)(H:VRs h l vs):VRs h (l.eraseIdx n) (vs.eraseIdx n):=by
 induction l generalizing n vs with
 | nil=>obtain rfl:=H.nilE;exact .nil
 | cons a l ih=>obtain⟨v,ws,rfl,y,r⟩:=H;induction n with
  | zero=>exact r
  | succ n=>exact .cons y (ih n r)
theorem Holds.mapList(H:Holds C J s){l':List V}(u:UpO a (.list l) (.list l') J.obs obs'){vs':List Value}(e:s.heap.get? a=some (listOf vs.toArray n))(f:Array Value->Array Value)
  (hf:f vs.toArray=vs'.toArray) (r:VRs s.heap l' vs'):Holds C ⟨J.loc,obs'⟩ { s with heap:=s.heap.update a (Obj.mapSeq f) }/\TK s.heap (s.heap.update a (Obj.mapSeq f)):=by
 obtain⟨n',hn'⟩:=Zpc f vs.toArray n
 refine H.set u (Heap.SameBut.update ..) (O:=listOf vs'.toArray n') ?_ (.list n' r) s.toks
 rw[<- hf,<- hn']
 exact Heap.get?_update_self _ e rfl
def AIO(C:Cx)(ts:List (Value->Sem Unit))(l:List V)(J:St)(K:Wl):Prop:=
 ∀ s vs,Holds C J s->VRs s.heap l vs->wpP (model C.G.prog C.G.w) C.A (assignInOrder ts vs) (Pst C (λ_ (_:Unit) _=>True) (λY J=>K J) s) C.E s
theorem aio_nil{K:Wl}(k:K J):AIO C [] [] J K:=λs vs H r=>by
 o_facts r;exact Zab (Pst.here (a:=()) H trivial k)
theorem aio_cons{t:Value->Sem Unit}{ts:List (Value->Sem Unit)}{a:V}{K:Wl}(h:U1 C t a J λJ_1=>AIO C ts l J_1 K):AIO C (t::ts) (a::l) J K:=λs vs H r=>by
 revert r
 intro r0
 refine VRs.consK r0 λY Y x r e0=>?_
 subst e0
 refine Zaa (Zae (Zap (h s _ H x) (λY s_1 Y J_1 k Y H_1 t_1=>?_)))
 exact Zad (k s_1 _ H_1 (r.mono t_1)) (λY Y p=>p.tk t_1) λY Y e=>e
theorem bn_store{a:V}{K:Wl}(h:U1 C (storeName C.env x) a J K):U1 C (λv=>bindName C.env x v) a J K:=λs v H r=>Za2 (h s v H r)
set_option tactic.hygienic true in
theorem Zfh{K:List V->Wl}(hh:C.A.handled=none)(k:K l J)(s:Shared)(v:Value)(H:Holds C J s)(r:VR s.heap (.tup l) v):wpP (model C.G.prog C.G.w) C.A (unpackItems v l.length none) (Pst C VRs K s) C.E s:=by
 revert r
 intro r0
 refine VR.tupK r0 λ_ _ _ e r e0=>?_
 subst e0
 rename_i a vs n
 have e1:l.length=vs.toArray.size:=by simp[r.length]
 rw[e1]
 refine .of (wpAny_unpackItems_tuple hh ⟨_,e,rfl,n,rfl⟩ λh' hx=>?_)
 have kp:∀ b o,s.heap.get? b=some o->h'.get? b=some o:=λb o e=>hx b o (Nat.ne_of_lt (Qz e)) e
 exact⟨l,J,k,by simpa using r.mono (.of_ext kp),H.ext kp s.toks,.of_ext kp⟩
theorem Zgs{K:Wl}(hh:C.A.handled=none)(h:AIO C ((assignEach elts C.env).map (·.2)) l J K)(hn:(assignEach elts C.env).length=l.length)(hstar:(assignEach elts C.env).findIdx? (·.1)=none) :
  U1 C (assign (.Tuple elts k p) C.env) (.tup l) J K:=λs v H r=>by
 rw[arm_assign_Tuple]
 refine Zaa (Zac ?_)
 unfold unpack
 rw[hn,hstar]
 exact Zaa (Zae (Zad (Zfh (K:=λl' J'=>l'=l/\J'=J) hh ⟨rfl,rfl⟩ s v H r) (by
  rintro vs s_1 ⟨_,_,⟨e1,e2⟩,r_1,H_1,t_1⟩
  subst e1;subst e2
  exact Zad (h s_1 vs H_1 r_1) (λY Y p=>p.tk t_1) λY Y e=>e) λY Y e=>e))
theorem Zdj{kt:Nat}{tpos:Pos}{K:Wj}(h:EV C (eval value C.env) J λa J_1=>U1 C (assign (.Tuple elts kt tpos) C.env) a J_1 λJ=>K .next J)
  (hs:swapsWithSole [.Tuple elts kt tpos] value pos.line C.env=pure false) (hw:swappedStores [.Tuple elts kt tpos] value C.env=pure none):XV C (exec (.Assign [.Tuple elts kt tpos] value pos) C.env) J K:=λs H=>by
 rw[exec_Assign]
 refine Zaa (Zac ?_)
 rw[hs]
 refine Zaa (Zab ?_)
 rw[if_neg (by decide)]
 refine Zaa (h.step H λa J_1 v s_1 k r H_1 t=>?_)
 rw[hw]
 refine Zaa (Zab ?_)
 show wpP (α:=Flow) _ _ (do assignAll v [assign (.Tuple elts kt tpos) C.env];pure Flow.next) _ _ s_1
 exact Zaa (Zap (k s_1 v H_1 r) (λY s_2 Y J_2 k_2 Y H_2 t_2=>Zab ⟨.next,J_2,k_2,.next,H_2,t.trans t_2⟩))
theorem Zej{tpos:Pos}{names:List Str}{K:Wj}(hh:C.A.handled=none)
  (h:EV C (eval value C.env) J λa J_1=>∃ l,a = .tup l/\l.length=names.length/\AIO C (names.reverse.map λn=>bindName C.env n) l.reverse J_1 λJ=>K .next J)
  (hs:swapsWithSole [.Tuple elts k tpos] value pos.line C.env=pure false) (hw:swappedStores [.Tuple elts k tpos] value C.env=pure (some names)):XV C (exec (.Assign [.Tuple elts k tpos] value pos) C.env) J K:=by
 exists (C J pos k elts value tpos names K),hh,h,hs,hw
 intro s H
 rw[exec_Assign]
 refine Zaa (Zac ?_)
 rw[hs]
 refine Zaa (Zab ?_)
 rw[if_neg (by decide)]
 refine Zaa (h.step H ?_)
 rintro a J_1 v s_1 ⟨l,e,hl,k⟩ r H_1 t
 subst e
 rw[hw]
 refine Zaa (Zab ?_)
 show wpP (α:=Flow) _ _ (do rule "assign.swapped-stores";let items <- unpackItems v names.length none;assignInOrder (names.reverse.map λn=>bindName C.env n) items.reverse;pure Flow.next) _ _ s_1
 refine Zaa (.of (wpAny_rule ?_))
 rw[<- hl]
 refine Zaa (Zad (Zfh (K:=λl' J'=>l'=l/\J'=J_1) hh ⟨rfl,rfl⟩ s_1 v H_1 r) ?_ λY Y e=>e)
 rintro vs s_2 ⟨_,_,⟨e1,e2⟩,r_2,H_2,t_2⟩
 subst e1;subst e2
 have rev:∀ {l:List V} {vs:List Value},VRs s_2.heap l vs->VRs s_2.heap l.reverse vs.reverse:=by
  intro l vs r
  exact F2.ind (P:=λl vs=>VRs s_2.heap l.reverse vs.reverse) r .nil λa b l m x Y ih=>by
   rw[List.reverse_cons,List.reverse_cons];exact ih.append (.cons x .nil)
 exact Zaa (Zap (k s_2 _ H_2 (rev r_2)) (λY s_3 Y J_3 k_3 Y H_3 t_3=>Zab ⟨.next,J_3,k_3,.next,H_3,(t.trans t_2).trans t_3⟩))
theorem Zuh{a:Addr}{l:List V}{i:Int}{x:V}{obs':Wg}{K:Wk}(u:UpO a (.list l) (.list (l.eraseIdx i.toNat)) J.obs obs')(k:K x ⟨J.loc,obs'⟩)(hx:l[i.toNat]?=some x)(h0:0<=i)(hz:l.length<=sizeLine) :
  CF C (.bi "list.pop") [.ref a,.int i] J K:=by
 exists (C J a l i x obs' K),u,k,hx,h0,hz
 intro s fv vs H rf rl
 o_facts rf
 exists (s vs),H,rl,rf
 revert rl
 intro rl0
 refine VRs.consK rl0 λY Y r rl e0=>?_
 subst e0
 revert rl
 intro rl0
 refine VRs.consK rl0 λY Y r2 rl e0=>?_
 subst e0
 o_facts rl
 o_facts r;o_facts r2
 refine Zbp (H.list u.lk) λvs n e r=>?_
 obtain⟨v,e2,rv⟩:=r.get_arr hx
 have hlt:i.toNat<l.length:=by
  rcases Nat.lt_or_ge i.toNat l.length with q|q
  .exact q
  .rw[List.getElem?_eq_none q] at hx;cases hx
 have hzz:sizeLine=16777216:=by decide
 have hlen:=r.length
 have hk:seqIndex? i vs.toArray.size=some i.toNat:=by
  have hn:¬ i<0:=by lia
  have:i<vs.length:=by lia
  simp[seqIndex?,hn,h0,this]
 have hfit:Builtin.List.listFitsIndex i=true:=fitsIndex_of h0 (by lia)
 obtain⟨H',tk⟩:=H.mapList u e (λxs=>xs.eraseIdxIfInBounds i.toNat) (vs':=vs.eraseIdx i.toNat) (by
  have:i.toNat<vs.toArray.size:=by simpa [hlen] using hlt
  rw[Array.eraseIdxIfInBounds,dif_pos this];simp) (r.erase _)
 exact .of (call_meets F.slot_list_pop ⟨_,e,rfl⟩ F.entry_list_pop (F.args_list_pop_2 _ _) (MeetsSeq.list_pop_at a vs.toArray n i _ i.toNat v hfit hk e2 (by simpa [hlen] using hz)) ⟨e,_,_,k,rv.mono tk,H',tk⟩)
theorem Zys{a:Addr}{l:List V}{x:V}{obs':Wg}{K:Wk}(u:UpO a (.list l) (.list (l.eraseIdx (l.length-1))) J.obs obs')(k:K x ⟨J.loc,obs'⟩)(hx:l[l.length-1]?=some x)(hz:l.length<=sizeLine) :
  CF C (.bi "list.pop") [.ref a] J K:=by
 exists (C J a l x obs' K),u,k,hx,hz
 intro s fv vs H rf rl
 o_facts rf
 revert rl
 intro rl0
 refine VRs.consK rl0 λY Y r rl e0=>?_
 subst e0
 o_facts rl
 o_facts r
 refine Zbp (H.list u.lk) λvs n e r=>?_
 obtain⟨v,e2,rv⟩:=r.get_arr hx
 have hlen:=r.length
 have hlt:l.length-1<l.length:=by
  rcases Nat.lt_or_ge (l.length-1) l.length with q|q
  .exact q
  .rw[List.getElem?_eq_none q] at hx;cases hx
 have hsz:vs.toArray.size=l.length:=by simpa using hlen
 obtain⟨H',tk⟩:=H.mapList u e (λxs=>xs.eraseIdxIfInBounds (vs.toArray.size-1)) (vs':=vs.eraseIdx (l.length-1)) (by
  have:vs.toArray.size-1<vs.toArray.size:=by rw[hsz];exact hlt
  rw[Array.eraseIdxIfInBounds,dif_pos this];simp[hlen]) (r.erase _)
 exact .of (call_meets F.slot_list_pop ⟨_,e,rfl⟩ F.entry_list_pop (F.args_list_pop_1 _) (MeetsSeq.list_pop_last a vs.toArray n v (by rw[hsz];exact e2) (by simpa [hlen] using hz)) ⟨e,_,_,k,rv.mono tk,H',tk⟩)
theorem op_floordiv{i j:Int}(h:K (.int (i.fdiv j)) J)(hj:j≠0)(hp:j.natAbs<1073741824):OP2 C VR (binaryOp .FloorDiv) (.int i) (.int j) J K:=λs v u H r1 r2=>by
 o_facts r1;o_facts r2;exact .of (PyProof.Rows.floordiv_int hj (Pst.hereT H (.int _ _) h) (.inl (PyProof.noPylong_small hp)))
theorem Zkc (h:∀ a,K (.ref a) ⟨J.loc,(a,AO.list (x.cps.toList.map λc=>V.str ⟨#[c]⟩))::J.obs⟩) (hh:C.A.handled=none) (hz:x.cps.size<=sizeLine):CF C (.ty "list") [.str x] J K:=λs fv vs H rf rl=>by
 o_facts rf
 revert rl
 intro rl0
 refine VRs.consK rl0 λY Y r rl e0=>?_
 subst e0
 o_facts rl
 o_facts r
 refine .of (call_list_str hh x _ (λh' tk acc' c' kp e hi=>⟨_,_,h _,.ref _,H.alloc (n:=tk) kp (Qw _) e ?_,.of_ext kp⟩) hz)
 have mk:∀ (cs:List Nat) (vs:List Value),vs.length=cs.length->(∀ (j:Nat) (v:Value),vs[j]?=some v->∃ (c:Nat) (u:Tok),cs[j]?=some c/\v=Value.str ⟨#[c]⟩ u)->VRs h' (cs.map λc=>V.str ⟨#[c]⟩) vs:=by
  intro cs
  induction cs with
  | nil=>intro vs hl _;induction vs with
   | nil=>exact .nil
   | cons _ _=>simp at hl
  | cons c cs ih=>
   intro vs hl hv
   induction vs with
   | nil=>simp at hl
   | cons v vs=>
    obtain⟨c',u,e1,e2⟩:=hv 0 v rfl
    simp at e1;subst e1;subst e2
    exact .cons (.str _ u) (ih vs (by simpa using hl) λj v e=>by simpa using hv (j+1) v (by simpa using e))
 have:=OR.list (h:=h') (l:=x.cps.toList.map λc=>V.str ⟨#[c]⟩) (vs:=acc'.toList) c' (mk _ _ (by simpa using hi.1) λj v e=>by
  obtain⟨c,u,e1,e2⟩:=hi.2 j v (by simpa using e)
  exact⟨c,u,by simpa using e1,e2⟩)
 simpa using this
theorem type_list_append:typeOf (.builtin "list.append")=pure (.type "method_descriptor"):=by show builtinType _=_;rw[builtinType_eq_fast];kernel_rfl
theorem type_list_pop:typeOf (.builtin "list.pop")=pure (.type "method_descriptor"):=by show builtinType _=_;rw[builtinType_eq_fast];kernel_rfl
theorem Zaq{v:Expr}{i:Int}{x:V}(hl:LkO a (.list l) J.obs)(k:K x J)(hs:∀ o i,∃ xs,subscripted sl false o i=operate xs (getItem o i))(h0:0<=i)(hi:i<2 ^ 63)(hx:l[i.toNat]?=some x):OP2 C VR (subscriptTail v sl) (.ref a) (.int i) J K:=
 Zbn "list" (Zjy hl) slot_list_getitem.lookup (Zjt hl h0 hi hx k) hs
theorem Zdn{v:Expr}{i:Int}{x:V}(hl:LkO a (.list l) J.obs)(k:K x J)(hs:∀ o i,∃ xs,subscripted sl false o i=operate xs (getItem o i))(h0:i<0)(h1:-(l.length:Int)<=i)(hi:-(2 ^ 63)<=i)(hx:l[(i+l.length).toNat]?=some x):OP2 C VR (subscriptTail v sl) (.ref a) (.int i) J K:=
 Zbn "list" (Zjy hl) slot_list_getitem.lookup (Zh2 hl h0 h1 hi hx k) hs
theorem Zb7{v:Expr}{s:Addr}(p:Pick (s,.slice lo hi) J.obs rest)(hl:LkO a (.list l) rest)(hl':LkO a (.list l) J.obs)(k:∀ r,K (.ref r) ⟨J.loc,(r,.list (slc l lo hi))::rest⟩)
  (hs:∀ o i,∃ xs,subscripted sl false o i=operate xs (getItem o i)) (hz:l.length<=sizeLine):OP2 C VR (subscriptTail v sl) (.ref a) (.ref s) J K:=
 Zbn "list" (Zjy hl') slot_list_getitem.lookup (Zf6 p hl k hz) hs
theorem Zdm{tpos:Pos}{K:Wj}(n1 n2:Str)(hh:C.A.handled=none)
  (h:EV C (eval value C.env) J λa J_1=>∃ v1 v2,a = .tup [v1,v2]/\U1 C (storeName C.env n2) v2 J_1 λJ_2=>U1 C (storeName C.env n1) v1 J_2 λJ=>K .next J)
  (hs:swapsWithSole [.Tuple elts k tpos] value pos.line C.env=pure false) (hw:swappedStores [.Tuple elts k tpos] value C.env=pure (some [n1,n2])):XV C (exec (.Assign [.Tuple elts k tpos] value pos) C.env) J K:=
 Zej (names:=[n1,n2]) hh (h.mono (by rintro a J_1 ⟨v1,v2,e,k⟩;exact⟨[v1,v2],e,rfl,aio_cons (bn_store (OP1.mono k λY J_2 k_2=>aio_cons (bn_store (OP1.mono k_2 λY J_3 k_3=>aio_nil k_3))))⟩)) hs hw
noncomputable abbrev vi(n:Nat):V:=.int n
noncomputable abbrev ch(c:Nat):V:=.str ⟨#[c]⟩
section
variable {P:Params}{G:Gl}{f c:Addr}{n:Nat}{args:List V}{obs:Wg}{K:V->Wg->Prop}{oc:Obj}{d:Fd}{m:String}{t:Tok}{cvs:Array Value}{ct:Tok}
end
theorem Z4w{l:List α}(h:l.length=1):∃ a,l=[a]:=List.length_eq_one_iff.mp h
theorem len2{l:List α}(h:l.length=2):∃ a b,l=[a,b]:=by
 cases l with
 | nil=>cases h
 | cons a l=>obtain⟨b,rfl⟩:=Z4w (Nat.succ.inj h);exact⟨a,b,rfl⟩
theorem len3{l:List α}(h:l.length=3):∃ a b c,l=[a,b,c]:=by
 cases l with
 | nil=>cases h
 | cons a l=>obtain⟨b,c,rfl⟩:=len2 (Nat.succ.inj h);exact⟨a,b,c,rfl⟩
theorem bn1{p:List Value->Prop}(k:∀ a,p [a])(vs:List Value)(h:vs.length=1):p vs:=by
  obtain⟨a,q⟩:=Z4w h;subst q;exact k a
theorem bn2{p:List Value->Prop}(k:∀ a b,p [a,b])(vs:List Value)(h:vs.length=2):p vs:=by
  obtain⟨a,b,q⟩:=len2 h;subst q;exact k a b
theorem bn3{p:List Value->Prop}(k:∀ a b c,p [a,b,c])(vs:List Value)(h:vs.length=3):p vs:=by
  obtain⟨a,b,c,q⟩:=len3 h;subst q;exact k a b c
noncomputable def stock3:List Nat:=[97,46,45,93,92,94,126,38]
theorem Zim(f:α->β):∀ (l:List α) (i:Nat),(l.eraseIdx i).map f=(l.map f).eraseIdx i
 | [],_=>rfl
 | _::_,0=>rfl
 | a::l,i+1=>by simp[Zim f l i]
theorem Zqa{l:List Nat}(h:i<l.length)(f:Nat->V):(l.map f)[i]?=some (f (l.getD i 0)):=by
 simp[Qu h]
noncomputable def Zdx(x:Str)(lo hi:Option Int):Str:=⟨(slc x.cps.toList lo hi).toArray⟩
noncomputable def Zu4(y x:Str):Bool:=!(Builtin.Str.occurrences x y 0 x.length 1).isEmpty
theorem VRs.strs{l:List Str}(r:VRs h (l.map V.str) vs):StrsAre vs l:=by
 induction l generalizing vs with
 | nil=>exact r.nilE ▸ .nil
 | cons x l ih=>exact r.consK λv ws r1 r2 e=>r1.strK λt e'=>e▸e' ▸ .cons _ t (ih r2)
theorem cf_len_str (h:K (.int x.length) J) (hfit:x.length<=sizeLine):CF C (.bi "len") [.str x] J K:=λs fv vs H rf rl=>by
 o_facts rf
 revert rl
 intro rl0
 refine VRs.consK rl0 λY Y r rl e0=>?_
 subst e0
 o_facts rl
 o_facts r
 have hz:sizeLine=16777216:=by decide
 exact .of (PyProof.Rows.len_str (by lia) (Pst.hereT H (.int _ _) h))
theorem op_str_add(h:K (.str (x++y)) J)(hz:x.length+y.length<=sizeLine):OP2 C VR (binaryOp .Add) (.str x) (.str y) J K:=λs v u H r1 r2=>by
 o_facts r1;o_facts r2;exact .of (PyProof.Rows.add_str (λt' tk=>Pst.hereT H (.str _ t') h) hz)
theorem op_str_eq(h:K (.bool (x==y)) J):OP2 C VR (compareOp .Eq) (.str x) (.str y) J K:=λs v u H r1 r2=>by
 o_facts r1;o_facts r2;exact .of (PyProof.Rows.eq_str (Pst.here H (.bool _) h))
theorem op_str_ne(h:K (.bool (x != y)) J):OP2 C VR (compareOp .NotEq) (.str x) (.str y) J K:=λs v u H r1 r2=>by
 o_facts r1;o_facts r2;exact .of (PyProof.Rows.ne_str (Pst.here H (.bool _) h))
theorem op_str_in(h:K (.bool (Zu4 y x)) J):OP2 C VR (compareOp .In) (.str y) (.str x) J K:=λs v u H r1 r2=>by
 o_facts r1;o_facts r2;exact .of (PyProof.Rows.in_str (Pst.here H (.bool _) h))
theorem op_str_notin(h:K (.bool (!(Zu4 y x))) J):OP2 C VR (compareOp .NotIn) (.str y) (.str x) J K:=λs v u H r1 r2=>by
 o_facts r1;o_facts r2;exact .of (PyProof.Rows.notIn_str (Pst.here H (.bool _) h))
theorem tr_str{K:Bool->Wl}(h:K ((x.length:Int) != 0) J)(hfit:x.length<=sizeLine):OP1 C (λ_ (b:Bool) v=>v=b) truthy (.str x) J K:=λs v H r1=>by
 have hz:sizeLine=16777216:=by decide
 o_facts r1;exact .of (P.truthy_str (by lia) (Pst.hereT H rfl h))
theorem Zts (s:Shared) (va:Value) (r:VR s.heap (.str x) va) (H:Holds C J s):s.TypeIs va "str" := by o_facts r;exact typeIs_str _ _ _
theorem Zms{i:Int}{c:Nat}(hi:-(2 ^ 63)<=i)(hi':i<2 ^ 63)(hc:(seqIndex? i x.length).bind (x.cps[·]?)=some c)(h:K (ch c) J):OP2 C VR getItem (.str x) (.int i) J K:=λs v u H r1 r2=>by
 o_facts r1;o_facts r2;exact .of (PyProof.Rows.getItem_str (by simp;lia) hc (Pst.hereT H (.str _ _) h))
theorem Zam{v:Expr}{i:Int}{c:Nat}(h:K (ch c) J)(hs:∀ o i,∃ xs,subscripted sl false o i=operate xs (getItem o i))(hi:-(2 ^ 63)<=i)(hi':i<2 ^ 63)(hc:(seqIndex? i x.length).bind (x.cps[·]?)=some c) :
  OP2 C VR (subscriptTail v sl) (.str x) (.int i) J K:=Zbn "str" Zts PyProof.Rows.slot_str_getitem.lookup (Zms hi hi' hc h) hs
set_option tactic.hygienic true in
theorem Zio{sl:Addr}(p:Pick (sl,.slice lo hi) J.obs rest)(k:K (.str (Zdx x lo hi)) ⟨J.loc,rest⟩)(hz:x.length<=sizeLine):OP2 C VR getItem (.str x) (.ref sl) J K:=by
 exists (C J K x rest lo hi sl),p,k,hz
 intro s v u H r1 r2
 refine VR.strK r1 λt e0=>?_
 subst e0
 o_facts r2
 refine Zaj (H.obs _ p.mem) λO e ro=>?_
 have H':=H.drop p
 have q:=OR.ownE ro
 obtain⟨vl,vu,rfl,p1,p2⟩:=q
 exists (s t vl vu),H,r1,r2,H',e,ro,p1,p2
 obtain⟨l,hl,hl'⟩:∃ l:Option (Int×Tok),vl=partValue l/\l.map (·.1)=lo:=by
  induction p1 with
  | none=>exact⟨none,rfl,rfl⟩
  | int i t=>exact⟨some (i,t),rfl,rfl⟩
 obtain⟨m,hm,hm'⟩:∃ l:Option (Int×Tok),vu=partValue l/\l.map (·.1)=hi:=by
  induction p2 with
  | none=>exact⟨none,rfl,rfl⟩
  | int i t=>exact⟨some (i,t),rfl,rfl⟩
 subst hl;subst hm
 refine .of (wpAny_getItem_str_slice (l:=l) (u:=m) (st:=none) ⟨_,e,rfl,rfl⟩ (by decide) ?_)
 have bounds:Builtin.Str.strSliceIndices lo hi 1 x.length=sliceRange (lo.elim 0 (clipAt x.length):Nat) (hi.elim x.length (clipAt x.length):Nat) 1:=by
  unfold Builtin.Str.strSliceIndices
  induction lo <;> induction hi <;> simp[clipAt_cast]
 have hp:(slicePicked x l m none)=sliceRange (lo.elim 0 (clipAt x.length):Nat) (hi.elim x.length (clipAt x.length):Nat) 1:=by
  unfold slicePicked
  rw[hl',hm']
  exact bounds
 have pick:((slicePicked x l m none).filterMap (x.cps[·]?)).toArray=(slc x.cps.toList lo hi).toArray:=by
  rw[hp,sliceRange_one,pick_run]
  unfold slc
  simp[Str.length]
 unfold sliceMade
 split
 .rename_i hw
  have hlen:(slicePicked x l m none).length=x.length:=by simpa using hw
  have whole:Zdx x lo hi=x:=by
   unfold Zdx
   have h1:=hlen
   rw[hp,sliceRange_one,Qj,List.length_range] at h1
   have c1:lo.elim 0 (clipAt x.length)<=x.length:=by induction lo with
    | none=>exact Nat.zero_le _
    | some i=>exact Zpf _ _
   have c2:hi.elim x.length (clipAt x.length)<=x.length:=by induction hi with
    | none=>exact Qw _
    | some i=>exact Zpf _ _
   have e1:lo.elim 0 (clipAt x.length)=0:=by lia
   have e2:slc x.cps.toList lo hi=x.cps.toList:=by
    unfold slc
    have hx:x.cps.toList.length=x.length:=by simp[Str.length]
    rw[hx,e1,List.drop_zero,List.take_of_length_le (by rw[hx];lia)]
   rw[e2]
  rw[whole] at k
  exact Pst.here H' (.str x t) k
 .rw[pick]
  refine⟨?_,Pst.hereT H' (.str _ _) k⟩
  show(slc x.cps.toList lo hi).toArray.size<=sizeLine
  have:(slc x.cps.toList lo hi).length<=x.cps.toList.length:=by unfold slc;rw[List.length_take,List.length_drop];lia
  have hx:x.cps.toList.length=x.length:=by simp[Str.length]
  simp
  lia
theorem op_str_subs{v:Expr}(p:Pick (a,.slice lo hi) J.obs rest)(k:K (.str (Zdx x lo hi)) ⟨J.loc,rest⟩)(hs:∀ o i,∃ xs,subscripted sl false o i=operate xs (getItem o i))(hz:x.length<=sizeLine) :
  OP2 C VR (subscriptTail v sl) (.str x) (.ref a) J K:=Zbn "str" Zts PyProof.Rows.slot_str_getitem.lookup (Zio p k hz) hs
theorem Zjg {l:List Str} (hl:LkO a (.list (l.map V.str)) J.obs) (h:K (.str (Txt.join x l)) J) (hz:(l.map (·.length)).sum+l.length * x.length<=16777216):CF C (.bi "str.join") [.str x,.ref a] J K:=λs fv vs H rf rl=>by
 o_facts rf
 revert rl
 intro rl0
 refine VRs.consK rl0 λY Y r rl e0=>?_
 subst e0
 revert rl
 intro rl0
 refine VRs.consK rl0 λY Y r2 rl e0=>?_
 subst e0
 o_facts rl
 o_facts r;o_facts r2
 refine Zbp (H.list hl) λvs n e r=>?_
 exact .of (join_list (items:=vs.toArray) ⟨_,e,rfl,n,rfl⟩ r.strs hz λt' k=>Pst.hereT H (.str _ _) h)
theorem Z3x {i:Int} (h:K (ch i.toNat) J) (h0:0<=i) (h1:i<=0x10FFFF):CF C (.bi "chr") [.int i] J K:=λs fv vs H rf rl=>by
 o_facts rf
 revert rl
 intro rl0
 refine VRs.consK rl0 λY Y r rl e0=>?_
 subst e0
 o_facts rl
 o_facts r
 exact .of (P.chr_of_int (by simp;lia) (Pst.hereT H (.str _ _) h))
theorem Ztx {c:Nat} (h:K (.int c) J):CF C (.bi "ord") [ch c] J K:=λs fv vs H rf rl=>by
 o_facts rf
 revert rl
 intro rl0
 refine VRs.consK rl0 λY Y r rl e0=>?_
 subst e0
 o_facts rl
 o_facts r
 exact .of (P.ord_of_char (Pst.hereT H (.int _ _) h))
theorem Ze8{sl:Addr}(p:Pick (sl,.slice lo hi) J.obs rest)(k:K (.bytes (slc b lo hi)) ⟨J.loc,rest⟩)(hz:b.length<=sizeLine):OP2 C VR getItem (.bytes b) (.ref sl) J K:=λs v u H r1 r2=>by
 refine VR.bytesK r1 λt hb e0=>?_
 subst e0
 o_facts r2
 refine Zaj (H.obs _ p.mem) λO e ro=>?_
 have H':=H.drop p
 have q:=OR.ownE ro
 obtain⟨vl,vu,rfl,p1,p2⟩:=q
 refine .of (getItem_meets (typeIs_bytes _ _ _) (by decide) FB.slot_bytes_getitem FB.entry_bytes_getitem (FB.args_bytes_getitem_2 _ _) (KBc.meets_slice2 _ t _ p1 p2) ⟨⟨_,e,rfl,rfl⟩,Qx (KBc.size_picked_le _ lo hi) (by simpa using hz),λt' k'=>?_⟩)
 rw[KBc.picked_eq]
 have:((((b.map Nat.toUInt8).toArray.toList.drop (lo.elim 0 (clipAt (b.map Nat.toUInt8).toArray.size))).take (hi.elim (b.map Nat.toUInt8).toArray.size (clipAt (b.map Nat.toUInt8).toArray.size)-lo.elim 0 (clipAt (b.map Nat.toUInt8).toArray.size))).toArray)=((slc b lo hi).map Nat.toUInt8).toArray:=by
  unfold slc
  simp[List.map_take,List.map_drop]
 rw[this]
 exact Pst.hereT H' (.bytes t' λx hx=>hb x (List.mem_of_mem_drop (List.mem_of_mem_take hx))) k
theorem op_bytes_subs{v:Expr}(p:Pick (a,.slice lo hi) J.obs rest)(k:K (.bytes (slc b lo hi)) ⟨J.loc,rest⟩)(hs:∀ o i,∃ xs,subscripted sl false o i=operate xs (getItem o i))(hz:b.length<=sizeLine) :
  OP2 C VR (subscriptTail v sl) (.bytes b) (.ref a) J K:=Zbn "bytes" Zk3 FB.slot_bytes_getitem.lookup (Ze8 p k hz) hs
theorem op_bytes_add{c:List Nat}(k:K (.bytes (b++c)) J)(hz:b.length+c.length<=16777216):OP2 C VR (binaryOp .Add) (.bytes b) (.bytes c) J K:=λs v u H r1 r2=>by
 refine VR.bytesK r1 λt hb e0=>?_
 subst e0
 refine VR.bytesK r2 λt2 hc e0=>?_
 subst e0
 refine .of (KBy.add_bytes (by simpa using hz) λt' k'=>?_)
 have:(b.map Nat.toUInt8).toArray++(c.map Nat.toUInt8).toArray=((b++c).map Nat.toUInt8).toArray:=by simp
 rw[this]
 exact Pst.hereT H (.bytes t' λx hx=>(List.mem_append.mp hx).elim (hb x) (hc x)) k
theorem Zcz{c:List Nat}(hb:∀ x∈b,x<256)(hc:∀ x∈c,x<256):((b.map Nat.toUInt8).toArray.toList==(c.map Nat.toUInt8).toArray.toList)=(b==c):=by
 have key:∀ {b c:List Nat},(∀ x∈b,x<256)->(∀ x∈c,x<256)->b.map Nat.toUInt8=c.map Nat.toUInt8->b=c:=by
  intro b
  induction b with
  | nil=>intro c _ _ e;induction c with
   | nil=>rfl
   | cons _ _=>cases e
  | cons x b ih=>
   intro c hb hc e
   induction c with
   | nil=>cases e
   | cons y c=>
    rw[Qr,Qr] at e
    injection e with e1 e2
    have h1:=hb x (.head _)
    have h2:=hc y (.head _)
    have:(Nat.toUInt8 x).toNat=(Nat.toUInt8 y).toNat:=by rw[e1]
    have z1:(Nat.toUInt8 x).toNat=x:=by show(UInt8.ofNat x).toNat=x;rw[UInt8.toNat_ofNat'];exact Nat.mod_eq_of_lt h1
    have z2:(Nat.toUInt8 y).toNat=y:=by show(UInt8.ofNat y).toNat=y;rw[UInt8.toNat_ofNat'];exact Nat.mod_eq_of_lt h2
    rw[z1,z2] at this
    subst this
    rw[ih (λx hx=>hb x (.tail _ hx)) (λx hx=>hc x (.tail _ hx)) e2]
 rw[Bool.eq_iff_iff]
 simp only[beq_iff_eq]
 exact⟨key hb hc,λe=>by rw[e]⟩
theorem op_bytes_eq{c:List Nat}(k:K (.bool (b==c)) J):OP2 C VR (compareOp .Eq) (.bytes b) (.bytes c) J K:=λs v u H r1 r2=>by
 refine VR.bytesK r1 λt hb e0=>?_
 subst e0
 refine VR.bytesK r2 λt2 hc e0=>?_
 subst e0
 exact .of (PySem.W.eq_bytes (by rw[Zcz hb hc];exact Pst.here H (.bool _) k))
theorem op_bytes_ne{c:List Nat}(k:K (.bool (b != c)) J):OP2 C VR (compareOp .NotEq) (.bytes b) (.bytes c) J K:=λs v u H r1 r2=>by
 refine VR.bytesK r1 λt hb e0=>?_
 subst e0
 refine VR.bytesK r2 λt2 hc e0=>?_
 subst e0
 refine .of (PySem.W.ne_bytes ?_)
 have:((b.map Nat.toUInt8).toArray.toList != (c.map Nat.toUInt8).toArray.toList)=(b != c):=by unfold bne;rw[Zcz hb hc]
 rw[this]
 exact Pst.here H (.bool _) k
theorem VRs.ints{l:List Nat}(r:VRs h (l.map vi) vs):IntsAre vs (l.map λ(n:Nat)=>(n:Int)):=by
 induction l generalizing vs with
 | nil=>exact r.nilE ▸ .nil
 | cons x l ih=>exact r.consK λv ws r1 r2 e=>VR.intK r1 λt e'=>e▸e' ▸ .cons _ t (ih r2)
theorem Zc2 {l:List Nat} (hl:LkO a (.list (l.map vi)) J.obs) (k:K (.bytes l) J) (hr:∀ x∈l,x<256) (hz:l.length<=sizeLine) (hh:C.A.handled=none):CF C (.ty "bytes") [.ref a] J K:=λs fv vs H rf rl=>by
 o_facts rf
 revert rl
 intro rl0
 refine VRs.consK rl0 λY Y r rl e0=>?_
 subst e0
 o_facts rl
 o_facts r
 refine Zbp (H.list hl) λvs n e r=>?_
 refine .of (call_bytes_ints (vs:=vs) (ns:=l.map λ(n:Nat)=>(n:Int)) ⟨_,e,rfl,n,rfl⟩ r.ints (λn hn=>by obtain⟨m,hm,rfl⟩:=Qf hn;have:=hr m hm;lia) (by have:=r.length;simp at this;lia) hh λh' t k' kp=>?_)
 have:byteArr (l.map λ(n:Nat)=>(n:Int))=(l.map Nat.toUInt8).toArray:=by unfold byteArr;simp[Function.comp_def]
 rw[this]
 exact⟨_,_,k,.bytes t hr,H.ext kp k',.of_ext kp⟩
section
open  PySem.SeqAt PySem.MeetsSeq
noncomputable def Zdr:V->V->Bool
 | .int a,.int b=>a==b
 | .str a,.str b=>a==b
 | .bytes a,.bytes b=>a==b
 | _,_=>false
inductive Sc:V->V->Prop
 | int (a b:Int):Sc (.int a) (.int b)
 | str (a b:Str):Sc (.str a) (.str b)
 | bytes (a b:List Nat):Sc (.bytes a) (.bytes b)
noncomputable def Zlh(l m:List V):Bool:=(l.zip m).all λp=>Zdr p.1 p.2
theorem EqGives.bytes(b c:Array UInt8)(t u:Tok):EqGives (.bytes b t) (.bytes c u) (b.toList==c.toList):=by
 intro prog w A E s Q h
 unfold eqBool
 refine wpAny_holding ?_
 refine wpAny_ite_split (λhab=>?_) (λhab=>?_)
 .have e:b=c:=by have:=eq_of_beq hab;injection this
  subst e
  exact Qh (wpAny_rule (Qi (by simpa using h)))
 .exact Qh (richCompare_gives (typeIs_bytes s b t) (typeIs_bytes s c u) FB.slot_bytes_eq FB.entry_bytes_eq (FB.args_bytes_eq_2 _ _) (gives_bytes_eq b c t u) (by simp[Made.takes]) (wpAny_truthy_bool h))
theorem eqS{A:Around}{a b:V}{x y:Value}(c:Sc a b)(r1:VR h a x)(r2:VR h b y):EqAt A s x y (Zdr a b):=by
 induction c with
 | int a b=>o_facts r1;o_facts r2;exact(EqGives.int _ _ _ _).at _ _
 | str a b=>
  o_facts r1;o_facts r2
  have:(a==b)=(a.cps.toList==b.cps.toList):=Bool.eq_iff_iff.mpr (beq_iff_eq.trans ((⟨λe=>e▸rfl,λe=>congrArg Str.mk (Array.toList_inj.mp e)⟩:a=b↔_).trans beq_iff_eq.symm))
  exact(show _=Zdr (.str a) (.str b) from this.symm)▸(SeqRoads2.EqGives.str _ _ _ _).at _ _
 | bytes a b=>
  refine VR.bytesK r1 λt hb e=>VR.bytesK r2 λu hc e'=>?_
  rw[e,e']
  exact(show _=Zdr (.bytes a) (.bytes b) from Zcz hb hc)▸(EqGives.bytes (a.map Nat.toUInt8).toArray (b.map Nat.toUInt8).toArray t u).at A s
theorem Zco(a b:V)(l m:List V):Zlh (a::l) (b::m)=(Zdr a b&&Zlh l m):=by simp[Zlh]
theorem VRs.at{xs:List Value}(j:Nat){x:Value}(r:VRs h l xs)(e:xs[j]?=some x):∃ a,l[j]?=some a/\VR h a x:=by
 have hl:j<l.length:=r.length▸(List.getElem?_eq_some_iff.mp e).1
 refine Zaj (r.get j (Qu hl)) λv hv rv=>?_
 exact⟨_,Qu hl,Qv (e.symm.trans hv)▸rv⟩
theorem eqL{A:Around}{m:List V}{xs ys:List Value}(hs:∀ (j:Nat) (a b:V),l[j]?=some a->m[j]?=some b->Sc a b)(r1:VRs h l xs)(r2:VRs h m ys)(j:Nat)(x y:Value)(e1:xs[j]?=some x)(e2:ys[j]?=some y):∃ a b,l[j]?=some a/\m[j]?=some b/\EqAt A s x y (Zdr a b):=by
 refine Zaj (r1.at j e1) λa ha ra=>?_
 refine Zaj (r2.at j e2) λb hb rb=>?_
 exact⟨a,b,ha,hb,eqS (hs j a b ha hb) ra rb⟩
theorem Zja{m:List V}(h:l.length=m.length):((List.range l.length).all λj=>Zdr (l.getD j .none) (m.getD j .none))=Zlh l m:=by
 induction l generalizing m with
 | nil=>rfl
 | cons a l ih=>
  induction m with
  | nil=>cases h
  | cons b m=>
   rw[Zco,List.length_cons,List.range_succ_eq_map,List.all_cons,List.all_map]
   exact congrArg (Zdr a b&&·) (ih (Nat.succ.inj h))
theorem VR.int_det{a b:Int}{y:Value}(r1:VR h (.int a) y)(r2:VR h (.int b) y):a=b:=r1.intK λY e=>r2.intK λY e'=>by cases e.symm.trans e';rfl
theorem VR.str_det{a b:Str}{y:Value}(r1:VR h (.str a) y)(r2:VR h (.str b) y):a=b:=r1.strK λY e=>r2.strK λY e'=>by cases e.symm.trans e';rfl
theorem VR.bytes_det{c:List Nat}{y:Value}(r1:VR h (.bytes b) y)(r2:VR h (.bytes c) y):b=c:=r1.bytesK λY hb e=>r2.bytesK λY hc e'=>by
 have:=Zcz hb hc
 rw[(Value.bytes.inj (e.symm.trans e')).1] at this
 simpa using this.symm
theorem Zx8{a b:V}{y:Value}(c:Sc a b)(r1:VR h a y)(r2:VR h b y):Zdr a b=true:=by
 induction c with
 | int=>exact beq_iff_eq.mpr (r1.int_det r2)
 | str=>exact beq_iff_eq.mpr (r1.str_det r2)
 | bytes=>exact beq_iff_eq.mpr (r1.bytes_det r2)
theorem Zux{a b x:V}{y:Value}(c1:Sc a x)(c2:Sc b x)(r1:VR h a y)(r2:VR h b y):a=b:=by
 induction c1 with
 | int=>cases c2 with|int=>exact congrArg V.int (r1.int_det r2)
 | str=>cases c2 with|str=>exact congrArg V.str (r1.str_det r2)
 | bytes=>cases c2 with|bytes=>exact congrArg V.bytes (r1.bytes_det r2)
theorem Ztf{m:List V}(hs:∀ (j:Nat) (a b:V),l[j]?=some a->m[j]?=some b->Sc a b)(r:VRs h l vs)(r':VRs h m vs):Zlh l m=true:=by
 induction l generalizing m vs with
 | nil=>rfl
 | cons a l ih=>
  induction m with
  | nil=>rfl
  | cons b m=>
   refine r.consK λv ws q r e=>r'.consK λv' ws' q' r' e'=>?_
   cases e.symm.trans e'
   rw[Zco,Zx8 (hs 0 a b rfl rfl) q q',ih (λj=>hs (j+1)) r r']
   rfl
theorem Zxx{l' m:List V}(h1:l.length=m.length)(h2:l'.length=m.length)(s1:∀ (j:Nat) (a b:V),l[j]?=some a->m[j]?=some b->Sc a b)(s2:∀ (j:Nat) (a b:V),l'[j]?=some a->m[j]?=some b->Sc a b)(r:VRs h l vs)(r':VRs h l' vs):l=l':=by
 induction l generalizing l' m vs with
 | nil=>exact(List.eq_nil_of_length_eq_zero (h2.trans h1.symm)).symm
 | cons a l ih=>
  induction m with
  | nil=>cases h1
  | cons b m=>
   induction l' with
   | nil=>cases h2
   | cons a' l'=>
    refine r.consK λv ws q r e=>r'.consK λv' ws' q' r' e'=>?_
    cases e.symm.trans e'
    rw[Zux (s1 0 _ _ rfl rfl) (s2 0 _ _ rfl rfl) q q',ih (m:=m) (Nat.succ.inj h1) (Nat.succ.inj h2) (λj=>s1 (j+1)) (λj=>s2 (j+1)) r r']
theorem Zju{m:List V}{ws:List Value}(hs:∀ (j:Nat) (a b:V),l[j]?=some a->m[j]?=some b->Sc a b)(r1:VRs h l vs)(r2:VRs h m ws)(A:Around)(s:Shared)(j:Nat)(h1:j<vs.toArray.size)(h2:j<ws.toArray.size) :
  EqAt A s vs.toArray[j] ws.toArray[j] (Zdr (l.getD j .none) (m.getD j .none)):=by
 obtain⟨a,b,ha,hb,q⟩:=eqL (A:=A) (s:=s) hs r1 r2 j (vs.toArray[j]) (ws.toArray[j]) (by simp) (by simp)
 simpa [List.getD,ha,hb] using q
theorem eqT{n:Nat}{A:Around}(hu:A.units<cLine){m:List V}{x y:Value}(hl:l.length=m.length)(hs:∀ (j:Nat) (a b:V),l[j]?=some a->m[j]?=some b->Sc a b)(r1:VR s.heap (.tup l) x)(r2:VR s.heap (.tup m) y):EqAt A s x y (Zlh l m):=by
 refine r1.tupK λa1 vs1 n1 e1 r1 e=>r2.tupK λa2 vs2 n2 e2 r2 e'=>?_
 rw[e,e']
 by_cases hne:a1=a2
 .subst hne
  have key:Zlh l m=true:=Ztf hs r1 ((show vs2=vs1 from congrArg Array.toList (Data.seq.inj (congrArg Obj.data (Qv (e2.symm.trans e1)))).1)▸r2)
  rw[key]
  exact EqAt.same _
 .refine EqAt.of_refs hne ?_
  have:=RcAt.tuples (A:=A) (e:=λj=>Zdr (l.getD j .none) (m.getD j .none)) ⟨_,e1,rfl,n1,rfl⟩ ⟨_,e2,rfl,n2,rfl⟩ hu (Zju hs r1 r2 _ s)
  have h1:vs1.toArray.size=l.length:=r1.length
  have h2:vs2.toArray.size=l.length:=r2.length.trans hl.symm
  rwa [h1,h2,Nat.min_self,beq_self_eq_true,Bool.and_true,Zja hl] at this
inductive Cmp:V->V->Bool->Prop
 | sc {a b:V} (c:Sc a b):Cmp a b (Zdr a b)
 | tup {l m:List V} (hl:l.length=m.length) (hs:∀ (j:Nat) (a b:V),l[j]?=some a->m[j]?=some b->Sc a b):Cmp (.tup l) (.tup m) (Zlh l m)
theorem eqC{A:Around}(hu:A.units<cLine){a b:V}{k:Bool}{x y:Value}(c:Cmp a b k)(r1:VR s.heap a x)(r2:VR s.heap b y):EqAt A s x y k:=by
 induction c with
 | sc c=>exact eqS c r1 r2
 | tup hl hs=>exact eqT (n:=0) hu hl hs r1 r2
theorem Zxk{a b x:V}{k1 k2:Bool}{y:Value}(c1:Cmp a x k1)(c2:Cmp b x k2)(r1:VR h a y)(r2:VR h b y):k1=k2:=by
 induction c1 with
 | sc c1=>
  induction c2 with
  | sc c2=>rw[Zux c1 c2 r1 r2]
  | tup hl hs=>cases c1
 | tup hl hs=>
  cases c2 with
  | sc c2=>cases c2
  | tup hl' hs'=>
   refine r1.tupK λa vs n e r1 ey=>r2.tupK λa' vs' n' e' r2 ey'=>?_
   cases ey.symm.trans ey'
   rw[Zxx hl hl' hs hs' r1 ((show vs'=vs from congrArg Array.toList (Data.seq.inj (congrArg Obj.data (Qv (e'.symm.trans e)))).1)▸r2)]
open Classical in
theorem Zvn{x:V}{e:V->Bool}:∀ {l:List V} {vs:List Value},(∀ y∈l,Cmp y x (e y))->VRs h l vs->∃ e':Value->Bool,(∀ (j:Nat) (a:V) (y:Value),l[j]?=some a->vs[j]?=some y->e' y=e a):=by
 exists (h x e)
 intro l vs hc r
 refine⟨λy=>decide (∃ a∈l,VR h a y/\e a=true),λj a y ha hy=>?_⟩
 refine Zaj (r.get j ha) λy' hy' ra=>?_
 rw[hy] at hy';cases hy'
 have hm:=List.mem_of_getElem? ha
 cases hk:e a with
 | true=>simpa using ⟨a,hm,ra,hk⟩
 | false=>
  simp only[decide_eq_false_iff_not]
  rintro⟨b,hb,rb,kb⟩
  have:=Zxk (hc a hm) (hc b hb) ra rb
  rw[hk,kb] at this;cases this
theorem Zwa(r:VRs h l vs){y:Value}(hy:y∈vs.toArray):∃ (j:Nat) (a:V),l[j]?=some a/\vs[j]?=some y/\VR h a y:=by
 obtain⟨j,hj⟩:=List.getElem?_of_mem (List.mem_toArray.mp hy)
 refine Zaj (r.at j hj) λa ha ra=>?_
 exact⟨j,a,ha,hj,ra⟩
theorem Z1b{e:V->Bool}{e':Value->Bool}(r:VRs h l vs)(k:∀ (j:Nat) (a:V) (y:Value),l[j]?=some a->vs[j]?=some y->e' y=e a):vs.any e'=l.any e:=by
 induction l generalizing vs with
 | nil=>rw[r.nilE];rfl
 | cons a l ih=>
  refine r.consK λv ws q r2 ey=>?_
  subst ey
  rw[List.any_cons,List.any_cons,k 0 _ _ rfl rfl,ih r2 λj=>k (j+1)]
theorem Zfz{x:V}(e:V->Bool)(hl:LkO a (.list l) J.obs)(k:K (.bool (l.any e)) J)(hc:∀ y∈l,Cmp y x (e y))(hu:C.A.units+20<cLine):OP2 C VR (compareOp .In) x (.ref a) J K:=λs v u H r1 r2=>by
 o_facts r2
 refine Zbp (H.list hl) λvs n eo r=>?_
 obtain⟨e',he'⟩:=Zvn hc r
 refine .of (in_listAt e' ⟨_,eo,rfl,n,rfl⟩ (λy hy=>?_) ?_)
 .obtain⟨j,b,hb,hj,rb⟩:=Zwa r hy
  rw[he' j b y hb hj]
  exact eqC (by show C.A.units+_<_;lia) (hc b (List.mem_of_getElem? hb)) rb r1
 .have:vs.toArray.any e'=l.any e:=by rw[List.any_toArray];exact Z1b r he'
  rw[this]
  exact Pst.here H (.bool _) k
noncomputable def leq(l m:List V):Bool:=l.length==m.length&&Zlh l m
theorem Zl0{b:Addr}{m:List V}(hl:LkO a (.list l) J.obs)(hm:LkO b (.list m) J.obs)(k:K (.bool (leq l m)) J)(hs:∀ (j:Nat) (a b:V),l[j]?=some a->m[j]?=some b->Sc a b)(hu:C.A.units+20<cLine):OP2 C VR (compareOp .Eq) (.ref a) (.ref b) J K:=λs v u H r1 r2=>by
 o_facts r1;o_facts r2
 refine Zbp (H.list hl) λvs n e1 r1=>?_
 refine Zbp (H.list hm) λws n2 e2 r2=>?_
 have l1:=r1.length
 have l2:=r2.length
 by_cases hz:l.length=m.length
 .have:=eq_listAt (prog:=C.G.prog) (w:=C.G.w) (A:=C.A) (E:=C.E) (s:=s) (Q:=Pst C VR K s) (e:=λj=>Zdr (l.getD j .none) (m.getD j .none)) (l:=a) (b:=b) (items:=vs.toArray) (items2:=ws.toArray) ⟨_,e1,rfl,n,rfl⟩ ⟨_,e2,rfl,n2,rfl⟩ (by simp[l1,l2,hz]) (by lia) (Zju hs r1 r2 _ _) (by
   have e3:((List.range vs.toArray.size).all λj=>Zdr (l.getD j .none) (m.getD j .none))=leq l m:=by
    unfold leq
    rw[<- Zja hz]
    simp[l1,hz]
   rw[e3]
   exact Pst.here H (.bool _) k)
  exact .of this
 .refine .of (eq_list_lengthsAt (items:=vs.toArray) (items2:=ws.toArray) ⟨_,e1,rfl,n,rfl⟩ ⟨_,e2,rfl,n2,rfl⟩ (by simp[l1,l2,hz]) (by lia) ?_)
  have:leq l m=false:=by simp[leq,hz]
  rw[this] at k
  exact Pst.here H (.bool _) k
theorem Zm9{b:Addr}{m:List V}(hl:LkO a (.list l) J.obs)(hm:LkO b (.list m) J.obs)(k:K (.bool (!(leq l m))) J)(hs:∀ (j:Nat) (a b:V),l[j]?=some a->m[j]?=some b->Sc a b)(hu:C.A.units+20<cLine):OP2 C VR (compareOp .NotEq) (.ref a) (.ref b) J K:=λs v u H r1 r2=>by
 o_facts r1;o_facts r2
 refine Zbp (H.list hl) λvs n e1 r1=>?_
 refine Zbp (H.list hm) λws n2 e2 r2=>?_
 have l1:=r1.length
 have l2:=r2.length
 by_cases hz:l.length=m.length
 .have:=RcNeAt.lists (A:=C.A) (s:=s) (e:=λj=>Zdr (l.getD j .none) (m.getD j .none)) (l:=a) (b:=b) (items:=vs.toArray) (items2:=ws.toArray) ⟨_,e1,rfl,n,rfl⟩ ⟨_,e2,rfl,n2,rfl⟩ (by simp[l1,l2,hz]) (by lia) (Zju hs r1 r2 _ _) C.G.prog C.G.w C.E (Pst C VR K s) (by
   have e3:((List.range vs.toArray.size).all λj=>Zdr (l.getD j .none) (m.getD j .none))=leq l m:=by
    unfold leq
    rw[<- Zja hz]
    simp[l1,hz]
   rw[e3]
   exact Pst.here H (.bool _) k)
  exact .of this
 .refine .of (RcNeAt.lists_lengths (A:=C.A) (s:=s) (items:=vs.toArray) (items2:=ws.toArray) ⟨_,e1,rfl,n,rfl⟩ ⟨_,e2,rfl,n2,rfl⟩ (by simp[l1,l2,hz]) (by lia) C.G.prog C.G.w C.E (Pst C VR K s) ?_)
  have:leq l m=false:=by simp[leq,hz]
  rw[this] at k
  exact Pst.here H (.bool _) k
end
theorem ev_and2{x y:Expr}
  (h:EV C (eval x env) J λa J_1=>TR C a J_1 λb J_2=>(b=true->EV C (eval y env) J_2 K)/\(b=false->K a J_2)):EV C (eval (.BoolOp .And [x,y] pos) env) J K:=λs H=>by
 show wpP _ _ (do
  let v <- eval x env
  standAt pos
  let t <- holding [v] (truthy v)
  match BoolOp.And,t with
  | .And,false | .Or,true=>pure v
  | _,_=>boolOp pos .And [eval y env]) _ _ _
 exact Zaa (h.step H λa J_1 va s_1 h_1 ra H_1 k_1=>Zaa (Zac (Zaa (Zae (Zap (h_1 s_1 va H_1 ra) (λt s_2 b J_2 k e H_2 k_2=>by
  subst e
  induction t with
  | true=>exact Zad (k.1 rfl s_2 H_2) (λY Y p=>p.tk (k_1.trans k_2)) λY Y e=>e
  | false=>exact Zab ⟨a,J_2,k.2 rfl,ra.mono k_2,H_2,k_1.trans k_2⟩))))))
theorem ev_or2{x y:Expr}
  (h:EV C (eval x env) J λa J_1=>TR C a J_1 λb J_2=>(b=false->EV C (eval y env) J_2 K)/\(b=true->K a J_2)):EV C (eval (.BoolOp .Or [x,y] pos) env) J K:=by
 exists (C J K pos env x y),h
 intro s H
 show wpP _ _ (do
  let v <- eval x env
  standAt pos
  let t <- holding [v] (truthy v)
  match BoolOp.Or,t with
  | .And,false | .Or,true=>pure v
  | _,_=>boolOp pos .Or [eval y env]) _ _ _
 exact Zaa (h.step H λa J_1 va s_1 h_1 ra H_1 k_1=>Zaa (Zac (Zaa (Zae (Zap (h_1 s_1 va H_1 ra) (λt s_2 b J_2 k e H_2 k_2=>by
  subst e
  induction t with
  | false=>exact Zad (k.1 rfl s_2 H_2) (λY Y p=>p.tk (k_1.trans k_2)) λY Y e=>e
  | true=>exact Zab ⟨a,J_2,k.2 rfl,ra.mono k_2,H_2,k_1.trans k_2⟩))))))
theorem x_assert{msg:Option Expr}{K:Wj}
  (h:BV C (isTrue test env (eval test env)) J λb J_1=>b=true/\K .next J_1):XV C (exec (.Assert test msg pos) env) J K:=λs H=>by
 rw[arm_exec_Assert]
 exact Zaa (Zac (Zaa (h.step H λb J_1 v s_1 k r H_1 k_1=>by
  obtain⟨rfl,k⟩:=k
  subst r
  exact Zab ⟨.next,J_1,k,.next,H_1,k_1⟩)))
theorem ev_named{xp:Pos}
  (h:EV C (eval value C.env) J λa J_1=>U1 C (storeName C.env x) a J_1 λJ_2=>K a J_2):EV C (eval (.NamedExpr (.Name x xp) value pos) C.env) J K:=λs H=>by
 rw[arm_eval_NamedExpr]
 exact Zaa (h.step H λa J_1 va s_1 h_1 ra H_1 k_1=>Zaa (Zae (by
  rw[arm_assign_Name]
  exact Zaa (Zac (Za2 (Zap (h_1 s_1 va H_1 ra) (λY s_2 Y J_2 k Y H_2 k_2=>Zab ⟨a,J_2,k,ra.mono k_2,H_2,k_1.trans k_2⟩)))))))
noncomputable def V.isNone:V->Bool
 | .none=>true
 | _=>false
theorem Zfp{l:List α}{m:List β}(h:m.length=l.length):m.isEmpty=l.isEmpty:=by
 induction l with
 | nil=>rw[List.eq_nil_of_length_eq_zero h];rfl
 | cons a l=>induction m with
  | nil=>cases h
  | cons b m=>rfl
theorem VR.isNone{a:V}{v:Value}(r:VR h a v):(v==Value.none)=a.isNone:=by
 cases a with
 | int i=>exact r.intK λY e=>e▸rfl
 | str s=>exact r.strK λY e=>e▸rfl
 | bytes b=>exact r.bytesK λY Y e=>e▸rfl
 | tup l=>exact r.tupK λY Y Y Y Y e=>e▸rfl
 | _=>obtain rfl:v=_:=r;rfl
theorem op_is_none{a:V}(k:K (.bool a.isNone) J):OP2 C VR (compareOp .Is) a .none J K:=λs v u H r1 r2=>by
 o_facts r2
 exact .of (is_none_gen (Pst.here H (by rw[r1.isNone];exact .bool _) k))
theorem op_isnot_none{a:V}(k:K (.bool (!a.isNone)) J):OP2 C VR (compareOp .IsNot) a .none J K:=λs v u H r1 r2=>by
 o_facts r2
 exact .of (isnot_none_gen (Pst.here H (by rw[r1.isNone];exact .bool _) k))
theorem op_is_self(k:K (.bool true) J):OP2 C VR (compareOp .Is) (.ref a) (.ref a) J K:=λs v u H r1 r2=>by
 o_facts r1;o_facts r2
 exact .of (wpAny_is_ref_self (Pst.here H (.bool _) k))
theorem op_isnot_self(k:K (.bool false) J):OP2 C VR (compareOp .IsNot) (.ref a) (.ref a) J K:=λs v u H r1 r2=>by
 o_facts r1;o_facts r2
 exact .of (isnot_ref_same (Pst.here H (.bool _) k))
theorem op_isnot_str_ref(k:K (.bool true) J):OP2 C VR (compareOp .IsNot) (.str x) (.ref a) J K:=λs v u H r1 r2=>by
 o_facts r1;o_facts r2
 exact Zab (Pst.here H (.bool _) k)
theorem tr_none{K:Bool->Wl}(k:K false J):TR C .none J K:=λs v H r=>by
 o_facts r
 exact .of (truthy_none (Pst.here (a:=false) H rfl k))
theorem tr_list{K:Bool->Wl}(hl:LkO a (.list l) J.obs)(k:K (!l.isEmpty) J)(hz:l.length<=sizeLine):TR C (.ref a) J K:=λs v H r=>by
 o_facts r
 refine Zbp (H.list hl) λvs n e r=>?_
 have hzz:sizeLine=16777216:=by decide
 have hlen:=r.length
 refine .of (wpAny_truthy_list ⟨_,e,rfl,n,rfl⟩ (by simp[hlen];lia) ?_)
 have:(!vs.toArray.isEmpty)=!l.isEmpty:=by
  rw[<- Zfp r.length];simp
 rw[this]
 exact Pst.hereT (n:=s.toks+1+1) H rfl k
def JV(C:Cx)(out:Str)(parts:List (Sem Value))(J:St)(K:Wk):Prop:=W C VR (joinParts out parts) J K
theorem jv_nil{out:Str}(k:K (.str out) J)(hz:out.length<=sizeLine):JV C out [] J K:=λs H=>.of (joinParts_nil (Pst.hereT H (.str _ _) k) hz)
theorem jv_cons{out:Str}{x:Sem Value}{rest:List (Sem Value)}
  (h:EV C x J λa J_1=>∃ y,a = .str y/\(out++y).length<=sizeLine/\JV C (out++y) rest J_1 K):JV C out (x::rest) J K:=by
 exists (C J K out x rest),h
 intro s H
 rw[joinParts]
 refine Zaa (h.step H ?_)
 rintro a J_1 va s_1 ⟨y,e,hz,hj⟩ ra H_1 k_1
 subst e
 o_facts ra
 have hz':¬ (out.length+y.length > sizeLine):=by rw[<- strLen_append];exact Nat.not_lt.mpr hz
 refine Zaa (Zab ?_)
 show wpP _ _ (if out.length+y.length > sizeLine then _ else _) _ _ s_1
 rw[if_neg hz']
 first
  | exact Zad (hj s_1 H_1) (λY Y p=>p.tk k_1) λY Y e=>e
  | exact Zaa (Zab (Zad (hj s_1 H_1) (λY Y p=>p.tk k_1) λY Y e=>e))
theorem ev_joined{v_1 v_2:Expr}{rest:List Expr}(h:JV C Str.empty (eval v_1 env::eval v_2 env::evalEach rest env) J K):EV C (eval (.JoinedStr (v_1::v_2::rest) pos) env) J K:=h
theorem ev_formatted
  (h:EV C (eval value env) J λa J_1=>∃ x,a = .str x/\x.length<=sizeLine/\K (.str x) J_1):EV C (eval (.FormattedValue value (-1) none pos) env) J K:=λs H=>by
 show wpP _ _ (do let v <- eval value env;standAt pos;formatted pos (<- holding [v] (converted (-1) v)) none) _ _ _
 refine Zaa (h.step H ?_)
 rintro a J_1 va s_1 ⟨x,e,hz,k⟩ ra H_1 k_1
 refine Zaa (Zac ?_)
 subst e
 o_facts ra
 show wpP _ _ (do let v' <- holding [_] (pure _);formatField v' Str.empty) _ _ s_1
 exact Zaa (Zae (Zab (.of (formatField_str (λt' tk=>⟨_,_,k,.str _ _,H_1.toks tk,k_1⟩) hz))))
theorem Holds.set2(H:Holds C J s){b:Addr}{o o' p p':AO}{l_1 l_2:Wg}(u:UpO a o o' J.obs l_1)(u2:UpO b p p' l_1 l_2)(hab:a≠b)(lb:LkO b p J.obs)
  (k:∀ c ob,c≠a->c≠b->s.heap.get? c=some ob->h'.get? c=some ob) {Oa Ob:Obj} (ea:h'.get? a=some Oa) (ra:OR h' o' Oa) (eb:h'.get? b=some Ob) (rb:OR h' p' Ob) (n:Nat) :
  Holds C ⟨J.loc,l_2⟩ { s with heap:=h',toks:=n }/\TK s.heap h':=by
 refine Zaj (H.loc) λm hN hm=>?_
 refine Zaj (H.obj u.lk) λOa0 ea0 ra0=>?_
 refine Zaj (H.obj lb) λOb0 eb0 rb0=>?_
 have tk:TK s.heap h':=λc vs n e=>by
  refine k c _ (λq=>?_) (λq=>?_) e
  .subst q;rw[ea0] at e;exact ra0.noTup vs n (Qv e)
  .subst q;rw[eb0] at e;exact rb0.noTup vs n (Qv e)
 have na:C.env.locals≠a:=λq=>(Qc H.nd).1 (q▸Qe ⟨_,u.lk.mem,rfl⟩)
 have nb:C.env.locals≠b:=λq=>(Qc H.nd).1 (q▸Qe ⟨_,lb.mem,rfl⟩)
 have nfz:∀ c o x,C.fz c=some x->(c,o)∈J.obs->False:=λc o x e hm=>by
  have:=H.ap c (.tail _ (Qe ⟨_,hm,rfl⟩))
  rw[e] at this;cases this
 have keys:l_2.map (·.1)=J.obs.map (·.1):=by rw[u2.keys,u.keys]
 have nd1:(l_1.map (·.1)).Nodup:=by rw[u.keys];exact(Qc H.nd).2
 refine⟨⟨λc ob e=>k c ob (λq=>nfz c _ _ e (q▸u.lk.mem)) (λq=>nfz c _ _ e (q▸lb.mem)) (H.frz c ob e),⟨m,?_,λx v hx=>?_⟩,λq hq=>?_,?_,?_,H.nn,H.gens,H.drawn,H.os⟩,tk⟩
 .obtain⟨o,es,ep,e1,e2⟩:=hN
  exact⟨o,es,ep,k _ _ na nb e1,e2⟩
 .obtain⟨val,e1,r1⟩:=hm x v hx
  exact⟨val,e1,r1.mono tk⟩
 .rcases u2.mem nd1 q hq with e|⟨hne,hq1⟩
  .subst e;exact⟨_,eb,rb⟩
  .rcases u.mem (Qc H.nd).2 q hq1 with e|⟨hna,hq0⟩
   .subst e;exact⟨_,ea,ra⟩
   .refine Zaj (H.obs q hq0) λO1 e1 r1=>?_
    exact⟨O1,k _ _ hna hne e1,r1.mono tk⟩
 .show(C.env.locals::l_2.map (·.1)).Nodup
  rw[keys];exact H.nd
 .show ∀ b∈C.env.locals::l_2.map (·.1),C.fz b=none
  rw[keys];exact H.ap
theorem Holds.more(E:Holds C J s){o:AO}{O:Obj}(e:s.heap.get? a=some O)(r:OR s.heap o O)(h2:C.env.locals≠a)(h3:a ∉ J.obs.map (·.1))(h4:C.fz a=none):Holds C ⟨J.loc,(a,o)::J.obs⟩ s:=by
 refine⟨E.frz,E.loc,λp hp=>?_,?_,λb hb=>?_,E.nn,E.gens,E.drawn,E.os⟩
 .rcases Qb hp with q|q
  .subst q;exact⟨O,e,r⟩
  .exact E.obs p q
 .have h1:=E.nd
  rw[List.nodup_cons] at h1 ⊢
  refine⟨λhm=>?_,?_⟩
  .rcases Qb hm with q|q
   .exact h2 q
   .exact h1.1 q
  .exact Qd ⟨h3,h1.2⟩
 .rcases Qb hb with q|q
  .exact E.ap b (q ▸ .head _)
  .rcases Qb q with z|z
   .exact z▸h4
   .exact E.ap b (.tail _ z)
noncomputable def oEnum(it:Addr)(i:Nat):Ob where
 P _ o:=∃ old,o={ cls:=.type "enumerate",dict:=none,data:=.fields #[.none,.bool false,.ref it,rawInt i,.none,old],slots:=#[] }
 mono _ _ _ _ h:=h
 noTup _ _ h vs n e:=by obtain⟨old,rfl⟩:=h;simp[Zbk] at e
noncomputable abbrev AO.enum(it:Addr)(i:Nat):AO:=.own (oEnum it i)
theorem cf_enum (hl:LkO a (.list l) J.obs) (k:∀ e it,K (.ref e) ⟨J.loc,(e,.enum it 0)::(it,.liter a 0)::J.obs⟩):CF C (.ty "enumerate") [.ref a] J K:=λs fv vs H rf rl=>by
 o_facts rf
 revert rl
 intro rl0
 refine VRs.consK rl0 λY Y r rl e0=>?_
 subst e0
 o_facts rl
 o_facts r
 refine Zbp (H.list hl) λvs n e r=>?_
 refine .of (call_enumerate_list ⟨_,e,rfl,n,rfl⟩ λh' he hit hsz kp=>?_)
 obtain⟨o,ho,hc,hd⟩:=hit
 have H1:=H.alloc (o:=.liter a 0) kp (Qw _) ho (.liter hc hd) s.toks
 have H2:=H1.more (a:=s.heap.objs.size+1) (o:=.enum s.heap.objs.size 0) he (.own ⟨_,rfl⟩) (λq=>by
  have h1:@LT.lt Nat _ C.env.locals s.heap.objs.size:=H.locLt
  have h2:@Eq Nat C.env.locals (s.heap.objs.size+1):=q
  lia) (λhm=>by
  obtain⟨p,hp,q⟩:=Qf hm
  rcases Qb hp with z|z
  .subst z
   have q':@Eq Nat s.heap.objs.size (s.heap.objs.size+1):=q
   lia
  .have h1:@LT.lt Nat _ p.1 s.heap.objs.size:=H.ltOf z
   have q':@Eq Nat p.1 (s.heap.objs.size+1):=q
   lia) (by
  cases z:C.fz (s.heap.objs.size+1) with
  | none=>rfl
  | some o=>
   have:@LT.lt Nat _ (s.heap.objs.size+1) s.heap.objs.size:=H.fzLt z
   lia)
 exact⟨_,_,k _ _,.ref _,H2,.of_ext kp⟩
structure Its2(C:Cx)(target:Expr)(it it2:Addr)(o o2:Nat->AO)(n:Nat)(x:Nat->V)(need:Wg->Prop):Prop where
 turn:∀ k loc obs,k<n->need obs->NL C target (.ref it) ⟨loc,(it,o k)::(it2,o2 k)::obs⟩ (λv J'=>v=x k/\J'=⟨loc,(it,o (k+1))::(it2,o2 (k+1))::obs⟩) (λ_=>False)
 stop:∀ loc obs,need obs->NL C target (.ref it) ⟨loc,(it,o n)::(it2,o2 n)::obs⟩ (λ_ _=>False) (λJ'=>J'=⟨loc,obs⟩)
theorem Zs4{elts:List Expr}{kt:Nat}{tp:Pos}{e it a:Addr}{l:List V}(hh:C.A.handled=none):Its2 C (.Tuple elts kt tp) e it (λk=>.enum it k) (λk=>.liter a k) l.length (λk=>.tup [.int k,l.getD k .none]) (λobs=>LkO a (.list l) obs) where
 turn k loc obs hk hl s E H:=by
  exists (C elts kt tp e it a l k loc obs s E),hh,hk,hl,H
  refine Zbp (H.list (.tail (.tail hl))) λvs n e0 r=>?_
  refine Zaj (H.obj (.tail .head)) λO eo ro=>?_
  refine Zaj (H.obj .head) λO2 eo2 ro2=>?_
  have hne:e≠it:=λq=>by
   have:=(Qc (Qc H.nd).2).1
   exact this (q ▸ .head _)
  refine And.elim (λc d=>?_) (OR.literE ro)
  have p:=OR.ownE ro2
  obtain⟨old,rfl⟩:=p
  refine Zaj (r.get k (a:=l.getD k .none) (by simp[Qu hk])) λv hv rv=>?_
  refine .of (wpAny_pyNext_enum_item (i:=k) eo2 ⟨O,eo,c,d⟩ ⟨_,e0,rfl,n,rfl⟩ (by simpa using hv) hne λh' he hit ht hsz kp=>?_)
  refine .of (wpAny_letOwnedTupleGo_enum he λh2 he2 hs2=>?_)
  obtain⟨o3,ho3,hc3,hd3⟩:=hit
  have kp2:∀ b o,b≠e->b≠it->s.heap.get? b=some o->h2.get? b=some o:=λb o h1 h3 hb=>hs2.extBut b o h1 (kp b o h1 h3 hb)
  have ho4:=hs2.extBut _ _ (Ne.symm hne) ho3
  obtain⟨H',tk⟩:=H.set2 (o':=.enum it (k+1)) (p':=.liter a (k+1)) .head (.tail .head) hne (.tail .head) kp2 he2 (.own ⟨v,rfl⟩) ho4 (.liter hc3 hd3) (s.toks+1)
  refine⟨_,_,⟨rfl,rfl⟩,?_,H',tk⟩
  have lt:e<s.heap.objs.size:=Qz eo2
  exact .tup (hs2.extBut _ _ (Nat.ne_of_gt lt) ht) (.cons (.int _ _) (.cons (rv.mono tk) .nil))
 stop loc obs hl s E H:=by
  refine Zbp (H.list (.tail (.tail hl))) λvs n e0 r=>?_
  refine Zaj (H.obj (.tail .head)) λO eo ro=>?_
  refine Zaj (H.obj .head) λO2 eo2 ro2=>?_
  refine And.elim (λc d=>?_) (OR.literE ro)
  have p:=OR.ownE ro2
  obtain⟨old,rfl⟩:=p
  refine .of (wpAny_pyNext_enum_end hh eo2 ⟨O,eo,c,d⟩ ⟨_,e0,rfl,n,rfl⟩ (by simp[r.length]) λh' hx=>?_)
  refine And.elim (λH' tk=>?_) (H.dropExt (.tail .head) hx s.toks)
  exact⟨_,rfl,H'.drop .head,tk⟩
theorem Zbq(h:LkO it (.liter a i) J.obs):Zj9 C (.ref it) J:=λs E Q H q=>by
 refine Zaj (H.obj h) λO eo ro=>?_
 refine And.elim (λc d=>?_) (OR.literE ro)
 exact .of (wpAny_pyIter_listiter ⟨O,eo,c,d⟩ q)
theorem Zro(h:LkO it (.titer l i) J.obs):Zj9 C (.ref it) J:=λs E Q H q=>by
 refine Zaj (H.obj h) λO eo ro=>?_
 refine OR.titerK ro λY Y Y c d Y Y=>?_
 exact .of (wpAny_pyIter_tupleiter ⟨O,eo,c,d⟩ q)
theorem Zff{x l st:Int}(h:LkO it (.riter x l st) J.obs):Zj9 C (.ref it) J:=λs E Q H q=>by
 refine Zaj (H.obj h) λO eo ro=>?_
 obtain rfl:=OR.riterE ro
 exact .of (wpAny_pyIter_rangeiter eo q)
theorem Zhm{j:Addr}(h:LkO it (.enum j i) J.obs):Zj9 C (.ref it) J:=λs E Q H q=>by
 refine Zaj (H.obj h) λO eo ro=>?_
 have p:=OR.ownE ro
 obtain⟨old,rfl⟩:=p
 exact .of (wpAny_pyIter_enum (i:=i) eo q)
theorem it_enum{e j:Addr}{K:Value->Wl}(h:LkO e (.enum j i) J.obs)(k:K (.ref e) J):IT C (.ref e) J K:=λva s H r=>by
 o_facts r
 exact Zhm h s _ _ H ⟨_,k,H,.refl _⟩
theorem type_str_find:typeOf (.builtin "str.find")=pure (.type "method_descriptor"):=by show builtinType _=_;rw[builtinType_eq_fast];kernel_rfl
theorem getD_some{l:List α}{d:α}(h:i<l.length):l[i]?=some (l.getD i d):=by simp[List.getD,Qu h]
theorem Za9{f:α->β}{l:List α}{d:α}{e:β}(h:i<l.length):(l.map f).getD i e=f (l.getD i d):=by simp[List.getD,Qu h]
noncomputable def Zze(C:Cx)(scope:Scope)(clo:List (Str×Addr)):Bool:=
 scope.names.all λx=>match x.2 with
  | .local=>match (Zai C scope clo 0).kindOf x.1 with
   | some .local=>true
   | _=>false
  | .cell=>false
  | _=>true
theorem Zh5(h:Zze C scope clo=true):∀ x∈scope.names,x.2 ≠ .cell:=λx hx e=>by
 have:=List.all_eq_true.mp h x hx
 rw[e] at this;cases this
theorem Zf1(h:Zze C scope clo=true):∀ x∈scope.names,x.2 = .local->(Zai C scope clo 0).kindOf x.1=some .local:=λx hx e=>by
 have:=List.all_eq_true.mp h x hx
 rw[e] at this
 simp only at this
 split at this
 .assumption
 .cases this
theorem Zry{ifs:List Expr}(ln:List Str)(clo:List (Str×Addr))(hE:∀ e s,¬ C.E e s)
  (h:EV C (eval iter C.env) J λa J_1=>IT C a J_1 λit J_2=>∀ (L acc:Addr) (I:In2 C),Zj9 (I.cx (Zai C scope clo L) C.eg C.eb) it ⟨ln.map (·,none),(acc,.list [])::J_2.obs⟩ /\
   CLP (I.cx (Zai C scope clo L) C.eg C.eb) (.ListComp elt [⟨target,iter,ifs,0⟩] scope pos) it (.ref acc) ⟨ln.map (·,none),(acc,.list [])::J_2.obs⟩ λJ'=>K (.ref acc) ⟨J_2.loc,J'.obs⟩)
  (hclo:closureFor scope C.env=pure clo) (hs:∀ x,foldedSetIterable iter C.env x=pure x) (hk:scope.kind = .function) (hok:Zze C scope clo=true) (hln:ln.Nodup) :
  EV C (eval (.ListComp elt [⟨target,iter,ifs,0⟩] scope pos) C.env) J K:=Zy0 ln hE hclo hs hk (Zh5 hok) (Zf1 hok) hln h
theorem Zbu{xp:Pos}{apos:Pos}{ifs:List Expr}{K:Wj}(ln:List Str)(clo:List (Str×Addr))(hE:∀ e s,¬ C.E e s)
  (h:EV C (eval iter C.env) J λa J_1=>IT C a J_1 λit J_2=>∀ (L acc:Addr) (I:In2 C),Zj9 (I.cx (Zai C scope clo L) C.eg C.eb) it ⟨ln.map (·,none),(acc,.list [])::J_2.obs⟩ /\
   CLP (I.cx (Zai C scope clo L) C.eg C.eb) (.ListComp elt [⟨target,iter,ifs,0⟩] scope pos) it (.ref acc) ⟨ln.map (·,none),(acc,.list [])::J_2.obs⟩ λJ'=>
    U1 C (storeName C.env x) (.ref acc) ⟨J_2.loc,(L,.own oNs)::J'.obs⟩ λJ_3=>∃ obs3,Pick (L,.own oNs) J_3.obs obs3/\K .next ⟨J_3.loc,obs3⟩)
  (hsw:swapsWith (.ListComp elt [⟨target,iter,ifs,0⟩] scope pos) (some (.Name x xp)) apos.line C.env=pure true)
  (hclo:closureFor scope C.env=pure clo) (hs:∀ x,foldedSetIterable iter C.env x=pure x) (hk:scope.kind = .function) (hok:Zze C scope clo=true) (hln:ln.Nodup) :
  XV C (exec (.Assign [.Name x xp] (.ListComp elt [⟨target,iter,ifs,0⟩] scope pos) apos) C.env) J K:=Zgv ln hE hsw hclo hs hk (Zh5 hok) (Zf1 hok) hln h
theorem Znz{Q:V->Prop}(g:Good C.A n)(F:Fn C.G (.ref f) n args [] λr o=>Q r/\o=[])(k:∀ r,Q r->K r J):CF C (.ref f) args J K:=
 Zx4 g F .nil (by rintro r o ⟨h,e⟩;subst e;exact k r h)
theorem Zx6{e1 e2:Expr}{a b:V}{K:Wl}(hh:C.A.handled=none)(h:U1 C (assign e1 C.env) a J λJ_1=>U1 C (assign e2 C.env) b J_1 K)
  (he:assignEach [e1,e2] C.env=[(false,assign e1 C.env),(false,assign e2 C.env)]):U1 C (assign (.Tuple [e1,e2] k p) C.env) (.tup [a,b]) J K:=by
 refine Zgs hh ?_ (by rw[he];rfl) (by rw[he];rfl)
 rw[he]
 exact aio_cons (OP1.mono h λY J_2 k_2=>aio_cons (OP1.mono k_2 λY J_3 k_3=>aio_nil k_3))
theorem Zxi{e1 e2 e3:Expr}{a b c:V}{K:Wl}(hh:C.A.handled=none)(h:U1 C (assign e1 C.env) a J λJ_1=>U1 C (assign e2 C.env) b J_1 λJ_2=>U1 C (assign e3 C.env) c J_2 K)
  (he:assignEach [e1,e2,e3] C.env=[(false,assign e1 C.env),(false,assign e2 C.env),(false,assign e3 C.env)]):U1 C (assign (.Tuple [e1,e2,e3] k p) C.env) (.tup [a,b,c]) J K:=by
 refine Zgs hh ?_ (by rw[he];rfl) (by rw[he];rfl)
 rw[he]
 exact aio_cons (OP1.mono h λY J_2 k_2=>aio_cons (OP1.mono k_2 λY J_3 k_3=>aio_cons (OP1.mono k_3 λY J_3 k_3=>aio_nil k_3)))
theorem Zgq(f:α->β)(l:List α)(lo hi:Option Int):slc (l.map f) lo hi=(slc l lo hi).map f:=by
 unfold slc;simp[List.map_take,List.map_drop]
theorem Zn7{acc:Addr}{a left step:Int}{K:Wl}(t:Tgt target)(hE:∀ e s,¬ C.E e s)(hh:C.A.handled=none)(n:Nat)
  (y:Nat->V) (I:Nat->Wm->Wg->Prop)
  (p:Sel J.obs [(it,.riter a left step),(acc,.list [])] obs) (hl:left=n) (hz:n<=sizeLine) (h0:I 0 J.loc obs)
  (hs:∀ k loc obs O l,k<n->I k loc obs->U1 C (assign target C.env) (.int (a+k * step)) ⟨loc,(it,O)::(acc,.list l)::obs⟩ λJ_3=>
   EV C (eval elt C.env) J_3 λv J_4=>v=y k/\∃ obs',Sel J_4.obs [(it,O),(acc,.list l)] obs'/\I (k+1) J_4.loc obs')
  (hf:∀ loc obs,I n loc obs->K ⟨loc,(acc,.list ((List.range n).map y))::obs⟩):CLP C (.ListComp elt [⟨target,iter,[],0⟩] scope pos) (.ref it) (.ref acc) J K:=
 Zcg hE hz (Ziv (n:=n) (a:=a) (step:=step) t hh) y I (by subst hl;simpa using p) h0 (λY Y Y Y=>trivial) (λY Y Y=>trivial) hs hf
theorem cf_isi_str (k:K (.bool true) J):CF C (.bi "isinstance") [.str x,.ty "str"] J K:=λs fv vs H rf rl=>by
 o_facts rf
 revert rl
 intro rl0
 refine VRs.consK rl0 λY Y r rl e0=>?_
 subst e0
 revert rl
 intro rl0
 refine VRs.consK rl0 λY Y r2 rl e0=>?_
 subst e0
 o_facts rl
 o_facts r2
 o_facts r
 exact .of (call_isinstance (isinstance_true (Tx := "str") F.isi_meta_str F.sub_str_str) ⟨rfl,Pst.here H (.bool _) k⟩)
theorem bv_call{f:Expr}{args:List Expr}{kw:List Keyword}{t:Sem Value}{K:Bool->Wl}(h:EV C t J λa J_1=>TR C a J_1 K):BV C (isTrue (.Call f args kw pos) env t) J K:=Zd3 h (by rfl)
theorem bv_name{t:Sem Value}{K:Bool->Wl}(h:EV C t J λa J_1=>TR C a J_1 K):BV C (isTrue (.Name x pos) env t) J K:=Zd3 h (by rfl)
theorem bv_const{c:Const}{t:Sem Value}{K:Bool->Wl}(h:EV C t J λa J_1=>TR C a J_1 K):BV C (isTrue (.Constant c k pos) env t) J K:=Zd3 h (by rfl)
theorem Zxy(l:List α)(j:Nat)(h:j<=l.length):slc l (some (j:Int)) none=l.drop j:=Zrh l j h
noncomputable def oInst(C dx:Addr):Ob where
 P _ o:=o=instObj C dx
 mono _ _ _ _ h:=h
 noTup _ _ h vs n e:=by subst h;simp[Zbk] at e
noncomputable abbrev AO.inst(C dx:Addr):AO:=.own (oInst C dx)
def ORl(h:Heap)(l:List (Option V))(vs:List (Option Value)):Prop:=F2 (ORes h) l vs
theorem ORl.nil:ORl h [] []:=rfl
theorem ORl.mono(k:TK h h'){l:List (Option V)}{vs:List (Option Value)}(r:ORl h l vs):ORl h' l vs:=F2.mono r λY Y=>ORes.mono k
theorem ORl.length{l:List (Option V)}{vs:List (Option Value)}(r:ORl h l vs):vs.length=l.length:=F2.length r
theorem ORl.get{l:List (Option V)}{vs:List (Option Value)}{a:V}(r:ORl h l vs)(e:l[i]?=some (some a)):∃ v,vs[i]?=some (some v)/\VR h a v:=by
 obtain⟨b,e2,q⟩:=F2.get i r e
 induction b with
 | none=>exact q.elim
 | some v=>exact⟨v,e2,q⟩
theorem ORl.set{a:V}{v:Value}(x:VR h a v){l:List (Option V)}{vs:List (Option Value)}(i:Nat)(r:ORl h l vs):ORl h (l.set i (some a)) (vs.set i (some v)):=F2.set (R:=ORes h) (a:=some a) (b:=some v) x i r
theorem ORl.pad{l:List (Option V)}{vs:List (Option Value)}(n:Nat)(r:ORl h l vs):ORl h (l++List.replicate n none) (vs++List.replicate n none):=by
 refine F2.append r ?_
 induction n with
 | zero=>exact rfl
 | succ n ih=>exact .cons (R:=ORes h) trivial ih
noncomputable def Z15(C dx:Addr)(l:List (Option V)):Ob where
 P h o:=∃ ws:List (Option Value),o={ instObj C dx with slots:=ws.toArray }/\ORl h l ws
 mono _ _ _ k h:=(by obtain⟨ws,e,r⟩:=h;exact⟨ws,e,r.mono k⟩)
 noTup _ _ h vs n e:=by obtain⟨ws,rfl,r⟩:=h;simp[Zbk] at e
noncomputable abbrev AO.slots(C dx:Addr)(l:List (Option V)):AO:=.own (Z15 C dx l)
def AtR(h:Heap)(l:Wn)(es:List DictEntry):Prop:=F2 (λx e=>(∃ t,e.key = .str x.1 t)/\VR h x.2 e.val) l es
theorem AtR.nil:AtR h [] []:=rfl
theorem AtR.cons{a:V}{e:DictEntry}{l:Wn}(k:e.key = .str x t)(r:VR h a e.val)(rest:AtR h l es):AtR h ((x,a)::l) (e::es):=F2.cons ⟨⟨t,k⟩,r⟩ rest
theorem AtR.mono(k:TK h h'){l:Wn}(r:AtR h l es):AtR h' l es:=F2.mono r λY Y q=>⟨q.1,q.2.mono k⟩
theorem AtR.length{l:Wn}(r:AtR h l es):es.length=l.length:=F2.length r
theorem Zh3{e:DictEntry}(k:e.key = .str x t):e.key.isStr y=(x==y):=by rw[k];rfl
noncomputable def Zne(x:Str)(a:V):Wn->Wn
 | []=>[(x,a)]
 | (y,b)::l=>if y==x then (y,a)::l else (y,b)::Zne x a l
theorem AtR.find(x:Str){l:Wn}(R:AtR h l es):match l.lookup x with
  | some a=>∃ e,es.find? (·.key.isStr x)=some e/\VR h a e.val
  | none=>es.find? (·.key.isStr x)=none:=by
 refine F2.ind (P:=λl es=>match l.lookup x with
  | some a=>∃ e,es.find? (·.key.isStr x)=some e/\VR h a e.val
  | none=>es.find? (·.key.isStr x)=none) R rfl λp e l es k rest ih=>?_
 .obtain⟨y,b⟩:=p
  obtain⟨⟨t,k⟩,r⟩:=k
  rw[List.lookup_cons,List.find?_cons,Zh3 k]
  by_cases hx:y=x
  .subst hx
   simp only[beq_self_eq_true]
   exact⟨e,rfl,r⟩
  .rw[beq_false_of_ne hx,beq_false_of_ne (Ne.symm hx)]
   exact ih
theorem AtR.noRef{l:Wn}(R:AtR h l es):es.any (·.refKey)=false:=by
 refine F2.ind (P:=λY es=>es.any (·.refKey)=false) R rfl λp e l es k rest ih=>?_
 obtain⟨t,k⟩:=k.1
 rw[List.any_cons,ih,Bool.or_false]
 unfold DictEntry.refKey
 rw[k]
theorem AtR.put{a:V}{v:Value}{hs:Int}(ra:VR h a v){l:Wn}(R:AtR h l es):match es.findIdx? (·.key.isStr x) with
  | some i=>AtR h (Zne x a l) (es.modify i λe=>{ e with val:=v })
  | none=>AtR h (Zne x a l) (es++[⟨hs,.str x t,v⟩]):=by
 refine F2.ind (P:=λl es=>match es.findIdx? (·.key.isStr x) with
  | some i=>AtR h (Zne x a l) (es.modify i λe=>{ e with val:=v })
  | none=>AtR h (Zne x a l) (es++[⟨hs,.str x t,v⟩])) R (AtR.cons rfl ra .nil) λp e l es k rest ih=>?_
 .obtain⟨y,b⟩:=p
  obtain⟨⟨t',k⟩,r⟩:=k
  rw[List.findIdx?_cons,Zh3 k]
  unfold Zne
  cases hx:y==x with
  | true=>
   simp -iota only[if_true]
   exact AtR.cons k ra rest
  | false=>
   simp -iota only[Bool.false_eq_true,if_false]
   cases hi:es.findIdx? (·.key.isStr x) with
   | some i=>
    rw[hi] at ih
    exact AtR.cons k r ih
   | none=>
    rw[hi] at ih
    exact AtR.cons k r ih
noncomputable def Z4e(l:Wn):Ob where
 P h o:=∃ (es:List DictEntry) (n:Nat),o={ cls:=.type "dict",data:=.dict es.toArray n }/\AtR h l es
 mono _ _ _ k h:=(by obtain⟨es,n,e,r⟩:=h;exact⟨es,n,e,r.mono k⟩)
 noTup _ _ h vs n e:=by obtain⟨es,n',rfl,r⟩:=h;simp[Zbk] at e
noncomputable abbrev AO.attrs(l:Wn):AO:=.own (Z4e l)
theorem Zc5{l:Wn}{n:Nat}(r:AtR h l es):match l.lookup x with
  | some a=>∃ v,lookIn x { cls:=.type "dict",data:=.dict es.toArray n }=some (some v)/\VR h a v
  | none=>lookIn x { cls:=.type "dict",data:=.dict es.toArray n }=some none:=by
 exists (h x es l n),r
 have f:=r.find x
 have nr:=r.noRef
 unfold lookIn
 cases hl:l.lookup x with
 | some a=>
  rw[hl] at f
  obtain⟨e,h1,h2⟩:=f
  exact⟨e.val,by simp only[h1],h2⟩
 | none=>
  rw[hl] at f
  simp only[f,nr,Bool.false_eq_true,if_false]
noncomputable def Zcd(K:Frag)(Cl:Addr):Bool:=findIn K (.ref Cl) "__getattribute__" == some (some (.builtin "object.__getattribute__"))&&findIn K (.ref Cl) "__getattr__" == some none
noncomputable def Zf7(K:Frag)(Cl:Addr)(name:Str):Bool:=Zcd K Cl&&(clsIn K Cl).any (·.hasDict)&&findIn K (.ref Cl) name==some none
noncomputable def Ziy(K:Frag)(Cl:Addr)(name:Str)(f:Addr):Bool:=Zcd K Cl&&findIn K (.ref Cl) name==some (some (.ref f))&&typeIn K (.ref f)==some (.type "function")
theorem Holds.inst(H:Holds C J s){x Cl:Addr}{l:Wn}(hx:LkO x (.inst Cl dx) J.obs)(hd:LkO dx (.attrs l) J.obs):∃ es n,AtR s.heap l es/\s.heap.get? dx=some { cls:=.type "dict",data:=.dict es.toArray n } /\
  InstAt s.heap x (instObj Cl dx) Cl (some { cls:=.type "dict",data:=.dict es.toArray n }):=by
 exists (C J s dx x Cl l),H,hx,hd
 refine Zaj (H.obj hx) λO e r=>?_
 refine Zaj (H.obj hd) λO2 e2 r2=>?_
 have p:=OR.ownE r
 have p':O=instObj Cl dx:=p
 subst p'
 have p2:=OR.ownE r2
 obtain⟨es,n,rfl,ra⟩:=p2
 exact⟨es,n,ra,e2,e,rfl,rfl,e2⟩
theorem VR.handed{a:V}{v:Value}(r:VR h a v)(hb:∀ n,a ≠ .bi n):handedIn v=true:=by
 cases a with
 | int i=>exact r.intK λY e=>e▸rfl
 | str s=>exact r.strK λY e=>e▸rfl
 | bytes b=>exact r.bytesK λY Y e=>e▸rfl
 | tup l=>exact r.tupK λY Y Y Y Y e=>e▸rfl
 | bi n=>exact absurd rfl (hb n)
 | _=>obtain rfl:v=_:=r;rfl
abbrev GA(C:Cx)(name:Str)(a:V)(J:St)(K:Wk):Prop:=OP1 C VR (λv=>getAttr v name true) a J K
abbrev SA(C:Cx)(name:Str)(a b:V)(J:St)(K:Wl):Prop:=OP2 C (λ_ (_:Unit) _=>True) (λo v=>setAttr o name v) a b J λY J=>K J
theorem Z3g{x Cl:Addr}{l:Wn}{name:Str}{a:V}(hx:LkO x (.inst Cl dx) J.obs)(hd:LkO dx (.attrs l) J.obs)(k:K a J)(hs:Zf7 C.G.K Cl name=true)(hl:l.lookup name=some a)(hb:∀ n,a ≠ .bi n):GA C name (.ref x) J K:=λs v H r=>by
 o_facts r
 obtain⟨es,n,ra,ed,I⟩:=H.inst hx hd
 simp only[Zf7,Zcd,Qt,beq_iff_eq] at hs
 obtain⟨⟨⟨h1,h2⟩,h3⟩,h4⟩:=hs
 have lk:=Zc5 (n:=n) (x:=name) ra
 rw[hl] at lk
 obtain⟨v,hv,rv⟩:=lk
 obtain⟨cd,hcd,hh⟩:=any_some h3
 have hf:findObj C.G.K Cl (some { cls:=.type "dict",data:=.dict es.toArray n }) name=some (.value v):=by
  have ho:W.ownOf cd (some { cls:=.type "dict",data:=.dict es.toArray n }) name=some (some v):=by
   unfold W.ownOf
   simp only[hh,if_true,hv,Option.bind_some]
  unfold findObj
  rw[hcd]
  show((findIn C.G.K (.ref Cl) name).bind _)=_
  rw[h4]
  show((W.ownOf cd _ name).bind _)=_
  rw[ho];rfl
 refine .of (get_value H.inK I h1 hf (rv.handed hb) (Pst.hereT H rv k))
theorem Ztl{x Cl:Addr}{l:Wn}{name:Str}{K:V->List V->Wl}(f:Addr)(hx:LkO x (.inst Cl dx) J.obs)(hd:LkO dx (.attrs l) J.obs)(k:K (.ref f) [.ref x] J)(hs:Ziy C.G.K Cl name f=true)(hl:l.lookup name=none):GM C (.ref x) name J K:=λs v pl H r=>by
 o_facts r
 obtain⟨es,n,ra,ed,I⟩:=H.inst hx hd
 simp only[Ziy,Zcd,Qt,beq_iff_eq] at hs
 obtain⟨⟨⟨h1,h2⟩,h3⟩,h4⟩:=hs
 have lk:lookIn name { cls:=.type "dict",data:=.dict es.toArray n }=some none:=by
  have z:=Zc5 (n:=n) (x:=name) ra
  rw[hl] at z
  exact z
 exact .of (method_fn H.inK I h1 h2 h3 h4 (by show Option.map (λx=>x.isSome) (lookIn name _)=_;rw[lk];rfl) ⟨_,_,_,k,.ref _,.cons (.ref _) .nil,H,.refl _⟩)
theorem ev_attr{o:Expr}{name:Str}(h:EV C (eval o env) J λa J_1=>GA C name a J_1 K)(hb:attributeBase o name env (eval o env)=eval o env):EV C (eval (.Attribute o name pos) env) J K:=λs H=>by
 rw[arm_eval_Attribute,hb]
 exact Zaa (h.step H λa J_1 v s_1 k r H_1 t=>Zaa (Zac (Zaa (Zae (Zad (k s_1 v H_1 r) (λw s_2 p=>Zaa (Zbj (Zab (p.tk t)))) λY Y e=>e)))))
theorem as_attr{o:Expr}{name:Str}{a:V}{K:Wl}(h:EV C (eval o C.env) J λb J_1=>SA C name b a J_1 K):U1 C (assign (.Attribute o name pos) C.env) a J K:=λs v H r=>by
 rw[arm_assign_Attribute]
 exact Zaa (Zae (h.step H λb J_1 w s_1 k rw H_1 t=>Zaa (Zac (Zaa (Zae (Zad (k s_1 w v H_1 rw (r.mono t)) (λY s_2 p=>Zba (p.tk t)) λY Y e=>e))))))
theorem x_assign_attr{o:Expr}{name:Str}{K:Wj}(h:EV C (eval value C.env) J λa J_1=>U1 C (assign (.Attribute o name pos') C.env) a J_1 λJ=>K .next J)
  (hs:swapsWith value (some (.Attribute o name pos')) pos.line C.env=pure false):XV C (exec (.Assign [.Attribute o name pos'] value pos) C.env) J K:=λs H=>by
 rw[plainObj_exec_Assign_Attribute o name pos' value pos hs]
 exact Zaa (Zac (Zaa (h.step H λa J_1 v s_1 k r H_1 t=>Zaa (Zap (k s_1 v H_1 r) (λY s_2 Y J_2 k_2 Y H_2 t_2=>Zab ⟨.next,J_2,k_2,.next,H_2,t.trans t_2⟩)))))
theorem x_aug_attr{o:Expr}{name:Str}{tpos pos:Pos}{op:Operator}{value:Expr}{K:Wj}
  (h:EV C (eval o C.env) J λb J_1=>GA C name b J_1 λa J_2=>EV C (eval value C.env) J_2 λc J_3=>OP2 C VR (inplaceOp op) a c J_3 λd J_4=>SA C name b d J_4 λJ=>K .next J) :
  XV C (exec (.AugAssign (.Attribute o name tpos) op value pos) C.env) J K:=by
 exists (C J o name tpos pos op value K),h
 intro s H
 rw[arm_exec_AugAssign_2]
 refine Zaa (Zac (Zaa (h.step H λb J_1 vb s_1 k_1 r_1 H_1 t_1=>Zaa (Zae (Zaa (Zac (Zaa ?_)))))))
 refine Zap (k_1 s_1 vb H_1 r_1) (λva s_2 a J_2 k_2 r_2 H_2 t_2=>?_)
 refine Zaa (Zae (k_2.step H_2 λc J_3 vc s_3 k_3 r_3 H_3 t_3=>Zaa (Zac (Zas ?_))))
 refine Zap (k_3 s_3 va vc H_3 (r_2.mono t_3) r_3) (λvd s_4 d J_4 k_4 r_4 H_4 t4=>?_)
 refine Zaa (Zac (Zaa (Zae ?_)))
 refine Zap (k_4 s_4 vb vd H_4 (r_1.mono ((t_2.trans t_3).trans t4)) r_4) (λY s5 Y J5 k_5 Y H_5 t5=>?_)
 exact Zaa (Zba (Zab ⟨.next,J5,k_5,.next,H_5,(((t_1.trans t_2).trans t_3).trans t4).trans t5⟩))
noncomputable def Zcc(K:Frag)(Cl:Addr):Bool:=plainOver K Cl&&findIn K (.ref Cl) "__setattr__" == some (some (.builtin "object.__setattr__"))
noncomputable def Zd1(K:Frag)(Cl:Addr)(name:Str):Bool:=Zcc K Cl&&takerIn K Cl name==some none&&(clsIn K Cl).any (·.hasDict)
theorem Z2s{x Cl:Addr}{l:Wn}{name:Str}{a:V}{K:Wl}(hx:LkO x (.inst Cl dx) J.obs)(u:UpO dx (.attrs l) (.attrs (Zne name a l)) J.obs obs')(k:K ⟨J.loc,obs'⟩)(hs:Zd1 C.G.K Cl name=true)(hz:l.length<=1000):SA C name (.ref x) a J K:=by
 exists (C J obs' dx x Cl l name a K),hx,u,k,hs,hz
 intro s v w H r1 r2
 o_facts r1
 obtain⟨es,n,ra,ed,I⟩:=H.inst hx u.lk
 simp -iota only[Zd1,Zcc,Qt,beq_iff_eq] at hs
 obtain⟨⟨⟨h1,h2⟩,h3⟩,h4⟩:=hs
 obtain⟨cd,hcd,hh⟩:=any_some h4
 have H1:Holds C J { s with toks:=s.toks+1 }:=H.toks _
 refine .of (set_plain H.inK I h2 (osa_open (s:={ s with toks:=s.toks+1 }) H.inK I h1 h3 λb=>?_))
 have hz':sizeLine=16777216:=by decide
 obtain⟨hI,-,-,-⟩:=I
 refine Qh (Qi (Qh (Qh (wpAny_loadPart hI (Qh (Looks.here (looks_clsIn H.inK hcd) ?_))))))
 rw[hh]
 refine Qi (a:=some dx) (Qh (Qi (Qh ?_)))
 unfold nsSet
 refine Qh (Qh (wpAny_askSetting (Qi (Qh (wpAny_mkText (Qh (wpAny_loadPart ed ?_)))))))
 dsimp only
 have c:(!es.toArray.any (·.key.isStr name)&&es.toArray.any (·.refKey))=false:=by
  have:es.toArray.any (·.refKey)=false:=by rw[List.any_toArray];exact ra.noRef
  rw[this,Bool.and_false]
 rw[aRefKeyMayBeTheName_at,c]
 refine wpAny_updatePart ed ?_
 have hput:=ra.put (x:=name) (a:=a) (v:=w) (hs:=PyData.keyHash C.G.w.params name) (t:=s.toks+1) r2
 have new:∃ (es':List DictEntry) (n':Nat),Obj.putName name (PyData.keyHash C.G.w.params name) (.str name (s.toks+1)) w { cls:=.type "dict",data:=.dict es.toArray n }={ cls:=.type "dict",data:=.dict es'.toArray n' }/\AtR s.heap (Zne name a l) es'/\es'.length<=es.length+1:=by
  rw[Obj.putName_eq]
  unfold Obj.putNameByArray
  have hidx:es.toArray.findIdx? (·.key.isStr name)=es.findIdx? (·.key.isStr name):=by simp
  dsimp only
  rw[hidx]
  cases hi:es.findIdx? (·.key.isStr name) with
  | some i=>
   rw[hi] at hput
   exact⟨es.modify i λe=>{ e with val:=w },n,by dsimp only;simp -iota,hput,by simp -iota⟩
  | none=>
   rw[hi] at hput
   exact⟨es++[⟨PyData.keyHash C.G.w.params name,.str name (s.toks+1),w⟩],n+1,by dsimp only;simp -iota,hput,by simp -iota⟩
 obtain⟨es',n',e1,e2,e3⟩:=new
 have eg:(s.heap.update dx (Obj.putName name (PyData.keyHash C.G.w.params name) (.str name (s.toks+1)) w)).get? dx=some { cls:=.type "dict",data:=.dict es'.toArray n' }:=by
  rw[<- e1]
  exact Heap.get?_update_self _ ed (by rw[e1];rfl)
 refine And.elim (λH' tk=>?_) (H.set (o':=.attrs (Zne name a l)) u (Heap.SameBut.update ..) eg (.own ⟨es',n',rfl,e2⟩) (s.toks+1+1))
 refine Qh (wpAny_lookBehind eg (pastItsLine_dict (by
  have:=ra.length
  rw[List.size_toArray];clear hput;lia)) ?_)
 exact Qi ⟨(),_,k,trivial,H',tk⟩
section
variable {prog:Program}{w:World}{A:Around}{E:Wh}{s:Shared}{R:Result->Shared->Prop}
theorem Zb8{args:Args}{b:Builtin}(hq:(Code.builtin id args).quiet=true)(hb:entryFor table id=some b)(hbad:Zsb (.builtin id args)=false)
  (h:wpP (model prog w) A.in1 (checkBuiltinCall id args) (λY s_1=>wpP (model prog w) (A.under (.builtin id args)) (b args)
   (λfin s'=>match fin with | .done f=>R (.ok f) s' | .again c'=>c'.quiet=true/\codeP (model prog w) A c' R s') (λe s'=>R (.error e) s') s_1)
   (λe s'=>R (.error e) s') s):codeP (model prog w) A (.call (.builtin id) args) R s:=by
 refine Zaf rfl ?_
 show wpP _ A.in1 (do checkBuiltinCall id args;again (.builtin id args)) _ _ s
 exact Zaa (Zad h (λY s_1 h_1=>Zab (And.intro hq (Za5 hb hbad h_1))) λY Y h'=>h')
theorem Zws(C:Addr)(rest:List Value):Builtin.«type.__call__» ⟨.ref C::rest,[]⟩=(do
  if (<- mroOf (.ref C)).isEmpty then rule "type.call.half-made";raiseError "TypeError" s!"cannot create '{← typeName (.ref C)}' instances"
  let new <- match <- Bind.madeBy (.ref C) with
   | some id=>pure (.builtin id)
   | none=>getAttr (.ref C) "__new__"
  let obj <- holding [new] (call new (.ref C::rest) [])
  if !(<- isInstance obj (.ref C)) then rule "type.call.new-gave-other-type";return <- ret obj
  match <- holding [obj] (callSpecial? obj "__init__" rest []) with
  | none=>ret obj
  | some r=>
   if r != .none then
    rule "type.call.init-returned-value"
    raiseError "TypeError" s!"__init__() should return None, not '{← typeNameOf r}'"
   ret obj):=by kernel_rfl
theorem Zo0 {K:Frag} {Cl fI:Addr} {rest:List Value} (X:K.In s.heap) (hm:makesIn K Cl=true) (hi:findIn K (.ref Cl) "__init__" = some (some (.ref fI))) (hf:typeIn K (.ref fI)=some (.type "function"))
  (h:wpP (model prog w) (A.under (.builtin "type.__call__" ⟨.ref Cl::rest,[]⟩)) (call (.ref fI) (.ref (s.heap.objs.size+1)::rest)) (λv s'=>v = .none/\Q (.ref (s.heap.objs.size+1)) s') E
   { s with heap:=(s.heap.push emptyDict).push (instObj Cl s.heap.objs.size) }):wpP (model prog w) A (call (.ref Cl) rest) Q E s:=by
 exists (Q prog w A E s K Cl fI rest),X,hm,hi,hf,h
 obtain⟨hh,g,d,t,os⟩:=s
 have YY:=makes_of (M:=model prog w) X hm
 have Y':=YY
 obtain⟨⟨oc,od,cd,sl,hC,e1,e2,e4⟩,made,base,self,top,call,typ⟩:=YY
 exists (hh g d t os oc od cd sl),X,h,Y',made,base,self,top,call,typ,hC,e1,e2,e4
 have hi':=looks_findIn (M:=model prog w) X hi
 have hb':=λself=>bind_fn (M:=model prog w) X self hf
 refine Za6 (Zaf rfl ?_)
 have L:∀ E',wpAny (model prog w) A.in1 (callAny (.ref Cl) ⟨rest,[]⟩) (λfin s'=>fin = .again (.call (.builtin "type.__call__") ⟨.ref Cl::rest,[]⟩)/\s'=⟨hh,g,d,t,os⟩) E' ⟨hh,g,d,t,os⟩:=λE'=>by
  refine nd_load hC ?_
  show wpAny _ _ (callAny.viaDunder (.ref Cl) _) _ _ _
  unfold callAny.viaDunder
  refine Qh (call.at ?_)
  dsimp only
  rw[tc_bind]
  refine Qh (Qi (Qh (Qi ?_)))
  exact Qi ⟨rfl,rfl⟩
 refine Zad (.of (L _)) ?_ λY Y e=>e
 rintro fin s' ⟨a,b⟩
 subst a;subst b
 refine⟨rfl,Zb8 (Code.quiet_builtin _ (by decide +kernel)) entry_typeCall rfl (.of (check_slot tc_kind tc_split typ (tc_args _ _ _) ?_))⟩
 rw[Zws]
 have hmro:Looks (model prog w) hh (mroOf (.ref Cl)) cd.mro:=((Looks.ld (part:=none) hC).andThen .now).andThen .now
 refine Zaa (.of (hmro.at ?_))
 simp -iota only[e4,Bool.false_eq_true,if_false]
 refine Zaa (.of (made.at ?_))
 refine Zaa (Zab (Zaa (Zae (Za6 (.of (new_K Y' hi' (.inl rfl) ?_))))))
 have k:∀ b o,hh.get? b=some o->((hh.push emptyDict).push (instObj Cl hh.objs.size)).get? b=some o:=λb o e=>Heap.get?_push_of_some _ (Heap.get?_push_of_some _ e)
 have hx:((hh.push emptyDict).push (instObj Cl hh.objs.size)).get? (hh.objs.size+1)=some (instObj Cl hh.objs.size):=by heap_get
 have t1:Looks (model prog w) ((hh.push emptyDict).push (instObj Cl hh.objs.size)) (typeOf (.ref (hh.objs.size+1))) (.ref Cl):=(Looks.ld hx).andThen .now
 have s1:=self.keeps k
 have i1:=hi'.keeps k
 have b1:=(hb' (.ref (hh.objs.size+1))).keeps k
 refine Zaa (.of (Qh (t1.at (s1.at ?_))))
 simp -iota only[Bool.not_true,Bool.false_eq_true,if_false]
 refine Zaa (Zae ?_)
 unfold callSpecial? specialOf
 refine Zaa (.of (Qh (t1.at (i1.at ?_))))
 refine Zae (Zaa (.of (b1.at ?_)))
 refine Zaa (Zad h ?_ λY Y e=>e)
 rintro v s' ⟨a,q⟩
 subst a
 exact Zab (Zab q)
end
theorem Good.creation {A:Around} (g:Good A (n+1)) (Cl:Addr) (rest:List Value):Good (A.under (.builtin "type.__call__" ⟨.ref Cl::rest,[]⟩)) n:=by
 obtain⟨d,u,h,⟨l,f⟩,gg⟩:=g
 have hw:(Code.builtin "type.__call__" ⟨.ref Cl::rest,[]⟩).weight=1:=by kernel_rfl
 have hu:(Code.builtin "type.__call__" ⟨.ref Cl::rest,[]⟩).cUnits=1:=by kernel_rfl
 refine⟨?_,?_,h,⟨l,?_⟩,?_⟩
 .show A.depth+(Code.builtin "type.__call__" ⟨.ref Cl::rest,[]⟩).weight+n<_
  rw[hw];lia
 .show A.units+(Code.builtin "type.__call__" ⟨.ref Cl::rest,[]⟩).cUnits+20 * n<_
  rw[hu];lia
 .exact f
 .exact gg
section
open Builtin Builtin.ObjectAttr Builtin.Getset_descriptor
theorem Holds.at(A:Around)(H:Holds C J s):Holds { C with A:=A } J s:=⟨H.frz,H.loc,H.obs,H.nd,H.ap,H.nn,H.gens,H.drawn,H.os⟩
theorem Holds.ofAt{A:Around}(H:Holds { C with A:=A } J s):Holds C J s:=⟨H.frz,H.loc,H.obs,H.nd,H.ap,H.nn,H.gens,H.drawn,H.os⟩
noncomputable def Ze4(K:Frag)(Cl fI:Addr):Bool:=makesIn K Cl&&findIn K (.ref Cl) "__init__" == some (some (.ref fI))&&typeIn K (.ref fI)==some (.type "function")
theorem Zlv{Cl fI:Addr}{oi od:Addr->AO}{K':Addr->Addr->V->Wg->Prop}(hoi:∀ h dx,OR h (oi dx) (instObj Cl dx))(hod:∀ h dx,OR h (od dx) emptyDict)(g:Good C.A (n+1))(hs:Ze4 C.G.K Cl fI=true)
  (F:∀ x dx,Fn C.G (.ref fI) n (.ref x::args) ((x,oi dx)::(dx,od dx)::sel) (K' x dx)) (S:Sel J.obs sel rest) (k:∀ x dx r obs',K' x dx r obs'->r = .none/\K (.ref x) ⟨J.loc,obs'++rest⟩):CF C (.ref Cl) args J K:=λs fv vs H rf rl=>by
 o_facts rf
 simp only[Ze4,Qt,beq_iff_eq] at hs
 obtain⟨⟨h1,h2⟩,h3⟩:=hs
 refine Zo0 H.inK h1 h2 h3 ?_
 have k1:∀ b o,s.heap.get? b=some o->(s.heap.push emptyDict).get? b=some o:=Qa
 have k2:∀ b o,(s.heap.push emptyDict).get? b=some o->((s.heap.push emptyDict).push (instObj Cl s.heap.objs.size)).get? b=some o:=Qa
 have szA:(s.heap.push emptyDict).objs.size=s.heap.objs.size+1:=Heap.size_push _ _
 have H1:=H.alloc (o:=od s.heap.objs.size) k1 (Qw _) (Qg _ rfl) (hod _ _) s.toks
 have e2:((s.heap.push emptyDict).push (instObj Cl s.heap.objs.size)).get? (s.heap.objs.size+1)=some (instObj Cl s.heap.objs.size):=by
  rw[<- szA];exact Qg _ rfl
 have H2:=H1.alloc (o:=oi s.heap.objs.size) (a:=s.heap.objs.size+1) k2 (by show(s.heap.push emptyDict).objs.size<=_;rw[szA];exact Qw _) e2 (hoi _ _) s.toks
 have tk:TK s.heap ((s.heap.push emptyDict).push (instObj Cl s.heap.objs.size)):=.of_ext λb o e=>k2 _ _ (k1 _ _ e)
 have main:=Zo6 (C:={ C with A:=C.A.under (.builtin "type.__call__" ⟨.ref Cl::vs,[]⟩) }) (J:=⟨J.loc,(s.heap.objs.size+1,oi s.heap.objs.size)::(s.heap.objs.size,od s.heap.objs.size)::J.obs⟩)
  (K:=λa J'=>a = .none/\K (.ref (s.heap.objs.size+1)) J') (F (s.heap.objs.size+1) s.heap.objs.size) (g.creation Cl vs) (.cons .head (.cons .head S)) (k _ _)
  _ (.ref (s.heap.objs.size+1)::vs) (H2.at _) (.cons (.ref _) (rl.mono tk))
 refine Zad main ?_ λY Y e=>e
 rintro v s' ⟨a,J',⟨e,hK⟩,r,H',t⟩
 subst e
 refine⟨?_,.ref _,J',hK,.ref _,H'.ofAt,tk.trans t⟩
 o_facts r;rfl
theorem Zrm{Cl:Addr}(fI:Addr){K':Addr->Addr->V->Wg->Prop}(g:Good C.A (n+1))(hs:Ze4 C.G.K Cl fI=true)
  (F:∀ x dx,Fn C.G (.ref fI) n (.ref x::args) ((x,.inst Cl dx)::(dx,.attrs [])::sel) (K' x dx)) (S:Sel J.obs sel rest) (k:∀ x dx r obs',K' x dx r obs'->r = .none/\K (.ref x) ⟨J.loc,obs'++rest⟩):CF C (.ref Cl) args J K:=
 Zlv (oi:=λdx=>.inst Cl dx) (od:=λY=>.attrs []) (λY Y=>.own rfl) (λY Y=>.own ⟨[],0,rfl,.nil⟩) g hs F S k
theorem Zrv{Cl:Addr}(fI:Addr){K':Addr->Addr->V->Wg->Prop}(g:Good C.A (n+1))(hs:Ze4 C.G.K Cl fI=true)
  (F:∀ x dx,Fn C.G (.ref fI) n (.ref x::args) ((x,.slots Cl dx [])::(dx,.raw emptyDict)::sel) (K' x dx)) (S:Sel J.obs sel rest) (k:∀ x dx r obs',K' x dx r obs'->r = .none/\K (.ref x) ⟨J.loc,obs'++rest⟩):CF C (.ref Cl) args J K:=
 Zlv (oi:=λdx=>.slots Cl dx []) (od:=λY=>.raw emptyDict) (λY Y=>.own ⟨[],rfl,.nil⟩) (λY Y=>.raw _ (λvs n e=>by simp[Zbk] at e)) g hs F S k
noncomputable def Zum(p:Addr)(r:Option Found):Bool:=match r with|some (.bind g q)=>g == .builtin "member_descriptor.__get__" && q == .ref p|_=>false
theorem Zwn {p:Addr} {r:Option Found} (h:Zum p r=true):r=some (.bind (.builtin "member_descriptor.__get__") (.ref p)):=by
 induction r with
 | none=>cases h
 | some f=>
  induction f with
  | bind g q=>
   obtain⟨h1,h2⟩:=Bool.and_eq_true_iff.mp h
   rw[eq_of_beq h1,eq_of_beq h2]
  | _=>cases h
noncomputable def Zlr(K:Frag)(Cl p:Addr)(name:Str)(i:Nat):Bool:=Zcd K Cl&&Zum p (findObj K Cl (some emptyDict) name)&&slotIn K p Cl==some i
theorem Holds.slot(H:Holds C J s){x Cl:Addr}{l:List (Option V)}(hx:LkO x (.slots Cl dx l) J.obs)(hd:LkO dx (.raw emptyDict) J.obs):∃ ws:List (Option Value),ORl s.heap l ws/\s.heap.get? x=some { instObj Cl dx with slots:=ws.toArray } /\
  InstAt s.heap x { instObj Cl dx with slots:=ws.toArray } Cl (some emptyDict):=by
 exists (C J s dx x Cl l),H,hx,hd
 refine Zaj (H.obj hx) λO e r=>?_
 refine Zaj (H.obj hd) λO2 e2 r2=>?_
 have p:=OR.ownE r
 obtain⟨ws,rfl,rs⟩:=p
 obtain rfl:=OR.rawE r2
 exact⟨ws,rs,e,e,rfl,rfl,e2⟩
theorem Zxg{x Cl:Addr}{l:List (Option V)}{name:Str}{a:V}(p:Addr)(i:Nat)(hx:LkO x (.slots Cl dx l) J.obs)(hd:LkO dx (.raw emptyDict) J.obs)(k:K a J)(hs:Zlr C.G.K Cl p name i=true)(hl:l[i]?=some (some a))(hb:∀ n,a ≠ .bi n):GA C name (.ref x) J K:=λs v H r=>by
 o_facts r
 obtain⟨ws,rs,ex,I⟩:=H.slot hx hd
 simp only[Zlr,Zcd,Qt,beq_iff_eq] at hs
 obtain⟨⟨⟨h1,h2⟩,h3⟩,h4⟩:=hs
 have hq:=Zwn h3
 refine Zaj (rs.get hl) λw hw rw'=>?_
 refine .of (get_bind H.inK I h1 hq h2 (wpAny_call (slot_get (s:={ s with toks:=s.toks+1 }) H.inK I h4 (v:=w) ?_ ?_)))
 .show(ws.toArray[i]?).join=some w
  rw[List.getElem?_toArray,hw];rfl
 .show wpAny _ _ (handedOut w) _ _ _
  rw[handedOut_of (rw'.handed hb)]
  exact Qi (Pst.hereT H rw' k)
noncomputable def Zc0(K:Frag)(Cl p:Addr)(name:Str)(i:Nat):Bool:=Zcc K Cl&&takerIn K Cl name==some (some (.ref p))&&typeIn K (.ref p)==some (.type "member_descriptor")&&slotIn K p Cl==some i
noncomputable def Zq3(i:Nat)(a:V)(l:List (Option V)):List (Option V):=(l++List.replicate (i+1-l.length) none).set i (some a)
theorem Zx2{x Cl:Addr}{l:List (Option V)}{name:Str}{a:V}{K:Wl}(p:Addr)(i:Nat)(u:UpO x (.slots Cl dx l) (.slots Cl dx (Zq3 i a l)) J.obs obs')(hd:LkO dx (.raw emptyDict) J.obs)(k:K ⟨J.loc,obs'⟩)(hs:Zc0 C.G.K Cl p name i=true)(hi:i<1000):SA C name (.ref x) a J K:=by
 exists (C J obs' dx x Cl l name a K p i),u,hd,k,hs,hi
 intro s v w H r1 r2
 o_facts r1
 obtain⟨ws,rs,ex,I⟩:=H.slot u.lk hd
 simp only[Zc0,Zcc,Qt,beq_iff_eq] at hs
 obtain⟨⟨⟨⟨h1,h2⟩,h3⟩,h4⟩,h5⟩:=hs
 exists (s w ws),H,r2,r1,rs,ex,I
 have X:=H.inK
 refine .of (set_plain X I h2 (osa_descr (s:={ s with toks:=s.toks+1 }) KF.slot_mset X I h1 h3 h4 ?_))
 obtain⟨n,tn,owner,behind,tb,d,sl,cd,ho,hc,hm,hb,rfl⟩:=slot_of X h5
 have hlen:=rs.length
 have eg:(s.heap.update x λo=>{ o with slots:=(o.slots++Array.replicate (cd.slotNames.length-1-behind.toNat+1-o.slots.size) none).setIfInBounds (cd.slotNames.length-1-behind.toNat) (some w) }).get? x =
   some { instObj Cl dx with slots:=((ws++List.replicate (cd.slotNames.length-1-behind.toNat+1-ws.length) none).set (cd.slotNames.length-1-behind.toNat) (some w)).toArray }:=by
  have:=Heap.get?_update_self (λo:Obj=>{ o with slots:=(o.slots++Array.replicate (cd.slotNames.length-1-behind.toNat+1-o.slots.size) none).setIfInBounds (cd.slotNames.length-1-behind.toNat) (some w) }) ex rfl
  rw[this]
  simp only[List.size_toArray]
  congr 2
  apply Array.toList_inj.mp
  simp
 obtain⟨H',tk⟩:=H.set (o':=.slots Cl dx (Zq3 (cd.slotNames.length-1-behind.toNat) a l)) u (Heap.SameBut.update ..) eg (.own ⟨_,rfl,by
  unfold Zq3
  rw[hlen]
  exact(rs.pad _).set r2 _⟩) (s.toks+1)
 obtain⟨hh,g,dr,t,os⟩:=s
 have L0:=I.type (M:=model C.G.prog C.G.w)
 have L1:=looks_mroIn (M:=model C.G.prog C.G.w) X hm
 have L2:Looks (model C.G.prog C.G.w) hh (Slots.slotNamesOf (.ref Cl)) cd.slotNames:=(looks_clsIn X hc).andThen .now
 have hx:=I.at_
 dsimp only at ho hx L0 L1
 have f0:=looks_field (M:=model C.G.prog C.G.w) ho 0 (v:=.str n tn) rfl
 have f1:=looks_field (M:=model C.G.prog C.G.w) ho 1 (v:=owner) rfl
 have f3:=looks_field (M:=model C.G.prog C.G.w) ho 3 (v:=.builtin "proto.slot#set") rfl
 have f4:=looks_field (M:=model C.G.prog C.G.w) ho 4 (v:=.int behind tb) rfl
 refine codeAny_call_builtin KF.slot_mset.plain KF.entry_mset (KF.slot_mset.check _ _ _ _ _ _ _ _ ⟨_,ho,rfl⟩ (KF.args_mset _ _ _) ?_)
 unfold Builtin.«member_descriptor.__set__» descrSet descrStoreThrough descrCheckInstance descrNameAndClass isInstance
 have f5:Looks (model C.G.prog C.G.w) hh (descrItself (.ref p)) [.ref p]:=((Looks.ld (part:=none) ho).andThen .now).andThen (Looks.of_pure (by kernel_rfl))
 repeat (first
  | with_reducible refine Looks.at (by assumption) ?_
  | with_reducible refine Qh ?_|with_reducible refine nd_bind ?_|with_reducible refine wpAny_holding ?_|with_reducible refine wpAny_onRaise ?_
  | k_node)
 refine⟨Code.quiet_builtin _ (by decide +kernel),codeAny_builtin KF.entry_slotset ?_⟩
 unfold Builtin.«proto.slot#set» Slots.target
 repeat (first
  | with_reducible refine Looks.at (by assumption) ?_
  | with_reducible refine Qh ?_|with_reducible refine nd_bind ?_|with_reducible refine wpAny_holding ?_|with_reducible refine wpAny_onRaise ?_
  | k_node)
 rw[if_neg hb]
 refine Qi (Qh ?_)
 unfold setSlotAt
 dsimp only
 rw[if_neg (by rw[sizeLine_eq];lia)]
 exact wpAny_updatePart hx (Qi ⟨(),_,k,trivial,H',tk⟩)
end
def KvR(h:Heap)(l:List (Int×V))(m:List (Int×Value)):Prop:=F2 (λx y=>x.1=y.1/\VR h x.2 y.2) l m
theorem KvR.nil:KvR h [] []:=rfl
theorem KvR.cons{k:Int}{a:V}{v:Value}{l:List (Int×V)}{m:List (Int×Value)}(x:VR h a v)(r:KvR h l m):KvR h ((k,a)::l) ((k,v)::m):=F2.cons ⟨rfl,x⟩ r
theorem KvR.ind{l:List (Int×V)}{m:List (Int×Value)}{P:List (Int×V)->List (Int×Value)->Prop}(r:KvR h l m)(n:P [] [])(c:∀ k a v l m,VR h a v->KvR h l m->P l m->P ((k,a)::l) ((k,v)::m)):P l m:=by
 refine F2.ind r n λx y l m q r ih=>?_
 obtain⟨k,a⟩:=x
 obtain⟨j,v⟩:=y
 obtain⟨e,q⟩:=q
 obtain rfl:k=j:=e
 exact c k a v l m q r ih
theorem KvR.mono(t:TK h h'){l:List (Int×V)}{m:List (Int×Value)}(r:KvR h l m):KvR h' l m:=F2.mono r λY Y q=>⟨q.1,q.2.mono t⟩
theorem KvR.length{l:List (Int×V)}{m:List (Int×Value)}(r:KvR h l m):m.length=l.length:=F2.length r
theorem KvR.get{l:List (Int×V)}{m:List (Int×Value)}{k:Int}{a:V}(r:KvR h l m)(e:l[i]?=some (k,a)):∃ v,m[i]?=some (k,v)/\VR h a v:=by
 obtain⟨⟨j,v⟩,e2,q,x⟩:=F2.get i r e
 obtain rfl:k=j:=q
 exact⟨v,e2,x⟩
noncomputable def Z4f(k:Int)(a:V)(l:List (Int×V)):List (Int×V):=if l.any (λkv=>kv.1=k) then l.map (λkv=>if kv.1=k then (kv.1,a) else kv) else l++[(k,a)]
theorem KvR.any(p:Int->Bool){l:List (Int×V)}{m:List (Int×Value)}(r:KvR h l m):m.any (λkv=>p kv.1)=l.any (λkv=>p kv.1):=r.ind (P:=λl m=>m.any (λkv=>p kv.1)=l.any (λkv=>p kv.1)) rfl λY Y Y Y Y Y Y ih=>congrArg (p _||·) ih
theorem KvR.append{l':List (Int×V)}{m':List (Int×Value)}(y:KvR h l' m'){l:List (Int×V)}{m:List (Int×Value)}(r:KvR h l m):KvR h (l++l') (m++m'):=F2.append r y
theorem KvR.map{k:Int}{a:V}{v:Value}(y:VR h a v){l:List (Int×V)}{m:List (Int×Value)}(r:KvR h l m):KvR h (l.map (λkv=>if kv.1=k then (kv.1,a) else kv)) (m.map (λkv=>if kv.1=k then (kv.1,v) else kv)):=by
 refine r.ind (P:=λl m=>KvR h (l.map _) (m.map _)) .nil λY Y Y Y Y x Y ih=>?_
 simp only[Qr]
 split
 .exact .cons y ih
 .exact .cons x ih
theorem KvR.put{k:Int}{a:V}{v:Value}{l:List (Int×V)}{m:List (Int×Value)}(y:VR h a v)(r:KvR h l m):KvR h (Z4f k a l) (stored m k v):=by
 unfold Z4f stored
 have e:(m.any λkv=>decide (kv.1=k))=l.any λkv=>decide (kv.1=k):=r.any λi=>decide (i=k)
 rw[e]
 split
 .exact r.map y
 .exact KvR.append (.cons y .nil) r
noncomputable def Zhk(k:Int)(l:List (Int×V)):List (Int×V):=l.filter λkv=>decide (kv.1≠k)
theorem KvR.without{k:Int}{l:List (Int×V)}{m:List (Int×Value)}(r:KvR h l m):KvR h (Zhk k l) (PySem.without m k):=by
 refine r.ind (P:=λl m=>KvR h (Zhk k l) (PySem.without m k)) .nil λY Y Y Y Y x Y ih=>?_
 unfold Zhk PySem.without at ih ⊢
 simp only[List.filter_cons]
 split
 .exact .cons x ih
 .exact ih
theorem KvR.val(k:Int){l:List (Int×V)}{m:List (Int×Value)}(R:KvR h l m):match l.lookup k with
  | some a=>∃ v,valueAt m k=some v/\VR h a v
  | none=>valueAt m k=none:=by
 refine R.ind (P:=λl m=>match l.lookup k with
  | some a=>∃ v,valueAt m k=some v/\VR h a v
  | none=>valueAt m k=none) rfl λk' a v l m x r ih=>?_
 .rw[List.lookup_cons]
  unfold valueAt at ih ⊢
  rw[List.find?_cons]
  by_cases e:k=k'
  .subst e
   simp only[beq_self_eq_true,decide_true]
   exact⟨v,rfl,x⟩
  .rw[beq_false_of_ne e,decide_eq_false (Ne.symm e)]
   exact ih
theorem Zmz{p p':Program}{w w':World}(h:Pairs (intKind p w) es kv):Pairs (intKind p' w') es kv:=by
 induction h with
 | nil=>exact .nil
 | cons a b _ ih=>exact .cons a b ih
theorem Ztd{p p':Program}{w w':World}(h:KdkAt (intKind p w) o kv ep):KdkAt (intKind p' w') o kv ep:=
 (by obtain⟨es,h1,h2,h3,h4,h5⟩:=h;exact⟨es,h1,h2,h3,Zmz h4,h5⟩)
noncomputable def oDict(oe:Option Nat)(l:List (Int×V)):Ob where
 P h o:=o.ExactDict/\∃ ep kv,(∀ e,oe=some e->e=ep)/\(∀ p w,KdkAt (intKind p w) o kv ep)/\KvR h l kv
 mono _ _ _ k h:=(by obtain⟨x,ep,kv,a,b,c⟩:=h;exact⟨x,ep,kv,a,b,c.mono k⟩)
 noTup _ _ h vs n e:=by obtain⟨⟨x,_⟩,_⟩:=h;subst e;simp at x
noncomputable abbrev AO.dictE(oe:Option Nat)(l:List (Int×V)):AO:=.own (oDict oe l)
noncomputable abbrev AO.dict(l:List (Int×V)):AO:=.dictE none l
theorem Holds.sm(H:Holds C J s)(ha:a∈J.obs.map (·.1)):(a==sysModules)=false:=by
 obtain⟨o,e⟩:=C.ok.sm
 have:=H.ap a (.tail _ ha)
 rw[beq_eq_false_iff_ne]
 rintro rfl
 rw[e] at this;cases this
theorem LkO.key{o:AO}{l:Wg}(h:LkO a o l):a∈l.map (·.1):=Qe ⟨_,h.mem,rfl⟩
theorem Holds.dict(H:Holds C J s){l:List (Int×V)}(h:LkO d (.dictE oe l) J.obs):∃ o ep kv,s.heap.get? d=some o/\(∀ e,oe=some e->e=ep)/\(∀ p w,KdkAt (intKind p w) o kv ep)/\KvR s.heap l kv:=by
 exists (C J s d oe l),H,h
 refine Zaj (H.obj h) λO e r=>?_
 have p:=OR.ownE r
 obtain⟨x,ep,kv,a,b,c⟩:=p;exact⟨O,ep,kv,e,a,b,c⟩
theorem Zcr{w:World}(e:h.get? d=some o)(k:∀ p w,KdkAt (intKind p w) o kv ep):h.DictOf (intKind prog w) d kv:=(KdkAt.dictAt (k prog w) e).dictOf
theorem Zwx {l:List (Int×V)} (h:LkO d (.dictE oe l) J.obs) (s:Shared) (va:Value) (r:VR s.heap (.ref d) va) (H:Holds C J s):s.TypeIs va "dict" := by
 o_facts r
 obtain⟨o,ep,kv,e,a,b,c⟩:=H.dict h
 exact(Zcr (prog:=C.G.prog) (w:=C.G.w) e b).typeIs
theorem Zj3{l:List (Int×V)}{k:Int}{x:V}(h:LkO d (.dictE oe l) J.obs)(hx:l.lookup k=some x)(kk:K x J):OP2 C VR getItem (.ref d) (.int k) J K:=λs v u H r1 r2=>by
 o_facts r1;o_facts r2
 obtain⟨o,ep,kv,e,a,b,c⟩:=H.dict h
 have z:=c.val k
 rw[hx] at z
 obtain⟨w,hw,rw'⟩:=z
 exact .of (wpAny_getItem_of (intKind_is _ _ _ _) (Zcr (prog:=C.G.prog) (w:=C.G.w) e b).mapOf hw (Pst.hereT H rw' kk))
theorem Zi7{v:Expr}{l:List (Int×V)}{k:Int}{x:V}(h:LkO d (.dictE oe l) J.obs)(kk:K x J)(hs:∀ o i,∃ xs,subscripted sl false o i=operate xs (getItem o i))(hx:l.lookup k=some x):OP2 C VR (subscriptTail v sl) (.ref d) (.int k) J K:=
 Zbn "dict" (Zwx h) slot_dict_getitem.lookup (Zj3 h hx kk) hs
theorem Zym {l:List (Int×V)} {name:Str} {K:V->List V->Wl} (h:LkO d (.dictE oe l) J.obs) (slot:Slot "dict" name id) (hty:typeOf (.builtin id)=pure (.type "method_descriptor")) (k:K (.bi id) [.ref d] J):GM C (.ref d) name J K:=λs v pl H r=>by
 o_facts r
 obtain⟨o,ep,kv,e,a,b,c⟩:=H.dict h
 have hD:=Zcr (prog:=C.G.prog) (w:=C.G.w) e b
 exact .of (getMethod_builtin hD.typeIs PySem.F.plainAttrs_dict slot hty hD.mapOf.noDict ⟨_,_,_,k,.bi _,.cons (.ref d) .nil,H,.refl _⟩)
set_option tactic.hygienic true in
theorem Zke {l:List (Int×V)} {k:Int} (h:LkO d (.dictE oe l) J.obs) (kk:K ((l.lookup k).getD .none) J):CF C (.bi "dict.get") [.ref d,.int k] J K:=by
 exists (C J K d oe l k),h,kk
 intro s fv vs H rf rl
 exists (s fv vs),H,rf,rl
 o_facts rf
 revert rl
 intro rl0
 refine VRs.consK rl0 λ_ _ r rl e0=>?_
 subst e0
 revert rl
 intro rl0
 refine VRs.consK rl0 λ_ _ r2 rl e0=>?_
 subst e0
 o_facts rl
 o_facts r;o_facts r2
 obtain⟨o,ep,kv,e,a,b,c⟩:=H.dict h
 rename_i zq139_1 zq139_2
 exists (zq139_1 o ep kv),r2,zq139_2,rl0,e,a,b,c
 have hD:=Zcr (prog:=C.G.prog) (w:=C.G.w) e b
 refine .of (call_meetsIn PySem.F.slot_dict_get hD.typeIs PySem.F.entry_dict_get (PySem.F.args_dict_get_2 _ _) (meets_dict_get (intKind C.G.prog C.G.w) d (intKind_is _ _ _ _) (H.sm h.key)) ⟨_,hD.mapOf,?_⟩)
 have z:=c.val k
 cases hl:l.lookup k with
 | some x=>
  rw[hl] at z kk
  obtain⟨w,hw,rw'⟩:=z
  rw[hw]
  exact Pst.hereT H rw' kk
 | none=>
  rw[hl] at z kk
  have z':valueAt kv k=none:=z
  rw[z']
  exact Pst.hereT H .none kk
theorem op_dict_in{l:List (Int×V)}{k:Int}(h:LkO d (.dictE oe l) J.obs)(kk:K (.bool (l.lookup k).isSome) J):OP2 C VR (compareOp .In) (.int k) (.ref d) J K:=λs v u H r1 r2=>by
 o_facts r1;o_facts r2
 obtain⟨o,ep,kv,e,a,b,c⟩:=H.dict h
 have hD:=Zcr (prog:=C.G.prog) (w:=C.G.w) e b
 refine .of (wpAny_in_of (intKind_is _ _ _ _) (H.sm h.key) hD.mapOf ?_)
 have z:=c.val k
 have:(valueAt kv k).isSome=(l.lookup k).isSome:=by
  cases hl:l.lookup k with
  | some x=>rw[hl] at z;obtain⟨w,hw,_⟩:=z;rw[hw];rfl
  | none=>rw[hl] at z;have z':valueAt kv k=none:=z;rw[z'];rfl
 rw[this]
 exact Pst.hereT H (.bool _) kk
theorem Zg0{p:Program}{w:World}{l:List (Int×V)}(hd:o.IsDictOf (intKind p w) kv)(r:KvR h l kv):OR h (.dict l) o:=by
 obtain⟨ep,k⟩:=KdkAt.of hd
 obtain⟨es,h1,_⟩:=id k
 exact .own ⟨h1,ep,kv,⟨(λY e=>nomatch e),λY Y=>Ztd k,r⟩⟩
theorem Zj2{l:List (Int×V)}{k:Int}{a:V}{K:Wl}(u:UpO d (.dict l) (.dict (Z4f k a l)) J.obs obs')(kk:K ⟨J.loc,obs'⟩)(hz:l.length<=sizeLine):OP3 C (λ_ (_:Unit) _=>True) setItem (.ref d) (.int k) a J (λY J=>K J):=λs v1 v2 v3 H r1 r2 r3=>by
 o_facts r1;o_facts r2
 obtain⟨o,ep,kv,e,_,b,c⟩:=H.dict u.lk
 have hD:=Zcr (prog:=C.G.prog) (w:=C.G.w) e b
 refine .of (wpAny_setItem_pairs (hsz:=by rw[c.length];exact hz) (intKind_is _ _ _ _) hD λh' hmm hs=>?_)
 obtain⟨o',ho',hd'⟩:=Heap.dictOf_iff.mp hmm
 have r':=c.put (k:=k) r3
 refine And.elim (λH' tk=>?_) (H.set u hs ho' (Zg0 hd' r') (s.toks+1))
 exact⟨(),_,kk,trivial,H',tk⟩
theorem Zka{l:List (Int×V)}{k:Int}{K:Wl}(u:UpO d (.dict l) (.dict (Zhk k l)) J.obs obs')(kk:K ⟨J.loc,obs'⟩)(hx:(l.lookup k).isSome=true)(hz:l.length<=sizeLine):OP2 C (λ_ (_:Unit) _=>True) delItem (.ref d) (.int k) J (λY J=>K J):=λs v1 v2 H r1 r2=>by
 o_facts r1;o_facts r2
 obtain⟨o,ep,kv,e,_,b,c⟩:=H.dict u.lk
 have hD:=Zcr (prog:=C.G.prog) (w:=C.G.w) e b
 have hl:(valueAt kv k).isSome=true:=by
  have z:=c.val k
  cases hq:l.lookup k with
  | some x=>rw[hq] at z;obtain⟨w,hw,_⟩:=z;rw[hw];rfl
  | none=>rw[hq] at hx;cases hx
 refine .of ?_
 unfold delItem
 try with_reducible refine wpAny_holding ?_
 refine Qh (wpAny_sequenceKey hD.typeIs (by decide) ?_)
 refine Qh (wpAny_callSpecial?_slot (name:=Str.ofString "__delitem__") hD.typeIs PySem.F.slot_dict_delitem
  (call_meetsIn PySem.F.slot_dict_delitem hD.typeIs PySem.F.entry_dict_delitem (PySem.F.args_dict_delitem_2 _ _) (meets_dict_delitem_pairs (intKind C.G.prog C.G.w) d (intKind_is _ _ _ _)) ⟨kv,hD,by rw[c.length];exact hz,hl,λh' hmm hs=>?_⟩))
 obtain⟨o',ho',hd'⟩:=Heap.dictOf_iff.mp hmm
 refine And.elim (λH' tk=>?_) (H.set u hs ho' (Zg0 hd' c.without) (s.toks+1))
 exact Qi ⟨(),_,kk,trivial,H',tk⟩
theorem x_del_sub{o i:Expr}{K:Wj}(h:EV C (eval o C.env) J λa J_1=>EV C (eval i C.env) J_1 λb J_2=>OP2 C (λ_ (_:Unit) _=>True) delItem a b J_2 λY J=>K .next J):XV C (exec (.Delete [.Subscript o i pos'] pos) C.env) J K:=λs H=>by
 rw[arm_exec_Delete]
 refine Zaa (Zac ?_)
 rw[arm_deleteEach_cons,arm_delete_Subscript,arm_deleteEach_nil]
 refine Zaa (Zaa (Zaa (h.step H λa J_1 va s_1 k_1 r_1 H_1 t_1=>Zaa (Zae (k_1.step H_1 λb J_2 vb s_2 k_2 r_2 H_2 t_2=>Zaa (Zac (Zaa (Zae ?_))))))))
 refine Zap (k_2 s_2 va vb H_2 (r_1.mono t_2) r_2) (λY s_3 Y J_3 k_3 Y H_3 t_3=>?_)
 exact Zba (Zab (Zab ⟨.next,J_3,k_3,.next,H_3,(t_1.trans t_2).trans t_3⟩))
theorem ev_dict0(h:∀ d,K (.ref d) ⟨J.loc,(d,.dict [])::J.obs⟩):EV C (eval (.Dict [] [] pos) env) J K:=λs H=>by
 rw[arm_eval_Dict]
 refine Zaa (Zac ?_)
 have kp:∀ b o,s.heap.get? b=some o->(s.heap.push emptyDict).get? b=some o:=Qa
 have fin:Pst C VR K s (.ref s.heap.objs.size) { s with heap:=s.heap.push emptyDict }:=by
  refine⟨_,_,h _,.ref _,H.alloc (n:=s.toks) kp (Qw _) (Qg _ rfl) ?_,.of_ext kp⟩
  obtain⟨o,ho,hd⟩:=Heap.dictOf_iff.mp (Heap.DictOf.new (knd:=intKind C.G.prog C.G.w) s.heap)
  have e:(s.heap.push emptyDict).get? s.heap.objs.size=some emptyDict:=Qg _ rfl
  have e2:(s.heap.push emptyDict).get? s.heap.objs.size=some o:=ho
  rw[e] at e2;cases e2
  exact Zg0 hd .nil
 refine .of ?_
 unfold dictDisplay
 repeat (first
  | exact Qi fin
  | with_reducible refine Qh ?_|with_reducible refine nd_bind ?_|with_reducible refine wpAny_holding ?_|with_reducible refine wpAny_onRaise ?_
  | k_node)
section
variable {prog:Program}{w:World}{A:Around}{R:Result->Shared->Prop}{s:Shared}
theorem Zea{args:Args}
  (hroom:A.depth<recursionLimit) (ho:s.heap.get? a=some o) (hdata:o.data = .func fd) (hcd:s.heap.CodeRec fd.code fd.qualname)
  (hbody:fd.body = .stmts body) (hcell:∀ x∈fd.scope.names,x.2 ≠ .cell)
  (h:wpP (model prog w) A.in1 (bindArgs fd args) (λbinds s_1=>(∀ x∈binds,fd.scope.names.lookup x.1=some .local)/\s_1.heap.NoLimit /\
   ∀ h_0,h_0.Ns s_1.heap.objs.size (λx=>binds.reverse.lookup x)->(∀ b o,s_1.heap.get? b=some o->h_0.get? b=some o) ->
   wpP (model prog w) (A.deeper (callEnv fd s_1.heap.objs.size a)) (execs body (callEnv fd s_1.heap.objs.size a)) (λf s'=>R (.ok (.ret (match f with | .ret v=>v|_=>.none))) s')
    (λe s'=>wpP (model prog w) (A.deeper (callEnv fd s_1.heap.objs.size a)) (leaving (callEnv fd s_1.heap.objs.size a) e) (λY s''=>R (.error e) s'') (λe' s''=>R (.error e') s'') s')
    { s_1 with heap:=h_0,toks:=s_1.toks+binds.length }) (λe s'=>R (.error e) s') s)
  (hco:fd.scope.isCoroutine=false) (hgen:fd.scope.isGenerator=false) (hk:fd.scope.kind = .function) :
  codeP (model prog w) A (.call (.ref a) args) R s:=by
 refine Zbd hroom ho hdata hco hgen hbody hcd (Zad h ?_ λY Y e=>e)
 rintro binds s_1 ⟨h1,h2,h3⟩
 refine .of (wpAny_newFunctionEnv hcell h1 (λh_0 hns0 hsb0=>⟨h2.fresh _ hsb0,Zf4 (h3 h_0 hns0 λb o e=>?_)⟩) hk)
 exact hsb0.extBut b o (Nat.ne_of_lt (Qz e)) (Heap.get?_push_of_some _ e)
end
def Binds(G:Gl)(fd:FuncData)(names:List Str)(args args':List V):Prop:=
 ∀ (A:Around) (E:Wh) (Q:List (Str×Value)->Shared->Prop) (s:Shared) (vs:List Value),VRs s.heap args vs->G.K.In s.heap ->
  (∀ (h1:Heap) (vs':List Value),(∀ b o,s.heap.get? b=some o->h1.get? b=some o)->VRs h1 args' vs'->Q (names.zip vs') { s with heap:=h1 })->wpP (model G.prog G.w) A (bindArgs fd ⟨vs,[]⟩) Q E s
theorem Binds.plain{names:List Str}(hnl:names.length=args.length)(hb:∀ vs:List Value,vs.length=names.length->bindArgs fd ⟨vs,[]⟩=pure (names.zip vs)):Binds G fd names args args:=λA E Q s vs r Y k=>by
 rw[hb vs (by rw[r.length,hnl])]
 exact Zab (k s.heap vs (λY Y e=>e) r)
theorem VRs.split:∀ {l':List V} {vs:List Value},VRs h (l++l') vs->∃ ws ws',vs=ws++ws'/\VRs h l ws/\VRs h l' ws':=by
 induction l with
 | nil=>intro _ _ r;exact⟨[],_,rfl,.nil,r⟩
 | cons a l ih=>
  intro _ _ r
  obtain⟨v,us,rfl,x,r⟩:=r
  obtain⟨ws,ws',e,r1,r2⟩:=ih r
  exact⟨v::ws,ws',by rw[e];rfl,.cons x r1,r2⟩
theorem Binds.star{names:List Str}{more:List V}(hnl:names.length=args.length)(hz:more.length<=sizeLine)
  (hb:∀ vs ws:List Value,vs.length=names.length->ws.length=more.length->bindArgs fd ⟨vs++ws,[]⟩=(newTuple ws >>= λt=>pure (names.zip vs++[(x,t)]))):Binds G fd (names++[x]) (args++more) (args++[.tup more]):=λA E Q s vs r Y k=>by
 obtain⟨ws,ws',e,r1,r2⟩:=r.split
 subst e
 have l1:=r1.length
 have l2:=r2.length
 rw[hb ws ws' (by rw[l1,hnl]) l2]
 refine Zaa (.of (wpAny_newTuple ?_ (by rw[l2];exact hz)))
 have kp:∀ b o,s.heap.get? b=some o->(s.heap.push { cls:=.type "tuple",data:=.seq ws'.toArray }).get? b=some o:=Qa
 have tk:TK s.heap (s.heap.push { cls:=.type "tuple",data:=.seq ws'.toArray }):=.of_ext kp
 have:=k _ (ws++[.ref s.heap.objs.size]) kp ((r1.mono tk).append (.cons (.tup (Qg _ rfl) (r2.mono tk)) .nil))
 rw[List.zip_append (by rw[l1,hnl])] at this
 exact Zab this
theorem LkO.of_mem{o:AO}{l:Wg}(h:(a,o)∈l):LkO a o l:=h
theorem Holds.sharp(H:Holds C J s){o o':AO}(u:UpO a o o' J.obs l')(k:∀ O,s.heap.get? a=some O->OR s.heap o O->OR s.heap o' O):Holds C ⟨J.loc,l'⟩ s:=by
 refine⟨H.frz,H.loc,λp hp=>?_,?_,?_,H.nn,H.gens,H.drawn,H.os⟩
 .rcases u.mem (Qc H.nd).2 p hp with q|⟨q,hp'⟩
  .subst q
   refine Zaj (H.obj u.lk) λO e r=>?_
   exact⟨O,e,k O e r⟩
  .exact H.obs p hp'
 .show(C.env.locals::l'.map (·.1)).Nodup
  rw[u.keys];exact H.nd
 .show ∀ b∈C.env.locals::l'.map (·.1),C.fz b=none
  rw[u.keys];exact H.ap
theorem Holds.dictFix(H:Holds C J s){l:List (Int×V)}{obs:Option Nat->Wg}(u:∀ oe,UpO d (.dict l) (.dictE oe l) J.obs (obs oe)):∃ ep,Holds C ⟨J.loc,obs (some ep)⟩ s:=by
 refine Zaj (H.obj (u none).lk) λO e r=>?_
 have p:=OR.ownE r
 obtain⟨x,ep,kv,a,b,c⟩:=p
 refine⟨ep,H.sharp (u (some ep)) λO' e' Y=>?_⟩
 rw[e] at e';cases e'
 exact .own ⟨x,ep,kv,λq h=>(Qv h).symm,b,c⟩
theorem Zmo{l:List (Int×V)}{O:Obj}(r:OR h (.dictE oe l) O):OR h (.dict l) O:=by
 have p:=OR.ownE r
 obtain⟨x,ep,kv,a,b,c⟩:=p;exact .own ⟨x,ep,kv,(λY e=>nomatch e),b,c⟩
noncomputable def Z2t(d:Addr)(i n ep:Nat):Ob where
 P _ o:=o.cls = .type "dict_keyiterator" /\ o.data = .fields #[.ref d,.int i 0,.int n 0,.int ep 0]
 mono _ _ _ _ h:=h
 noTup _ _ h vs n e:=by obtain⟨h,_⟩:=h;subst e;simp at h
noncomputable abbrev AO.kiter(d:Addr)(i n ep:Nat):AO:=.own (Z2t d i n ep)
noncomputable def Z23(d:Addr)(i n ep:Nat):Ob where
 P _ o:=o.cls = .type "dict_valueiterator" /\ o.data = .fields #[.ref d,.int i 0,.int n 0,.int ep 0]
 mono _ _ _ _ h:=h
 noTup _ _ h vs n e:=by obtain⟨h,_⟩:=h;subst e;simp at h
noncomputable abbrev AO.viter(d:Addr)(i n ep:Nat):AO:=.own (Z23 d i n ep)
noncomputable def Z29(d:Addr):Ob where
 P _ o:=o.cls = .type "dict_values" /\ o.data = .fields #[.ref d]
 mono _ _ _ _ h:=h
 noTup _ _ h vs n e:=by obtain⟨h,_⟩:=h;subst e;simp at h
noncomputable abbrev AO.vview(d:Addr):AO:=.own (Z29 d)
theorem Holds.dictEp(H:Holds C J s){l:List (Int×V)}(h:LkO d (.dictE (some ep) l) J.obs):∃ kv,s.heap.DictAt (intKind C.G.prog C.G.w) d kv ep/\KvR s.heap l kv:=by
 exists (C J s d ep l),H,h
 obtain⟨o,ep',kv,e,a,b,c⟩:=H.dict h
 have:=a ep rfl
 subst this
 exact⟨kv,KdkAt.dictAt (b _ _) e,c⟩
theorem Zvj{l:List (Int×V)}{obs:Option Nat->Wg}{K:Value->Wl}(u:∀ oe,UpO d (.dict l) (.dictE oe l) J.obs (obs oe))(k:∀ it ep,K (.ref it) ⟨J.loc,(it,.kiter d 0 l.length ep)::obs (some ep)⟩):IT C (.ref d) J K:=λva s H r=>by
 o_facts r
 obtain⟨ep,H'⟩:=H.dictFix u
 have lk:LkO d (.dictE (some ep) l) (obs (some ep)):=(u (some ep)).nw
 refine Zaj (H'.dictEp lk) λkv hD c=>?_
 refine .of (wpAny_pyIter_dict (H'.sm lk.key) hD ⟨_,k _ ep,H'.alloc (n:=s.toks) (o:=.kiter d 0 l.length ep) Qa (Qw _) (Qg _ rfl) (.own ⟨rfl,?_⟩),.of_ext Qa⟩)
 rw[c.length];rfl
theorem Zot{l:List (Int×V)}{Ks:Wk}(hh:C.A.handled=none)(hl:LkO d (.dictE (some ep) l) J.obs)(u:UpO it (.kiter d i l.length ep) (.kiter d (i+1) l.length ep) J.obs obs')
  (p:Pick (it,.kiter d i l.length ep) J.obs rest) (ks:∀ k x,l[i]?=some (k,x)->Ks (.int k) ⟨J.loc,obs'⟩) (kn:l[i]?=none->Kn ⟨J.loc,rest⟩):NX C (.ref it) J Ks Kn:=λs E H=>by
 refine Zaj (H.dictEp hl) λkv hD c=>?_
 refine Zaj (H.obj u.lk) λO eo ro=>?_
 have q:=OR.ownE ro
 obtain⟨q1,q2⟩:=q
 have hI:s.heap.IsKeyIter it d i kv.length ep:=⟨O,eo,q1,by rw[c.length];exact q2⟩
 cases hx:l[i]? with
 | some x=>
  obtain⟨k,x⟩:=x
  refine Zaj (c.get hx) λv hv rv=>?_
  refine .of (wpAny_pyNext_dict_item hI hD hv λkey h' hkey hit' hs'=>?_)
  obtain⟨t,rfl⟩:=Value.isInt_shape hkey
  obtain⟨o2,e2,c2,d2⟩:=hit'
  obtain⟨H',tk⟩:=H.set (o':=.kiter d (i+1) l.length ep) u hs' e2 (.own ⟨c2,by rw[<- c.length];exact d2⟩) s.toks
  exact⟨.int k,_,ks k x hx,.int _ _,H',tk⟩
 | none=>
  have:kv[i]?=none:=by
   have h1:l.length<=i:=by simpa using hx
   have:=c.length
   simp;lia
  refine .of (wpAny_pyNext_dict_end hh hI hD this λh' he=>?_)
  refine And.elim (λH' tk=>?_) (H.dropExt p he s.toks)
  exact⟨_,kn hx,H',tk⟩
theorem Zqe(H:Holds C ⟨loc,(it,.kiter d i n ep)::obs⟩ s):∃ O n,s.heap.get? it=some O/\O.cls = .type n/\ownsTuple.contains n=false:=by
 refine Zaj (H.obs _ (.head _)) λO e ro=>?_
 have q:=OR.ownE ro
 exact⟨_,_,e,q.1,by decide⟩
theorem Zpg(H:Holds C ⟨loc,(it,.viter d i n ep)::obs⟩ s):∃ O n,s.heap.get? it=some O/\O.cls = .type n/\ownsTuple.contains n=false:=by
 refine Zaj (H.obs _ (.head _)) λO e ro=>?_
 have q:=OR.ownE ro
 exact⟨_,_,e,q.1,by decide⟩
theorem Zp0 {l:List (Int×V)} (h:LkO d (.dictE oe l) J.obs) (k:∀ v,K (.ref v) ⟨J.loc,(v,.vview d)::J.obs⟩):CF C (.bi "dict.values") [.ref d] J K:=λs fv vs H rf rl=>by
 o_facts rf
 revert rl
 intro rl0
 refine VRs.consK rl0 λY Y r rl e0=>?_
 subst e0
 o_facts rl
 o_facts r
 obtain⟨o,ep,kv,e,a,b,c⟩:=H.dict h
 have hD:=Zcr (prog:=C.G.prog) (w:=C.G.w) e b
 exact .of (call_meetsIn PySem.F.slot_dict_values hD.typeIs PySem.F.entry_dict_values (PySem.F.args_dict_values_1 _) (meets_dict_values (intKind C.G.prog C.G.w) d (H.sm h.key)) ⟨⟨kv,hD⟩,.ref s.heap.objs.size,_,k _,.ref _,H.alloc (n:=s.toks) (o:=.vview d) Qa (Qw _) (Qg _ rfl) (.own ⟨rfl,rfl⟩),.of_ext Qa⟩)
theorem Znj{v:Addr}{l:List (Int×V)}{obs:Option Nat->Wg}{K:Value->Wl}(p:Pick (v,.vview d) J.obs rest)(u:∀ oe,UpO d (.dict l) (.dictE oe l) rest (obs oe))(k:∀ it ep,K (.ref it) ⟨J.loc,(it,.viter d 0 l.length ep)::obs (some ep)⟩):IT C (.ref v) J K:=λva s H r=>by
 o_facts r
 refine Zaj (H.obs _ p.mem) λO eo ro=>?_
 obtain⟨ep,H'⟩:=(H.drop p).dictFix (J:=⟨J.loc,rest⟩) u
 have lk:LkO d (.dictE (some ep) l) (obs (some ep)):=(u (some ep)).nw
 refine Zaj (H'.dictEp lk) λkv hD c=>?_
 have q:=OR.ownE ro
 refine .of (wpAny_pyIter_values ⟨O,eo,q.1,q.2⟩ hD ⟨_,k _ ep,H'.alloc (n:=s.toks) (o:=.viter d 0 l.length ep) Qa (Qw _) (Qg _ rfl) (.own ⟨rfl,?_⟩),.of_ext Qa⟩)
 rw[c.length];rfl
theorem Zpn{l:List (Int×V)}{Ks:Wk}(hh:C.A.handled=none)(hl:LkO d (.dictE (some ep) l) J.obs)(u:UpO it (.viter d i l.length ep) (.viter d (i+1) l.length ep) J.obs obs')
  (p:Pick (it,.viter d i l.length ep) J.obs rest) (ks:∀ k x,l[i]?=some (k,x)->Ks x ⟨J.loc,obs'⟩) (kn:l[i]?=none->Kn ⟨J.loc,rest⟩):NX C (.ref it) J Ks Kn:=λs E H=>by
 refine Zaj (H.dictEp hl) λkv hD c=>?_
 refine Zaj (H.obj u.lk) λO eo ro=>?_
 have q:=OR.ownE ro
 obtain⟨q1,q2⟩:=q
 have hI:s.heap.IsValIter it d i kv.length ep:=⟨O,eo,q1,by rw[c.length];exact q2⟩
 cases hx:l[i]? with
 | some x=>
  obtain⟨k,x⟩:=x
  refine Zaj (c.get hx) λv hv rv=>?_
  refine .of (wpAny_pyNext_values_item hI hD hv λh' hit' hs'=>?_)
  obtain⟨o2,e2,c2,d2⟩:=hit'
  obtain⟨H',tk⟩:=H.set (o':=.viter d (i+1) l.length ep) u hs' e2 (.own ⟨c2,by rw[<- c.length];exact d2⟩) s.toks
  exact⟨x,_,ks k x hx,rv.mono tk,H',tk⟩
 | none=>
  have:kv[i]?=none:=by
   have h1:l.length<=i:=by simpa using hx
   have:=c.length
   simp;lia
  refine .of (wpAny_pyNext_values_end hh hI hD this λh' he=>?_)
  refine And.elim (λH' tk=>?_) (H.dropExt p he s.toks)
  exact⟨_,kn hx,H',tk⟩
theorem Zl4(h:LkO it (.viter d i n ep) J.obs):Zj9 C (.ref it) J:=λs E Q H q=>by
 refine Zaj (H.obj h) λO eo ro=>?_
 have p:=OR.ownE ro
 exact .of (wpAny_pyIter_valiter ⟨O,eo,p.1,p.2⟩ q)
noncomputable def oSet(l:List Int):Ob where
 P _ o:=o.cls = .type "set" /\ ∃ n,n<=l.length/\o.IntSetOf (λk=>decide (k∈l)) n
 mono _ _ _ _ h:=h
 noTup _ _ h vs n e:=by obtain⟨h,_⟩:=h;subst e;simp at h
noncomputable abbrev AO.set(l:List Int):AO:=.own (oSet l)
theorem cf_set0 (k:∀ a,K (.ref a) ⟨J.loc,(a,.set [])::J.obs⟩):CF C (.ty "set") [] J K:=λs fv vs H rf rl=>by
 o_facts rf
 o_facts rl
 refine .of (call_set_0 λled=>?_)
 refine⟨_,_,k _,.ref _,H.alloc (n:=s.toks) (o:=.set []) Qa (Qw _) (Qg _ rfl) (.own ⟨rfl,0,Qw _,?_⟩),.of_ext Qa⟩
 have:(λk:Int=>decide (k∈([]:List Int)))=λY=>false:=by funext k;simp
 rw[this]
 exact intSetOf_fresh led
theorem Holds.setOf(H:Holds C J s){l:List Int}(h:LkO a (.set l) J.obs)(hz:l.length<4096):∃ n,n<=l.length/\s.heap.SetOf (intKind C.G.prog C.G.w) a (λk=>decide (k∈l)) n:=by
 exists (C J s a l),H,h,hz
 refine Zaj (H.obj h) λO e r=>?_
 have p:=OR.ownE r
 obtain⟨_,n,hn,hS⟩:=p
 exact⟨n,hn,(hS C.G.prog C.G.w).setOf e (by show n<4096;lia)⟩
theorem Zl5 {l:List Int} {K:V->List V->Wl} (h:LkO a (.set l) J.obs) (k:K (.bi "set.add") [.ref a] J) (hz:l.length<4096):GM C (.ref a) "add" J K:=λs v pl H r=>by
 o_facts r
 obtain⟨n,hn,hS⟩:=H.setOf h hz
 exact .of (getMethod_set_add hS ⟨_,_,_,k,.bi _,.cons (.ref a) .nil,H,.refl _⟩)
theorem Zm5 {l:List Int} {k:Int} (u:UpO a (.set l) (.set (k::l)) J.obs obs') (kk:K .none ⟨J.loc,obs'⟩) (hz:l.length+1<4096):CF C (.bi "set.add") [.ref a,.int k] J K:=by
 exists (C J K a obs' l k),u,kk,hz
 intro s fv vs H rf rl
 o_facts rf
 exists (s vs),H,rl,rf
 revert rl
 intro rl0
 refine VRs.consK rl0 λY Y r rl e0=>?_
 subst e0
 revert rl
 intro rl0
 refine VRs.consK rl0 λY Y r2 rl e0=>?_
 subst e0
 o_facts rl
 o_facts r;o_facts r2
 obtain⟨n,hn,hS⟩:=H.setOf u.lk (by lia)
 refine .of (call_set_add (intKind_is _ _ _ _) rfl hS (by show n+1<4096;lia) λh' hsb hS'=>?_)
 obtain⟨so',ho',hso'⟩:=hS'.objOf
 have e:(λk'=>decide (k'∈l)||decide (k'=k))=λk':Int=>decide (k'∈k::l):=by
  funext k'
  rw[Bool.eq_iff_iff]
  simp[or_comm]
 rw[e] at hso'
 obtain⟨H',tk⟩:=H.set (o':=.set (k::l)) u hsb ho' (.own ⟨hso'.1.1,_,by
  simp only[List.length_cons]
  split <;> lia,hso'.intSetOf⟩) (s.toks+1)
 exact⟨_,_,kk,.none,H',tk⟩
theorem op_set_in{l:List Int}{k:Int}(h:LkO a (.set l) J.obs)(kk:K (.bool (decide (k∈l))) J)(hz:l.length<4096):OP2 C VR (compareOp .In) (.int k) (.ref a) J K:=λs v u H r1 r2=>by
 o_facts r1;o_facts r2
 obtain⟨n,hn,hS⟩:=H.setOf h hz
 exact .of (wpAny_inSet_of (intKind_is _ _ _ _) rfl hS (Pst.hereT H (.bool _) kk))
theorem Zgb (h:LkO a (.list l) J.obs) (k:K (.tup l) J) (hz:l.length<=sizeLine):CF C (.ty "tuple") [.ref a] J K:=λs fv vs H rf rl=>by
 o_facts rf
 revert rl
 intro rl0
 refine VRs.consK rl0 λY Y r rl e0=>?_
 subst e0
 o_facts rl
 o_facts r
 refine Zbp (H.list h) λws n e r=>?_
 refine .of (call_tuple_list ⟨_,e,rfl,n,rfl⟩ (λh' hk=>?_) (by simpa [r.length] using hz))
 have kp:∀ b o,s.heap.get? b=some o->(h'.push { cls:=.type "tuple",data:=.seq ws.toArray }).get? b=some o:=λb o e=>Heap.get?_push_of_some _ (hk _ _ e)
 exact⟨.tup l,_,k,.tup (Qg _ rfl) (r.mono (.of_ext kp)),H.ext kp s.toks,.of_ext kp⟩
theorem Zsr (u:UpO a (.list l) (.list []) J.obs obs') (k:K .none ⟨J.loc,obs'⟩) (hz:l.length<=sizeLine):CF C (.bi "list.clear") [.ref a] J K:=λs fv vs H rf rl=>by
 o_facts rf
 revert rl
 intro rl0
 refine VRs.consK rl0 λY Y r rl e0=>?_
 subst e0
 o_facts rl
 o_facts r
 refine Zbp (H.list u.lk) λws n e r=>?_
 refine And.elim (λH' tk=>?_) (H.mapList u e (λY=>#[]) (vs':=[]) rfl .nil)
 exact .of (call_meets F.slot_list_clear ⟨_,e,rfl⟩ F.entry_list_clear (F.args_list_clear_1 _) (AutoSeq1.list_clear_list_0 a ws.toArray n (by simpa [r.length] using hz)) ⟨e,_,_,k,.none,H',tk⟩)
theorem Zhf (h:LkO a (.list l) J.obs) (k:K (.bool (!l.isEmpty)) J) (hz:l.length<=sizeLine):CF C (.ty "bool") [.ref a] J K:=by
 exists (C J K a l),h,k,hz
 intro s fv vs H rf rl
 o_facts rf
 revert rl
 intro rl0
 refine VRs.consK rl0 λY Y r rl e0=>?_
 subst e0
 o_facts rl
 o_facts r
 refine Zbp (H.list h) λws n e r=>?_
 have hzz:sizeLine=16777216:=by decide
 have hlen:=r.length
 have eq:(!ws.toArray.isEmpty)=!l.isEmpty:=by rw[<- Zfp r.length];simp
 have fin:Pst C VR K s (.bool (!ws.toArray.isEmpty)) { s with toks:=s.toks+1+1 }:=by rw[eq];exact Pst.hereT H (.bool _) k
 have M:Meets (Builtin.«bool.__new__» ⟨[.type "bool",.ref a],[]⟩) (λY R s=>s.heap.get? a=some (listOf ws.toArray n)/\R (.ok (.ret (.bool (!ws.toArray.isEmpty)))) { s with toks:=s.toks+1+1 }):=
  Meets.of_wp <| by
   rintro prog w A R s ⟨he,hs⟩
   have f1:=F.conv_sub_bool
   have ht:=wpAny_truthy_list (prog:=prog) (w:=w) (A:=A.in1) (E:=λe s'=>R (.error e) s') (s:=s) (Q:=λb s'=>R (.ok (.ret (.bool b))) s') (l:=a) (items:=ws.toArray) ⟨_,he,rfl,n,rfl⟩ (by simp[hlen];lia) hs
   obtain⟨hp,g,d,tk,os⟩:=s
   repeat (any_goals (first|assumption|(refine Qh (wpAny_mono ht (λb s' z=>?_) λY Y e=>e))|wp_step))
   all_goals first|exact⟨_,rfl,z⟩|skip
 exact .of (call_bool_1 M (show _/\_ from⟨e,⟨rfl,fin⟩⟩))
theorem as_sub{o i:Expr}{a:V}{K:Wl}(h:EV C (eval o C.env) J λb J_1=>EV C (eval i C.env) J_1 λc J_2=>OP3 C (λ_ (_:Unit) _=>True) setItem b c a J_2 λY J=>K J):U1 C (assign (.Subscript o i pos) C.env) a J K:=λs v H r=>by
 rw[arm_assign_Subscript]
 refine Zaa (Zae (h.step H λb J_1 vb s_1 k_1 r_1 H_1 t_1=>Zaa (Zae (k_1.step H_1 λc J_2 vc s_2 k_2 r_2 H_2 t_2=>Zaa (Zac (Zaa (Zae ?_)))))))
 exact Zad (k_2 s_2 vb vc v H_2 (r_1.mono t_2) r_2 (r.mono (t_1.trans t_2))) (λY s_3 p=>Zba (p.tk (t_1.trans t_2))) λY Y e=>e
theorem x_assign2{t1 t2:Expr}{K:Wj}(h:EV C (eval value C.env) J λa J_1=>U1 C (assign t1 C.env) a J_1 λJ_2=>U1 C (assign t2 C.env) a J_2 λJ=>K .next J)
  (he:∀ v,assignAll v ((assignEach [t1,t2] C.env).map (·.2))=(do holding [v] (assign t1 C.env v);assign t2 C.env v)) (hs:swapsWithSole [t1,t2] value pos.line C.env=pure false) (hw:swappedStores [t1,t2] value C.env=pure none):XV C (exec (.Assign [t1,t2] value pos) C.env) J K:=λs H=>by
 rw[exec_Assign]
 refine Zaa (Zac ?_)
 rw[hs]
 refine Zaa (Zab ?_)
 rw[if_neg (by decide)]
 refine Zaa (h.step H λa J_1 v s_1 k r H_1 t=>?_)
 rw[hw]
 refine Zaa (Zab ?_)
 show wpP (α:=Flow) _ _ (do assignAll v ((assignEach [t1,t2] C.env).map (·.2));pure Flow.next) _ _ s_1
 rw[he]
 refine Zaa (Zaa (Zae (Zap (k s_1 v H_1 r) (λY s_2 Y J_2 k_2 Y H_2 t_2=>?_))))
 exact Zap (k_2 s_2 v H_2 (r.mono t_2)) (λY s_3 Y J_3 k_3 Y H_3 t_3=>Zab ⟨.next,J_3,k_3,.next,H_3,(t.trans t_2).trans t_3⟩)
theorem cf_len_tup (k:K (.int l.length) J) (hz:l.length<=sizeLine):CF C (.bi "len") [.tup l] J K:=λs fv vs H rf rl=>by
 o_facts rf
 revert rl
 intro rl0
 refine VRs.consK rl0 λY Y r rl e0=>?_
 subst e0
 o_facts rl
 revert r
 intro r0
 refine VR.tupK r0 λY Y Y e r e0=>?_
 subst e0
 have hzz:sizeLine=16777216:=by decide
 have:=r.length
 exact .of (len_tuple ⟨_,e,rfl,_,rfl⟩ (by simp[r.length];lia) (by simpa [r.length] using Pst.hereT H (.int _ _) k))
section
variable {P:Params}{G:Gl}
end
section
variable {P:Params}{x dx:Addr}{a b c d a':V}{obs':Wg}{K:Wk}{K':Wl}
end
theorem Zku(g:Good C.A n)(F:Fn C.G (.ref f) n args sel K')(p:J.obs.Perm (sel++rest))
  (k:∀ r obs',K' r obs'->K r ⟨J.loc,obs'++rest⟩):CF C (.ref f) args J K:=λs fv vs H rf rl=>by
 have S:∀ (sel rest:Wg),Sel (sel++rest) sel rest:=by
  intro sel rest
  induction sel with
  | nil=>exact .nil
  | cons x l ih=>exact .cons .head ih
 exact Zx4 (J:=⟨J.loc,sel++rest⟩) g F (S sel rest) k s fv vs (H.perm p) rf rl
theorem Zk2(g:Good C.A n)(F:Fn C.G (.ref f) n args J.obs K')(k:∀ r obs',K' r obs'->K r ⟨J.loc,obs'⟩):CF C (.ref f) args J K:=
 Zku (rest:=[]) g F (by rw[List.append_nil]) λr o h=>by rw[List.append_nil];exact k r o h
theorem Zxp:hookBefore (.type "list")=pure none:=by kernel_rfl
theorem Zig:Slot "list" "__getattribute__" "list.__getattribute__" :=
 .of (owner := "list") (n := "__getattribute__") (by rw[Qn,Qm];kernel_rfl) (by decide +kernel) (by decide +kernel) (by decide +kernel)
  (by first|exact .inl (by decide +kernel)|exact .inr (by decide +kernel)) (by rw[isSubtype_type];kernel_rfl)
theorem Zf8:entryFor table "list.__getattribute__" = some Builtin.«object.__getattribute__»:=entryFor_alias (id' := "object.__getattribute__") (by kernel_rfl) rfl (by decide +kernel) (by kernel_rfl)
theorem Ziz (a b:Value):argsOk "list.__getattribute__" ⟨[a,b],[]⟩:=by unfold argsOk;kernel_rfl
theorem Zq8:hookBefore (.type "list_iterator")=pure none:=by kernel_rfl
theorem Zg1:Slot "list_iterator" "__getattribute__" "object.__getattribute__" :=
 .of (owner := "object") (n := "__getattribute__") (by rw[Qn,Qm];kernel_rfl) (by decide +kernel) (by decide +kernel) (by decide +kernel)
  (by first|exact .inl (by decide +kernel)|exact .inr (by decide +kernel)) (by rw[isSubtype_type];kernel_rfl)
theorem Zho:entryFor table "object.__getattribute__" = some Builtin.«object.__getattribute__»:=by first|exact entryFor_of_tree (by kernel_rfl)|exact entryFor_of_fast (by kernel_rfl)
theorem Zj6 (a b:Value):argsOk "object.__getattribute__" ⟨[a,b],[]⟩:=by unfold argsOk;kernel_rfl
theorem Zup (h:typeOf (.builtin id)=pure (.type T)) {r:Option Value} (e:typeLookup (.type T) "__get__" = pure r):Builtin.ObjectAttr.getOf (some (.builtin id))=pure r:=by
 show(do typeLookup (<- typeOf (.builtin id)) "__get__")=_
 rw[h]
 exact e
theorem Zie (h:typeOf (.builtin id)=pure (.type T)) (e1:typeLookup (.type T) "__set__" = pure none) (e2:typeLookup (.type T) "__delete__" = pure none):Builtin.ObjectAttr.takesStores (.builtin id)=pure false:=by
 have h1:specialOf (.builtin id) "__set__" = pure none:=by
  show(do typeLookup (<- typeOf (.builtin id)) "__set__")=_
  rw[h]
  exact e1
 have h2:specialOf (.builtin id) "__delete__" = pure none:=by
  show(do typeLookup (<- typeOf (.builtin id)) "__delete__")=_
  rw[h]
  exact e2
 unfold Builtin.ObjectAttr.takesStores
 rw[h1]
 show(do return (<- specialOf (.builtin id) "__delete__").isSome)=_
 rw[h2];rfl
section
variable {prog:Program}{w:World}{A:Around}{E:Wh}{s:Shared}
theorem Zkp{gaId gid kind:String}{name:Str}(e:s.heap.get? a=some o)(hc:o.cls = .type T)(hd:o.dict=none)(hno:notCls o=true)
  (sl:Slot T "__getattribute__" gaId) (en:entryFor table gaId=some Builtin.«object.__getattribute__») (ar:∀ a b,argsOk gaId ⟨[a,b],[]⟩)
  (hb:hookBefore (.type T)=pure none) (lk:typeLookup (.type T) name=pure (some (.builtin id))) (g1:Builtin.ObjectAttr.getOf (some (.builtin id))=pure (some (.builtin gid))) (g2:Builtin.ObjectAttr.takesStores (.builtin id)=pure false)
  (hcop:(["__module__", "__name__", "__qualname__", "__doc__", "__annotations__"]:List Str).contains name=false)
  (hget:∀ (A:Around) (E:Wh) (tk:Nat) (Q:Wh),(Q (.ref s.heap.objs.size) { s with toks:=tk,heap:=s.heap.push { cls:=.type kind,data:=.fields #[.builtin id,.ref a] } })->wpAny (model prog w) A (call (.builtin gid) [.builtin id,.ref a,.type T]) Q E { s with toks:=tk })
  (hq:Q (.ref s.heap.objs.size) { s with toks:=s.toks+1,heap:=s.heap.push { cls:=.type kind,data:=.fields #[.builtin id,.ref a] } }):wpAny (model prog w) A (getAttr (.ref a) name true) Q E s:=by
 exists (a id Q o T prog w A E s gaId gid kind name),e,hc,hd,hno,sl,en,ar,hb,lk,g1,g2,hcop,hget,hq
 obtain⟨hh,g,d,t,os⟩:=s
 exists (hh g d t os),e,hget,hq
 have ht:∀ tk,Shared.TypeIs ⟨hh,g,d,tk,os⟩ (.ref a) T:=λY=>⟨_,e,hc⟩
 unfold getAttr
 refine Qh (wpAny_mkText ?_)
 unfold getAttrBy
 refine wpAny_holding (Qh (wpAny_typeOf (ht _) (Qh (Qy sl.lookup ?_))))
 show wpAny _ _ (if (onTheHeap (.type T)&&(Value.builtin gaId == .builtin "object.__getattribute__"))=true then _ else getAttrByItsOwn _ _ _ _ _ _) _ _ _
 rw[if_neg (by exact Wa)]
 unfold getAttrByItsOwn callGetattribute
 refine Qh (Qy hb ?_)
 refine Qh (wpAny_attempt (wpAny_holding ?_))
 show wpAny _ _ (if (true&&onTheHeap (.builtin gaId))=true then _ else _) _ _ _
 rw[if_neg (by exact Wa)]
 unfold boundAndCalled
 rw[sl.bind]
 refine Qh (Qi ?_)
 refine wpAny_call_entry sl (ht _) en ?_ (ar _ _)
 refine Qh (Qi ?_)
 refine Qh (Qi ?_)
 refine Qh (wpAny_typeOf (ht _) ?_)
 refine Qh ?_
 unfold Builtin.ObjectAttr.find
 refine Qh (Qy lk (Qh (Qy g1 (Qh ?_))))
 show wpAny _ _ (Builtin.ObjectAttr.takesStores (.builtin id) >>= λb=>if b=true then _ else _) _ _ _
 refine Qh (Qy g2 ?_)
 refine Qi ?_
 show wpAny _ _ (Builtin.ObjectAttr.ownThenClass _ _ _ _) _ _ _
 unfold Builtin.ObjectAttr.ownThenClass
 refine Qh ?_
 unfold Builtin.ObjectAttr.inOwnDict
 refine Qh ?_
 unfold Builtin.ObjectAttr.ownDict
 refine Qh (wpAny_loadPart e ?_)
 obtain⟨oc,od,oda,osl⟩:=o
 exists (oc od oda osl),hc,hd,hno,e
 dsimp only at hc hd
 subst hc;subst hd
 have inst:∀ {Q':Option Value->Shared->Prop} {E':Wh} {A'},Q' none ⟨hh,g,d,t+1,os⟩->wpAny (model prog w) A' (instanceDict a false) (λx s'=>wpAny (model prog w) A' (Builtin.ObjectAttr.inDict name x) Q' E' s') E' ⟨hh,g,d,t+1,os⟩:=by
  intro Q' E' A' hq
  unfold instanceDict
  refine Qh (wpAny_loadPart e ?_)
  exact Qi (Qi hq)
 induction oda
 case cls=>cases hno
 all_goals
  refine inst ?_
  dsimp only
  refine Qh ?_
  unfold Builtin.ObjectAttr.copiedAttributeGuard
  dsimp only
  rw[hcop]
  refine Qi ?_
  refine Qh (wpAny_rule (Qi ?_))
  dsimp only
  unfold Builtin.ObjectAttr.bindTo
  dsimp only
  refine Qh (wpAny_holding (hget _ _ _ _ ?_))
  refine Qi ⟨_,rfl,?_⟩
  show wpAny _ _ (handedOut _) _ _ _
  exact Qi hq
theorem Znv:typeLookup (.type "method_descriptor") "__get__" = pure (some (.builtin "method_descriptor.__get__")):=by rw[Qn,Qm];kernel_rfl
theorem Zqp:typeLookup (.type "wrapper_descriptor") "__get__" = pure (some (.builtin "wrapper_descriptor.__get__")):=by rw[Qn,Qm];kernel_rfl
theorem Zjr:Slot "method_descriptor" "__get__" "method_descriptor.__get__" :=
 .of (owner := "method_descriptor") (n := "__get__") (by rw[Qn,Qm];kernel_rfl) (by decide +kernel) (by decide +kernel) (by decide +kernel)
  (by first|exact .inl (by decide +kernel)|exact .inr (by decide +kernel)) (by rw[isSubtype_type];kernel_rfl)
theorem Zki:Slot "wrapper_descriptor" "__get__" "wrapper_descriptor.__get__" :=
 .of (owner := "wrapper_descriptor") (n := "__get__") (by rw[Qn,Qm];kernel_rfl) (by decide +kernel) (by decide +kernel) (by decide +kernel)
  (by first|exact .inl (by decide +kernel)|exact .inr (by decide +kernel)) (by rw[isSubtype_type];kernel_rfl)
theorem Zhh:entryFor table "method_descriptor.__get__" = some Builtin.«method_descriptor.__get__»:=entryFor_of_tree (by kernel_rfl)
theorem Zh6:entryFor table "wrapper_descriptor.__get__" = some Builtin.«wrapper_descriptor.__get__»:=entryFor_of_tree (by kernel_rfl)
theorem Zjj (a b c:Value):argsOk "method_descriptor.__get__" ⟨[a,b,c],[]⟩:=by unfold argsOk;kernel_rfl
theorem Zi2 (a b c:Value):argsOk "wrapper_descriptor.__get__" ⟨[a,b,c],[]⟩:=by unfold argsOk;kernel_rfl
theorem Zbf:typeOf (.builtin "list_iterator.__next__")=pure (.type "wrapper_descriptor"):=by show builtinType _=_;rw[builtinType_eq_fast];kernel_rfl
theorem Zfa (hs:s.TypeIs (.ref a) "list") (hq:Q (.ref s.heap.objs.size) { s with heap:=s.heap.push { cls:=.type "builtin_function_or_method",data:=.fields #[.builtin "list.append",.ref a] } }):wpAny (model prog w) A (call (.builtin "method_descriptor.__get__") [.builtin "list.append",.ref a,.type "list"]) Q E s:=by
 exists (a Q prog w A E s),hs,hq
 have hl:=F.slot_list_append.lookup
 have sub:isSubtype (.type "list") (.type "list")=pure true:=by rw[isSubtype_type];kernel_rfl
 refine wpAny_call_entry Zjr (self:=.builtin "list.append") ?_ Zhh ?_ (Zjj _ _ _)
 .exact type_list_append
 unfold Builtin.«method_descriptor.__get__»
 refine Qh (Qi ?_)
 have e1:(Value.ref a==Value.none)=false:=rfl
 have e2:(Value.type "list" == Value.none)=false:=rfl
 have e3:Manifest.toldItsClass.contains "list.append" = false:=by decide +kernel
 simp only[e1,e2,e3,Bool.false_eq_true,if_false]
 refine Qh (Qh (Qi ?_))
 refine Qh (wpAny_isInstance hs (by exact sub) ?_)
 rw[if_neg (by decide)]
 exact Qi (Qh (wpAny_newObj_type (Qi ⟨_,rfl,hq⟩) (by size_fits)))
theorem Zhs (hs:s.TypeIs (.ref a) "list_iterator") (hq:Q (.ref s.heap.objs.size) { s with heap:=s.heap.push { cls:=.type "method-wrapper",data:=.fields #[.builtin "list_iterator.__next__",.ref a] } }):wpAny (model prog w) A (call (.builtin "wrapper_descriptor.__get__") [.builtin "list_iterator.__next__",.ref a,.type "list_iterator"]) Q E s:=by
 have sub:isSubtype (.type "list_iterator") (.type "list_iterator")=pure true:=by rw[isSubtype_type];kernel_rfl
 refine wpAny_call_entry Zki (self:=.builtin "list_iterator.__next__") ?_ Zh6 ?_ (Zi2 _ _ _)
 .exact Zbf
 unfold Builtin.«wrapper_descriptor.__get__»
 refine Qh (Qi ?_)
 dsimp only
 refine Qh (Qh (Qi ?_))
 refine Qh (wpAny_isInstance hs (by exact sub) ?_)
 rw[if_neg (by decide)]
 exact Qi (Qh (wpAny_newObj_type (Qi ⟨_,rfl,hq⟩) (by size_fits)))
theorem Zqs{xs:Array Value}(e:s.heap.get? a=some (listOf xs n))(hq:Q (.ref s.heap.objs.size) { s with toks:=s.toks+1,heap:=s.heap.push { cls:=.type "builtin_function_or_method",data:=.fields #[.builtin "list.append",.ref a] } }):wpAny (model prog w) A (getAttr (.ref a) "append" true) Q E s:=
 Zkp e rfl rfl rfl Zig Zf8 Ziz Zxp F.slot_list_append.lookup (Zup type_list_append Znv) (Zie type_list_append (by rw[Qn,Qm];kernel_rfl) (by rw[Qn,Qm];kernel_rfl)) (by decide +kernel)
  (λA E tk Q h=>Zfa ⟨_,e,rfl⟩ h) hq
theorem Zwv (e:s.heap.get? a=some o) (hc:o.cls = .type "list_iterator") (hd:o.dict=none) (hno:notCls o=true) (hq:Q (.ref s.heap.objs.size) { s with toks:=s.toks+1,heap:=s.heap.push { cls:=.type "method-wrapper",data:=.fields #[.builtin "list_iterator.__next__",.ref a] } }):wpAny (model prog w) A (getAttr (.ref a) "__next__" true) Q E s:=
 Zkp e hc hd hno Zg1 Zho Zj6 Zq8 slot_listiter_next.lookup (Zup Zbf Zqp) (Zie Zbf (by rw[Qn,Qm];kernel_rfl) (by rw[Qn,Qm];kernel_rfl)) (by decide +kernel)
  (λA E tk Q h=>Zhs ⟨_,e,hc⟩ h) hq
theorem Zc9{self:Addr}{kind:String} {R:Result->Shared->Prop} (hk:kind = "builtin_function_or_method" \/ kind = "method-wrapper") (e:s.heap.get? m=some { cls:=.type kind,data:=.fields #[.builtin id,.ref self] })
  (hck:wpAny (model prog w) A.in1 (checkBoundCall id ⟨.ref self::vs,[]⟩) (λY s_1=>s_1=s) (λe s'=>R (.error e) s') s) (hq:(Code.builtin id ⟨.ref self::vs,[]⟩).quiet=true) (h:codeAny (model prog w) A (.builtin id ⟨.ref self::vs,[]⟩) R s):codeAny (model prog w) A (.call (.ref m) ⟨vs,[]⟩) R s:=by
 exists (vs id m prog w A s self kind R),hk,e,hck,hq,h
 refine codeAny_of_tree ?_
 show wpAny _ A.in1 (callAny (.ref m) _) _ _ _
 refine Qh (wpAny_load e ?_)
 dsimp only
 have hc:(Value.type kind == .type "method" || Value.type kind == .type "builtin_function_or_method" || Value.type kind == .type "method-wrapper")=true:=by
  rcases hk with rfl|rfl <;> decide
 rw[if_pos hc]
 have hm:(Value.type kind != .type "method")=true:=by rcases hk with rfl|rfl <;> decide
 show wpAny _ _ (if (Value.type kind != .type "method")=true then (do checkBoundCall id ⟨.ref self::vs,[]⟩;again (.builtin id ⟨.ref self::vs,[]⟩)) else _) _ _ _
 rw[if_pos hm]
 exact Qh (wpAny_mono hck (λY s_1 e_1=>by subst e_1;exact Qi ⟨hq,h⟩) λY Y e=>e)
theorem Zph (f:String) (hf:f = "list.append") (a v:Value):(match Manifest.signature? "list.append" with|some sig=>Bind.checkArgs "list.append" { sig with full:=f } ⟨[a,v],[]⟩|none=>pure ())=pure ():=by subst hf;kernel_rfl
theorem Zw8 (a:Value):(match Manifest.signature? "list_iterator.__next__" with|some sig=>Bind.checkArgs "list_iterator.__next__" sig ⟨[a],[]⟩|none=>pure ())=pure ():=by kernel_rfl
theorem Zm1 {v:Value} {xs:Array Value} (e:s.heap.get? a=some (listOf xs n)):wpAny (model prog w) A (checkBoundCall "list.append" ⟨[.ref a,v],[]⟩) (λY s_1=>s_1=s) E s:=by
 exists (a n prog w A E s v xs),e
 have hs:s.TypeIs (.ref a) "list" := ⟨_,e,rfl⟩
 have k:builtinKind "list.append" = some .method:=by decide +kernel
 have s1:isSubtype (.type "list") (.type "module")=pure false:=by rw[isSubtype_type];kernel_rfl
 have vm:Manifest.varargsMethods.contains "list.append" = false:=by decide +kernel
 have ca:=λf hf=>Zph f hf (.ref a) v
 unfold checkBoundCall
 cases hsig:Manifest.signature? "list.append" with
 | none=>exact Qi rfl
 | some sig=>
  rw[hsig] at ca
  simp -iota only[k]
  dsimp only
  rw[if_neg (by decide)]
  refine Qh (wpAny_isInstance hs s1 ?_)
  rw[vm,if_neg (by decide)]
  refine Qh (Qh (wpAny_loadPart e (Qi ?_)))
  rw[if_neg (by exact Wa)]
  refine Qh (wpAny_typeOf hs ?_)
  dsimp only
  exact Qy (ca _ (by decide +kernel)) rfl
theorem Zkr:wpAny (model prog w) A (checkBoundCall "list_iterator.__next__" ⟨[.ref a],[]⟩) (λY s_1=>s_1=s) E s:=by
 exists (a prog w A E s)
 have k:builtinKind "list_iterator.__next__" = some .slot:=by decide +kernel
 have ca:=Zw8 (.ref a)
 unfold checkBoundCall
 cases hsig:Manifest.signature? "list_iterator.__next__" with
 | none=>exact Qi rfl
 | some sig=>
  rw[hsig] at ca
  simp -iota only[k]
  dsimp only
  rw[if_pos (by decide)]
  exact Qy ca rfl
theorem Zc6{v:Value}{xs:Array Value}(em:s.heap.get? m=some { cls:=.type "builtin_function_or_method",data:=.fields #[.builtin "list.append",.ref a] })(e:s.heap.get? a=some (listOf xs n))(hz:xs.size<=sizeLine)
  (h:Q .none { s with heap:=s.heap.update a (Obj.mapSeq λx=>x.push v) }):wpAny (model prog w) A (call (.ref m) [v]) Q E s:=by
 refine wpAny_call (Zc9 (.inl rfl) em (Zm1 e) (Code.quiet_builtin _ (by decide +kernel)) (codeAny_builtin F.entry_list_append ?_))
 rw[Around.under_plainId (by decide +kernel) _]
 exact list_append a xs n v hz prog w _ (λr s'=>match r with | .ok (.ret v)=>Q v s' | .ok _=>False | .error e=>E e s') _ ⟨e,h⟩
theorem Zen{l:Addr}{items:Array Value}{v:Value}(em:s.heap.get? m=some { cls:=.type "method-wrapper",data:=.fields #[.builtin "list_iterator.__next__",.ref it] })
  (hit:s.heap.IsListIter it l i) (hl:s.heap.IsList l items) (hx:items[i]?=some v) (h:∀ h',h'.IsListIter it l (i+1)->Heap.SameBut it s.heap h'->Q v { s with heap:=h' }):wpAny (model prog w) A (call (.ref m) []) Q E s:=by
 obtain⟨o,ho,hc,hd⟩:=id hit
 obtain⟨ol,hol,_,nl,hdl⟩:=hl
 refine wpAny_call (Zc9 (.inr rfl) em Zkr (Code.quiet_builtin _ (by decide +kernel)) (codeAny_builtin entry_listiter_next ?_))
 rw[Around.under_plainId (by decide +kernel) _]
 show wpAny _ _ (field (.ref it) 0 >>= _) _ _ s
 refine Qh (wpAny_field ho hd (x:=.ref l) rfl ?_)
 show wpAny _ _ (if (Value.ref l==Value.none)=true then _ else _) _ _ s
 rw[if_neg (show ¬ ((Value.ref l==Value.none)=true) from Wa)]
 show wpAny _ _ (field (.ref it) 1 >>= _) _ _ s
 refine Qh (wpAny_field ho hd (x:=.int i 0) rfl ?_)
 show wpAny _ _ (seqItems? (.ref l) >>= _) _ _ s
 refine Qh (wpAny_seqItems hol hdl ?_)
 dsimp only[Int.toNat_natCast]
 rw[hx]
 dsimp only
 refine Qh (wpAny_setField ho hd (by simp) (Qi (h _ ⟨_,Heap.get?_update_self _ ho (Obj.isFreed_of_fields (Obj.data_mapFields hd _)),(Obj.cls_mapFields ..).trans hc,by
  rw[Obj.data_mapFields hd];simp[rawInt]⟩ (Heap.SameBut.update ..))))
theorem Ze7{l:Addr}{items:Array Value}(hh:A.handled=none)(em:s.heap.get? m=some { cls:=.type "method-wrapper",data:=.fields #[.builtin "list_iterator.__next__",.ref it] })
  (hit:s.heap.IsListIter it l i) (hl:s.heap.IsList l items) (hx:items[i]?=none) (h:∀ h' e h1,Heap.SameBut it s.heap h1->Heap.MadeExc h1 h' e "StopIteration" []->E (.ref e) { s with heap:=h' }):wpAny (model prog w) A (call (.ref m) []) Q E s:=by
 exists (it i Q m prog w A E s l items),hh,em,hit,hl,hx,h
 obtain⟨o,ho,hc,hd⟩:=id hit
 obtain⟨ol,hol,_,nl,hdl⟩:=hl
 refine wpAny_call (Zc9 (.inr rfl) em Zkr (Code.quiet_builtin _ (by decide +kernel)) (codeAny_builtin entry_listiter_next ?_))
 rw[Around.under_plainId (by decide +kernel) _]
 show wpAny _ _ (field (.ref it) 0 >>= _) _ _ s
 refine Qh (wpAny_field ho hd (x:=.ref l) rfl ?_)
 show wpAny _ _ (if (Value.ref l==Value.none)=true then _ else _) _ _ s
 rw[if_neg (show ¬ ((Value.ref l==Value.none)=true) from Wa)]
 show wpAny _ _ (field (.ref it) 1 >>= _) _ _ s
 refine Qh (wpAny_field ho hd (x:=.int i 0) rfl ?_)
 show wpAny _ _ (seqItems? (.ref l) >>= _) _ _ s
 refine Qh (wpAny_seqItems hol hdl ?_)
 dsimp only[Int.toNat_natCast]
 rw[hx]
 dsimp only
 refine Qh (wpAny_rule (Qh (wpAny_setField (i:=0) ho hd (by simp) ?_)))
 show wpAny _ _ (newExc (.type "StopIteration") [] >>= _) _ _ _
 refine Qh ?_
 unfold newExc newTuple
 refine Qh (wpAny_newObj_type ?_ (by size_fits))
 refine Qh (m:=firstArgMember _ _) (Qy (a:=Value.none) (by first|rfl|(simp -iota only[firstArgMember];rfl)) ?_)
 refine wpAny_newObj_type ?_ (by size_fits)
 refine wpAny_raiseNew_none hh (h _ _ _ (Heap.SameBut.update ..) ⟨λb o hb=>Heap.get?_push_of_some _ (Heap.get?_push_of_some _ hb),Heap.get?_none_of_le (by simp),(s.heap.update it _).objs.size,?_,Heap.get?_none_of_le (Qw _),?_⟩)
 .exact Qg _ rfl
 .exact Heap.get?_push_of_some _ (Qg _ rfl)
end
theorem Zo2:builtinKind "iter" = none:=by decide +kernel
theorem Zma:entryFor table "iter" = some Builtin.«iter»:=by first|exact entryFor_of_fast (by kernel_rfl)|exact entryFor_of_tree (by kernel_rfl)
theorem Zmg:plainId "iter" = true:=by decide +kernel
theorem Zoy (v:Value):argsOk "iter" ⟨[v],[]⟩:=by unfold argsOk;kernel_rfl
noncomputable def Z3f(kind id:String)(a:Addr):Ob where
 P _ o:=o={ cls:=.type kind,data:=.fields #[.builtin id,.ref a] }
 mono _ _ _ _ h:=h
 noTup _ _ h vs n e:=by subst h;simp[Zbk] at e
noncomputable abbrev AO.bound(kind id:String)(a:Addr):AO:=.own (Z3f kind id a)
noncomputable def Z4l(l:Addr):Ob where
 P _ o:=o={ cls:=.type "list_iterator",data:=.fields #[.ref l,.int 0 0] }
 mono _ _ _ _ h:=h
 noTup _ _ h vs n e:=by subst h;simp[Zbk] at e
theorem Zui (h:LkO a (.list l) J.obs) (k:∀ m,K (.ref m) ⟨J.loc,(m,.bound "builtin_function_or_method" "list.append" a)::J.obs⟩):GA C "append" (.ref a) J K:=λs v H r=>by
 o_facts r
 refine Zbp (H.list h) λvs n e Y=>?_
 exact .of (Zqs e ⟨_,_,k _,.ref _,H.alloc (n:=s.toks+1) Qa (Qw _) (Qg _ rfl) (.own rfl),.of_ext Qa⟩)
theorem Z3l (u:UpO it (.own (Z4l a)) (.liter a 0) J.obs obs') (k:∀ m,K (.ref m) ⟨J.loc,(m,.bound "method-wrapper" "list_iterator.__next__" it)::obs'⟩):GA C "__next__" (.ref it) J K:=λs v H r=>by
 o_facts r
 refine Zaj (H.obj u.lk) λO e ro=>?_
 have q:=OR.ownE ro
 have q':O=_:=q
 have H':=H.sharp u (λO Y ro=>by
  have q:=OR.ownE ro
  have q':O=_:=q
  subst q'
  exact .liter rfl rfl)
 refine .of (Zwv e (by rw[q']) (by rw[q']) (by rw[q'];rfl) ⟨_,_,k _,.ref _,H'.alloc (n:=s.toks+1) Qa (Qw _) (Qg _ rfl) (.own rfl),.of_ext Qa⟩)
theorem Zu6 (h:LkO a (.list l) J.obs) (k:∀ it,K (.ref it) ⟨J.loc,(it,.own (Z4l a))::J.obs⟩):CF C (.bi "iter") [.ref a] J K:=λs fv vs H rf rl=>by
 o_facts rf
 revert rl
 intro rl0
 refine VRs.consK rl0 λY Y r rl e0=>?_
 subst e0
 o_facts rl
 o_facts r
 refine Zbp (H.list h) λvs n e r=>?_
 refine .of (Calls.call_function_entry Zo2 Zmg Zma (Zoy _) ?_)
 unfold Builtin.«iter»
 refine Qh (Qi ?_)
 refine Qh (wpAny_pyIter_list ⟨_,e,rfl,n,rfl⟩ (Qi ⟨_,rfl,?_⟩))
 exact⟨_,_,k _,.ref _,H.alloc (n:=s.toks) Qa (Qw _) (Qg _ rfl) (.own rfl),.of_ext Qa⟩
theorem Zay{kind:String} {args:List Expr} (hk:kind = "builtin_function_or_method" \/ kind = "method-wrapper")
  (h:LV C (spliced (backTo pos (starEach args env))) J λl J_1=>LkO m (.bound kind id a) J_1.obs/\CF C (.ref m) l J_1 K) (hplain:(backTo pos (starEach args env)).any (·.1)=false):CA C (.ref m) [] args pos env J K:=
 Zpj hplain (h.mono λl J_1 k=>⟨λs fv H r=>by
  o_facts r
  refine Zaj (H.obj k.1) λO e ro=>?_
  have q:=OR.ownE ro
  have q':O=_:=q
  subst q'
  refine⟨.machine,.inr (.inl rfl),?_⟩
  refine(Looks.ld (part:=none) e).andThen ?_
  rcases hk with rfl|rfl <;> exact Looks.now,k.2⟩)
set_option tactic.hygienic true in
theorem Zbm {x:V} (h:LkO m (.bound "builtin_function_or_method" "list.append" a) J.obs) (u:UpO a (.list l) (.list (l++[x])) J.obs obs') (k:K .none ⟨J.loc,obs'⟩) (hz:l.length<=sizeLine):CF C (.ref m) [x] J K:=λs fv vs H rf rl=>by
 o_facts rf
 revert rl
 intro rl0
 refine VRs.consK rl0 λ_ _ r rl e0=>?_
 subst e0
 o_facts rl
 refine Zaj (H.obj h) λO em ro=>?_
 rename_i xv
 refine Zbp (H.list u.lk) λws n e rw'=>?_
 have q:=OR.ownE ro
 have q':O=_:=q
 subst q'
 refine .of (Zc6 em e (by simpa [rw'.length] using hz) ?_)
 refine And.elim (λH' tk=>?_) (H.mapList u e (λx=>x.push xv) (by simp) (rw'.append (.cons r .nil)))
 exact⟨.none,_,k,.none,H',tk⟩
theorem Zlp {x:V} (h:LkO m (.bound "method-wrapper" "list_iterator.__next__" it) J.obs) (hl:LkO a (.list l) J.obs) (u:UpO it (.liter a i) (.liter a (i+1)) J.obs obs')
  (hx:l[i]?=some x) (k:K x ⟨J.loc,obs'⟩):CF C (.ref m) [] J K:=λs fv vs H rf rl=>by
 o_facts rf
 o_facts rl
 refine Zaj (H.obj h) λO em ro=>?_
 refine Zbp (H.list hl) λws n e rw'=>?_
 refine Zaj (H.obj u.lk) λO2 e2 ro2=>?_
 have q:=OR.ownE ro
 have q':O=_:=q
 subst q'
 refine And.elim (λc d=>?_) (OR.literE ro2)
 refine Zaj (rw'.get i hx) λv hv rv=>?_
 refine .of (Zen em ⟨O2,e2,c,d⟩ ⟨_,e,rfl,n,rfl⟩ (by simpa using hv) λh' hi hs=>?_)
 obtain⟨o3,e3,c3,d3⟩:=hi
 refine And.elim (λH' tk=>?_) (H.set u hs e3 (.liter c3 d3) s.toks)
 exact⟨x,_,k,rv.mono tk,H',tk⟩
def Z1i(cls:String)(e:Addr)(s:Shared):Prop:=∃ t,s.heap.get? e=some { cls:=.type cls,data:=.fields #[.ref t,.none,.none,.none,.bool false,.none] }
theorem Zr9 (hh:C.A.handled=none) (h:LkO m (.bound "method-wrapper" "list_iterator.__next__" it) J.obs) (hl:LkO a (.list l) J.obs) (p:Pick (it,.liter a i) J.obs rest)
  (hx:l[i]?=none) (k:∀ e s',Holds C ⟨J.loc,rest⟩ s'->Z1i "StopIteration" e s'->(∀ p∈rest,p.1≠e)->C.env.locals≠e->C.fz e=none->C.E (.ref e) s'):CF C (.ref m) [] J K:=λs fv vs H rf rl=>by
 o_facts rf
 o_facts rl
 refine Zaj (H.obj h) λO em ro=>?_
 refine Zbp (H.list hl) λws n e rw'=>?_
 refine Zaj (H.obs _ p.mem) λO2 e2 ro2=>?_
 have q:=OR.ownE ro
 have q':O=_:=q
 subst q'
 refine And.elim (λc d=>?_) (OR.literE ro2)
 have:ws.toArray[i]?=none:=by
  have h1:l.length<=i:=by simpa using hx
  have:=rw'.length
  simp;lia
 refine .of (Ze7 hh em ⟨O2,e2,c,d⟩ ⟨_,e,rfl,n,rfl⟩ this λh' ex h1 hs hm=>?_)
 have ext:Heap.ExtBut it s.heap h':=λb o hb eb=>hm.keeps b o ((hs.extBut) b o hb eb)
 have fresh:∀ b o,b≠it->s.heap.get? b=some o->b≠ex:=λb o hb eb q=>by
  have:=hs.extBut b o hb eb
  rw[q,hm.new] at this;cases this
 refine And.elim (λH' tk=>?_) (H.dropExt p ext s.toks)
 obtain⟨t,ht,_⟩:=hm.there
 have nd:=(Qc H.nd)
 have nd2:=((p.perm).map (λx:Addr×AO=>x.1)).nodup_iff.mp nd.2
 refine k ex _ H' ⟨t,ht⟩ (λp' hp'=>?_) ?_ ?_
 .refine Zaj (H.obs p' (p.perm.mem_iff.mpr (.tail _ hp'))) λO' e' Y=>?_
  exact fresh _ _ (λq=>(Qc nd2).1 (Qe ⟨p',hp',q⟩)) e'
 .obtain⟨m',⟨o',es,ep,e1,_⟩,_⟩:=H.loc
  exact fresh _ _ (λq=>nd.1 (q▸Qe ⟨_,p.mem,rfl⟩)) e1
 .cases z:C.fz ex with
  | none=>rfl
  | some o'=>
   refine absurd rfl (fresh ex o' (λq=>?_) (H.frz _ _ z))
   have:=H.ap it (.tail _ (Qe ⟨_,p.mem,rfl⟩))
   rw[<- q,z] at this;cases this
def FnA(G:Gl)(PA:Around->Prop)(f:Value)(n:Nat)(args:List V)(obs:Wg)(K:V->Wg->Prop):Prop:=
 ∀ (A:Around) (fz:Addr->Option Obj) (s:Shared) (vs:List Value) (E:Wh),PA A->Good A n->G.Ok fz->Led fz obs s->VRs s.heap args vs ->
  wpP (model G.prog G.w) A (call f vs) (λv s'=>∃ r obs',K r obs'/\VR s'.heap r v/\Led fz obs' s'/\TK s.heap s'.heap/\GK s.gens s'.gens/\s'.drawn=s.drawn/\s'.os=s.os) E s
structure Dfn(G:Gl)(f:Addr)(fd:FuncData)(body:List Stmt):Prop where
 o:∃ o,G.K.lookup f=some o/\o.data = .func fd
 c:∃ c oc cvs ct,fd.code = .ref c/\G.K.lookup c=some oc/\oc.data = .fields cvs/\cvs[1]?=some (.str fd.qualname ct)
 b:fd.body = .stmts body
 cl:fd.closure=[]
 g:fd.globals=mainGlobals
 bt:fd.builtins=builtinsNs
 co:fd.scope.isCoroutine=false
 gn:fd.scope.isGenerator=false
 k:fd.scope.kind = .function
theorem Zhz{args':List V}{names rest:List Str}
  (DD:Dfn G f fd body)
  (hnl:names.length=args'.length) (hbind:Binds G fd names args args')
  (hloc:∀ x∈names,fd.scope.names.lookup x=some .local) (hcell:∀ x∈fd.scope.names,x.2 ≠ .cell) (hnn:(names++rest).Nodup)
  (hl:names.zip (args'.map some)++rest.map (·,none)=loc)
  {A:Around} {fz:Addr->Option Obj} (g:Good A (n+1)) (ok:G.Ok fz) (L:Led fz obs s) (R:VRs s.heap args vs)
  (h:∀ (L:Addr) (s0:Shared),Holds ((⟨A.deeper (callEnv fd L f),fz,s.gens,s.drawn,s.os,ok,g.deeper _⟩:Ar G n).cx (callEnv fd L f) DD.g DD.bt) ⟨loc,obs⟩ s0->TK s.heap s0.heap->wpP (model G.prog G.w) (A.deeper (callEnv fd L f)) (execs body (callEnv fd L f)) (λf s'=>Q (match f with | .ret v=>v|_=>.none) s')
    (λe s'=>wpP (model G.prog G.w) (A.deeper (callEnv fd L f)) (leaving (callEnv fd L f) e) (λY s''=>E e s'') (λe' s''=>E e' s'') s') s0):wpP (model G.prog G.w) A (call (.ref f) vs) Q E s:=by
 exists (s n vs body args Q fd f E loc obs G args' names rest A fz),DD,hnl,hbind,hloc,hcell,hnn,hl,g,ok,L,R,h
 obtain⟨o,ho,hd⟩:=DD.o
 obtain⟨c,oc,cvs,ct,hc,hoc,hdc,hcv⟩:=DD.c
 exists (o c oc cvs ct),ho,hd,hc,hoc,hdc,hcv
 subst hl
 have nn:names.Nodup:=(List.nodup_append.mp hnn).1
 refine Za6 (Zea (fd:=fd) (body:=body) (by have:=g.d;clear h;lia) (L.frz _ _ (ok.sub _ _ ho)) hd
  ⟨c,oc,cvs,ct,hc,L.frz _ _ (ok.sub _ _ hoc),hdc,hcv⟩ DD.b hcell (hbind _ _ _ _ _ R (λa o e=>L.frz _ _ (ok.sub _ _ e)) λh1 ws k1 R1=>?_) DD.co DD.gn DD.k)
 have hlen:=R1.length
 refine⟨λx hx=>hloc x.1 (List.of_mem_zip hx).1,(ok.top _ λb o e=>k1 _ _ (L.frz b o e)).2.2,λh_0 hns hkeep=>?_⟩
 exists (h1 ws h_0),k1,R1,hlen,hns,hkeep
 have kk:∀ b o,s.heap.get? b=some o->h_0.get? b=some o:=λb o e=>hkeep _ _ (k1 _ _ e)
 let Ra:Ar G n:=⟨A.deeper (callEnv fd h1.objs.size f),fz,s.gens,s.drawn,s.os,ok,g.deeper _⟩
 have H:Holds (Ra.cx (callEnv fd h1.objs.size f) DD.g DD.bt) ⟨names.zip (args'.map some)++rest.map (·,none),obs⟩ { s with heap:=h_0,toks:=s.toks+(names.zip ws).length }:=by
  have lts:∀ p∈obs,p.1<h1.objs.size:=λp hp=>(by obtain⟨O,e,_⟩:=L.has p hp;exact Qz (k1 _ _ e))
  refine⟨λb o' e=>kk _ _ (L.frz b o' e),⟨_,hns,λx v hx=>?_⟩,λp hp=>(by obtain⟨O,e,r⟩:=L.has p hp;exact⟨O,kk _ _ e,r.mono (.of_ext kk)⟩),?_,λa ha=>?_,?_,GK.refl _,rfl,rfl⟩
  .rcases List.mem_append.mp hx with hx|hx
   .exact Zcl (binds:=[]) (R1.mono (.of_ext hkeep)) hnl nn x v hx
   .obtain⟨y,_,e⟩:=Qf hx;cases e
  .show(h1.objs.size::obs.map (·.1)).Nodup
   refine Qd ⟨λhm=>?_,L.nd⟩
   obtain⟨p,hp,q⟩:=Qf hm
   exact absurd (lts p hp) (by rw[q];exact Nat.lt_irrefl _)
  .rcases Qb ha with q|q
   .have q':a=h1.objs.size:=q
    subst q'
    cases e:fz h1.objs.size with
    | none=>exact e
    | some o2=>exact absurd (Qz (k1 _ _ (L.frz _ _ e))) (Nat.lt_irrefl _)
   .exact L.ap a q
  .show((names.zip (args'.map some)++rest.map λx=>((x,none):Str×Option V)).map λx:Str×Option V=>x.1).Nodup
   have e1:(names.zip (args'.map some)).map (λx:Str×Option V=>x.1)=names:=List.map_fst_zip (by rw[Qj,hnl];exact Qw _)
   rw[Qq,e1,List.map_map]
   have e2:rest.map ((λx:Str×Option V=>x.1)∘λx:Str=>((x,none):Str×Option V))=rest:=List.map_id' rest
   rw[e2];exact hnn
 exact h h1.objs.size _ H (TK.of_ext kk)
theorem Zfw{PA:Around->Prop}{args':List V}{K:V->Wg->Prop}{names rest:List Str}
  (DD:Dfn G f fd body)
  (hnl:names.length=args'.length) (hbind:Binds G fd names args args')
  (hloc:∀ x∈names,fd.scope.names.lookup x=some .local) (hcell:∀ x∈fd.scope.names,x.2 ≠ .cell) (hnn:(names++rest).Nodup)
  (h:∀ (R:Ar G n) (L:Addr) (A0:Around),PA A0->R.A=A0.deeper (callEnv fd L f)->XV (R.cx (callEnv fd L f) DD.g DD.bt) (execs body (callEnv fd L f)) ⟨loc,obs⟩ (fnK K)) (hl:names.zip (args'.map some)++rest.map (·,none)=loc) :
  FnA G PA (.ref f) (n+1) args obs K:=by
 intro A fz s vs E hA g ok L R
 refine Zhz DD hnl hbind hloc hcell hnn hl g ok L R λL1 s0 H tk0=>Zad (h _ L1 A hA rfl s0 H) ?_ λY Y e=>e.elim
 rintro fl s' ⟨a,J',hK,r,H',tk⟩
 have hK2:∃ l,K a.val l/\Drp J'.obs l:=by induction a <;> exact hK
 obtain⟨l,hKl,hd⟩:=hK2
 refine⟨a.val,l,hKl,?_,⟨H'.frz,λp hp=>H'.obs p (hd.mem hp),hd.nd (Qc H'.nd).2,λa ha=>H'.ap a (.tail _ (hd.keys ha))⟩,tk0.trans tk,H'.gens,H'.drawn,H'.os⟩
 induction r <;> first|exact VR.none|assumption
set_option tactic.hygienic true in
theorem Zfg{G:Gl}{PA:Around->Prop}{f:Addr}{n:Nat}{args:List V}{obs:Wg}{K:V->Wg->Prop}{fd:FuncData}{body:List Stmt}{names rest:List Str}{loc:Wm}{cobs:Addr->Wg}
  (DD:Dfn G f fd body)
  (hnl:names.length=args.length) (hbind:∀ vs:List Value,vs.length=names.length->bindArgs fd ⟨vs,[]⟩=pure (names.zip vs))
  (hloc:∀ x∈names,fd.scope.names.lookup x=some .local\/(x,NameKind.cell)∈fd.scope.names) (hsn:(fd.scope.names.map (·.1)).Nodup) (hnn:(names++rest).Nodup)
  (h:∀ (R:Ar G n) (L:Addr) (A0:Around),PA A0->R.A=A0.deeper (callEnvC fd L f)->XV (R.cx (callEnvC fd L f) DD.g DD.bt) (execs body (callEnvC fd L f)) ⟨loc,cobs L++obs⟩ (fnK K))
  (hcs:∀ L,(cellsFrom (L+1) fd.scope.names []).map (λp=>(p.2,AO.cell ((names.zip args).lookup p.1)))=cobs L)
  (hl:(names.zip (args.map some)).filter (λp=>fd.scope.names.lookup p.1==some .local)++rest.map (·,none)=loc) :
  FnA G PA (.ref f) (n+1) args obs K:=by
 exists (G PA f n args obs K fd body names rest loc cobs),DD,hnl,hbind,hloc,hsn,hnn,h,hcs,hl
 obtain⟨o,ho,hd⟩:=DD.o
 obtain⟨c,oc,cvs,ct,hc,hoc,hdc,hcv⟩:=DD.c
 exists (o c oc cvs ct),ho,hd,hc,hoc,hdc,hcv
 intro A fz s vs E hA g ok L R
 exists (A fz s vs E),hA,g,ok,L,R
 subst hl
 have hlen:=R.length
 have nn:names.Nodup:=(List.nodup_append.mp hnn).1
 have hbn:((names.zip vs).map (·.1)).Nodup:=by rw[List.map_fst_zip (by rw[hlen,hnl];exact Qw _)];exact nn
 have hcn:=Zb4 (n:=s.heap.objs.size+1) (acc:=[]) hsn (by simp) (λ_ _ y hy=>by cases hy)
 have cellKind:∀ x,(x,NameKind.cell)∈fd.scope.names->fd.scope.names.lookup x=some .cell:=λx hx=>Zcx hsn hx
 refine Za6 (Zdy (fd:=fd) (body:=body) (binds:=names.zip vs) (by have:=g.d;lia) (L.frz _ _ (ok.sub _ _ ho)) hd (ok.top _ L.frz).2.2
  ⟨c,oc,cvs,ct,hc,L.frz _ _ (ok.sub _ _ hoc),hdc,hcv⟩ DD.b (hbind vs (by rw[hlen,hnl])) DD.cl (λx hx=>?_) (λs_1 X=>?_) DD.co DD.gn DD.k)
 .rcases hloc x.1 (List.of_mem_zip hx).1 with q|q
  .exact .inl q
  .refine .inr ⟨cellKind _ q,?_⟩
   obtain⟨c',hc'⟩:=Zgr (n:=s.heap.objs.size+1) (acc:=[]) (.inl q)
   rw[Zcx hcn hc'];rfl
 obtain⟨h_0,tk_0,rfl⟩:=X.toInCall.same
 exists (h_0 tk_0),X
 have hkeep:=X.toInCall.keep
 let Ra:Ar G n:=⟨A.deeper (callEnvC fd s.heap.objs.size f),fz,s.gens,s.drawn,s.os,ok,g.deeper _⟩
 have lts:∀ p∈obs,p.1<s.heap.objs.size:=λp hp=>(by obtain⟨O,e,_⟩:=L.has p hp;exact Qz e)
 have hcge:∀ p∈cobs s.heap.objs.size,s.heap.objs.size<p.1:=λp hp=>by
  rw[<- hcs] at hp
  obtain⟨q,hq,rfl⟩:=Qf hp
  rcases Za8 hq with z|⟨z,_⟩
  .cases z
  .exact z
 have hfzn:∀ b,s.heap.objs.size<=b->fz b=none:=λb hb=>by
  cases e:fz b with
  | none=>rfl
  | some o2=>exact absurd (Qz (L.frz _ _ e)) (Nat.not_lt.mpr hb)
 have H:Holds (Ra.cx (callEnvC fd s.heap.objs.size f) DD.g DD.bt) ⟨(names.zip (args.map some)).filter (λp=>fd.scope.names.lookup p.1==some .local)++rest.map (·,none),cobs s.heap.objs.size++obs⟩ { s with heap:=h_0,toks:=tk_0 }:=by
  refine⟨λb o' e=>hkeep _ _ (L.frz b o' e),⟨_,X.toInCall.ns,λx v hx=>?_⟩,λp hp=>?_,?_,λa ha=>?_,?_,GK.refl _,rfl,rfl⟩
  .rcases List.mem_append.mp hx with hx|hx
   .obtain⟨hm,hlk⟩:=List.mem_filter.mp hx
    obtain⟨val,e,r⟩:=Zcl (binds:=[]) R hnl nn x v hm
    have hkl0:fd.scope.names.lookup x=some .local:=by simpa using hlk
    have hkl:(callEnvC fd s.heap.objs.size f).kindOf x=some .local:=hkl0
    have hmem:(x,val)∈names.zip vs:=List.mem_reverse.mp (mem_of_lookup e)
    exact⟨val,Zop hbn hmem hkl,r.mono (.of_ext hkeep)⟩
   .obtain⟨y,_,e⟩:=Qf hx
    cases e
  .rcases List.mem_append.mp hp with hp|hp
   .rw[<- hcs] at hp
    obtain⟨⟨y,cy⟩,hq,rfl⟩:=Qf hp
    obtain⟨O,e,d⟩:=X.cell y cy (Zcx hcn hq)
    rename_i zq110_1
    exists (y cy O),hq,zq110_1,hp,e,d
    have hyc:(y,NameKind.cell)∈fd.scope.names:=by
     rcases Za8 hq with z|⟨_,z⟩
     .cases z
     .exact z
    have hky:(callEnvC fd s.heap.objs.size f).kindOf y≠some .local:=by
     show fd.scope.names.lookup y≠some .local
     rw[cellKind _ hyc];decide
    refine⟨O,e,?_⟩
    have z:=Zmd y R hnl
    dsimp only
    cases hlk:(names.zip args).lookup y with
    | some v=>
     rw[hlk] at z
     obtain⟨val,hm,r⟩:=z
     rw[Zpx hbn hm hky] at d
     exact .cell d (r.mono (.of_ext hkeep))
    | none=>
     rw[hlk] at z
     rw[Zc3 z] at d
     exact .cell d trivial
   .obtain⟨O,e,r⟩:=L.has p hp
    exact⟨O,hkeep _ _ e,r.mono (.of_ext hkeep)⟩
  .show(s.heap.objs.size::(cobs s.heap.objs.size++obs).map (·.1)).Nodup
   rw[Qq,List.nodup_cons,List.mem_append,List.nodup_append]
   refine⟨?_,?_,L.nd,λa ha b hb e=>?_⟩
   .rintro (q|q)
    .obtain⟨p,hp,e⟩:=Qf q
     have:=hcge p hp
     rw[e] at this;exact Nat.lt_irrefl _ this
    .obtain⟨p,hp,e⟩:=Qf q
     have:=lts p hp
     rw[e] at this;exact Nat.lt_irrefl _ this
   .rw[<- hcs,List.map_map]
    have:=X.apart
    exact List.Pairwise.map _ (λ_ _ h=>h) this
   .subst e
    obtain⟨p,hp,e1⟩:=Qf ha
    obtain⟨p',hp',e2⟩:=Qf hb
    have h1:=hcge p hp
    have h2:=lts p' hp'
    rw[e1] at h1;rw[e2] at h2
    exact Nat.lt_asymm h1 h2
  .rcases Qb ha with q|q
   .exact hfzn a (by rw[q];exact Qw _)
   .rw[Qq] at q
    rcases List.mem_append.mp q with q|q
    .obtain⟨p,hp,e⟩:=Qf q
     exact hfzn a (e▸Nat.le_of_lt (hcge p hp))
    .exact L.ap a q
  .show(((names.zip (args.map some)).filter (λp=>fd.scope.names.lookup p.1==some .local)++rest.map λx=>((x,none):Str×Option V)).map λx:Str×Option V=>x.1).Nodup
   have e1:(names.zip (args.map some)).map (λx:Str×Option V=>x.1)=names:=List.map_fst_zip (by rw[Qj,hnl];exact Qw _)
   have sb:(((names.zip (args.map some)).filter (λp=>fd.scope.names.lookup p.1==some .local)++rest.map λx=>((x,none):Str×Option V))).Sublist ((names.zip (args.map some))++rest.map λx=>((x,none):Str×Option V)):=
    List.Sublist.append (List.filter_sublist) (List.Sublist.refl _)
   refine List.Nodup.sublist (sb.map _) ?_
   rw[Qq,e1,List.map_map]
   have e2:rest.map ((λx:Str×Option V=>x.1)∘λx:Str=>((x,none):Str×Option V))=rest:=by simp[Function.comp_def]
   rw[e2];exact hnn
 refine Zad (h Ra s.heap.objs.size A hA rfl _ H) ?_ λ_ _ e=>e.elim
 rintro fl s' ⟨a,J',hK,r,H',tk⟩
 have hK2:∃ l,K a.val l/\Drp J'.obs l:=by induction a <;> exact hK
 obtain⟨l,hKl,hd⟩:=hK2
 refine⟨a.val,l,hKl,?_,⟨H'.frz,λp hp=>H'.obs p (hd.mem hp),hd.nd (Qc H'.nd).2,λa ha=>H'.ap a (.tail _ (hd.keys ha))⟩,(TK.of_ext hkeep).trans tk,H'.gens,H'.drawn,H'.os⟩
 induction r <;> first|exact VR.none|assumption
noncomputable def oFrm(m:Str->Option Value):Ob where
 P _ o:=∃ es ep,o.data = .dict es ep/\StrKeys es/\∀ name,nsFind es name=m name
 mono _ _ _ _ h:=h
 noTup _ _ h vs n e:=by obtain⟨es,ep,h,_⟩:=h;subst e;simp[Zbk] at h
noncomputable abbrev AO.frm(m:Str->Option Value):AO:=.own (oFrm m)
abbrev Frs:=List (Addr×(Str->Option Value))
noncomputable def Zau(fr:Frs):Wg:=fr.map λp=>(p.1,.frm p.2)
def Zrb(fr:Frs)(env:Env):Prop:=env.scope.kind ≠ .module/\∃ L,env.frame=some L/\L∈fr.map (·.1)
def FrOf(fr:Frs)(A:Around):Prop:=∃ l,A.frames=some l/\∀ env∈l,Zrb fr env
def FrIn(C:Cx)(fr:Frs):Prop:=∃ l,C.A.frames=some (C.env::l)/\C.env.scope.kind ≠ .module/\C.env.frame=some C.env.locals/\∀ env∈l,Zrb fr env
def FnR(G:Gl)(f:Value)(n:Nat)(args:List V)(obs:Wg)(K:V->Wg->Prop):Prop:=
 ∀ fr:Frs,FnA G (FrOf fr) f n args (obs++Zau fr) λr o=>∃ o2,o=o2++Zau fr/\K r o2
def Z4j{α β:Type}(G:Gl)(T:Heap->β->α->Prop)(t:List Value->Sem α)(n:Nat)(args:List V)(obs:Wg)(K:β->Wg->Prop):Prop:=
 ∀ (fr:Frs) (A:Around) (fz:Addr->Option Obj) (s:Shared) (vs:List Value) (E:Wh),FrOf fr A->Good A n->G.Ok fz->Led fz (obs++Zau fr) s->VRs s.heap args vs ->
  wpP (model G.prog G.w) A (t vs) (λv s'=>∃ r obs',(∃ o2,obs'=o2++Zau fr/\K r o2)/\T s'.heap r v/\Led fz obs' s'/\TK s.heap s'.heap/\GK s.gens s'.gens/\s'.drawn=s.drawn/\s'.os=s.os) E s
theorem FrOf.deeper{A:Around}(h:FrOf fr A)(env:Env):∃ l,(A.deeper env).frames=some (env::l)/\∀ e∈l,Zrb fr e:=by
 obtain⟨l,a,b⟩:=h
 exact⟨l,by show A.frames.map _=_;rw[a];rfl,b⟩
theorem FrIn.of(fr:Frs):FrIn C fr->∀ m,FrOf ((C.env.locals,m)::fr) C.A:=λ⟨l,a,b,c,d⟩ m=>⟨_,a,λenv he=>by
 rcases Qb he with e|e
 .subst e;exact⟨b,_,c,.head _⟩
 .obtain⟨x,L,y,z⟩:=d env e
  exact⟨x,L,y,.tail _ z⟩⟩
theorem Ns.ofrm{m:Str->Option Value}(x:h.Ns a m):∃ O,h.get? a=some O/\OR h (.frm m) O:=(by obtain⟨o,es,ep,e,r⟩:=x;exact⟨o,e,.own ⟨es,ep,r⟩⟩)
theorem Ns.unfrm{m:Str->Option Value}{O:Obj}(e:h.get? a=some O)(r:OR h (.frm m) O):h.Ns a m:=by
 have q:=OR.ownE r
 obtain⟨es,ep,r⟩:=q;exact⟨O,es,ep,e,r⟩
set_option tactic.hygienic true in
open Classical in
theorem Zip{T:Heap->β->α->Prop}{t:List Value->Sem α}{K':β->Wg->Prop}{K:β->Wl}(F:Z4j C.G T t n args sel K')(g:Good C.A n)(hf:FrIn C fr)
  (P:J.obs.Perm (sel++(Zau fr++rest))) (k:∀ r obs',K' r obs'->K r ⟨J.loc,obs'++(Zau fr++rest)⟩):OPL C T t args J K:=by
 intro s vs H R
 refine Zaj (H.loc) λm hN hm=>?_
 have hNo:=hN
 obtain⟨oL,_,_,eL,_⟩:=hNo
 rename_i zq212_1 zq212_2 zq212_3
 exists (s vs m oL zq212_1 zq212_2),H,R,hN,hm,eL,zq212_3
 let fr':Frs:=(C.env.locals,m)::fr
 have hfo:Zau fr'=(C.env.locals,.frm m)::Zau fr:=rfl
 have ND:(C.env.locals::(sel++(Zau fr++rest)).map (·.1)).Nodup:=by
  refine Qd ⟨λq=>(Qc H.nd).1 ((P.map (λx:Addr×AO=>x.1)).mem_iff.mpr q),(P.map (λx:Addr×AO=>x.1)).nodup_iff.mp (Qc H.nd).2⟩
 have P2:(C.env.locals::(sel++(Zau fr++rest)).map (·.1)).Perm ((sel++Zau fr').map (·.1)++rest.map (·.1)):=by
  simp only[hfo,Qq,Qr,Qs,List.cons_append]
  exact(List.perm_middle).symm
 have ND2:=P2.nodup_iff.mp ND
 let S:=(sel++Zau fr').map (·.1)
 let fz':Addr->Option Obj:=λb=>if b∈S then none else s.heap.get? b
 have inAll:∀ b,b∈S->b∈C.env.locals::J.obs.map (·.1):=λb hb=>by
  have:b∈C.env.locals::(sel++(Zau fr++rest)).map (·.1):=P2.mem_iff.mpr (Ql _ hb)
  rcases Qb this with q|q
  .subst q;exact .head _
  .exact .tail _ ((P.map (λx:Addr×AO=>x.1)).mem_iff.mpr q)
 have up:∀ b o,C.fz b=some o->fz' b=some o:=λb o e=>by
  have hb:b ∉ S:=λhm=>by
   have:=H.ap b (inAll b hm)
   rw[e] at this;cases this
  show(if b∈S then none else s.heap.get? b)=some o
  rw[if_neg hb];exact H.frz b o e
 have ok':C.G.Ok fz':=⟨λa o e=>up a o (C.ok.sub a o e),λh hk=>C.ok.top h λb o e=>hk b o (up b o e),(by obtain⟨o,e⟩:=C.ok.sm;exact⟨o,up _ _ e⟩)⟩
 have L:Led fz' (sel++Zau fr') s:=by
  refine⟨λb o e=>?_,λp hp=>?_,(List.nodup_append.mp ND2).1,λa ha=>if_pos ha⟩
  .by_cases hb:b∈S
   .have:fz' b=none:=if_pos hb
    rw[this] at e;cases e
   .have:fz' b=s.heap.get? b:=if_neg hb
    rw[this] at e;exact e
  .rcases List.mem_append.mp hp with hp|hp
   .exact H.obs p (P.mem_iff.mpr (Ql _ hp))
   .rw[hfo] at hp
    rcases Qb hp with q|q
    .subst q;exact Ns.ofrm hN
    .exact H.obs p (P.mem_iff.mpr (Qk _ (Ql _ q)))
 refine Zad (F fr' C.A fz' s vs C.E (hf.of _ m) g ok' L R) ?_ λ_ _ e=>e
 rintro v s' ⟨r,obs',⟨o2,ho2,hK⟩,hr,L',tk,h1,h2,h3⟩
 refine⟨r,_,k r o2 hK,hr,?_,tk⟩
 subst ho2
 have kept:∀ b o,b ∉ S->s.heap.get? b=some o->s'.heap.get? b=some o:=λb o hb e=>L'.frz b o (by show(if b∈S then none else s.heap.get? b)=some o;rw[if_neg hb];exact e)
 have some_of:∀ b o,b ∉ S->s.heap.get? b=some o->b ∉ (o2++Zau fr').map (·.1):=λb o hb e hm=>by
  have:=L'.ap b hm
  have q:fz' b=s.heap.get? b:=if_neg hb
  rw[q,e] at this;cases this
 have rest_ne:∀ p∈rest,p.1 ∉ S:=λp hp hm=>(List.nodup_append.mp ND2).2.2 _ hm _ (Qe ⟨p,hp,rfl⟩) rfl
 have nd':=L'.nd
 rw[hfo,Qq,Qr] at nd'
 have nd2:(C.env.locals::(o2++Zau fr).map (·.1)).Nodup:=by
  rw[Qq]
  exact List.perm_middle.nodup_iff.mp nd'
 refine⟨λb o e=>L'.frz b o (up b o e),?_,λp hp=>?_,?_,λa ha=>?_,H.nn,H.gens.trans h1,h2.trans H.drawn,h3.trans H.os⟩
 .obtain⟨O,e,r⟩:=L'.has (C.env.locals,.frm m) (Qk _ (.head _))
  exact⟨m,Ns.unfrm e r,λx v hx=>(by obtain⟨val,e,r⟩:=hm x v hx;exact⟨val,e,r.mono tk⟩)⟩
 .rcases List.mem_append.mp hp with hp|hp
  .exact L'.has p (Ql _ hp)
  .rcases List.mem_append.mp hp with hp|hp
   .exact L'.has p (Qk _ (.tail _ hp))
   .refine Zaj (H.obs p (P.mem_iff.mpr (Qk _ (Qk _ hp)))) λO e ro=>?_
    exact⟨O,kept _ _ (rest_ne p hp) e,ro.mono tk⟩
 .show(C.env.locals::(o2++(Zau fr++rest)).map (·.1)).Nodup
  rw[<- Qs,Qq,<- List.cons_append,List.nodup_append]
  refine⟨nd2,(List.nodup_append.mp ND2).2.1,λa ha b hb e=>?_⟩
  subst e
  obtain⟨p,hp,rfl⟩:=Qf hb
  refine Zaj (H.obs p (P.mem_iff.mpr (Qk _ (Qk _ hp)))) λO e _=>?_
  refine some_of _ _ (rest_ne p hp) e ?_
  rw[hfo,Qq,Qr]
  rw[Qq] at ha
  exact List.perm_middle.mem_iff.mpr ha
 .rcases Qb ha with q|q
  .subst q;exact H.ap _ (.head _)
  .have q':a∈(o2++(Zau fr++rest)).map (·.1):=q
   rw[<- Qs,Qq] at q'
   rcases List.mem_append.mp q' with q|q
   .cases e:C.fz a with
    | none=>rfl
    | some o2'=>
     have:=L'.ap a (by
      rw[hfo,Qq,Qr]
      rw[Qq] at q
      exact List.perm_middle.mem_iff.mpr (.tail _ q))
     rw[up a o2' e] at this;cases this
   .obtain⟨p,hp,rfl⟩:=Qf q
    exact H.ap _ (.tail _ (Qe ⟨p,P.mem_iff.mpr (Qk _ (Qk _ hp)),rfl⟩))
theorem Zr5{f:Value}(F:FnR C.G f n args sel K')(g:Good C.A n)(hf:FrIn C fr)
  (P:J.obs.Perm (sel++(Zau fr++rest))) (k:∀ r obs',K' r obs'->K r ⟨J.loc,obs'++(Zau fr++rest)⟩):OPL C VR (λvs=>call f vs) args J K:=Zip (T:=VR) (t:=λvs=>call f vs) F g hf P k
theorem Zs2:isSubtype (.type "StopIteration") (.type "BaseException")=pure true:=by rw[isSubtype_type];kernel_rfl
theorem Zva:isSubtype (.type ((Manifest.find? "StopIteration").elim "type" λx=>x.metatype)) (.type "tuple")=pure false:=by rw[isSubtype_type];kernel_rfl
section
variable {M:Model}{A:Around}{E:Wh}{s:Shared}
theorem Zec{base:Heap}{outer:List Env}{L e:Addr}{oe:Obj}{vs:Array Value}{a0:Value}{Q:Unit->Shared->Prop}
  (hfr:A.frames=some (env::outer)) (hl:s.heap.FunFrames base (env::outer)) (hf:env.frame=some L)
  (he:s.heap.get? e=some oe) (hkb:base.StaysIn s.heap) (hen:base.get? e=none) (hd:oe.data = .fields vs) (h1:vs[1]?=some .none) (h0:vs[0]?=some a0)
  (h:∀ h',Heap.NotedW base (env::outer) e oe.cls a0 (rawInt L) s.heap h'->Q () { s with heap:=h' }):wpAny M A (noteFrame (.ref e) env) Q E s:=by
 unfold noteFrame
 simp only[hf]
 refine Qh (wpAny_field he hd h1 ?_)
 rw[if_neg (by decide)]
 exact wpAny_entryW hfr hl hf he hkb hen hd (Array.getElem?_eq_some_iff.mp h1).1 h0 h
end
noncomputable def hid(C:Cx)(fr:Frs)(xs:List Addr):List Addr:=C.env.locals::(xs++fr.map (·.1))
def Xs(C:Cx)(J:St)(s:Shared)(xs:List Addr):Prop:=∀ x∈xs,(∃ o vs,s.heap.get? x=some o/\o.data = .fields vs)/\(∀ p∈J.obs,p.1≠x)/\C.env.locals≠x/\C.fz x=none
theorem Holds.slots(H:Holds C J s)(hsub:∀ p∈Zau fr,p∈J.obs){xs:List Addr}(hx:Xs C J s xs) (st:(hideAll s.heap (hid C fr xs)).StaysIn h') (us:s.heap.UpToSlots h'):Holds C J { s with heap:=h' }/\TK s.heap h':=by
 refine Zaj (H.loc) λm hN hm=>?_
 have kept:∀ b o,b ∉ hid C fr xs->s.heap.get? b=some o->h'.get? b=some o:=λb o hb eb=>st b o (hideAll_get _ eb hb)
 have frk:∀ b,b∈fr.map (·.1)->∃ m,(b,AO.frm m)∈J.obs:=λb hb=>by
  obtain⟨p,hp,rfl⟩:=Qf hb
  exact⟨p.2,hsub _ (Qe ⟨p,hp,rfl⟩)⟩
 have tk:TK s.heap h':=λb vs n eb=>by
  by_cases hb:b∈hid C fr xs
  .exfalso
   rcases Qb hb with q|hb
   .obtain⟨o,es,ep,e1,e2,_⟩:=hN
    have e1':s.heap.get? b=some o:=by rw[q];exact e1
    rw[eb] at e1';cases e1';cases e2
   rcases List.mem_append.mp hb with hb|hb
   .obtain⟨⟨o,ws,e1,e2⟩,_⟩:=hx _ hb
    rw[e1] at eb;cases eb;cases e2
   .obtain⟨m',hm'⟩:=frk b hb
    refine Zaj (H.obs _ hm') λO e1 r=>?_
    have e1':s.heap.get? b=some O:=e1
    rw[eb] at e1';cases e1'
    exact r.noTup vs n rfl
  .exact kept b _ hb eb
 have ndk:=(Qc H.nd)
 have outer:∀ p∈J.obs,p.1 ∉ fr.map (·.1)->p.1 ∉ hid C fr xs:=λp hp hf hm=>by
  rcases Qb hm with q|hm
  .exact ndk.1 (q▸Qe ⟨p,hp,rfl⟩)
  rcases List.mem_append.mp hm with q|hm
  .exact(hx _ q).2.1 p hp rfl
  .exact hf hm
 refine⟨⟨λb o eb=>kept b o (λhm=>?_) (H.frz b o eb),⟨m,us.ns hN,λx v hx=>(by obtain⟨val,e,r⟩:=hm x v hx;exact⟨val,e,r.mono tk⟩)⟩,λp hp=>?_,H.nd,H.ap,H.nn,H.gens,H.drawn,H.os⟩,tk⟩
 .rcases Qb hm with q|hm
  .have:=H.ap b (q ▸ .head _);rw[eb] at this;cases this
  rcases List.mem_append.mp hm with q|hm
  .rw[(hx _ q).2.2.2] at eb;cases eb
  .obtain⟨m',hm'⟩:=frk b hm
   have:=H.ap b (.tail _ (Qe ⟨_,hm',rfl⟩));rw[eb] at this;cases this
 .by_cases hf:p.1∈fr.map (·.1)
  .obtain⟨m',hm'⟩:=frk _ hf
   have hp':p=(p.1,AO.frm m'):=by
    have key:∀ (l:Wg),(l.map (·.1)).Nodup->p∈l->(p.1,AO.frm m')∈l->p=(p.1,AO.frm m'):=by
     intro l
     induction l with
     | nil=>intro _ h;cases h
     | cons y l ih=>
      intro nd h1 h2
      have nd':=Qc nd
      rcases Qb h1 with q1|q1
      .rcases Qb h2 with q2|q2
       .rw[q1,<- q2]
       .exact absurd (Qe ⟨_,q2,by rw[<- q1]⟩) nd'.1
      .rcases Qb h2 with q2|q2
       .exact absurd (Qe ⟨_,q1,by rw[<- q2]⟩) nd'.1
       .exact ih nd'.2 q1 q2
    exact key _ ndk.2 hp hm'
   refine Zaj (H.obs p hp) λO e1 r=>?_
   rw[hp'] at r
   obtain⟨sl,e2⟩:=us p.1 O e1 (λvs q=>by
    have z:=OR.ownE r
    obtain⟨es,ep,z,_⟩:=z;rw[z] at q;cases q)
   refine⟨_,e2,?_⟩
   rw[hp']
   have z:=OR.ownE r
   exact .own z
  .refine Zaj (H.obs p hp) λO e1 r=>?_
   exact⟨O,kept _ _ (outer p hp hf) e1,r.mono tk⟩
theorem FrIn.fun{fr:Frs}{l:List Env}{s:Shared}(H:Holds C J s)(hsub:∀ p∈Zau fr,p∈J.obs){xs:List Addr}(hk:C.env.scope.kind ≠ .module)(hfr:C.env.frame=some C.env.locals)(hl:∀ env∈l,Zrb fr env) :
  s.heap.FunFrames (hideAll s.heap (hid C fr xs)) (C.env::l):=by
 exists (C J fr l s xs),H,hsub,hk,hfr,hl
 obtain⟨m,⟨o,es,ep,e1,e2,_⟩,_⟩:=H.loc
 refine⟨hk,⟨_,o,hfr,hideAll_none _ (.head _),e1,λvs q=>by rw[e2] at q;cases q⟩,?_⟩
 induction l with
 | nil=>trivial
 | cons env l ih=>
  obtain⟨hk',L,hf,hL⟩:=hl env (.head _)
  refine⟨hk',?_,ih λenv he=>hl env (.tail _ he)⟩
  obtain⟨p,hp,rfl⟩:=Qf hL
  refine Zaj (H.obs _ (hsub _ (Qe ⟨p,hp,rfl⟩))) λO e3 r=>?_
  refine⟨p.1,O,hf,hideAll_none _ (.tail _ (Qk _ (Qe ⟨p,hp,rfl⟩))),e3,λvs q=>?_⟩
  have z:=OR.ownE r
  obtain⟨es,ep,z,_⟩:=z;rw[z] at q;cases q
open Classical in
noncomputable def fzT(C:Cx)(h:Heap):Addr->Option Obj:=λb=>match C.fz b with
 | some o=>some o
 | none=>match h.get? b with
  | some o=>if ∃ vs n,o=Zbk vs n then some o else none
  | none=>none
theorem Zey(C:Cx)(h:Heap){b:Addr}(e:C.fz b=some o):fzT C h b=some o:=by unfold fzT;rw[e]
theorem Z0a(H:Holds C J s){b:Addr}(e:fzT C s.heap b=some o):s.heap.get? b=some o:=by
 exists (C J s o b),H,e
 unfold fzT at e
 cases z:C.fz b with
 | some o'=>rw[z] at e;cases e;exact H.frz b o z
 | none=>
  rw[z] at e
  cases y:s.heap.get? b with
  | none=>rw[y] at e;cases e
  | some o'=>
   rw[y] at e
   dsimp only at e
   split at e
   .exact e
   .cases e
theorem Zxw(H:Holds C J s){b:Addr}{vs:Array Value}(e:s.heap.get? b=some (Zbk vs n)):fzT C s.heap b=some (Zbk vs n):=by
 unfold fzT
 cases z:C.fz b with
 | some o'=>have:=H.frz b o' z;rw[e] at this;rw[<- this]
 | none=>
  dsimp only
  rw[e]
  dsimp only
  rw[if_pos ⟨vs,n,rfl⟩]
theorem Zsd{b:Addr}(z:C.fz b=none)(h:∀ vs n,s.heap.get? b≠some (Zbk vs n)):fzT C s.heap b=none:=by
 unfold fzT
 rw[z]
 dsimp only
 cases y:s.heap.get? b with
 | none=>rfl
 | some o'=>
  dsimp only
  rw[if_neg]
  rintro⟨vs,n,rfl⟩
  exact h vs n y
noncomputable abbrev Cx.sw(C:Cx)(fz:Addr->Option Obj)(E:Wh)(ok:C.G.Ok fz):Cx:=⟨C.G,C.A,C.env,fz,C.gens,C.drawn,C.os,E,ok,C.eg,C.eb⟩
theorem okT(h:Heap):C.G.Ok (fzT C h):=⟨λa o e=>Zey C h (C.ok.sub a o e),λg hk=>C.ok.top g λb o e=>hk b o (Zey C h e),(by obtain⟨o,e⟩:=C.ok.sm;exact⟨o,Zey C h e⟩)⟩
theorem Holds.toT(H:Holds C J s)(E:Wh):Holds (C.sw (fzT C s.heap) E (okT s.heap)) J s:=by
 refine⟨λb o e=>Z0a H e,H.loc,H.obs,H.nd,λa ha=>Zsd (H.ap a ha) λvs n e=>?_,H.nn,H.gens,H.drawn,H.os⟩
 rcases Qb ha with q|q
 .obtain⟨m,⟨o,es,ep,e1,e2,_⟩,_⟩:=H.loc
  have e1':s.heap.get? a=some o:=by rw[q];exact e1
  rw[e] at e1';cases e1';cases e2
 .obtain⟨p,hp,rfl⟩:=Qf q
  refine Zaj (H.obs p hp) λO e1 r=>?_
  rw[e] at e1;cases e1
  exact r.noTup vs n rfl
theorem Holds.ofT{J':St}{s':Shared}(H:Holds C J s)(H':Holds (C.sw (fzT C s.heap) E (okT s.heap)) J' s'):Holds C J' s'/\TK s.heap s'.heap:=
 ⟨⟨λb o e=>H'.frz b o (Zey C _ e),H'.loc,H'.obs,H'.nd,λa ha=>(by
  cases z:C.fz a with
  | none=>rfl
  | some o=>(have:=H'.ap a ha;rw[show(C.sw (fzT C s.heap) E (okT s.heap)).fz a=some o from Zey C _ z] at this;cases this)),H'.nn,H'.gens,H'.drawn,H'.os⟩,
  λb vs n e=>H'.frz b _ (Zxw H e)⟩
noncomputable abbrev Cx.hd(C:Cx)(e:Addr):Cx:={ C with A:=C.A.mark (some (.ref e)),E:=λY Y=>False }
theorem Holds.hd(H:Holds C J s)(e:Addr):Holds (C.hd e) J s:=⟨H.frz,H.loc,H.obs,H.nd,H.ap,H.nn,H.gens,H.drawn,H.os⟩
theorem Holds.unhd{e:Addr}(H:Holds (C.hd e) J s):Holds C J s:=⟨H.frz,H.loc,H.obs,H.nd,H.ap,H.nn,H.gens,H.drawn,H.os⟩
def Zua(h:Heap)(xs:List Addr)(e:Addr)(cls:Value):Prop:=∃ oe vs a0,h.get? e=some oe/\oe.cls=cls/\oe.data = .fields vs/\vs[0]?=some a0 /\
 (vs[1]?=some .none\/∃ T oT ts,T∈xs/\vs[1]?=some (.ref T)/\T≠e/\h.get? T=some oT/\oT.data = .fields ts/\ts[3]?=some .none)
theorem Zu1{body suite:List Stmt}{b0:Stmt}{x:Str}{px pos' pos:Pos}{fr:Frs}{cls cv:Value}{K2:Wl}{K:Wj}(hf:FrIn C fr)
  (hb:∀ (fz:Addr->Option Obj) (ok:C.G.Ok fz) (E:Wh),
   (∀ e Je s' xs,K2 Je->Holds (C.sw fz E ok) Je s'->Xs (C.sw fz E ok) Je s' xs->e∈xs->Zua s'.heap xs e cls->E (.ref e) s')->XV (C.sw fz E ok) (execs body C.env) J K)
  (hs:∀ Je,K2 Je->(∀ p∈Zau fr,p∈Je.obs)/\∀ e,XV (C.hd e) (execs (b0::suite) C.env) Je K)
  (hk:C.env.scope.kind = .function) (hx:C.env.kindOf x=some .globalImplicit) (hv:C.G.mg x=some cv\/(C.G.mg x=none/\C.G.mb x=some cv))
  (hmt:∀ (A:Around) (E:Wh) (Q:Bool->Shared->Prop) (s:Shared) (e:Addr) (oe:Obj),(∀ b o,C.fz b=some o->s.heap.get? b=some o)->s.heap.get? e=some oe->oe.cls=cls->Q true s->wpAny (model C.G.prog C.G.w) A (excMatches (.ref e) cv) Q E s)
  (hd:(x==("__debug__" : Str))=false:=by decide) :
  XV C (exec (.Try body [.ExceptHandler (some (.Name x px)) none (b0::suite) pos'] [] [] pos) C.env) J K:=by
 exists (C J body suite b0 x px pos' pos fr cls cv K2 K),hf,hb,hs,hk,hx,hv,hmt,hd
 intro s H
 exists (s),H
 rw[arm_exec_Try]
 refine Zaa (Zac ?_)
 unfold tryStmt
 simp -iota only[List.isEmpty_nil,if_true,List.isEmpty_cons,Bool.false_and,Bool.false_eq_true,if_false]
 let E0:Wh:=λv s'=>∃ e Je xs,v = .ref e/\K2 Je/\Holds (C.sw (fzT C s.heap) C.E (okT s.heap)) Je s'/\Xs (C.sw (fzT C s.heap) C.E (okT s.heap)) Je s' xs/\e∈xs/\Zua s'.heap xs e cls
 have hb':=hb (fzT C s.heap) (okT s.heap) E0 (λe Je s' xs k2 H' h1 h2 h3=>⟨e,Je,xs,rfl,k2,⟨H'.frz,H'.loc,H'.obs,H'.nd,H'.ap,H'.nn,H'.gens,H'.drawn,H'.os⟩,h1,h2,h3⟩) s (H.toT E0)
 refine Zaa (Zbb (Zad hb' (λf s_1 p=>?_) λv s_1 p=>?_))
 .obtain⟨a,J',k,r,H',tk⟩:=p
  obtain⟨H1,t1⟩:=H.ofT H'
  induction r with
  | next=>
   exact .of (wpAny_execs_nil ⟨.next,J',k,.next,H1,t1⟩)
  | brk=>exact Zab ⟨.brk,J',k,.brk,H1,t1⟩
  | cont=>exact Zab ⟨.cont,J',k,.cont,H1,t1⟩
  | ret r=>exact Zab ⟨.ret _,J',k,.ret r,H1,t1⟩
 .obtain⟨e,Je,xs,rfl,k2,H',hxs,hme,hno⟩:=p
  obtain⟨H1,t1⟩:=H.ofT H'
  exists (s_1 e Je xs),k2,H',hxs,hme,hno,H1,t1
  have hx1:Xs C Je s_1 xs:=λy hy=>by
   obtain⟨q1,q2,q3,q4⟩:=hxs y hy
   refine⟨q1,q2,q3,?_⟩
   cases z:C.fz y with
   | none=>rfl
   | some o=>rw[show(C.sw (fzT C s.heap) C.E (okT s.heap)).fz y=some o from Zey C _ z] at q4;cases q4
  obtain⟨l,hfr,hmod,hfl,hin⟩:=hf
  obtain⟨hsub,hs'⟩:=hs Je k2
  have FF:=FrIn.fun (xs:=xs) H1 hsub hmod hfl hin
  exists (l),hx1,hfr,hin,FF
  have hid1:∀ y∈xs,(hideAll s_1.heap (hid C fr xs)).get? y=none:=λy hy=>hideAll_none _ (.tail _ (Ql _ hy))
  have note:∀ Q:Unit->Shared->Prop,(∀ a0 h',Heap.HeldW (hideAll s_1.heap (hid C fr xs)) (C.env::l) e cls a0 C.env.locals h'->s_1.heap.UpToSlots h'->Q () { s_1 with heap:=h' })->wpAny (model C.G.prog C.G.w) C.A (noteFrame (.ref e) C.env) Q C.E s_1:=λQ hQ=>by
   obtain⟨oe,vs,a0,e1,e2,e3,e4,e5⟩:=hno
   subst e2
   rcases e5 with e5|⟨T,oT,ts,m1,m2,m3,m4,m5,m6⟩
   .exact Zec hfr FF hfl e1 (λb o eb=>of_hideAll _ eb) (hid1 e hme) e3 e5 e4 λh' ⟨n1,n2,n3,n4⟩=>hQ a0 h' ⟨n1,hid1 e hme,n2,n3⟩ n4
   .exact wpAny_looks_onW hfr hfl ⟨λb o eb=>of_hideAll _ eb,hid1 e hme,FF,oe,vs,T,oT,ts,e1,⟨rfl,e4⟩,e3,m2,hid1 T m1,m3,m4,m5,m6⟩ λh'=>hQ a0 h'
  refine Zaa (.of (note _ λa0 h2' HW n4=>?_))
  exists (a0 h2'),HW,n4
  refine Zaa (.of (wpAny_landsW HW λh3' fly us=>?_))
  exists (h3'),fly,us
  have us':s_1.heap.UpToSlots h3':=Heap.UpToSlots.trans n4 us
  obtain⟨H2,t2⟩:=H1.slots hsub hx1 fly.1 us'
  obtain⟨f1,f2,f3,f4⟩:=fly
  obtain⟨oe,e1,e2⟩:=(Heap.TracedW.at f4).there
  exists (oe),us,us',H2,t2,f1,f3,f4,e1,e2
  have hmk:(some (Value.ref e):Option Value)≠some byPass:=by intro q;cases q
  rw[handleBy]
  refine Zaa (Zae ?_)
  unfold runOwn
  refine Zah (Zge (A:=C.A) (h:=some (.ref e)) ?_ hmk)
  refine Zaf rfl ?_
  rw[Zav rfl rfl]
  show wpP _ _ (do return Fin.done (<- (handleWith (.ref e) C.env [.ExceptHandler (some (.Name x px)) none [] pos']).onRaise (λx=>do noteFrame x C.env;theTreesLotGoes x))) _ _ _
  refine Zaa (Zah ?_)
  unfold handleWith
  have ld:∀ {A:Around} {E:Wh} {Q:Wh} {s:Shared} {J:St},Holds C J s->Q cv s->wpAny (model C.G.prog C.G.w) A (loadGlobal C.env x) Q E s:=λH q=>hv.elim (λh=>loadGlobal_global (Cx.glo C H) h q) λh=>loadGlobal_builtin (Cx.glo C H) h.1 (Cx.blt C H) h.2 q
  refine Zaa (Zac (Zaa (.of (Name_function_global hk hx (ld H2 ?_) hd))))
  refine Zaa (Zac (Zaa (.of (hmt _ _ _ _ e oe H2.frz e1 e2 ?_))))
  refine Zab (Zab ?_)
  simp -iota only[if_true]
  refine Zaa (Zab ?_)
  simp -iota only[Bool.not_true,Bool.false_eq_true,if_false]
  refine Zaa (Zae (Zah (Zge (A:=C.A) (h:=some (.ref e)) ?_ hmk)))
  refine Zaf rfl ?_
  rw[Zav rfl rfl]
  show wpP _ _ (do return Fin.done (<- (handleWith (.ref e) C.env [.ExceptHandler none none (b0::suite) pos']).onRaise (λx=>do noteFrame x C.env;theTreesLotGoes x))) _ _ _
  refine Zaa (Zah ?_)
  unfold handleWith
  refine Zaa (Zac (Zaa (.of (wpAny_setFlight_noneW f1 f3 (Heap.TracedW.at f4) λh4' k1 k2' k3 k4=>?_))))
  have us4:s_1.heap.UpToSlots h4':=Heap.UpToSlots.trans us' λb o hb hn=>⟨o.slots,k4 b o hb hn⟩
  obtain⟨H3,t3⟩:=H1.slots hsub hx1 k1 us4
  refine Zad (hs' e _ (H3.hd e)) (λf s5 p=>?_) λY Y q=>q.elim
  obtain⟨a,J',k,r,H',tk⟩:=p
  exact Zab (Zab ⟨a,J',k,r,H'.unhd,(t1.trans t3).trans tk⟩)
theorem x_try{suite:List Stmt}{b0:Stmt}{px:Pos}{K2:Wl}{K:Wj}(hf:FrIn C fr)
  (hb:∀ (fz:Addr->Option Obj) (ok:C.G.Ok fz) (E:Wh),
   (∀ e Je s',K2 Je->Holds (C.sw fz E ok) Je s'->Z1i "StopIteration" e s'->(∀ p∈Je.obs,p.1≠e)->C.env.locals≠e->fz e=none->E (.ref e) s')->XV (C.sw fz E ok) (execs body C.env) J K)
  (hs:∀ Je,K2 Je->(∀ p∈Zau fr,p∈Je.obs)/\∀ e,XV (C.hd e) (execs (b0::suite) C.env) Je K)
  (hk:C.env.scope.kind = .function) (hx:C.env.kindOf x=some .globalImplicit) (hm:C.G.mg x=none) (hv:C.G.mb x=some (.type "StopIteration")) (hd:(x==("__debug__" : Str))=false:=by decide) :
  XV C (exec (.Try body [.ExceptHandler (some (.Name x px)) none (b0::suite) pos'] [] [] pos) C.env) J K:=
 Zu1 (cls:=.type "StopIteration") hf (λfz ok E hE=>hb fz ok E λe Je s' k2 H' ⟨t,ht⟩ h1 h2 h3=>hE e Je s' [e] k2 H' (λy hy=>by obtain rfl:=List.mem_singleton.mp hy;exact⟨⟨_,_,ht,rfl⟩,h1,h2,h3⟩) (.head _) ⟨_,_,_,ht,rfl,rfl,rfl,.inl rfl⟩) hs hk hx (.inr ⟨hm,hv⟩)
  (λA E Q s e oe Y h1 h2 hq=>wpAny_excMatches_type ⟨oe,h1,h2⟩ Zs2 Zva isSubtype_stop hq) hd
theorem Zez{K:Wj}(hE:∀ e s,¬ C.E e s)(JJ:Nat->Wl)(h0:∀ J,¬ JJ 0 J)
  (step:∀ n J,JJ (n+1) J->BV C (isTrue test C.env (eval test C.env)) J λb J_1=>(b=true->XV C (execs body C.env) J_1 (lpK (λJ_2=>JJ n J_2) K))/\(b=false->XV C (execs orelse C.env) J_1 K)) :
  ∀ n J,JJ n J->WL C test body orelse J K:=by
 intro n
 induction n with
 | zero=>intro J h;exact absurd h (h0 J)
 | succ n ih=>
  intro J h
  refine Zn0 hE (W.mono (step n J h) λb J_1 ⟨h1,h2⟩=>⟨λe=>W.mono (h1 e) λfl J_2 h_2=>?_,h2⟩)
  cases fl with
  | next=>exact ih J_2 h_2
  | cont=>exact ih J_2 h_2
  | brk=>exact h_2
  | ret v=>exact h_2
theorem W.drp{t:Sem α}{o o':Wg}{K:β->Wl}(d:Drp o o')(h:W C R t ⟨loc,o'⟩ K):W C R t ⟨loc,o⟩ K:=λs H=>
 h s ⟨H.frz,H.loc,λp hp=>H.obs p (d.mem hp),Qd ⟨λhm=>(Qc H.nd).1 (d.keys hm),d.nd (Qc H.nd).2⟩,λa ha=>H.ap a (by
  rcases Qb ha with q|q
  .exact q ▸ .head _
  .exact .tail _ (d.keys q)),H.nn,H.gens,H.drawn,H.os⟩
theorem VRs.intsI{l:List Int}:∀ {vs:List Value},VRs h (l.map V.int) vs->∃ xs:List (Int×Tok),vs=xs.map (λp=>Value.int p.1 p.2)/\xs.map (·.1)=l:=by
 induction l with
 | nil=>intro vs r;exact⟨[],r.nilE,rfl⟩
 | cons a l ih=>
  intro vs r
  refine r.consK λv ws x rl e=>VR.intK x λt e2=>?_
  obtain⟨xs,e1,e3⟩:=ih rl
  exact⟨(a,t)::xs,by rw[e,e2,e1];rfl,by rw[Qr,e3]⟩
theorem Zr0 {l:List Str} (p:Pick (a,.list (l.map V.str)) J.obs rest) (h:K (.str (Txt.join x l)) ⟨J.loc,rest⟩) (hz:(l.map (·.length)).sum+l.length * x.length<=16777216):CF C (.bi "str.join") [.str x,.ref a] J K:=λs fv vs H rf rl=>by
 refine Zad (Zjg (K:=λv J'=>v = .str (Txt.join x l)/\J'=J) (LkO.of_mem p.mem) ⟨rfl,rfl⟩ hz s fv vs H rf rl) ?_ λY Y e=>e
 rintro v s' ⟨a',J',⟨e1,e2⟩,r,H',t⟩
 subst e1;subst e2
 exact⟨_,_,h,r,H'.drop p,t⟩
theorem Zbe(f:α->β)(d:α):∀ (l:List α),(List.range l.length).map (λk=>f (l.getD k d))=l.map f
 | []=>rfl
 | a::l=>by
  rw[List.length_cons,List.range_succ_eq_map,Qr,List.map_map,Qr,<- Zbe f d l]
  rfl
theorem Zcw:(Str.ofString "" : Str)=⟨#[]⟩:=by decide +kernel
theorem Holds.drp{o o':Wg}(d:Drp o o')(H:Holds C ⟨loc,o⟩ s):Holds C ⟨loc,o'⟩ s:=
 ⟨H.frz,H.loc,λp hp=>H.obs p (d.mem hp),Qd ⟨λhm=>(Qc H.nd).1 (d.keys hm),d.nd (Qc H.nd).2⟩,λa ha=>H.ap a (by
  rcases Qb ha with q|q
  .exact q ▸ .head _
  .exact .tail _ (d.keys q)),H.nn,H.gens,H.drawn,H.os⟩
theorem OP1.drp{f:Value->Sem α}{a:V}{o o':Wg}{K:β->Wl}(d:Drp o o')(h:OP1 C R f a ⟨loc,o'⟩ K):OP1 C R f a ⟨loc,o⟩ K:=λs v H r=>h s v (H.drp d) r
theorem Zyq{Q:V->Prop}(g:Good C.A n)(F:Fn C.G (.ref f) n args sel λr o=>Q r/\o=sel)(p:J.obs.Perm (sel++rest))
  (k:∀ r,Q r->K r J):CF C (.ref f) args J K:=λs fv vs H rf rl=>by
 refine Zad (Zku (K:=λr J'=>Q r/\J'=⟨J.loc,sel++rest⟩) g F p (by rintro r o ⟨q,e⟩;exact⟨q,by rw[e]⟩) s fv vs H rf rl) ?_ λY Y e=>e
 rintro v s' ⟨a,J',⟨q,e⟩,r,H',t⟩
 subst e
 exact⟨a,J,k a q,r,Holds.perm (J:=⟨J.loc,sel++rest⟩) H' p.symm,t⟩
theorem Zt5(g:Good C.A n)(F:Fn C.G (.ref f) n args sel K')(p:J.obs.Perm (sel++rest))
  (k:∀ r obs',K' r obs'->∃ o2,Drp (obs'++rest) o2/\K r ⟨J.loc,o2⟩):CF C (.ref f) args J K:=λs fv vs H rf rl=>by
 refine Zad (Zku (K:=λr J'=>∃ o2,Drp J'.obs o2/\J'.loc=J.loc/\K r ⟨J.loc,o2⟩) g F p (λr o h=>(by obtain⟨o2,d,kk⟩:=k r o h;exact⟨o2,d,rfl,kk⟩)) s fv vs H rf rl) ?_ λY Y e=>e
 rintro v s' ⟨a,J',⟨o2,d,e,kk⟩,r,H',t⟩
 obtain⟨l1,o1⟩:=J'
 have e':l1=J.loc:=e
 subst e'
 exact⟨a,_,kk,r,H'.drp d,t⟩
theorem Zmb:isSubtype (.type "KeyError") (.type "LookupError")=pure true:=by rw[isSubtype_type];kernel_rfl
section
variable {prog:Program}{w:World}{A:Around}{E:Wh}{s:Shared}
theorem Zet{K:Type}[DecidableEq K]{knd:KeyKind prog w K}{f:K->Option Value}{k:K}{key:Value}(hkey:knd.is k key=true)(hm:s.heap.MapOf knd d f)(hf:f k=none)(hd:(d==sysModules)=false)(hh:A.handled=none)
  (h:∀ h' e,Heap.NewExc s.heap h' e "KeyError" -> E (.ref e) { s with heap:=h',toks:=s.toks+1 }):wpAny (model prog w) A (getItem (.ref d) key) Q E s:=by
 unfold getItem
 try with_reducible refine wpAny_holding ?_
 refine Qh (wpAny_sequenceKey hm.typeIs (by decide) ?_)
 exact Qh (wpAny_callSpecial?_slot (name:=Str.ofString "__getitem__") hm.typeIs slot_dict_getitem
  (call_meetsIn slot_dict_getitem hm.typeIs entry_dict_getitem (args_dict_getitem _ _) (meets_dict_getitem_missing knd d hkey hd) ⟨hh,f,hm,hf,h⟩))
open Builtin.Str in
theorem Zt1{f:Int->Option Value}{c:Nat}{t:Str}{u:Tok}{Q:Mapped->Shared->Prop}(hm:s.heap.MapOf (intKind prog w) d f)(hf:f c=some (.str t u))(h:Q (.text t) { s with toks:=s.toks+1+1 }):wpAny (model prog w) A (tableLookup (.ref d) c) Q E s:=by
 unfold tableLookup
 refine Qh (wpAny_attempt (Qh (wpAny_mkInt ?_)))
 refine wpAny_getItem_of (knd:=intKind prog w) (k:=(c:Int)) (intKind_is _ _ _ _) (s:={ s with toks:=s.toks+1 }) hm hf ?_
 exact Qh (Qi (Qh (Qi (Qi h))))
open Builtin.Str in
theorem Zvt{f:Int->Option Value}{c:Nat}{Q:Mapped->Shared->Prop}(hm:s.heap.MapOf (intKind prog w) d f)(hf:f c=none)(hd:(d==sysModules)=false)(hh:A.handled=none)(h:∀ h',(∀ b o,s.heap.get? b=some o->h'.get? b=some o)->Q .keep { s with heap:=h',toks:=s.toks+1+1 }):wpAny (model prog w) A (tableLookup (.ref d) c) Q E s:=by
 exists (d prog w A E s f c Q),hm,hf,hd,hh,h
 unfold tableLookup
 refine Qh (wpAny_attempt (Qh (wpAny_mkInt ?_)))
 refine Zet (knd:=intKind prog w) (k:=(c:Int)) (intKind_is _ _ _ _) (s:={ s with toks:=s.toks+1 }) hm hf hd hh λh' e n=>?_
 obtain⟨k1,k2,t,o,k3,k4,k5⟩:=n
 refine Qh (wpAny_isInstance (T := "KeyError") ⟨_,‹_›,‹_›⟩ Zmb ?_)
 rw[if_pos rfl]
 exact Qh (wpAny_rule (Qi (h h' k1)))
theorem Ze9{d:Addr}{f:Int->Option Value}{c:Nat}{t:Str}{u v:Tok}{Q:Wh}(hm:s.heap.MapOf (intKind prog w) d f)(hf:f c=some (.str t u))(hc:c<128)(ht:t.length=2)(h:∀ n m,Q (.str t n) { s with toks:=m }) :
  wpAny (model prog w) A (call (.builtin "str.translate") [.str ⟨#[c]⟩ v,.ref d]) Q E s:=by
 exists (prog w A E s d f c t u v Q),hm,hf,hc,ht,h
 refine wpAny_call_entry F.slot_str_translate (typeIs_str _ _ _) F.entry_str_translate ?_ (F.args_str_translate_2 _ _)
 unfold Builtin.«str.translate»
 refine Qh (Qi ?_)
 have hall:(#[c]:Array Nat).all (· < 128)=true:=by simp[hc]
 have ht1:(t.length==1)=false:=by rw[ht];rfl
 dsimp only
 rw[if_neg (show ¬ ((({ cps:=#[c] }:Str).length==0)=true) from Wa)]
 rw[hall,<- Array.forIn_toList]
 show wpAny _ _ (forIn [c] _ _ >>= _) _ _ _
 rw[List.forIn_cons]
 have z0:Builtin.Str.tooLong 0=false:=by decide +kernel
 dsimp only
 rw[z0]
 refine Qh (Qh ?_)
 rw[if_neg Wa,if_pos rfl]
 refine Qh (Zt1 hm hf ?_)
 dsimp only
 rw[ht1]
 have z2:(if (false&&t.cps.all λx=>decide (x<128))=true then some t.cps[0]? else none)=(none:Option (Option Nat)):=if_neg Wa
 rw[z2]
 dsimp only
 refine Qh (Qi ?_)
 dsimp only
 refine Qh (wpAny_rule ?_)
 rw[if_neg Wa]
 refine Qh (Zt1 (s:={ s with toks:=s.toks+1+1 }) hm hf ?_)
 refine Qi ?_
 dsimp only
 rw[List.forIn_nil]
 refine Qi ?_
 dsimp only
 have z1:Builtin.Str.tooLong (0+t.length)=false:=by rw[ht];decide +kernel
 rw[z1,if_neg Wa]
 have e:(⟨[t].reverse.foldl (λacc p=>acc++p.cps) #[]⟩:Str)=t:=by apply Str.ext';simp
 rw[e]
 refine Qh (wpAny_mkStr (Qi ⟨_,rfl,?_⟩) (by rw[ht];decide))
 exact h _ _
theorem Zee{d:Addr}{f:Int->Option Value}{c:Nat}{v:Tok}{Q:Wh}(hm:s.heap.MapOf (intKind prog w) d f)(hf:f c=none)(hc:c<128)(hd:(d==sysModules)=false)(hh:A.handled=none)(h:∀ n m h',(∀ b o,s.heap.get? b=some o->h'.get? b=some o)->Q (.str ⟨#[c]⟩ n) { s with heap:=h',toks:=m }) :
  wpAny (model prog w) A (call (.builtin "str.translate") [.str ⟨#[c]⟩ v,.ref d]) Q E s:=by
 exists (prog w A E s d f c v Q),hm,hf,hc,hd,hh,h
 refine wpAny_call_entry F.slot_str_translate (typeIs_str _ _ _) F.entry_str_translate ?_ (F.args_str_translate_2 _ _)
 unfold Builtin.«str.translate»
 refine Qh (Qi ?_)
 have hall:(#[c]:Array Nat).all (· < 128)=true:=by simp[hc]
 dsimp only
 rw[if_neg (show ¬ ((({ cps:=#[c] }:Str).length==0)=true) from Wa)]
 rw[hall,<- Array.forIn_toList]
 show wpAny _ _ (forIn [c] _ _ >>= _) _ _ _
 rw[List.forIn_cons]
 have z0:Builtin.Str.tooLong 0=false:=by decide +kernel
 dsimp only
 rw[z0]
 refine Qh (Qh ?_)
 rw[if_neg Wa,if_pos rfl]
 refine Qh (Zvt hm hf hd hh λh' hk=>?_)
 dsimp only
 refine Qi ?_
 dsimp only
 refine Qi ?_
 dsimp only
 have z1:Builtin.Str.tooLong (0+1)=false:=by decide +kernel
 rw[z1,if_neg Wa]
 have e:(⟨[(⟨#[c]⟩:Str)].reverse.foldl (λacc p=>acc++p.cps) #[]⟩:Str)=⟨#[c]⟩:=by apply Str.ext';simp
 rw[e]
 refine Qh (wpAny_mkStr (Qi ⟨_,rfl,?_⟩) (by show 1<=sizeLine;decide))
 exact h _ _ h' hk
noncomputable def trC(kv:List (Int×Value))(c:Nat):Str:=match valueAt kv c with|some (.str t _)=>t|_=>⟨#[c]⟩
noncomputable def Z46(kv:List (Int×Value))(c:Nat):Bool:=decide (c<128)&&(match valueAt kv c with|none=>true|some (.str t _)=>t.length==2|_=>false)
set_option tactic.hygienic true in
theorem Zgf {c:Nat} (hK:C.G.K.lookup d=some o) (hk:∀ p w,KdkAt (intKind p w) o kv ep) (hok:Z46 kv c=true) (hd:(d==sysModules)=false) (hh:C.A.handled=none) (k:K (.str (trC kv c)) J):CF C (.bi "str.translate") [ch c,.ref d] J K:=by
 exists (C J K d o kv ep c),hK,hk,hok,hd,hh,k
 intro s fv vs H rf rl
 o_facts rf
 exists (s vs),H,rl,rf
 revert rl
 intro rl0
 refine VRs.consK rl0 λ_ _ r rl e0=>?_
 subst e0
 revert rl
 intro rl0
 refine VRs.consK rl0 λ_ _ r2 rl e0=>?_
 subst e0
 o_facts rl
 o_facts r;o_facts r2
 rename_i xq1 xq2
 exists (xq1),r,rl0
 have e:=H.frz _ _ (C.ok.sub _ _ hK)
 have hm:=(Zcr (prog:=C.G.prog) (w:=C.G.w) e hk).mapOf
 unfold Z46 at hok
 unfold trC at k
 simp -iota only[Qt,decide_eq_true_eq] at hok
 obtain⟨h1,h2⟩:=hok
 cases hv:valueAt kv (c:Int) with
 | none=>
  rw[hv] at k
  refine .of (Zee hm hv h1 hd hh λn m h' hk'=>?_)
  exact⟨_,_,k,.str _ _,H.ext hk' m,.of_ext hk'⟩
 | some v=>
  rw[hv] at k h2
  induction v with
  | str t u=>
   have h3:t.length=2:=by simpa using h2
   refine .of (Ze9 hm hv h1 h3 λn m=>?_)
   exact Pst.hereT H (.str _ _) k
  | _=>cases h2
end
theorem je_cons{out:Str}{v:Expr}{rest:List Expr}(h:JV C out (eval v env::evalEach rest env) J K):JV C out (evalEach (v::rest) env) J K:=h
theorem je_nil{out:Str}(h:JV C out [] J K):JV C out (evalEach [] env) J K:=h
noncomputable def Zzf:Value->Int
 | .int i _=>i
 | _=>0
noncomputable def isI:Value->Bool
 | .int _ _=>true
 | _=>false
noncomputable def Zw1(es:List DictEntry):List (Int×Value):=es.map λe=>(Zzf e.key,e.val)
noncomputable def esOk(es:List DictEntry):Bool:=es.all (λe=>isI e.key&&e.hash==hashInt (Zzf e.key))&&decide ((es.map λe=>Zzf e.key).Nodup)
theorem Z2a{es:Array DictEntry}{ep:Nat}(h:esOk es.toList=true)(p:Program)(w:World):KdkAt (intKind p w) { cls:=.type "dict",data:=.dict es ep } (Zw1 es.toList) ep:=by
 unfold esOk at h
 simp only[Qt,List.all_eq_true,decide_eq_true_eq,beq_iff_eq] at h
 obtain⟨h1,h2⟩:=h
 have hI:∀ v:Value,isI v=true->Value.isInt (Zzf v) v=true:=λv hv=>by
  cases v <;> first|exact beq_self_eq_true _|cases hv
 refine⟨es,⟨rfl,rfl,rfl⟩,rfl,λe he=>?_,?_,?_⟩
 .have:=h1 e (by simpa using he)
  exact⟨Zzf e.key,hI _ this.1,this.2⟩
 .unfold Zw1
  have:∀ l:List DictEntry,(∀ e∈l,isI e.key=true)->Pairs (intKind p w) l (l.map λe=>(Zzf e.key,e.val)):=by
   intro l
   induction l with
   | nil=>intro _;exact .nil
   | cons e l ih=>intro hl;exact .cons (hI _ (hl e (.head _))) rfl (ih λe he=>hl e (.tail _ he))
  exact this _ λe he=>(h1 e he).1
 .unfold Zw1
  rw[List.map_map]
  exact h2
noncomputable def stock8:List Nat:=[97,46,45,93,92,94,126,38]
noncomputable def Zzh(c:Nat):Str:=if c==97 then ⟨#[97]⟩ else ⟨#[92,c]⟩
noncomputable def pv(S:Addr):Option Str->V
 | none=>.ref S
 | some s=>.str s
theorem Zit{S:Addr}:pv S none = .ref S:=rfl
theorem Zh8{S:Addr}{s:Str}:pv S (some s) = .str s:=rfl
noncomputable def cat(l:List Str):Str:=Txt.join ⟨#[]⟩ l
noncomputable def Zat:List (Option Str)->List Str
 | some s::l=>s::Zat l
 | _=>[]
noncomputable def Zb9:List (Option Str)->List (Option Str)
 | some _::l=>Zb9 l
 | l=>l
theorem Zcb:∀ l:List (Option Str),l=(Zat l).map some++Zb9 l
 | []=>rfl
 | none::_=>rfl
 | some s::l=>congrArg (some s::·) (Zcb l)
noncomputable def sz(l:List Str):Nat:=(l.map (·.length)).sum
noncomputable def pj2:Nat->List (Option Str)->Option (List Str)
 | 0,_=>none
 | n+1,l=>match l with
  | []=>some []
  | some _::_=>none
  | [none]=>some [".*"]
  | none::none::_=>none
  | none::some s::r=>if 100000<sz (Zat (some s::r)) then none else match pj2 n (Zb9 r) with
   | none=>none
   | some rs=>if (Zb9 r).isEmpty then some (".*" :: cat (Zat (some s::r))::rs) else some ((Str.empty++(Str.ofString "(?>.*?")++cat (Zat (some s::r))++Str.ofString ")")::rs)
theorem Zs5{l:List (Option Str)}:pj2 (n+1) l=(match l with
  | []=>some []
  | some _::_=>none
  | [none]=>some [".*"]
  | none::none::_=>none
  | none::some s::r=>if 100000<sz (Zat (some s::r)) then none else match pj2 n (Zb9 r) with
   | none=>none
   | some rs=>if (Zb9 r).isEmpty then some (".*" :: cat (Zat (some s::r))::rs) else some ((Str.empty++(Str.ofString "(?>.*?")++cat (Zat (some s::r))++Str.ofString ")")::rs)):=rfl
noncomputable def pj(l:List (Option Str)):Option Str:=match pj2 100 (Zb9 l) with
 | none=>none
 | some rs=>if 100000<sz (Zat l++rs)\/1000<(Zat l++rs).length then none else some (Str.empty++(Str.ofString "(?s:")++cat (Zat l++rs)++Str.ofString ")\\Z")
noncomputable abbrev Zza(a S r m:Addr)(i n:Int)(f:Option V):Loc:=[("inp",some (.ref a)),("STAR",some (.ref S)),("res",some (.ref r)),("add",some (.ref m)),("i",some (.int i)),("n",some (.int n)),("fixed",f)]
noncomputable def job(m r a:Addr)(acc:List Str)(L:List V)(b:Wg):Wg:=(m,AO.bound "builtin_function_or_method" "list.append" r)::(r,.list (acc.map V.str))::(a,.list L)::b
theorem WL.mono{K K':Wj}(h:WL C test body orelse J K')(k:∀ fl J,K' fl J->K fl J):WL C test body orelse J K:=λs H=>Zal (h s H) λr s' x=>by
 induction r with
 | ok f=>obtain⟨a,J',y,z⟩:=x;exact⟨a,J',k a J' y,z⟩
 | error e=>exact x
theorem Zd5{pre:List Str}{suf l:List (Option Str)}(e:l=pre.map some++suf)(h:∀ s t,suf≠some s::t):Zat l=pre/\Zb9 l=suf:=by
 subst e
 induction pre with
 | nil=>
  induction suf with
  | nil=>exact⟨rfl,rfl⟩
  | cons x t=>
   induction x with
   | none=>exact⟨rfl,rfl⟩
   | some s=>exact absurd rfl (h s t)
 | cons x pre ih=>exact⟨congrArg (x::·) ih.1,ih.2⟩
theorem Zny(l:List Str):(cat l).length<=sz l:=by
 have e:cat l=Str.join ⟨#[]⟩ l:=StrLaws.glued_eq_join _ _
 rw[e]
 have:=StrLaws.join_length_le ⟨#[]⟩ l
 have h0:(⟨#[]⟩:Str).length=0:=rfl
 rw[h0] at this
 simpa [sz] using this
theorem Zss{S:Addr}{parts:List (Option Str)}{pre:List Str}{x:Option Str}{t:List (Option Str)}(e:parts.drop i=pre.map some++x::t):(parts.map (pv S))[i+pre.length]?=some (pv S x):=by
 have h:parts[i+pre.length]?=some x:=by
  have:(parts.drop i)[pre.length]?=some x:=by
   rw[e,List.getElem?_append_right (by simp)]
   simp
  simpa [Nat.add_comm] using this
 rw[List.getElem?_map,h];rfl
theorem Zyz(h:n<=1000000):(n:Int)<2 ^ 63:=Int.lt_of_le_of_lt (Int.ofNat_le.mpr h) (by decide)
theorem Zkv{parts:List (Option Str)}{pre:List Str}{suf:List (Option Str)}(e:parts.drop i=pre.map some++suf)(hi:i<=parts.length):parts.length=i+pre.length+suf.length:=by
 have:=congrArg List.length e
 rw[List.length_drop,List.length_append,Qj] at this
 rw[Nat.add_assoc,<- this,Nat.add_sub_cancel' hi]
theorem Zbt(x:Str)(lo hi:Option Int):(Zdx x lo hi).length<=x.length:=by
 show((slc x.cps.toList lo hi).toArray).size<=x.cps.size
 exact Zt3 x.cps.toList lo hi
theorem Zak(x y:Str):(x++y).length=x.length+y.length:=by simp[Str.length,Str.cps_append]
theorem Zz6:(Str.ofString "\\").length=1:=by decide +kernel
abbrev PK:=Nat×Nat
noncomputable def Zg5(l:List (PK×Addr)):Array Value:=(l.flatMap λe=>[rawInt e.1.1,rawInt e.1.2,.ref e.2]).toArray
theorem Zhp(l:List (PK×Addr))(p:PK)(c:Addr):Zg5 l++#[rawInt p.1,rawInt p.2,.ref c]=Zg5 (l++[(p,c)]):=by
 unfold Zg5
 simp
theorem Zeg:∀ l:List (PK×Addr),TriplesOk (Zg5 l).toList
 | []=>by simp[Zg5,TriplesOk]
 | e::l=>by
  have:=Zeg l
  simp only[Zg5] at this ⊢
  simp only[List.flatMap_cons,List.cons_append,List.nil_append]
  simpa [TriplesOk,rawInt] using this
noncomputable def Zdp(p:PK):List (PK×Addr)->Option Addr
 | []=>none
 | e::l=>if e.1=p then some e.2 else Zdp p l
theorem Zbr(pos:Pos):∀ l:List (PK×Addr),codeAmong pos (Zg5 l).toList=(Zdp (pos.line,pos.col) l).map .ref
 | []=>by simp[Zg5,codeAmong,Zdp]
 | e::l=>by
  have ih:=Zbr pos l
  simp only[Zg5] at ih ⊢
  simp only[List.flatMap_cons,List.cons_append,List.nil_append,rawInt,Zdp]
  obtain⟨⟨a,b⟩,c⟩:=e
  simp only[codeAmong]
  by_cases h:((a,b):PK)=(pos.line,pos.col)
  .cases h
   simp
  .rw[if_neg h]
   rw[if_neg ?_]
   .simpa [rawInt] using ih
   .intro q
    simp only[Qt,beq_iff_eq] at q
    exact h (Prod.ext (by have:=q.1;lia) (by have:=q.2;lia))
set_option tactic.hygienic true in
theorem Zfv{p:PK}:∀ {l:List (PK×Addr)},Zdp p l=some c->(p,c)∈l
 | e::l,h=>by
  unfold Zdp at h
  split at h
  .rename_i q
   cases h;subst q;exact .head _
  .exact .tail _ (Zfv h)
noncomputable def Zbg(l:List (PK×Addr)):Ob where
 P _ o:=o=tabObj (Zg5 l)
 mono _ _ _ _ h:=h
 noTup _ _ h vs n e:=by subst h;simp[Zbk] at e
noncomputable def Zes(q:Str):Ob where
 P _ o:=∃ (vs:Array Value) (t:Tok),o.data = .fields vs/\vs[1]?=some (.str q t)
 mono _ _ _ _ h:=h
 noTup _ _ h vs n e:=by obtain⟨a,t,d,_⟩:=h;subst e;simp at d
noncomputable def Zzg(mk:Value->FuncData):Ob where
 P _ o:=∃ v,o={ cls:=.type "function",data:=.func (mk v) }
 mono _ _ _ _ h:=h
 noTup _ _ h vs n e:=by obtain⟨v,h⟩:=h;subst h;simp[Zbk] at e
noncomputable def Zfr(P:Addr)(q:PK->Str)(l:List (PK×Addr)):Wg:=(P,.own (Zbg l))::l.map λe=>(e.2,.own (Zes (q e.1)))
theorem Zsa{P:Addr}{l:List (PK×Addr)}{p:PK}(h:(p,c)∈l):(c,AO.own (Zes (q p)))∈Zfr P q l:=List.mem_cons_of_mem _ (Qe ⟨_,h,rfl⟩)
theorem Ziw{P:Addr}{l:List (PK×Addr)}{p:PK}:Zfr P q (l++[(p,c)])=(P,.own (Zbg (l++[(p,c)])))::(l.map λe=>(e.2,AO.own (Zes (q e.1))))++[(c,.own (Zes (q p)))]:=by
 unfold Zfr;simp
structure Bt(G:Gl)(bm:Addr):Prop where
 m:G.mg "__builtins__" = some (.ref bm)
 o:G.K.lookup bm=some { cls:=.type "module",dict:=some builtinsNs,data:=.plain }
 ne:bm≠builtinsNs
 ng:bm≠mainGlobals
theorem Holds.adj{loc:Wm}{obs:Wg}{s:Shared}(H:Holds C ⟨loc,obs⟩ s){a:Addr}{o:AO}{O:Obj}(e:s.heap.get? a=some O)(r:OR s.heap o O)(hl:C.env.locals≠a)(hn:∀ p∈obs,p.1≠a)(hz:C.fz a=none) :
  Holds C ⟨loc,(a,o)::obs⟩ s:=by
 exists (C loc obs s a o O),H,e,r,hl,hn,hz
 have nd:=Qc H.nd
 refine⟨H.frz,H.loc,λp hp=>?_,?_,λb hb=>?_,H.nn,H.gens,H.drawn,H.os⟩
 .rcases Qb hp with rfl|hp
  .exact⟨O,e,r⟩
  .exact H.obs p hp
 .show(C.env.locals::a::obs.map (·.1)).Nodup
  refine Qd ⟨λhm=>?_,Qd ⟨λhm=>?_,nd.2⟩⟩
  .rcases Qb hm with q|q
   .exact hl q
   .exact nd.1 q
  .obtain⟨p,hp,q⟩:=Qf hm
   exact hn p hp q
 .rcases Qb hb with q|q
  .exact H.ap b (q ▸ .head _)
  .rcases Qb q with q|q
   .subst q;exact hz
   .exact H.ap b (.tail _ q)
theorem Holds.permO(H:Holds C ⟨loc,obs⟩ s)(p:obs.Perm obs'):Holds C ⟨loc,obs'⟩ s:=
 ⟨H.frz,H.loc,λq hq=>H.obs q (p.mem_iff.mpr hq),((p.map (·.1)).cons _).nodup_iff.mp H.nd,λb hb=>H.ap b (((p.map (·.1)).cons _).mem_iff.mpr hb),H.nn,H.gens,H.drawn,H.os⟩
theorem Zow{params:Arguments}{body:Expr}{scope:Scope}{pos:Pos}{c P bm:Addr}{q:PK->Str}{l:List (PK×Addr)}{rest:Wg}{K:Wk}(hdef:defaultsOf params C.env=([],[]))(hcl:closureFor scope C.env=pure [])
  (hcode:C.env.code = .ref c) (hK:codeHdIn C.G.K c P=true) (B:Bt C.G bm) (hq:q (pos.line,pos.col)=C.env.qual ++ "<lambda>") (hS:J.obs.Perm (Zfr P q l++rest))
  (k:∀ f c' l',((pos.line,pos.col),c')∈l'->K (.ref f) ⟨J.loc,(f,.own (Zzg λv=>kla_fn "<lambda>" (C.env.qual ++ "<lambda>") params body scope [] ((C.G.mg "__name__").getD .none) (.ref c') v))::(Zfr P q l'++rest)⟩) :
  EV C (eval (.Lambda params body scope pos) C.env) J K:=by
 exists (C J params body scope pos c P bm q l rest K),hdef,hcl,hcode,hK,B,hq,hS,k
 intro s H
 obtain⟨loc,obs⟩:=J
 have H0:=H.permO hS
 refine Zaj (H0.obs (P,.own (Zbg l)) (Ql _ (.head _))) λop hp rp=>?_
 exists (s loc obs op),hS,k,H,H0,hp,rp
 have qp:=OR.ownE rp
 have qp':op=tabObj (Zg5 l):=qp
 subst qp'
 have hbm:=H.frz _ _ (C.ok.sub _ _ B.o)
 have hzP:C.fz P=none:=H0.ap P (.tail _ (Qe ⟨_,Ql _ (.head _),rfl⟩))
 have hbP:bm≠P:=λe=>by
  have:=C.ok.sub _ _ B.o
  rw[e,hzP] at this;cases this
 have hg:s.heap.Ns mainGlobals C.G.mg:=C.eg▸C.glo H
 have hgP:mainGlobals≠P:=λe=>by
  obtain⟨o,es,ep,e1,hd,_⟩:=id hg
  rw[e,hp] at e1;cases e1;cases hd
 have hba:s.heap.BuiltinsAt C.G.mg P:=⟨bm,_,B.m,B.ne,B.ng,hbP,hbm,rfl,rfl,rfl⟩
 have hC:CodeHd s.heap c P:=codeHd_of_K H.inK hK
 rw[arm_eval_Lambda,hdef]
 refine .of (Qh (Qi (Qh (wpAny_holding (Qi ?_)))))
 cases hf:Zdp (pos.line,pos.col) l with
 | some c'=>
  refine kla_makeFunctionHit (cv:=.ref c') hcl C.eg hg hcode hC hp (Zeg l) (by rw[Zbr,hf];rfl) hba λctv h' tk hk hsz=>?_
  refine⟨_,_,k _ c' l (Zfv hf),.ref _,H0.alloc (λb o e=>Heap.get?_push_of_some _ (hk b o e)) hsz (Qg _ rfl) (.own (x:=Zzg λv=>kla_fn "<lambda>" (C.env.qual ++ "<lambda>") params body scope [] ((C.G.mg "__name__").getD .none) (.ref c') v) ⟨ctv,rfl⟩) tk,.of_ext λb o e=>Heap.get?_push_of_some _ (hk b o e)⟩
 | none=>
  refine kla_makeFunction hcl C.eg hg hcode hC hp (Zeg l) (by rw[Zbr,hf];rfl) hgP hba λc' ctv h' tk hx hge hlt hrec htb=>?_
  obtain⟨c_2,oc,vs,t,e2,hoc,hd,hv⟩:=hrec
  exists (c' ctv h' tk c_2 oc vs t),hx,hge,hlt,htb,e2,hoc,hd,hv
  cases e2
  have htb':h'.get? P=some (tabObj (Zg5 (l++[((pos.line,pos.col),c')]))):=by rw[<- Zhp];exact htb
  refine And.elim (λH1 tk1=>?_) (H0.dropExt (a:=P) (o:=.own (Zbg l)) (l':=(l.map λe=>(e.2,AO.own (Zes (q e.1))))++rest) .head (h':=h') hx tk)
  have lt:∀ p∈Zfr P q l++rest,p.1<s.heap.objs.size:=λp hp=>H0.ltOf hp
  have ndP:P ∉ ((l.map λe=>(e.2,AO.own (Zes (q e.1))))++rest).map (·.1):=(Qc (Qc H0.nd).2).1
  have hlP:C.env.locals≠P:=λe=>(Qc H0.nd).1 (e ▸ .head _)
  have hlc:C.env.locals≠c':=λe=>by have:=H.locLt;rw[e] at this;exact absurd this (Nat.not_lt.mpr hge)
  have hzc:C.fz c'=none:=by
   cases z:C.fz c' with
   | none=>rfl
   | some o=>exact absurd (H.fzLt z) (Nat.not_lt.mpr hge)
  have H2:=H1.adj (a:=c') (o:=.own (Zes (q (pos.line,pos.col)))) hoc (.own ⟨vs,t,hd,by rw[hq];exact hv⟩) hlc (λp hp e=>absurd (lt p (.tail _ hp)) (by rw[e];exact Nat.not_lt.mpr hge)) hzc
  have H3:=H2.adj (a:=P) (o:=.own (Zbg (l++[((pos.line,pos.col),c')]))) htb' (.own rfl) hlP (λp' hp' e=>by
   rcases Qb hp' with q|q
   .subst q
    have e':c'=P:=e
    have:=Qz hp
    rw[<- e'] at this
    exact absurd this (Nat.not_lt.mpr hge)
   .exact ndP (e▸Qe ⟨p',q,rfl⟩)) hzP
  have H4:=H3.alloc (h':=h'.push (kla_obj "<lambda>" (C.env.qual ++ "<lambda>") params body scope [] ((C.G.mg "__name__").getD .none) c' ctv)) (a:=h'.objs.size) Qa (Qw _) (Qg _ rfl)
   (.own (x:=Zzg λv=>kla_fn "<lambda>" (C.env.qual ++ "<lambda>") params body scope [] ((C.G.mg "__name__").getD .none) (.ref c') v) ⟨ctv,rfl⟩) tk
  refine⟨_,_,k h'.objs.size c' (l++[((pos.line,pos.col),c')]) (by simp),.ref _,H4.permO ?_,tk1.trans (.of_ext Qa)⟩
  refine List.Perm.cons _ ?_
  rw[Ziw]
  simp only[List.cons_append,Qs,List.nil_append]
  exact List.Perm.cons _ (List.perm_middle.symm)
section
variable {prog:Program}{w:World}{A:Around}{R:Result->Shared->Prop}{s:Shared}
theorem Zmv
  (h:wpP (model prog w) (A.deeper env) (eval e env) (λv s'=>R (.ok (.ret v)) s')
   (λe' s'=>wpP (model prog w) (A.deeper env) (leaving env e') (λY s''=>R (.error e') s'') (λe'' s''=>R (.error e'') s'') s') s):codeP (model prog w) A (.expr e env) R s:=by
 refine Zaf rfl ?_
 show wpP _ (A.deeper env) (do point;ret (<- (eval e env).onRaise (leaving env))) _ _ s
 exact Zaa (Zcy (Zaa (Zah (Zad h (λv s' h'=>Zab h') λY Y h'=>h'))))
theorem Zch{a:Addr}{args:Args}{o:Obj}{fd:FuncData}{body:Expr}(hroom:A.depth<recursionLimit)
  (ho:s.heap.get? a=some o) (hd':o.data = .func fd) (hco:fd.scope.isCoroutine=false) (hgen:fd.scope.isGenerator=false) (hbody:fd.body = .expr body) (hcd:s.heap.CodeRec fd.code fd.qualname)
  (h:wpP (model prog w) A.in1 (bindArgs fd args) (λbinds s_1=>
   wpP (model prog w) A.in1 (newFunctionEnv fd.scope fd.globals fd.closure binds (fd.qualname ++ ".<locals>.") (some a) fd.code none fd.builtins)
    (λenv s_2=>s_2.heap.NoLimit/\codeP (model prog w) A (.expr body env) R s_2) (λe s'=>R (.error e) s') s_1) (λe s'=>R (.error e) s') s) :
  codeP (model prog w) A (.call (.ref a) args) R s:=by
 exists (prog w A R s a args o fd body),hroom,ho,hd',hco,hgen,hbody,hcd,h
 refine Zaf rfl ?_
 show wpP _ A.in1 (callAny (.ref a) args) _ _ s
 refine Zaa (m:=load a) (Zk8 ho ?_)
 obtain⟨c,oc,vs,tq,hc,hoc,hdc,hq⟩:=hcd
 obtain⟨_,_,data,_⟩:=o
 cases (show data=_ from hd')
 show wpP _ A.in1 (callFunction a fd args) _ _ _
 unfold callFunction
 rw[hc,hbody,hco,hgen]
 rw[hc] at h
 refine Zaa (m:=field (.ref c) 1) (.of (wpAny_field hoc hdc hq (Zaa (Zab ?_))))
 exact Zaa (Zad h (λbinds s_1 h_1=>Zaa (Zad h_1 (λenv s_2 h_2=>Zaa (.of (wpAny_enterFrame h_2.1 hroom (Zab ⟨rfl,h_2.2⟩)))) λY Y h'=>h')) λY Y h'=>h')
theorem Zed{a:Addr}{o:Obj}{fd:FuncData}{body:Expr}{args:Args}{binds:List (Str×Value)}
  (hroom:A.depth<recursionLimit) (ho:s.heap.get? a=some o) (hdata:o.data = .func fd) (hlim:s.heap.NoLimit) (hcd:s.heap.CodeRec fd.code fd.qualname)
  (hbody:fd.body = .expr body) (hbind:BindsTo s fd args binds)
  (hcell:∀ x∈fd.scope.names,x.2 ≠ .cell) (hloc:∀ x∈binds,fd.scope.names.lookup x.1=some .local)
  (h:∀ h_0,h_0.Ns s.heap.objs.size (λx=>binds.reverse.lookup x)->(∀ b o,s.heap.get? b=some o->h_0.get? b=some o) ->
   wpP (model prog w) (A.deeper (callEnv fd s.heap.objs.size a)) (eval body (callEnv fd s.heap.objs.size a)) (λv s'=>R (.ok (.ret v)) s')
    (λe s'=>wpP (model prog w) (A.deeper (callEnv fd s.heap.objs.size a)) (leaving (callEnv fd s.heap.objs.size a) e) (λY s''=>R (.error e) s'') (λe' s''=>R (.error e') s'') s')
    { s with heap:=h_0,toks:=s.toks+binds.length })
  (hco:fd.scope.isCoroutine=false) (hgen:fd.scope.isGenerator=false) (hk:fd.scope.kind = .function) :
  codeP (model prog w) A (.call (.ref a) args) R s:=by
 exists (prog w A R s a o fd body args binds),hroom,ho,hdata,hlim,hcd,hbody,hbind,hcell,hloc,h,hco,hgen,hk
 refine Zch hroom ho hdata hco hgen hbody hcd (.of (hbind _ _ _ _ (.of (wpAny_newFunctionEnv hcell hloc (λh_0 hns0 hsb0=>⟨hlim.fresh _ hsb0,Zmv (h h_0 hns0 λb o e=>?_)⟩) hk))))
 exact hsb0.extBut b o (Nat.ne_of_lt (Qz e)) (Heap.get?_push_of_some _ e)
end
set_option tactic.hygienic true in
theorem Zqv{G:Gl}{f c:Addr}{n:Nat}{args:List V}{obs:Wg}{K:V->Wg->Prop}{mk:Value->FuncData}{body:Expr}{q:Str}{names:List Str}{loc:Wm}
  (hf:(f,AO.own (Zzg mk))∈obs) (hcm:(c,AO.own (Zes q))∈obs) (hq:∀ v,(mk v).qualname=q) (hb:∀ v,(mk v).body = .expr body) (hcl:∀ v,(mk v).closure=[]) (hg:∀ v,(mk v).globals=mainGlobals) (hbt:∀ v,(mk v).builtins=builtinsNs)
  (hc:∀ v,(mk v).code = .ref c) (hnl:names.length=args.length) (hbind:∀ v,∀ vs:List Value,vs.length=names.length->bindArgs (mk v) ⟨vs,[]⟩=pure (names.zip vs))
  (hloc:∀ v,∀ x∈names,(mk v).scope.names.lookup x=some .local) (hcell:∀ v,∀ x∈(mk v).scope.names,x.2 ≠ .cell) (hnn:names.Nodup)
  (hco:∀ v,(mk v).scope.isCoroutine=false) (hgen:∀ v,(mk v).scope.isGenerator=false) (hk:∀ v,(mk v).scope.kind = .function)
  (h:∀ v,∀ (R:Ar G n) (L:Addr),EV (R.cx (callEnv (mk v) L f) (hg v) (hbt v)) (eval body (callEnv (mk v) L f)) ⟨loc,obs⟩ (λa J=>∃ l,K a l/\Drp J.obs l)) (hl:names.zip (args.map some)=loc) :
  Fn G (.ref f) (n+1) args obs K:=by
 exists (G f c n args obs K mk body q names loc),hf,hcm,hq,hb,hcl,hg,hbt,hc,hnl,hbind,hloc,hcell,hnn,hco,hgen,hk,h,hl
 intro A fz s vs E g ok L R
 exists (A fz s vs E),g,ok,L,R
 subst hl
 have hlen:=R.length
 obtain⟨of,ef,rf⟩:=L.has _ hf
 obtain⟨oc,ec,rc⟩:=L.has _ hcm
 have rf:=OR.ownE rf
 have rc:=OR.ownE rc
 obtain⟨v,rf⟩:=rf
 obtain⟨cvs,ct,hdc,hcv⟩:=rc
 rename_i zq62_1
 exists (A fz s vs E of oc v cvs ct),g,ok,L,R,hlen,ef,zq62_1,ec,rc,rf,hdc,hcv
 subst rf
 refine Za6 (Zed (fd:=mk v) (body:=body) (binds:=names.zip vs) (by have:=g.d;lia) ef rfl (ok.top _ L.frz).2.2
  ⟨c,oc,cvs,ct,hc v,ec,hdc,by rw[hq];exact hcv⟩ (hb v) (BindsTo.of_eq (hbind v vs (by rw[hlen,hnl]))) (hcell v) (λx hx=>hloc v x.1 (List.of_mem_zip hx).1) (λh_0 hns hkeep=>?_) (hco v) (hgen v) (hk v))
 let Ra:Ar G n:=⟨A.deeper (callEnv (mk v) s.heap.objs.size f),fz,s.gens,s.drawn,s.os,ok,g.deeper _⟩
 have H:Holds (Ra.cx (callEnv (mk v) s.heap.objs.size f) (hg v) (hbt v)) ⟨names.zip (args.map some),obs⟩ { s with heap:=h_0,toks:=s.toks+(names.zip vs).length }:=by
  have lts:∀ p∈obs,p.1<s.heap.objs.size:=λp hp=>(by obtain⟨O,e,_⟩:=L.has p hp;exact Qz e)
  refine⟨λb o' e=>hkeep _ _ (L.frz b o' e),⟨_,hns,λx v hx=>Zcl (binds:=[]) (R.mono (.of_ext hkeep)) hnl hnn x v hx⟩,λp hp=>(by obtain⟨O,e,r⟩:=L.has p hp;exact⟨O,hkeep _ _ e,r.mono (.of_ext hkeep)⟩),?_,λa ha=>?_,?_,GK.refl _,rfl,rfl⟩
  .show(s.heap.objs.size::obs.map (·.1)).Nodup
   refine Qd ⟨λhm=>?_,L.nd⟩
   obtain⟨p,hp,q⟩:=Qf hm
   exact absurd (lts p hp) (by rw[q];exact Nat.lt_irrefl _)
  .rcases Qb ha with q|q
   .have q':a=s.heap.objs.size:=q
    subst q'
    cases e:fz s.heap.objs.size with
    | none=>exact e
    | some o2=>exact absurd (Qz (L.frz _ _ e)) (Nat.lt_irrefl _)
   .exact L.ap a q
  .show((names.zip (args.map some)).map λx:Str×Option V=>x.1).Nodup
   have e1:(names.zip (args.map some)).map (λx:Str×Option V=>x.1)=names:=List.map_fst_zip (by rw[Qj,hnl];exact Qw _)
   rw[e1];exact hnn
 refine Zad (h v Ra s.heap.objs.size _ H) ?_ λ_ _ e=>e.elim
 rintro r s' ⟨a,J',hK,r,H',tk⟩
 obtain⟨l,hKl,hd⟩:=hK
 exact⟨a,l,hKl,r,⟨H'.frz,λp hp=>H'.obs p (hd.mem hp),hd.nd (Qc H'.nd).2,λa ha=>H'.ap a (.tail _ (hd.keys ha))⟩,(TK.of_ext hkeep).trans tk,H'.gens,H'.drawn,H'.os⟩
section
theorem Zr1:PlainAttrs "re.Match" :=
 ⟨⟨"object.__getattribute__",by rw[Qn,Qm];kernel_rfl,by decide +kernel⟩,by rw[Qn,Qm];kernel_rfl⟩
theorem Z2m:PlainAttrs "re.Pattern" :=
 ⟨⟨"object.__getattribute__",by rw[Qn,Qm];kernel_rfl,by decide +kernel⟩,by rw[Qn,Qm];kernel_rfl⟩
theorem Zfi:Slot "re.Match" "group" "re.Match.group" :=
 .of (owner := "re.Match") (n := "group") (by rw[Qn,Qm];kernel_rfl) (by decide +kernel) (by decide +kernel) (by decide +kernel)
  (by first|exact .inl (by decide +kernel)|exact .inr (by decide +kernel)) (by rw[isSubtype_type];kernel_rfl)
theorem slot_sub:Slot "re.Pattern" "sub" "re.Pattern.sub" :=
 .of (owner := "re.Pattern") (n := "sub") (by rw[Qn,Qm];kernel_rfl) (by decide +kernel) (by decide +kernel) (by decide +kernel)
  (by first|exact .inl (by decide +kernel)|exact .inr (by decide +kernel)) (by rw[isSubtype_type];kernel_rfl)
theorem Zl9:typeOf (.builtin "re.Match.group")=pure (.type "method_descriptor"):=by show builtinType _=_;rw[builtinType_eq_fast];kernel_rfl
theorem Zr8:typeOf (.builtin "re.Pattern.sub")=pure (.type "method_descriptor"):=by show builtinType _=_;rw[builtinType_eq_fast];kernel_rfl
theorem Zj0:entryFor table "re.Match.group" = some Builtin.«re.Match.group»:=entryFor_of_tree (by kernel_rfl)
theorem Zpu:entryFor table "re.Pattern.sub" = some Builtin.«re.Pattern.sub»:=entryFor_of_tree (by kernel_rfl)
theorem Zmp:entryFor table "re.Pattern.sub.loop" = some Builtin.«re.Pattern.sub.loop»:=entryFor_of_tree (by kernel_rfl)
theorem Zl1 (a b:Value):argsOk "re.Match.group" ⟨[a,b],[]⟩:=by unfold argsOk;kernel_rfl
theorem Zs3 (a b c:Value):argsOk "re.Pattern.sub" ⟨[a,b,c],[]⟩:=by unfold argsOk;kernel_rfl
theorem Zo1:plainId "re.Pattern.sub" = true:=by decide +kernel
theorem Zm4:plainId "re.Pattern.sub.loop" = true:=by decide +kernel
open Builtin Builtin.Re
theorem Zpa{i:Int}:asInt? (.int i t)=pure (some i):=rfl
theorem Zcj{w:World}{A:Around}{vs:Array Value}{Q:Array Int->Shared->Prop}(e:s.heap.get? a=some o)(d:o.data = .seq vs n)(h:Q (vs.map reRawOf) s) :
  wpAny (model prog w) A (reRawItems (.ref a)) Q E s:=by
 unfold reRawItems
 exact Qh (wpAny_seqItems e d (Qi h))
noncomputable def Zb5(x:Str)(b e:Nat):Ob where
 P h o:=∃ (tk:Tok) (p a c d:Value) (tup:Addr) (v0 v1:Value) (n:Nat),o={ cls:=.type "re.Match",data:=.fields #[.str x tk,p,a,c,d,.ref tup] }/\h.get? tup=some (Zbk #[v0,v1,rawInt b,rawInt e] n)
 mono h h' o k:=(by rintro⟨tk,p,a,c,d,tup,v0,v1,n,e1,e2⟩;exact⟨tk,p,a,c,d,tup,v0,v1,n,e1,k _ _ _ e2⟩)
 noTup _ _ h vs n e:=by obtain⟨_,_,_,_,_,_,_,_,_,h,_⟩:=h;subst h;simp[Zbk] at e
theorem Zmr{w:World}{A:Around}{b e:Nat}(ho:s.heap.get? m=some o)(hp:(Zb5 x b e).P s.heap o)
  (hx:x.length<=sizeLine) (h:Q (.str ⟨x.cps.extract b e⟩ s.toks) { s with toks:=s.toks+1 }):wpAny (model prog w) A (call (.builtin "re.Match.group") [.ref m,.int 1 t]) Q E s:=by
 exists (s x Q prog o E m t w A b e),ho,hp,hx,h
 obtain⟨tk,p,a,c,d,tup,v0,v1,n,rfl,e2⟩:=hp
 refine wpAny_call_entry Zfi (self:=.ref m) ⟨_,ho,rfl⟩ Zj0 ?_ (Zl1 _ _)
 unfold Builtin.«re.Match.group»
 refine Qh (Qi ?_)
 dsimp only
 unfold reFound
 refine Qh (Qh (wpAny_fieldsOf ho rfl (Qh ?_)))
 show wpAny _ _ (reRawItems (.ref tup)) _ _ _
 refine Zcj e2 rfl (Qi ?_)
 refine Qh ?_
 unfold reGroupNumber
 refine Qh ?_
 rw[Zpa]
 refine Qi ?_
 show wpAny _ _ (asIndex (.int 1 t) >>= _) _ _ _
 refine Qh (Qy (a:=(1:Int)) rfl ?_)
 dsimp only
 rw[if_neg (by simp)]
 refine Qi ?_
 refine Qh ?_
 unfold reGroupText
 simp -iota only[List.map_toArray,Qr,List.map_nil,rawInt]
 show wpAny _ _ (if (decide ((b:Int)<0)||decide ((e:Int)<0))=true then _ else _) _ _ _
 rw[if_neg (by simp)]
 refine Qh ?_
 show wpAny _ _ (reTextOf (.str x tk)) _ _ _
 refine Qy (a:=(x.cps,0)) rfl ?_
 show wpAny _ _ (mkStr ⟨x.cps.extract b e⟩) _ _ _
 refine wpAny_mkStr (Qi ⟨_,rfl,h⟩) ?_
 have:(⟨x.cps.extract b e⟩:Str).length<=x.length:=by
  show(x.cps.extract b e).size<=x.cps.size
  simp;lia
 lia
theorem Zs0 {b e:Nat} {K:V->List V->Wl} (h:LkO m (.own (Zb5 x b e)) J.obs) (k:K (.bi "re.Match.group") [.ref m] J):GM C (.ref m) "group" J K:=by
 exists (C J x m b e K),h,k
 intro s v pl H r
 o_facts r
 refine Zaj (H.obj h) λO eo ro=>?_
 have q:=OR.ownE ro
 obtain⟨tk,p,a,c,d,tup,v0,v1,n,rfl,e2⟩:=q
 exact .of (getMethod_builtin ⟨_,eo,rfl⟩ Zr1 Zfi Zl9 (λa' q=>by cases q;exact⟨_,eo,rfl⟩) ⟨_,_,_,k,.bi _,.cons (.ref m) .nil,H,.refl _⟩)
theorem Zrj {b e:Nat} (h:LkO m (.own (Zb5 x b e)) J.obs) (hx:x.length<=sizeLine) (k:K (.str ⟨x.cps.extract b e⟩) J):CF C (.bi "re.Match.group") [.ref m,.int 1] J K:=by
 exists (C J K x m b e),h,hx,k
 intro s fv vs H rf rl
 o_facts rf
 revert rl
 intro rl0
 refine VRs.consK rl0 λY Y r rl e0=>?_
 subst e0
 revert rl
 intro rl0
 refine VRs.consK rl0 λY Y r2 rl e0=>?_
 subst e0
 o_facts rl
 o_facts r;o_facts r2
 refine Zaj (H.obj h) λO eo ro=>?_
 have q:=OR.ownE ro
 exact .of (Zmr eo q hx (Pst.hereT H (.str _ _) k))
theorem Z0g {p:Addr} {K:V->List V->Wl} (hK:C.G.K.lookup p=some o) (hc:o.cls = .type "re.Pattern") (hd:o.dict=none) (k:K (.bi "re.Pattern.sub") [.ref p] J):GM C (.ref p) "sub" J K:=by
 exists (C J o p K),hK,hc,hd,k
 intro s v pl H r
 o_facts r
 have e:=H.inK _ _ hK
 exact .of (getMethod_builtin ⟨_,e,hc⟩ Z2m slot_sub Zr8 (λa' q=>by cases q;exact⟨_,e,hd⟩) ⟨_,_,_,k,.bi _,.cons (.ref p) .nil,H,.refl _⟩)
end
section
open Builtin Builtin.Re
noncomputable def Zhx:Nat->Sre.M->Option Sre.M
 | 0,_=>none
 | k+1,m=>if (m.runFor 4).outcome.isSome then some (m.runFor 4) else Zhx k (m.runFor 4)
noncomputable def Zvb(m:Sre.M):Option (Option (Nat×Nat×Nat×Nat)):=match m.outcome with
 | some .matched=>if (1:Int)<=m.lastmark then
   (match m.marks.getD 0 none,m.marks.getD 1 none with
   | some b,some e=>if e<b then none else some (some (m.start,m.handed,b,e))
   | _,_=>none) else none
 | some .failed=>some none
 | _=>none
noncomputable def Zgh(code text:Array Nat)(start:Nat)(must:Bool):Option (Option (Nat×Nat×Nat×Nat)):=(Zhx 4000 (Sre.forSearch code text 1 start text.size must)).bind Zvb
section
variable {M:Model}{A:Around}{E:Wh}{s:Shared}
set_option tactic.hygienic true in
theorem Zii{Q:Sre.M->Shared->Prop}:∀ (k:Nat) (m m':Sre.M) (turns:Nat),Zhx k m=some m'->k<=turns->Q m' s->wpAny M A (reDrive turns m) Q E s
 | 0,_,_,_,h,_,_=>by cases h
 | k+1,m,m',0,h,hk,_=>by lia
 | k+1,m,m',t+1,h,hk,hq=>by
  unfold reDrive
  unfold Zhx at h
  show wpAny _ _ (if (m.runFor 4).outcome.isSome=true then pure (m.runFor 4) else (do rule "sre.turn";reDrive t (m.runFor 4))) _ _ _
  split at h
  .rename_i hc
   rw[if_pos hc]
   cases h
   exact Qi hq
  .rename_i hc
   rw[if_neg hc]
   exact Qh (wpAny_rule (Zii k _ _ t h (by lia) hq))
theorem Zir(f:Nat->PUnit->Sem (ForInStep PUnit))(hf:∀ i r,wpAny M A (f i r) (λx s'=>x = .yield PUnit.unit/\s'=s) E s):∀ (l:List Nat) {Q:PUnit->Shared->Prop},Q PUnit.unit s->wpAny M A (forIn l PUnit.unit f) Q E s
 | [],Q,h=>Qi h
 | i::l,Q,h=>by
  rw[List.forIn_cons]
  refine Qh (wpAny_mono (hf i _) (λx s' e=>?_) λY Y e=>e)
  obtain⟨e1,e2⟩:=e
  rw[e1,e2]
  exact Zir f hf l h
set_option tactic.hygienic true in
theorem Zmk{t:ReTarget}{start:Nat}{must:Bool}{r:Option (Nat×Nat×Nat×Nat)}{Q:Option Sre.M->Shared->Prop}(hg:t.groups=1)(hl:t.lim=t.text.size)(h:Zgh t.code t.text start must=some r)
  (k:∀ m:Option Sre.M,(match r with|none=>m=none|some (b,e,x,y)=>∃ m',m=some m'/\m'.start=b/\m'.handed=e/\(1:Int)<=m'.lastmark/\m'.marks.getD 0 none=some x/\m'.marks.getD 1 none=some y/\¬ y<x)->Q m s) :
  wpAny M A (reNextFound t start must) Q E s:=by
 unfold Zgh at h
 cases hd:Zhx 4000 (Sre.forSearch t.code t.text 1 start t.text.size must) with
 | none=>rw[hd] at h;cases h
 | some m'=>
  rw[hd] at h
  have h':Zvb m'=some r:=h
  unfold reNextFound reRunToEnd
  rw[hg,hl]
  refine Qh (Zii 4000 _ m' _ hd (by decide) ?_)
  refine Qh (Zir _ (λi r=>?_) _ ?_)
  .split
   .exact Qh (wpAny_rule (Qi ⟨rfl,rfl⟩))
   .exact Qi ⟨rfl,rfl⟩
  unfold Zvb at h'
  split at h'
  .rename_i ho
   rw[ho]
   split at h'
   .rename_i hm
    split at h'
    .rename_i b e hb he
     split at h'
     .cases h'
     .rename_i hn
      cases h'
      exact Qi (k _ ⟨m',rfl,rfl,rfl,hm,hb,he,hn⟩)
    .cases h'
   .cases h'
  .rename_i ho
   rw[ho]
   cases h'
   exact Qi (k _ rfl)
  .cases h'
end
noncomputable def cut(x:Str)(b e:Nat):Str:=⟨x.cps.extract b e⟩
noncomputable def Zjv(code:Array Nat)(x:Str)(h:Str->Str):Nat->Nat->Bool->Option (List Str)
 | 0,_,_=>none
 | k+1,start,must=>match Zgh code x.cps start must with
  | none=>none
  | some none=>some (if start<x.length then [cut x start x.length] else [])
  | some (some (b,e,u,v))=>(Zjv code x h k e (e==b)).map λr=>(if start<b then [cut x start b] else [])++h (cut x u v)::r
end
section
open Builtin Builtin.Re
structure Zr4(K:Frag)(p:Addr)(code:Array Nat):Prop where
 ex:∃ (v0 v1 v3 v4:Value) (t2 t6:Tok) (ct:Addr) (o:Obj) (cs:Array Value) (n:Nat),K.lookup p=some { cls:=.type "re.Pattern",data:=.fields #[v0,v1,.int 1 t2,v3,v4,.ref ct,.int 0 t6] }/\K.lookup ct=some o/\o.data = .seq cs n/\(cs.map reRawOf).map Int.toNat=code
section
variable {prog:Program}{w:World}{A:Around}{E:Wh}{s:Shared}
theorem Zhy{K:Frag}{p:Addr}{code:Array Nat}(hP:Zr4 K p code)(hK:K.In s.heap){x:Str}{t:Tok}{Q:ReTarget->Shared->Prop}(h:Q { pattern:=.ref p,string:=.str x t,code,text:=x.cps,kind:=0,groups:=1,pos:=0,lim:=x.cps.size } s) :
  wpAny (model prog w) A (reWholeTarget (.ref p) (.str x t)) Q E s:=by
 exists (prog w A E s K p code x t Q),hP,hK,h
 obtain⟨v0,v1,v3,v4,t2,t6,ct,o,cs,n,e1,e2,d,rfl⟩:=hP.ex
 unfold reWholeTarget
 refine Qh (wpAny_fieldsOf (hK _ _ e1) rfl ?_)
 refine Qh (Qy (a:=(x.cps,0)) rfl ?_)
 dsimp only
 rw[if_neg (by exact Wa)]
 rw[if_neg (by exact Wa)]
 refine Qh (Qy (a:=()) rfl ?_)
 refine Qh ?_
 show wpAny _ _ (reRawItems (.ref ct)) _ _ _
 exact Zcj (hK _ _ e2) d (Qi h)
end
theorem Zhc{w:World}{A:Around}{pat str:Value}{lim b e u v:Nat}{m:Sre.M}(hb:m.start=b)(he:m.handed=e)(hlm:(1:Int)<=m.lastmark)(hu:m.marks.getD 0 none=some u)(hv:m.marks.getD 1 none=some v)(hn:¬ v<u)
  (h:∀ (h':Heap),h'=(s.heap.push (Zbk #[rawInt b,rawInt e,rawInt u,rawInt v] 0)).push { cls:=.type "re.Match",data:=.fields #[str,pat,rawInt 0,rawInt lim,rawInt m.lastindex,.ref s.heap.objs.size] }->Q (.ref (s.heap.push (Zbk #[rawInt b,rawInt e,rawInt u,rawInt v] 0)).objs.size) { s with heap:=h' }) :
  wpAny (model prog w) A (reNewMatch pat str 1 0 lim m) Q E s:=by
 unfold reNewMatch
 have r1:List.range 1=[0]:=rfl
 have c1:((2 * 0+1:Nat):Int)<=m.lastmark:=by simpa using hlm
 simp -iota only[r1,List.flatMap_cons,List.flatMap_nil,List.any_cons,List.any_nil,Nat.mul_zero,Nat.zero_add,hu,hv]
 rw[if_neg (by simp[hn])]
 rw[if_pos (by simpa using hlm)]
 dsimp only
 rw[hb,he]
 refine Qh (wpAny_newTuple ?_ (by simp;decide))
 unfold newFields
 exact wpAny_newObj_type (h _ rfl) (by size_fits)
theorem Good.in1{A:Around}(g:Good A (n+1)):Good A.in1 n:=⟨by have:=g.d;show A.depth+n<_;lia,by have:=g.u;show A.units+1+20 * n<_;lia,g.h,g.f,g.g⟩
noncomputable abbrev Cx.wA(C:Cx)(A:Around):Cx:={ C with A:=A }
theorem Holds.wA(H:Holds C J s)(A:Around):Holds (C.wA A) J s:=⟨H.frz,H.loc,H.obs,H.nd,H.ap,H.nn,H.gens,H.drawn,H.os⟩
theorem Holds.unA{A:Around}(H:Holds (C.wA A) J s):Holds C J s:=⟨H.frz,H.loc,H.obs,H.nd,H.ap,H.nn,H.gens,H.drawn,H.os⟩
theorem neSr:Nonempty PySem.Sre.M:=⟨{ code:=#[],text:=#[],lim:=0,start:=0,pc:=0,pos:=0,handed:=0,marks:=#[] }⟩
set_option tactic.hygienic true in
theorem Zwb{C:Cx}{n:Nat}(g:Good C.A (n+1)){p f lst:Addr}{code:Array Nat}(hP:Zr4 C.G.K p code){x:Str}{t:Tok}{h:Str->Str}{loc:Wm}{sel rest:Wg}
  (F:∀ m b e,Fn C.G (.ref f) n [.ref m] ((m,.own (Zb5 x b e))::sel) (λv o=>v = .str (h (cut x b e))/\o=(m,.own (Zb5 x b e))::sel)) (hx:x.length<=sizeLine) (out:Str) :
  ∀ (fuel start:Nat) (must:Bool) (acc ps:List Str) (k:Int) (s:Shared),Zjv code x h fuel start must=some ps->(acc++ps).length<=1000->sz (acc++ps)<=100000->out=cat (acc++ps)->Holds C ⟨loc,(lst,.list (acc.map .str))::(sel++rest)⟩ s ->
   codeP (model C.G.prog C.G.w) C.A (.builtin "re.Pattern.sub.loop" ⟨[.ref p,.str x t,.ref f,rawInt 1,rawInt 0,rawInt k,rawInt start,rawInt start,.bool must,.ref lst,.bool false],[]⟩)
    (λr s'=>match r with | .ok (.ret v)=>Pst C VR (λa J'=>a = .str out/\J'=⟨loc,sel++rest⟩) s v s' | .ok _=>False | .error e=>C.E e s') s:=by
 intro fuel
 induction fuel with
 | zero=>intro start must acc ps k s e;cases e
 | succ fuel ih=>
  intro start must acc ps k s e hl hs ho H
  exists (C n p f lst code x t h loc sel rest out fuel start must acc ps k s),g,hP,F,hx,ih,e,hl,hs,ho,H
  refine Za5 Zmp rfl ?_
  rw[Around.under_plainId Zm4]
  unfold Builtin.«re.Pattern.sub.loop»
  dsimp only[rawInt]
  refine Zaa (.of (Zhy hP H.inK ?_))
  dsimp only
  have HA:=H.wA C.A.in1
  have gA:Good C.A.in1 n:=g.in1
  have push:∀ (B:Wg) (acc:List Str) (s:Shared) (y:Str) (tk:Tok) (Q:Unit->Shared->Prop),acc.length<=1000->Holds C ⟨loc,(lst,.list (acc.map .str))::B⟩ s ->
    (∀ s',Holds C ⟨loc,(lst,.list ((acc++[y]).map .str))::B⟩ s'->TK s.heap s'.heap->Q () s')->wpP (model C.G.prog C.G.w) C.A.in1 (updateSeq lst λz=>z.push (.str y tk)) Q C.E s:=by
   intro B acc s y tk Q hl H k
   refine Zbp (H.list (.head)) λvs n0 e0 r0=>?_
   have hz:vs.length=acc.length:=by simpa -iota using r0.length
   have hzz:sizeLine=16777216:=by decide
   refine .of (wpAny_updateSeq e0 rfl ?_ (by simp;clear e ih;lia) (by simp;clear e ih;lia))
   refine And.elim (λH' tk'=>?_) (H.mapList (.head) e0 (λz=>z.push (.str y tk)) (by simp -iota) (r0.append (.cons (.str y tk) .nil)))
   refine k _ ?_ tk'
   simpa -iota using H'
  rw[if_neg (by decide)]
  rw[if_neg (by simp -iota)]
  unfold Zjv at e
  rw[Int.toNat_natCast]
  cases hsr:Zgh code x.cps start must with
  | none=>rw[hsr] at e;cases e
  | some r=>
   rw[hsr] at e
   refine Zaa (.of (Zmk rfl rfl hsr λm hm=>?_))
   exists (r m),e,hsr,hm
   induction r with
   | none=>
    have hm':m=none:=hm
    subst hm'
    dsimp only at e ⊢
    have fin:∀ (acc':List Str) (s':Shared) (Q:Fin->Shared->Prop),Holds C ⟨loc,(lst,.list (acc'.map .str))::(sel++rest)⟩ s'->TK s.heap s'.heap->acc'=acc++ps->(∀ v s'',Pst C VR (λa J'=>a = .str out/\J'=⟨loc,sel++rest⟩) s v s''->Q (.done (.ret v)) s'') ->
      wpP (model C.G.prog C.G.w) C.A.in1 (do
       let joiner <- reSlice x.cps 0 0 0
       let l <- seqItems? (Value.ref lst)
       if (l.getD #[]).isEmpty=true then do
        let text <- pure joiner
        ret text
       else do
        let text <- call (.builtin "str.join") [joiner,.ref lst]
        ret text:Sem Fin) Q C.E s':=by
     intro acc' s' Q H' tk' ea hQ
     exists (acc' s' Q),H',tk',ea,hQ
     subst ea
     refine Zbp (H'.list (.head)) λvs n0 e0 r0=>?_
     have he0:(⟨x.cps.extract 0 0⟩:Str)=⟨#[]⟩:=by simp
     refine Zaa (.of ?_)
     show wpAny _ _ (mkStr ⟨x.cps.extract 0 0⟩) _ _ _
     rw[he0]
     refine wpAny_mkStr ?_ (by decide)
     refine Zaa (.of (wpAny_seqItems e0 rfl ?_))
     by_cases hv:vs=[]
     .subst hv
      rw[if_pos (by simp -iota)]
      have hnil:acc++ps=[]:=List.eq_nil_of_length_eq_zero (by
       have h0:=r0.length
       rw[Qj] at h0
       exact h0.symm)
      refine Zaa (Zab (Zab (hQ _ _ ⟨_,_,⟨rfl,rfl⟩,?_,(H'.drop .head).toks _,tk'⟩)))
      rw[ho,hnil]
      exact .str _ _
     .rw[if_neg (by simp -iota [hv])]
      refine Zaa ?_
      refine Zad (Zjg (C:=C.wA C.A.in1) (J:=⟨loc,(lst,.list ((acc++ps).map .str))::(sel++rest)⟩) (x:=⟨#[]⟩) (K:=λa J'=>a = .str out/\J'=⟨loc,(lst,.list ((acc++ps).map .str))::(sel++rest)⟩) .head ⟨by rw[ho];rfl,rfl⟩ ?_ _ _ _ ((H'.toks _).wA _) (.bi _) (.cons (.str _ _) (.cons (.ref _) .nil))) ?_ λ_ _ e=>e
      .have:sz (acc++ps)=((acc++ps).map (·.length)).sum:=rfl
       show((acc++ps).map (·.length)).sum+(acc++ps).length * 0<=16777216
       clear e ih;lia
      .rintro v s'' ⟨a,J',⟨ea,es⟩,r,H'',tk''⟩
       subst es
       exact Zab (hQ _ _ ⟨_,_,⟨ea,rfl⟩,r,(H''.unA.drop .head),tk'.trans tk''⟩)
    have e':=Qv e
    split
    .rename_i hlt
     have hps:[cut x start x.length]=ps:=by
      rw[<- e',if_pos (show start<x.length from hlt)]
     refine Zaa (.of ?_)
     show wpAny _ _ (mkStr (cut x start x.length)) _ _ _
     refine wpAny_mkStr ?_ ?_
     .refine Zaa (push _ acc _ _ _ _ (by simp -iota at hl;clear e ih;lia) (H.toks _) λs' H' tk'=>?_)
      exact fin _ s' _ H' tk' (by rw[hps]) λv s'' h=>h
     .have:(cut x start x.length).length<=x.length:=by
       show(x.cps.extract _ _).size<=x.cps.size
       simp;clear e ih;lia
      clear e ih;lia
    .rename_i hlt
     have hps:([]:List Str)=ps:=by
      rw[<- e',if_neg (show ¬ start<x.length from hlt)]
     exact fin acc s _ H (.refl _) (by rw[<- hps];simp) λv s'' h=>h
   | some r=>
    obtain⟨b,e1,u,v⟩:=r
    obtain⟨m',rfl,hb,he,hlm,hu,hv,hn⟩:=hm
    exists (b e1 u v m'),e,hsr,hb,he,hlm,hu,hv,hn
    dsimp only at e ⊢
    cases hgo:Zjv code x h fuel e1 (e1==b) with
    | none=>rw[hgo] at e;cases e
    | some r=>
    rw[hgo] at e
    have e':=Qv e
    exists (b e1 u v m' r),hsr,hb,he,hlm,hu,hv,hn,e,hgo,e'
    have cutL:∀ i j,(cut x i j).length<=sizeLine:=λi j=>by
     have:(cut x i j).length<=x.length:=by
      show(x.cps.extract _ _).size<=x.cps.size
      simp;clear e ih;lia
     clear e ih;lia
    have rem:∀ (acc':List Str) (s':Shared) (Q:Fin->Shared->Prop),Holds C ⟨loc,(lst,.list (acc'.map .str))::(sel++rest)⟩ s'->TK s.heap s'.heap->acc'++h (cut x u v)::r=acc++ps ->
      (∀ c' s'',c'.quiet=true/\codeP (model C.G.prog C.G.w) C.A c' (λr s'=>match r with | .ok (.ret v)=>Pst C VR (λa J'=>a = .str out/\J'=⟨loc,sel++rest⟩) s v s' | .ok _=>False | .error e=>C.E e s') s''->Q (.again c') s'') ->
      wpP (model C.G.prog C.G.w) C.A.in1 (do
       let found <- reNewMatch (.ref p) (.str x t) 1 0 x.cps.size m'
       let item <- holding [found] (call (.ref f) [found])
       if (item != Value.none)=true then do
        updateSeq lst λz=>z.push item
        again (.builtin "re.Pattern.sub.loop" ⟨[.ref p,.str x t,.ref f,.int 1 0,.int 0 0,.int (k+1) 0,.int m'.handed 0,.int m'.handed 0,.bool (m'.handed==m'.start),.ref lst,.bool false],[]⟩)
       else again (.builtin "re.Pattern.sub.loop" ⟨[.ref p,.str x t,.ref f,.int 1 0,.int 0 0,.int (k+1) 0,.int m'.handed 0,.int m'.handed 0,.bool (m'.handed==m'.start),.ref lst,.bool false],[]⟩):Sem Fin) Q C.E s':=by
     intro acc' s' Q H' tk' ea hQ
     refine Zaa (.of (Zhc hb he hlm hu hv hn λh' eh=>?_))
     subst eh
     exists (acc' s' Q),H',tk',ea,hQ
     have H1:=H'.ext (h':=s'.heap.push (Zbk #[rawInt b,rawInt e1,rawInt u,rawInt v] 0)) Qa s'.toks
     have H2:=H1.alloc (h':=(s'.heap.push (Zbk #[rawInt b,rawInt e1,rawInt u,rawInt v] 0)).push { cls:=.type "re.Match",data:=.fields #[.str x t,.ref p,rawInt 0,rawInt x.cps.size,rawInt m'.lastindex,.ref s'.heap.objs.size] })
      (a:=(s'.heap.push (Zbk #[rawInt b,rawInt e1,rawInt u,rawInt v] 0)).objs.size) Qa (Qw _) (Qg _ rfl)
      (.own (x:=Zb5 x u v) ⟨t,_,_,_,_,_,_,_,0,rfl,Heap.get?_push_of_some _ (Qg _ rfl)⟩) s'.toks
     have tk2:TK s.heap ((s'.heap.push (Zbk #[rawInt b,rawInt e1,rawInt u,rawInt v] 0)).push { cls:=.type "re.Match",data:=.fields #[.str x t,.ref p,rawInt 0,rawInt x.cps.size,rawInt m'.lastindex,.ref s'.heap.objs.size] }):=
      tk'.trans (.of_ext λb o e=>Heap.get?_push_of_some _ (Heap.get?_push_of_some _ e))
     refine Zaa (Zae ?_)
     refine Zad (Zku (C:=C.wA C.A.in1) (sel:=((s'.heap.push (Zbk #[rawInt b,rawInt e1,rawInt u,rawInt v] 0)).objs.size,.own (Zb5 x u v))::sel) (rest:=(lst,.list (acc'.map .str))::rest)
      (J:=⟨loc,((s'.heap.push (Zbk #[rawInt b,rawInt e1,rawInt u,rawInt v] 0)).objs.size,.own (Zb5 x u v))::(lst,.list (acc'.map .str))::(sel++rest)⟩)
      (K:=λa J'=>a = .str (h (cut x u v))/\J'=⟨loc,((s'.heap.push (Zbk #[rawInt b,rawInt e1,rawInt u,rawInt v] 0)).objs.size,.own (Zb5 x u v))::sel++(lst,.list (acc'.map .str))::rest⟩)
      gA (F _ u v) (List.Perm.cons _ List.perm_middle.symm) (by rintro r o ⟨er,eo⟩;exact⟨er,by rw[eo]⟩) _ _ _ (H2.wA _) (.ref _) (.cons (.ref _) .nil)) ?_ λ_ _ e=>e
     rintro item s'' ⟨a,J',⟨ea',es⟩,ri,H3,tk3⟩
     subst es
     subst ea'
     have H4:Holds C ⟨loc,(lst,.list (acc'.map .str))::(sel++rest)⟩ s'':=(H3.unA.drop .head).permO List.perm_middle
     refine VR.strK ri λtk5 e0=>?_
     subst e0
     rw[if_pos (by rfl)]
     have hlen:acc'.length<=1000:=by
      have:=congrArg List.length ea
      simp -iota only[List.length_append,List.length_cons] at this hl
      clear e ih;lia
     refine Zaa (push _ acc' _ _ _ _ hlen H4 λs3 H5 tk6=>?_)
     refine Zab (hQ _ _ ⟨Code.quiet_builtin _ (by decide +kernel),?_⟩)
     have e3:acc'++[h (cut x u v)]++r=acc++ps:=by rw[<- ea];simp
     rw[he,hb]
     refine Zal (ih e1 (e1==b) (acc'++[h (cut x u v)]) r (k+1) s3 hgo (by rw[e3];exact hl) (by rw[e3];exact hs) (by rw[e3];exact ho) H5) λr' s4 hr=>?_
     induction r' with
     | ok fl=>
      induction fl with
      | ret v=>exact Pst.tk (tk2.trans (tk3.trans tk6)) hr
      | next=>exact hr
      | brk=>exact hr
      | cont=>exact hr
     | error e=>exact hr
    rw[hb]
    split
    .rename_i hlt
     refine Zaa (.of ?_)
     show wpAny _ _ (mkStr (cut x start b)) _ _ _
     refine wpAny_mkStr ?_ (cutL _ _)
     refine Zaa (push _ acc _ _ _ _ (by simp -iota at hl;clear e ih;lia) (H.toks _) λs' H' tk'=>?_)
     rw[if_pos hlt] at e'
     rw[<- hb]
     exact rem _ s' _ H' tk' (by rw[<- e'];simp) λc' s'' h=>h
    .rename_i hlt
     rw[if_neg hlt] at e'
     rw[<- hb]
     exact rem acc s _ H (.refl _) (by rw[<- e'];simp) λc' s'' h=>h
end
section
open Builtin Builtin.Re
theorem Zvf:∃ r,typeLookup (.type "function") "__call__" = pure (some r):=⟨.builtin "function.__call__",by rw[Qn,Qm];kernel_rfl⟩
theorem Zl7:isSubtype (.type "str") (.type "bytearray")=pure false:=by rw[isSubtype_type];kernel_rfl
theorem Zqc (a b:Value):reNamed "re.Pattern.sub" "sub" ["repl", "string", "count"] 2 [a,b] []=pure [some a,some b,none]:=by kernel_rfl
set_option tactic.hygienic true in
theorem Zz1{n:Nat}(g:Good C.A (n+2)){p f:Addr}{code:Array Nat}(hP:Zr4 C.G.K p code){x:Str}{h:Str->Str}{mk:Value->FuncData}{sel rest:Wg}{ps:List Str}{K:Wk}
  (hs:J.obs.Perm (sel++rest)) (hf:(f,AO.own (Zzg mk))∈sel)
  (F:∀ m b e,Fn C.G (.ref f) n [.ref m] ((m,.own (Zb5 x b e))::sel) (λv o=>v = .str (h (cut x b e))/\o=(m,.own (Zb5 x b e))::sel))
  (hgo:Zjv code x h 100 0 false=some ps) (hx:x.length<=sizeLine) (hl:ps.length<=1000) (hz:sz ps<=100000) (k:K (.str (cat ps)) ⟨J.loc,sel++rest⟩) :
  CF C (.bi "re.Pattern.sub") [.ref p,.ref f,.str x] J K:=by
 exists (C J n p f code x h mk sel rest ps K),g,hP,hs,hf,F,hgo,hx,hl,hz,k
 intro s fv vs H rf rl
 obtain⟨loc,obs⟩:=J
 o_facts rf
 exists (s vs loc obs),rl,hs,k,H,rf
 revert rl
 intro rl0
 refine VRs.consK rl0 λ_ _ r rl e0=>?_
 subst e0
 revert rl
 intro rl0
 refine VRs.consK rl0 λ_ _ r2 rl e0=>?_
 subst e0
 revert rl
 intro rl0
 refine VRs.consK rl0 λ_ _ r3 rl e0=>?_
 subst e0
 o_facts rl
 o_facts r;o_facts r2
 rename_i xv
 refine VR.strK r3 λt e0=>?_
 subst e0
 have H0:=H.permO hs
 obtain⟨pv0,pv1,pv3,pv4,pt2,pt6,ct,po,cs,pn,e1,_⟩:=hP.ex
 have ep:=H.inK _ _ e1
 refine Zaj (H0.obs (f,.own (Zzg mk)) (Ql _ hf)) λOf ef rof=>?_
 have q:=OR.ownE rof
 obtain⟨cv,q⟩:=q
 subst q
 obtain⟨fc,hfc⟩:=Zvf
 rename_i xq1 xq2
 exists (s loc obs t pv0 pv1 pv3 pv4 pt2 pt6 ct po cs pn cv fc),hs,k,H,rf,rl,r,r2,r3,xq1,xv,rl0,H0,e1,xq2,ep,ef,rof,hfc
 refine Za6 (Zbh Zo1 Zpu rfl (.of (slot_sub.check _ _ _ _ _ _ _ _ ⟨_,ep,rfl⟩ (Zs3 _ _ _) ?_)))
 unfold Builtin.«re.Pattern.sub» reSubstitute
 dsimp only
 rw[Zqc]
 refine Zaa (Zab ?_)
 dsimp only
 refine Zaa (Zab ?_)
 refine Zaa (.of (wpAny_specialOf (T := "function") ⟨_,ef,rfl⟩ hfc ?_))
 simp -iota only[Option.isSome_some,if_true]
 refine Zaa (Zab ?_)
 refine Zaa (Zab ?_)
 dsimp only
 refine Zaa (Zae (.of (Zhy hP H.inK ?_)))
 rw[if_pos (by decide)]
 refine Zaa (.of ?_)
 unfold reNotHeld
 refine Qh (wpAny_isInstance (typeIs_str s x t) Zl7 ?_)
 rw[if_neg (by decide)]
 refine Qi ?_
 refine Zaa (.of (wpAny_newList ?_ (by simp)))
 refine Zab ⟨Code.quiet_builtin _ (by decide +kernel),?_⟩
 have H1:=H0.alloc (h':=s.heap.push (listOf #[] 0)) (a:=s.heap.objs.size) (o:=.list []) Qa (Qw _) (Qg _ rfl) (.list (vs:=[]) 0 .nil) s.toks
 refine Zal (Zwb (g.less (by simp)) hP F hx (cat ps) 100 0 false [] ps 0 _ hgo (by simpa using hl) (by simpa using hz) rfl H1) λr' s4 hr=>?_
 exists (r' s4),hr
 have tk:TK s.heap (s.heap.push (listOf #[] 0)):=.of_ext Qa
 induction r' with
 | ok fl=>
  induction fl with
  | ret v=>
   obtain⟨a,J',⟨ea,es⟩,r,H',t'⟩:=hr
   subst ea;subst es
   exact⟨_,_,k,r,H',tk.trans t'⟩
  | next=>exact hr
  | brk=>exact hr
  | cont=>exact hr
 | error e=>exact hr
end
section
open Builtin Builtin.Str
section
variable {prog:Program}{w:World}{A:Around}{E:Wh}{s:Shared}{env:Env}
theorem Zic{z:Str}(hn:1<=n\/(occurrences x y 0 x.length (x.length+1)).isEmpty=true)(hyz:(y==z)=false)(hx:x.length<=1048576)(hz:z.length<=14)
  (hs:s.toks=n+2) (h:∀ t' k,n+2<=k->Q (.str (Txt.replace x y z) t') { s with toks:=k }):wpAny (model prog w) A (call (.builtin "str.replace") [.str x t,.str y n,.str z (n+1)]) Q E s:=by
 exists (x n Q t y prog w A E s z),hn,hyz,hx,hz,hs,h
 refine wpAny_with_toks (n:=n+2) (by lia) ?_
 by_cases h1:1<=n
 .exact SC.replaceW (show(n:Nat)≠0 by lia) (show(n+1:Nat)≠0 by simp) (show(n:Nat)≠n+1 by simp) hyz hx hz λt' k hk=>h t' k hk
 .have ho:=hn.resolve_left h1
  refine call_gives F.slot_str_replace (typeIs_str _ _ _) F.entry_str_replace (F.args_str_replace_3 _ _ _) (gives_str_replace x y z t n (n+1) λhc=>?_) ?_
  .rw[ho] at hc;cases hc
  .have e:Txt.replace x y z=x:=by unfold Txt.replace;rw[ho];rfl
   rw[ho]
   rw[e] at h
   intro hk
   exact h t s.toks (by k_units)
theorem Zlk {o:Expr} {apos pos p1 p2:Pos} {c1 c2:Str} {k1 k2:Nat} {Q:Wh} (hbase:attributeBase o "replace" env (eval o env)=eval o env) (hline:(apos.endLine==pos.line)=true)
  (hyz:(c1==c2)=false) (hz:c2.length<=14)
  (h:wpAny (model prog w) A (eval o env) (λov s_1=>∃ x t,ov = .str x t/\(1<=s_1.toks\/(occurrences x c1 0 x.length (x.length+1)).isEmpty=true)/\x.length<=1048576/\∀ t' k,s_1.toks+2<=k->Q (.str (Txt.replace x c1 c2) t') { s_1 with toks:=k }) E s) :
  wpAny (model prog w) A (eval (.Call (.Attribute o "replace" apos) [.Constant (.str c1) k1 p1,.Constant (.str c2) k2 p2] [] pos) env) Q E s:=by
 exists (prog w A E s env o apos pos p1 p2 c1 c2 k1 k2 Q),hbase,hline,hyz,hz,h
 refine wpAny_Call_method_lateS hbase rfl hline (wpAny_mono h ?_ λY Y e=>e)
 rintro ov s_1 ⟨x,t,e,hn,hx,k⟩
 subst e
 refine⟨"str", "str.replace",F.plainAttrs_str,F.slot_str_replace,F.type_str_replace,typeIs_str _ _ _,(λY e=>nomatch e),?_⟩
 refine callWith_method1 (args_cons (wpAny_Constant_str (args_cons (wpAny_Constant_str (args_nil ?_)))))
 exact Zic hn hyz hx hz rfl λt' k' hk=>k t' k' hk
end
theorem Zly{x c1 c2:Str}{k1 k2:Nat}{p1 p2 pos:Pos}{env:Env}{K:Wk}(hyz:(c1==c2)=false)(hz:c2.length<=14)(hx:x.length<=1048576)(k:K (.str (Txt.replace x c1 c2)) J) :
  CA C (.bi "str.replace") [.str x] [.Constant (.str c1) k1 p1,.Constant (.str c2) k2 p2] pos env J K:=by
 exists (C J x c1 c2 k1 k2 p1 p2 pos env K),hyz,hz,hx,k
 intro s fv fs H rf rfs
 o_facts rf
 revert rfs
 intro rfs0
 refine VRs.consK rfs0 λY Y r rfs e0=>?_
 subst e0
 cases rfs
 refine VR.strK r λt e0=>?_
 subst e0
 refine Zxe λht=>.of (callWith_method1 (args_cons (wpAny_Constant_str (args_cons (wpAny_Constant_str (args_nil ?_))))))
 exact Zic (.inl ht) hyz hx hz rfl λt' k' hk=>Pst.hereT H (.str _ _) k
end
section
open Builtin Builtin.Str
theorem Holds.codeNew{P:Addr}{l:List (PK×Addr)}(H0:Holds C ⟨loc,Zfr P q l++rest⟩ s){p:PK}{c':Addr}{tk:Tok}{qn:Str}
  (hx:Heap.ExtBut P s.heap h') (hge:s.heap.objs.size<=c') (hrec:h'.CodeRec (.ref c') qn) (hq:q p=qn) (htb:h'.get? P=some (tabObj (Zg5 l++#[rawInt p.1,rawInt p.2,.ref c']))) :
  Holds C ⟨loc,Zfr P q (l++[(p,c')])++rest⟩ { s with heap:=h',toks:=tk }/\TK s.heap h':=by
 exists (C s rest loc h' q P l p c' tk qn),H0,hx,hge,hrec,hq,htb
 refine Zaj (H0.obs (P,.own (Zbg l)) (Ql _ (.head _))) λop hp rp=>?_
 have hzP:C.fz P=none:=H0.ap P (.tail _ (Qe ⟨_,Ql _ (.head _),rfl⟩))
 obtain⟨c_2,oc,vs,t,e2,hoc,hd,hv⟩:=hrec
 cases e2
 have htb':h'.get? P=some (tabObj (Zg5 (l++[(p,c')]))):=by rw[<- Zhp];exact htb
 refine And.elim (λH1 tk1=>?_) (H0.dropExt (a:=P) (o:=.own (Zbg l)) (l':=(l.map λe=>(e.2,AO.own (Zes (q e.1))))++rest) .head (h':=h') hx tk)
 have lt:∀ p∈Zfr P q l++rest,p.1<s.heap.objs.size:=λp hp=>H0.ltOf hp
 have ndP:P ∉ ((l.map λe=>(e.2,AO.own (Zes (q e.1))))++rest).map (·.1):=(Qc (Qc H0.nd).2).1
 have hlP:C.env.locals≠P:=λe=>(Qc H0.nd).1 (e ▸ .head _)
 have hlc:C.env.locals≠c':=λe=>by have:=H0.locLt;rw[e] at this;exact absurd this (Nat.not_lt.mpr hge)
 have hzc:C.fz c'=none:=by
  cases z:C.fz c' with
  | none=>rfl
  | some o=>exact absurd (H0.fzLt z) (Nat.not_lt.mpr hge)
 have H2:=H1.adj (a:=c') (o:=.own (Zes (q p))) hoc (.own ⟨vs,t,hd,by rw[hq];exact hv⟩) hlc (λp hp e=>absurd (lt p (.tail _ hp)) (by rw[e];exact Nat.not_lt.mpr hge)) hzc
 have H3:=H2.adj (a:=P) (o:=.own (Zbg (l++[(p,c')]))) htb' (.own rfl) hlP (λp' hp' e=>by
  rcases Qb hp' with q|q
  .subst q
   have e':c'=P:=e
   have:=Qz hp
   rw[<- e'] at this
   exact absurd this (Nat.not_lt.mpr hge)
  .exact ndP (e▸Qe ⟨p',q,rfl⟩)) hzP
 refine⟨H3.permO ?_,tk1⟩
 rw[Ziw]
 simp only[List.cons_append,Qs,List.nil_append]
 exact List.Perm.cons _ (List.perm_middle.symm)
set_option tactic.hygienic true in
theorem Zme{elt:Expr}{v y:Str}{px pc pos gpos:Pos}{scope:Scope}{c P bm ca:Addr}{q:PK->Str}{l:List (PK×Addr)}{rest:Wg}{x sep out:Str}{K:Wk}
  (hh:C.A.handled=none) (hroom:C.A.depth<recursionLimit) (hco:scope.isCoroutine=false) (hclos:closureFor scope C.env=pure []) (hcell:∀ y∈scope.names,y.2 ≠ .cell) (h0:scope.names.lookup (".0" : Str)=some NameKind.local)
  (hx:scope.names.lookup v=some .local) (hkind:scope.kind = .function) (hs:∀ x,genFold (.Name y pc) C.env x=pure x)
  (hyk:C.env.scope.kind = .function) (hyl:C.env.kindOf y=some .local) (hyd:(y==("__debug__" : Str))=false) (hy:Lk y (.ref ca) J.loc) (hca:(ca,AO.list [.str x])∈rest)
  (hcode:C.env.code = .ref c) (hK:codeHdIn C.G.K c P=true) (B:Bt C.G bm) (hq:q (gpos.line,gpos.col)=C.env.qual ++ "<genexpr>") (hS:J.obs.Perm (Zfr P q l++rest))
  (hf:∀ (A':Around) E' (t:Tok) (s_2:Shared) (env':Env) m_2,env'.scope=scope->s_2.heap.Ns env'.locals m_2->m_2 v=some (.str x t)->wpAny (model C.G.prog C.G.w) A' (eval elt env') (λr s_3=>(∃ t',r = .str out t')/\Keeps s_2 s_3) E' s_2)
  (hz:out.length+sep.length<=1000000) (k:∀ l',K (.str out) ⟨J.loc,Zfr P q l'++rest⟩) :
  CA C (.bi "str.join") [.str sep] [.GeneratorExp elt [⟨.Name v px,.Name y pc,[],0⟩] scope gpos] pos C.env J K:=by
 exists (C J elt v y px pc pos gpos scope c P bm ca q l rest x sep out K),hh,hroom,hco,hclos,hcell,h0,hx,hkind,hs,hyk,hyl,hyd,hy,hca,hcode,hK,B,hq,hS,hf,hz,k
 intro s fv fs H rf rfs
 obtain⟨loc,obs⟩:=J
 exists (s fv fs loc obs),rf,rfs,hy,hS,k,H
 o_facts rf
 revert rfs
 intro rfs0
 refine VRs.consK rfs0 λ_ _ r rfs e0=>?_
 subst e0
 cases rfs
 refine VR.strK r λtsep e0=>?_
 rename_i zq60_1
 exists (zq60_1 tsep),r,rfs0,e0
 subst e0
 have H0:=H.permO hS
 refine .of (callWith_method1 (args_cons ?_))
 refine wpAny_GeneratorExp_make hco hclos hcell h0 hkind hroom ?_ hs
 refine Zaj (H0.loc) λm hn hm=>?_
 obtain⟨val,e,r⟩:=hm y _ hy.mem
 o_facts r
 rw[eval_Name C.env y pc hyd]
 refine Qh (wpAny_standAt (wpAny_loadName_local hyk hyl hn e ?_))
 refine Zaj (H0.obs _ (Qk _ hca)) λOc ec rc=>?_
 have hcaL:∃ tx,s.heap.IsList ca #[.str x tx]:=by
  refine OR.listK rc λ_ n r e0=>?_
  subst e0
  refine VRs.consK r λ_ _ r1 r2 e0=>?_
  subst e0
  o_facts r2
  refine VR.strK r1 λtx e0=>?_
  subst e0
  exact⟨tx,_,ec,rfl,n,rfl⟩
 obtain⟨tx,hL⟩:=hcaL
 have hlim0:s.heap.NoLimit:=(C.ok.top _ H.frz).2.2
 refine wpAny_pyIter_list hL ⟨hlim0.push _,?_⟩
 have H2:=H0.alloc (h':=s.heap.push { cls:=.type "list_iterator",data:=.fields #[.ref ca,.int 0 0] }) (a:=s.heap.objs.size) (o:=.liter ca 0) Qa (Qw _) (Qg _ rfl) (.liter rfl rfl) s.toks
 have tk2:TK s.heap (s.heap.push { cls:=.type "list_iterator",data:=.fields #[.ref ca,.int 0 0] }):=.of_ext Qa
 generalize hs2:({ s with heap:=s.heap.push { cls:=.type "list_iterator",data:=.fields #[.ref ca,.int 0 0] } }:Shared)=s_2
 have H2':Holds C ⟨loc,Zfr P q l++((s.heap.objs.size,.liter ca 0)::rest)⟩ s_2:=by
  rw[<- hs2]
  exact H2.permO List.perm_middle.symm
 have tk2':TK s.heap s_2.heap:=by rw[<- hs2];exact tk2
 have hlt2:s.heap.objs.size<s_2.heap.objs.size:=by rw[<- hs2,Heap.size_push];simp
 clear hs2 H2 tk2
 refine Zaj (H2'.obs (P,.own (Zbg l)) (Ql _ (.head _))) λop hp rp=>?_
 exists (m Oc tx s_2 op),hn,hm,e,ec,rc,hL,H2',tk2',hlt2,hp,rp
 have hpd:op=tabObj (Zg5 l):=OR.ownE rp
 subst hpd
 have hzP:C.fz P=none:=H2'.ap P (.tail _ (Qe ⟨_,Ql _ (.head _),rfl⟩))
 have hC:CodeHd s_2.heap c P:=codeHd_of_K H2'.inK hK
 -- from the code on
 have cont:∀ (code:Value) (s_3:Shared) (l':List (PK×Addr)),Holds C ⟨loc,Zfr P q l'++((s.heap.objs.size,.liter ca 0)::rest)⟩ s_3->TK s.heap s_3.heap->s_3.gens=s_2.gens->(s.heap.objs.size<s_3.heap.objs.size) ->
   wpAny (model C.G.prog C.G.w) C.A (builtinsFor C.env.globals C.env.builtins) (λbi s_4=>∀ h',h'.Ns s_4.heap.objs.size (λy=>if y = ".0" then some (.ref s.heap.objs.size) else none)->Heap.SameBut s_4.heap.objs.size (s_4.heap.push { cls:=.type "frame",data:=.dict #[] }) h' ->
    wpAny (model C.G.prog C.G.w) C.A (spliced (backTo pos (starEach [] C.env))) (λvs s5=>wpAny (model C.G.prog C.G.w) C.A (call (.builtin "str.join") ([.str sep tsep]++(.ref h'.objs.size::vs))) (Pst C VR K s) C.E s5) C.E
     { s_4 with
      gens:=s_4.gens.push (.fresh (.compStart (.GeneratorExp elt [⟨.Name v px,.Name y pc,[],0⟩] scope gpos) 0 (.ref s.heap.objs.size) .none (genEnv scope [] s_4.heap.objs.size code bi C.env))),
      toks:=s_4.toks+1+1+1,
      heap:=h'.push { cls:=.type "generator",data:=.fields #[.int s_4.gens.size 0,.str "<genexpr>" (s_4.toks+1),.str (C.env.qual ++ "<genexpr>") (s_4.toks+1+1)] } }) C.E s_3:=by
  intro code s_3 l' H3 tk3 hg3 hsz3
  exists (code s_3 l'),H3,tk3,hg3,hsz3
  have hbm:=H3.frz _ _ (C.ok.sub _ _ B.o)
  refine wpAny_builtinsFor (C.glo H3) B.m B.ne hbm rfl rfl rfl ?_
  intro h' hn' hs'
  exists (h'),hn',hs'
  refine args_nil ?_
  have hI3:=H3.obs (s.heap.objs.size,.liter ca 0) (Qk _ (.head _))
  have hc3:=H3.obs (ca,.list [.str x]) (Qk _ (.tail _ hca))
  obtain⟨OI,eI,rI⟩:=hI3
  obtain⟨OL,eL,rL⟩:=hc3
  have hIt:s_3.heap.IsListIter s.heap.objs.size ca 0:=⟨OI,eI,rI.1,rI.2⟩
  have hLt:∃ tx,s_3.heap.IsList ca #[.str x tx]:=by
   refine OR.listK rL λ_ n r e0=>?_
   subst e0
   refine VRs.consK r λ_ _ r1 r2 e0=>?_
   subst e0
   o_facts r2
   refine VR.strK r1 λtx e0=>?_
   subst e0
   exact⟨tx,_,eL,rfl,n,rfl⟩
  obtain⟨tx,hL3⟩:=hLt
  have hlim3:s_3.heap.NoLimit:=(C.ok.top _ H3.frz).2.2
  have hcs0:cStatics<s.heap.objs.size:=(by obtain⟨_,hn,_⟩:=hlim0;exact hn.lt)
  have hcaI:ca≠s.heap.objs.size:=Nat.ne_of_lt (Qz ec)
  have hcaC:ca<s_3.heap.objs.size:=Qz eL
  have hsz:h'.objs.size=s_3.heap.objs.size+1:=by rw[hs'.1,Heap.size_push]
  have keep':∀ b o,s_3.heap.get? b=some o->h'.get? b=some o:=λb o e=>hs'.extBut b o (Nat.ne_of_lt (Qz e)) (Heap.get?_push_of_some _ e)
  have keep5:∀ b o,s_3.heap.get? b=some o->(h'.push { cls:=.type "generator",data:=.fields #[.int s_3.gens.size 0,.str "<genexpr>" (s_3.toks+1),.str (C.env.qual ++ "<genexpr>") (s_3.toks+1+1)] }).get? b=some o:=
   λb o e=>Heap.get?_push_of_some _ (keep' b o e)
  have haC:h'.objs.size≠s_3.heap.objs.size:=by rw[hsz];exact Nat.succ_ne_self _
  have haf:h'.objs.size ∉ List.range s_3.heap.objs.size:=λhm=>by have:=List.mem_range.mp hm;lia
  have W:=WalksS.genexpQ (prog:=C.G.prog) (w:=C.G.w) (A:=C.A.in1.in1) hh h'.objs.size s_3.gens.size s_3.heap.objs.size (List.range s_3.heap.objs.size) [s.heap.objs.size] (λ_=>true) 1 (λ_ r=>∃ t',r=Value.str out t') haC haf
   (λb hb=>by rw[List.mem_singleton] at hb;subst hb;exact List.mem_range.mpr hsz3) hroom (List.mem_range.mpr (Nat.lt_trans hcs0 hsz3)) (Nat.ne_of_lt (Nat.lt_trans hcs0 hsz3)) (λhb=>by rw[List.mem_singleton] at hb;exact absurd hb (Nat.ne_of_lt hcs0))
  have G:=GenAt.fresh (prog:=C.G.prog) (w:=C.G.w) (A:=C.A.in1.in1) (elt:=elt) (iter:=.Name y pc) (x:=v) (px:=px) (ifs:=[]) (scope:=scope) (pos:=gpos) (a:=h'.objs.size) (g:=s_3.gens.size) (fp:=List.range s_3.heap.objs.size) (wr:=[s.heap.objs.size])
   (cenv:=genEnv scope [] s_3.heap.objs.size code builtinsNs C.env) (m:=λy=>if y = ".0" then some (.ref s.heap.objs.size) else none)
   (s:={ s_3 with
      gens:=s_3.gens.push (.fresh (.compStart (.GeneratorExp elt [⟨.Name v px,.Name y pc,[],0⟩] scope gpos) 0 (.ref s.heap.objs.size) .none (genEnv scope [] s_3.heap.objs.size code builtinsNs C.env))),
      toks:=s_3.toks+1+1+1,
      heap:=h'.push { cls:=.type "generator",data:=.fields #[.int s_3.gens.size 0,.str "<genexpr>" (s_3.toks+1),.str (C.env.qual ++ "<genexpr>") (s_3.toks+1+1)] } }) hh
   (λA' hA=>(Walks.list hA s.heap.objs.size ca hcaI #[.str x tx]).mono_fp λb hb=>by
    rcases Qb hb with e|hb
    .subst e;exact List.mem_range.mpr hsz3
    .rw[List.mem_singleton] at hb;subst hb;exact List.mem_range.mpr hcaC)
   (λ_=>true) (λ_ r=>∃ t',r=Value.str out t') hx (by simp[genEnv,hkind]) hco (λhm=>Nat.lt_irrefl _ (List.mem_range.mp hm))
   ⟨λA' E' i v' s_2 m_2 _ _ _ _ _=>Qi ⟨rfl,s_2.heap,s_2.toks,rfl,λ_ _ e=>e⟩,λA' E' i v' s_2 m_2 _ hP _ hN hm _=>by
    have hv:v' = .str x tx:=by
     have hP':(#[Value.str x tx]:Array Value)[i]?=some v':=hP
     match i,hP' with
     | 0,h=>simpa using h.symm
     | i+1,h=>simp at h
    subst hv
    exact hf A' E' tx s_2 _ m_2 rfl hN hm⟩
   ⟨_,_,_,Qg _ rfl,rfl,rfl,rfl⟩ (Array.getElem?_push_size ..) ⟨hIt.at λo e=>keep5 _ o e,hL3.at λo e=>keep5 _ o e⟩ (hn'.push _) (hlim3.keeps keep5)
  refine SC.joinGen W (λi s' st=>st.1.typeIs) G (λb hb=>?_) (by simp) (λi v hv=>(by obtain⟨_,_,t',e⟩:=hv;exact⟨out,t',e⟩)) (λs' lt hm hacc=>?_) (by show 1<=sizeLine;decide)
  .show b<(h'.push _).objs.size
   rw[Heap.size_push]
   rcases Qb hb with e|hb
   .rw[e];exact Nat.lt_succ_self _
   .rcases Qb hb with e|hb
    .rw[e,hsz];exact Nat.lt_succ_of_lt (Nat.lt_succ_self _)
    .rw[hsz];exact Nat.lt_succ_of_lt (Nat.lt_succ_of_lt (List.mem_range.mp hb))
  .have hl:lt.map (·.1)=[out]:=by
    have h1:lt.length=1:=by simpa [strValues,passing] using hacc.1
    match lt,h1 with
    | [p],_=>
     obtain⟨_,_,t',e⟩:=hacc.2 0 (.str p.1 p.2) (by simp[strValues])
     injection e with e1 _
     simp[e1]
   rw[hl]
   refine⟨?_,λt' n=>?_⟩
   .unfold JoinOk
    have:(tooLong (0+out.length+sep.length))=false:=by
     unfold tooLong sizeLine
     exact decide_eq_false (by have e:(2:Nat) ^ 24=16777216:=(by decide);lia)
    simpa using this
   .have he:Txt.join sep [out]=out:=by rfl
    rw[he]
    have hext:Heap.ExtBut s.heap.objs.size s_3.heap s'.heap:=λb o hb e=>hm.heap b o (λhmem=>by
     rcases Qb hmem with q|q
     .exact absurd (Qz e) (by rw[q];exact Nat.lt_irrefl _)
     .rw[List.mem_singleton] at q;exact hb q) (keep5 b o e)
    have H3':Holds C ⟨loc,(s.heap.objs.size,.liter ca 0)::(Zfr P q l'++rest)⟩ s_3:=H3.permO List.perm_middle
    refine And.elim (λH4 tk4=>?_) (H3'.dropExt .head hext n)
    refine⟨.str out,_,k l',.str _ _,⟨H4.frz,H4.loc,H4.obs,H4.nd,H4.ap,H4.nn,H4.gens.trans ?_,hm.drawn.trans H4.drawn,hm.os.trans H4.os⟩,tk3.trans tk4⟩
    have hg:GenOnly s_3.gens.size (s_3.gens.push (.fresh (.compStart (.GeneratorExp elt [⟨.Name v px,.Name y pc,[],0⟩] scope gpos) 0 (.ref s.heap.objs.size) .none (genEnv scope [] s_3.heap.objs.size code builtinsNs C.env)))) s'.gens:=by
     rcases hm.gens with e|x
     .rw[e];exact⟨rfl,λ_ _=>rfl⟩
     .exact x.1
    refine⟨?_,λi hi=>?_,λhab=>AllBare.moved (hab.push rfl) hm.gens⟩
    .show s_3.gens.size<=s'.gens.size
     rw[hg.1];simp
    .show s'.gens[i]?=s_3.gens[i]?
     rw[hg.2 i (Nat.ne_of_lt hi)]
     exact Array.getElem?_push_lt hi |>.trans (Array.getElem?_eq_getElem hi).symm
 cases hfd:Zdp (gpos.line,gpos.col) l with
 | some c'=>exact wpAny_genexprCode_hit hcode (hC.code hp (Zeg l)) (by rw[Zbr,hfd];rfl) (cont _ s_2 l H2' tk2' rfl hlt2)
 | none=>
  refine wpAny_genexprCodeX hcode (hC.code hp (Zeg l)) (hC.tab hp) (by rw[Zbr,hfd];rfl) λc' h' tk hx hge hlt _ hrec htb _=>?_
  obtain⟨H3,tk3⟩:=H2'.codeNew (p:=(gpos.line,gpos.col)) (tk:=tk) hx hge hrec hq htb.2
  exact cont _ _ _ H3 (tk2'.trans tk3) rfl (Nat.lt_trans (Nat.lt_of_lt_of_le hlt2 hge) hlt)
end
section
open Builtin Builtin.Str
noncomputable def Zn8(x y:Str)(i j:Int):Int:=match occurrences x y (fromIndex x.length i) (min (fromIndex x.length j) x.length) 1 with|k::_=>(k:Int)|[]=>-1
theorem Zjz(x y:Str)(i j:Int)(t u v v2:Tok):Gives («str.find» ⟨[.str x t,.str y u,.int i v,.int j v2],[]⟩) (.int (Zn8 x y i j)):=by
 show Gives (match occurrences x y (fromIndex x.length i) (min (fromIndex x.length j) x.length) 1 with|k::_=>retInt k|[]=>(do rule "str.find.not-found";retInt (-1))) _
 unfold Zn8
 cases occurrences x y (fromIndex x.length i) (min (fromIndex x.length j) x.length) 1 with
 | nil=>exact .rule (.of_eq rfl)
 | cons k _=>exact .of_eq rfl
theorem Zs9 {i j:Int} (h:K (.int (Zn8 x y i j)) J):CF C (.bi "str.find") [.str x,.str y,.int i,.int j] J K:=by
 exists (C J K x y i j),h
 intro s fv vs H rf rl
 exists (s fv vs),H,rf,rl
 o_facts rf
 revert rl
 intro rl0
 refine VRs.consK rl0 λY Y r rl e0=>?_
 subst e0
 revert rl
 intro rl0
 refine VRs.consK rl0 λY Y r2 rl e0=>?_
 subst e0
 revert rl
 intro rl0
 refine VRs.consK rl0 λY Y r3 rl e0=>?_
 subst e0
 revert rl
 intro rl0
 refine VRs.consK rl0 λY Y r4 rl e0=>?_
 subst e0
 o_facts rl
 o_facts r;o_facts r2;o_facts r3;o_facts r4
 exact .of (call_gives F.slot_str_find (typeIs_str _ _ _) F.entry_str_find (F.args_str_find_4 _ _ _ _) (Zjz x y i j _ _ _ _) (Pst.hereT H (.int _ _) h))
set_option tactic.hygienic true in
theorem Zgg{ys:List Str}(k:K (.bool (ys.any (·==x))) J):OP2 C VR (compareOp .In) (.str x) (.tup (ys.map V.str)) J K:=λs v u H r1 r2=>by
 o_facts r1
 refine VR.tupK r2 λ_ _ _ e r e0=>?_
 subst e0
 rename_i vs n
 exact .of (in_tuple_strs (items:=vs.toArray) ⟨_,e,rfl,n,rfl⟩ r.strs (Pst.here H (.bool _) k))
theorem Zmx(x y:Str)(hy:0<y.length)(a:Nat)(ha:a<=x.length):Zn8 x y a a=-1:=by
 unfold Zn8
 have h1:fromIndex x.length (a:Int)=a:=by unfold fromIndex;rw[if_neg (by simp)];simp
 rw[h1,Nat.min_eq_left ha,StrLaws.occ_eq]
 have h2:a+1-a=1:=by simp
 rw[h2]
 have h3:¬ (a+y.length<=a):=by lia
 simp[List.range',StrLaws.occBody,h3]
theorem Zwo{l t:List Nat}(h:x.cps.toList.drop i=l++t)(hi:i<=x.length):Zdx x (some i) (some ((i+l.length:Nat):Int))=⟨l.toArray⟩:=by
 have hl:x.length=i+l.length+t.length:=by
  have:=congrArg List.length h
  have e:x.cps.toList.length=x.length:=by simp[Str.length]
  simp at this
  simp[Str.length] at *
  lia
 have e:x.cps.toList.length=x.length:=by simp[Str.length]
 unfold Zdx
 rw[Zwf _ _ _ (e▸hi) (e▸hl▸Nat.le_add_right _ _),h,Nat.add_sub_cancel_left,List.take_left]
theorem Zdb{c:Nat}{t:List Nat}(h:x.cps.toList.drop i=c::t):(seqIndex? (i:Int) x.length).bind (x.cps[·]?)=some c/\x.cps.toList.drop (i+1)=t/\i<x.length:=by
 have e:x.cps.toList.length=x.length:=by simp[Str.length]
 have hi:i<x.length:=by
  have:=congrArg List.length h
  simp at this
  simp[Str.length]
  omega
 refine⟨?_,?_,hi⟩
 .have h1:x.cps[i]?=some c:=by
   have:(x.cps.toList.drop i)[0]?=some c:=by rw[h];rfl
   rw[List.getElem?_drop] at this
   simpa using this
  have hn:¬ ((i:Int)<0):=by simp
  simp[seqIndex?,hn,hi,h1]
 .rw[<- List.drop_drop,h];rfl
end
section
open Builtin
theorem Zfu:mroOf (.type "object")=pure [.type "object"]:=by rw[mroOf_type];kernel_rfl
theorem Zdd:typeLookup (.type "object") "__new__" = pure (some (.builtin "object.__new__")):=by rw[Qn,Qm];kernel_rfl
theorem Zd0:Slot "object" "__init__" "object.__init__" :=
 .of (owner := "object") (n := "__init__") (by rw[Qn,Qm];kernel_rfl) (by decide +kernel) (by decide +kernel) (by decide +kernel)
  (by first|exact .inl (by decide +kernel)|exact .inr (by decide +kernel)) (by rw[isSubtype_type];kernel_rfl)
theorem called_object:TypeCalled "object" "object.__new__" "object.__init__" :=
 ⟨by decide +kernel,by decide +kernel,⟨_,_,Zfu⟩,madeBy_type Zfu Zdd (by decide +kernel),by decide +kernel,by rw[isSubtype_type];kernel_rfl,Zd0⟩
theorem Ze0:checkTypeCall "object" ⟨[],[]⟩=pure ():=by kernel_rfl
theorem Zfc:checkBuiltinCall "object.__new__" ⟨[.type "object"],[]⟩=pure ():=by kernel_rfl
theorem Zjw:Bind.madeHere "object.__new__" (.type "object")=pure ():=by
 unfold Bind.madeHere
 have h1:Bind.staticBase (.type "object")=pure (.type "object"):=by kernel_rfl
 rw[h1]
 show(do if (<- Bind.madeBy (.type "object")).map Manifest.canonical != some (Manifest.canonical "object.__new__") then unsupported _)=_
 rw[called_object.made]
 kernel_rfl
theorem Zct:entryFor table "object.__init__" = some Builtin.«object.__init__»:=entryFor_of_tree (by kernel_rfl)
theorem Zdf (a:Value):argsOk "object.__init__" ⟨[a],[]⟩:=by unfold argsOk;kernel_rfl
section
variable {prog:Program}{w:World}{A:Around}{E:Wh}{s:Shared}
theorem Zjk(h:Q (.ref s.heap.objs.size) { s with heap:=s.heap.push { cls:=.type "object",data:=.plain } }):wpAny (model prog w) A (call (.type "object") []) Q E s:=by
 exists (Q prog w A E s),h
 refine callType_codes (Q₁:=λobj s_1=>s_1.TypeIs obj "object" /\ Q obj s_1) called_object Ze0 Zct ?_ λobj s_1 h_1=>⟨h_1.1,Zdf _,?_⟩
 .refine codeAny_of_tree ?_
  show wpAny _ A.in1.in1 (do checkBuiltinCall "object.__new__" ⟨[.type "object"],[]⟩;again (.builtin "object.__new__" ⟨[.type "object"],[]⟩)) _ _ s
  refine Qh (Qy Zfc (Qi ⟨plainId_quiet called_object.plain _,codeAny_builtin F.entry_object_new ?_⟩))
  rw[Around.under_plainId called_object.plain _]
  unfold Builtin.«object.__new__»
  refine Qh (Qy (a:=true) rfl ?_)
  show wpAny _ _ (if (!true)=true then _ else _) _ _ _
  rw[if_neg (by decide)]
  dsimp only
  rw[if_neg (by decide +kernel)]
  refine Qh (Qy Zjw ?_)
  rw[if_neg (by decide)]
  rw[if_neg (by decide +kernel)]
  refine Qh (Qi ?_)
  refine Qh (wpAny_newObj_type ?_ (by size_fits))
  rw[if_neg (by decide +kernel)]
  exact Qi ⟨⟨_,Qg _ rfl,rfl⟩,h⟩
 .show wpAny _ _ (ret .none) _ _ _
  exact Qi ⟨rfl,h_1.2⟩
end
theorem Zpy (k:∀ a,K (.ref a) J):CF C (.ty "object") [] J K:=λs fv vs H rf rl=>by
 o_facts rf
 o_facts rl
 exact .of (Zjk ⟨_,_,k _,.ref _,H.ext Qa s.toks,.of_ext Qa⟩)
end
noncomputable def Z4q:Array Nat:=#[14,14,4,1,1,9,0,64,0,1342177280,0,0,0,0,0,17,0,13,11,9,0,64,0,1342177280,0,0,0,0,0,17,1,1]
noncomputable def esc1(g:Str):Str:=Str.ofString "\\" ++ g
noncomputable def Zbl(st:Str):Str:=if Zu4 (Str.ofString "-") st=true then Txt.replace (Txt.replace st (Str.ofString "\\") (Str.ofString "\\\\")) (Str.ofString "-") (Str.ofString "\\-") else Txt.replace st (Str.ofString "\\") (Str.ofString "\\\\")
noncomputable def Zq2(t:Str):Str:=match t.cps.toList with
 | c::_=>if c=33 then Str.ofString "^" ++ Zdx t (some 1) none else if c=94\/c=91 then Str.ofString "\\" ++ t else t
 | []=>t
noncomputable def Z1c(t:Str):Str:=Str.empty++Str.ofString "[" ++ Zq2 t++Str.ofString "]"
noncomputable def brS(st:Str):Option Str:=match Zjv Z4q (Zbl st) esc1 100 0 false with
 | none=>none
 | some ps=>if ps.length<=100/\sz ps<=1000/\(Zbl st).length<=1000/\(cat ps).length≠0/\(cat ps==Str.ofString "!")=false then some (Z1c (cat ps)) else none
noncomputable def Zh4:List Nat->Option (List Nat×List Nat)
 | b::t=>if b=33 then (match t with|c::d::t2=>if c∈stock8/\d=93 then some ([33,c],t2) else none|_=>none)
   else (match t with|d::t2=>if b∈stock8/\d=93 then some ([b],t2) else none|_=>none)
 | []=>none
noncomputable def Zkg:Nat->List Nat->List (Option Str)->Option (List (Option Str))
 | 0,_,_=>none
 | k+1,l,acc=>if 100<acc.length then none else match l with
  | []=>some acc
  | c::t=>
   if c=42 then Zkg k t (if acc.getLast?=some none then acc else acc++[none])
   else if c=63 then Zkg k t (acc++[some (Str.ofString ".")])
   else if c=91 then (match Zh4 t with
    | none=>none
    | some (st,t2)=>match brS ⟨st.toArray⟩ with|none=>none|some o=>Zkg k t2 (acc++[some o]))
   else if c∈stock8 then Zkg k t (acc++[some (Zzh c)]) else none
theorem Zoo{l:List Nat}{acc:List (Option Str)}:Zkg (k+1) l acc=(if 100<acc.length then none else match l with
  | []=>some acc
  | c::t=>
   if c=42 then Zkg k t (if acc.getLast?=some none then acc else acc++[none])
   else if c=63 then Zkg k t (acc++[some (Str.ofString ".")])
   else if c=91 then (match Zh4 t with
    | none=>none
    | some (st,t2)=>match brS ⟨st.toArray⟩ with|none=>none|some o=>Zkg k t2 (acc++[some o]))
   else if c∈stock8 then Zkg k t (acc++[some (Zzh c)]) else none):=rfl
noncomputable abbrev Zi3(pat:Str)(S r m:Addr)(i n:Int)(c j st ch k ck:Option V):Loc:=
 [("pat",some (.str pat)),("STAR",some (.ref S)),("QUESTION_MARK",some (.str (Str.ofString "."))),("res",some (.ref r)),("add",some (.ref m)),("i",some (.int i)),("n",some (.int n)),("c",c),("j",j),("stuff",st),("chunks",ch),("k",k),("chunk",ck)]
def CAJ(C:Cx)(sep:Str)(elt:Expr)(gens:List Comprehension)(scope:Scope)(gpos pos:Pos)(env:Env)(J:St)(K:Wk):Prop:=CA C (.bi "str.join") [.str sep] [.GeneratorExp elt gens scope gpos] pos env J K
theorem ca_stop {sep:Str} {gens:List Comprehension}{gpos:Pos} (h:CAJ C sep elt gens scope gpos pos env J K):CA C (.bi "str.join") [.str sep] [.GeneratorExp elt gens scope gpos] pos env J K:=h
set_option tactic.hygienic true in
theorem Zi0{t st t2:List Nat}(h:Zh4 t=some (st,t2)):∃ (pre:List Nat) (c:Nat),c∈stock8/\st=pre++[c]/\t=pre++c::93::t2/\(pre=[]\/pre=[33]):=by
 exists (t st t2),h
 unfold Zh4 at h
 split at h
 .rename_i b t'
  split at h
  .rename_i hb
   split at h
   .rename_i c d t3
    split at h
    .rename_i hc
     cases h
     obtain⟨h1,h2⟩:=hc
     subst h2;subst hb
     exact⟨[33],c,h1,rfl,rfl,.inr rfl⟩
    .cases h
   .cases h
  .split at h
   .rename_i d t3
    split at h
    .rename_i hc
     cases h
     obtain⟨h1,h2⟩:=hc
     subst h2
     exact⟨[],b,h1,rfl,rfl,.inl rfl⟩
    .cases h
   .cases h
 .cases h
theorem Zk7:∀ c∈stock8,c≠33/\c≠91/\c≠42/\c≠63:=by decide
theorem Zaw{c d:Nat}(hy:y=⟨#[d]⟩):((⟨#[c]⟩:Str)==y)=decide (c=d):=by
 subst hy
 rw[Bool.eq_iff_iff,beq_iff_eq,decide_eq_true_iff]
 constructor
 .intro h
  have:=congrArg Str.cps h
  simpa using this
 .intro h;rw[h]
theorem XV.cut{t:Sem Flow}{K:Wj}(K':Wj)(h:XV C t J K')(k:∀ fl J',K' fl J'->K fl J'):XV C t J K:=W.mono h k
noncomputable def Z1t:Stmt->List Stmt
 | .While _ b _ _=>b
 | _=>[]
noncomputable def Z3u:Stmt->List Stmt
 | .If _ b _ _=>b
 | _=>[]
noncomputable def Ztu:Stmt->List Stmt
 | .If _ _ o _=>o
 | _=>[]
noncomputable def Zq1(l:List Stmt)(i:Nat):Stmt:=l.getD i (.Pass ⟨0,0,0,0⟩)
theorem Zns{acc:List (Option Str)}{S:Addr}(h:acc≠[]):∃ x,acc.getLast?=some x/\(acc.map (pv S))[acc.length-1]?=some (pv S x):=by
 refine⟨acc.getLast h,List.getLast?_eq_some_getLast h,?_⟩
 rw[List.getElem?_map,<- List.getLast?_eq_getElem?,List.getLast?_eq_some_getLast h]
 rfl
theorem Zwp{T0 T1 T2 T3 T4 T5 T6 T7 T8 T9:Type}{C0 C1 C2 C3 C4:T0->T1->T2->T3->T4->T5->T6->T7->T8->T9->Prop}(a0:T0)(a1:T1)(a2:T2)(a3:T3)(a4:T4)(a5:T5)(a6:T6)(a7:T7)(a8:T8)(a9:T9)(h0:C0 a0 a1 a2 a3 a4 a5 a6 a7 a8 a9)(h1:C1 a0 a1 a2 a3 a4 a5 a6 a7 a8 a9)(h2:C2 a0 a1 a2 a3 a4 a5 a6 a7 a8 a9)(h3:C3 a0 a1 a2 a3 a4 a5 a6 a7 a8 a9)(h4:C4 a0 a1 a2 a3 a4 a5 a6 a7 a8 a9):∃ a0 a1 a2 a3 a4 a5 a6 a7 a8 a9,C0 a0 a1 a2 a3 a4 a5 a6 a7 a8 a9/\C1 a0 a1 a2 a3 a4 a5 a6 a7 a8 a9/\C2 a0 a1 a2 a3 a4 a5 a6 a7 a8 a9/\C3 a0 a1 a2 a3 a4 a5 a6 a7 a8 a9/\C4 a0 a1 a2 a3 a4 a5 a6 a7 a8 a9:=⟨a0,a1,a2,a3,a4,a5,a6,a7,a8,a9,h0,h1,h2,h3,h4⟩
theorem Z13 {i:Int} (k:K (.int i) J):CF C (.ty "int") [.int i] J K:=by
 exists (C J K i),k
 intro s fv vs H rf rl
 o_facts rf
 revert rl
 intro rl0
 refine VRs.consK rl0 λY Y r rl e0=>?_
 subst e0
 o_facts rl
 o_facts r
 exact .of (call_int_int (Pst.here H (.int _ _) k))
theorem Zeo{b:Addr}{m:List V}(hl:LkO a (.list l) J.obs)(hm:LkO b (.list m) J.obs)(k:∀ c,K (.ref c) ⟨J.loc,(c,.list (l++m))::J.obs⟩)(hz:l.length+m.length<=sizeLine):OP2 C VR (binaryOp .Add) (.ref a) (.ref b) J K:=by
 exists (C J K a l b m),hl,hm,k,hz
 intro s v u H r1 r2
 o_facts r1;o_facts r2
 refine Zbp (H.list hl) λvs n e1 r1=>?_
 refine Zbp (H.list hm) λws n2 e2 r2=>?_
 have l1:=r1.length
 have l2:=r2.length
 have e:vs.toArray++ws.toArray=(vs++ws).toArray:=by simp
 refine .of (concat_meets ⟨_,e1,rfl⟩ ⟨_,e2,rfl⟩ noFill_list_add seq_list_add PySem.F.slot_list_add PySem.F.entry_list_add (PySem.F.args_list_add_2 _ _) (list_addW a b vs.toArray ws.toArray n n2 none none #[] #[] (by simp;lia)) ⟨e1,e2,?_⟩)
 rw[e]
 exact⟨_,_,k _,.ref _,H.alloc (n:=s.toks) Qa (Qw _) (Qg _ rfl) (.list 0 ((r1.append r2).mono (.of_ext Qa))),.of_ext Qa⟩
theorem Zty{B:Int}(hB:0<=B):∀ (l:List Int),(∀ x∈l,0<=x/\x<=B)->0<=l.sum/\l.sum<=B * l.length
 | [],_=>by simp
 | x::l,h=>by
  have ih:=Zty hB l λy hy=>h y (.tail _ hy)
  have hx:=h x (.head _)
  simp only[List.sum_cons,List.length_cons]
  have e:B * ((l.length+1:Nat):Int)=B * (l.length:Int)+B:=by push_cast;rw[Int.mul_add,Int.mul_one]
  rw[e]
  lia
theorem Zuc {l:List Int} (hl:LkO a (.list (l.map V.int)) J.obs) (k:K (.int l.sum) J) (hb:∀ x∈l,0<=x/\x<=1000000) (hz:l.length<=100) (hh:C.A.handled=none):CF C (.bi "sum") [.ref a] J K:=by
 exists (C J K a l),hl,k,hb,hz,hh
 intro s fv vs H rf rl
 o_facts rf
 revert rl
 intro rl0
 refine VRs.consK rl0 λY Y r rl e0=>?_
 subst e0
 o_facts rl
 o_facts r
 refine Zbp (H.list hl) λws n e r=>?_
 obtain⟨xs,e1,e2⟩:=VRs.intsI r
 have hlen:xs.length=l.length:=by have:=congrArg List.length e2;simpa using this
 have hit:ws.toArray=intItems xs.toArray:=by rw[e1];simp[intItems]
 have hps:∀ j,preSum (numAt xs.toArray) j=(l.take j).sum:=λj=>by rw[preSum_eq];rw[show xs.toArray.toList=xs from rfl,e2]
 have hnum:∀ i,numAt xs.toArray i=l.getD i 0:=by
  intro i
  unfold numAt
  have:(xs.map (·.1))[i]?=l[i]?:=by rw[e2]
  simp only[List.getElem?_map] at this
  simp only[List.getElem?_toArray,List.getD_eq_getElem?_getD]
  rw[<- this]
 refine .of (sum_intList hh ⟨_,e,rfl,n,by rw[hit]⟩ (λj hj=>?_) λh' tk t' hk=>?_)
 .rw[hnum,hps]
  have hj':j<l.length:=by simpa [hlen] using hj
  have h1:=hb (l.getD j 0) (by simp[List.getD,Qu hj'])
  have h2:=Zty (by decide:(0:Int)<=1000000) (l.take (j+1)) λx hx=>hb x (List.mem_of_mem_take hx)
  have h3:(l.take (j+1)).length<=100:=by rw[List.length_take];lia
  unfold InLong
  lia
 .rw[hps]
  have hs:xs.toArray.size=l.length:=by simpa using hlen
  rw[hs,List.take_length]
  exact⟨_,_,k,.int _ _,H.ext hk tk,.of_ext hk⟩
noncomputable abbrev rawL(vs:List Value)(n:Nat):Obj:={ cls:=.type "list",data:=.seq vs.toArray n }
theorem Holds.rawL(H:Holds C J s)(h:LkO a (.raw (rawL vs n)) J.obs):s.heap.get? a=some (Mine.rawL vs n):=by
 obtain⟨O,e,r⟩:=H.obj h
 obtain rfl:=OR.rawE r
 exact e
theorem Zhu{sl:Addr}(hv:∀ h,VRs h l vs)(p:Pick (sl,.slice lo hi) J.obs rest)(hl:LkO a (.raw (rawL vs n)) rest)(k:∀ r,K (.ref r) ⟨J.loc,(r,.list (slc l lo hi))::rest⟩)(hz:l.length<=sizeLine) :
  OP2 C VR getItem (.ref a) (.ref sl) J K:=λs v u H r1 r2=>by
 o_facts r1;o_facts r2
 obtain⟨O,e,ro⟩:=H.obs _ p.mem
 have H':=H.drop p
 have e2:=H'.rawL hl
 have r:=hv s.heap
 have q:=OR.ownE ro
 obtain⟨vl,vu,rfl,p1,p2⟩:=q
 have eq:(slicePick vs.toArray lo hi none)=(slc vs lo hi).toArray:=by rw[slicePick_plain];simp[slc]
 refine .of (wpAny_getItem_list_slice (lo:=lo) (hi:=hi) (st:=none) ⟨_,e2,rfl,n,rfl⟩ ⟨_,e,rfl,rfl⟩ p1 p2 .none (by simp) ?_ (by simpa [r.length] using hz))
 rw[eq]
 have kp:∀ b o,s.heap.get? b=some o->(s.heap.push { cls:=.type "list",data:=.seq (slc vs lo hi).toArray }).get? b=some o:=Qa
 refine⟨_,_,k _,.ref _,H'.alloc (n:=s.toks) kp (Qw _) (Qg _ rfl) ?_,.of_ext kp⟩
 exact .list 0 (VRs.slc lo hi (r.mono (.of_ext kp)))
theorem Zjp{v:Expr}{s:Addr}(hv:∀ h,VRs h l vs)(p:Pick (s,.slice lo hi) J.obs rest)(hl:LkO a (.raw (rawL vs n)) rest)(hl':LkO a (.raw (rawL vs n)) J.obs)(k:∀ r,K (.ref r) ⟨J.loc,(r,.list (slc l lo hi))::rest⟩)
  (hs:∀ o i,∃ xs,subscripted sl false o i=operate xs (getItem o i)) (hz:l.length<=sizeLine):OP2 C VR (subscriptTail v sl) (.ref a) (.ref s) J K:=
 Zbn "list" (λs va r H=>by o_facts r;exact⟨_,H.rawL hl',rfl⟩) slot_list_getitem.lookup (Zhu hv p hl k hz) hs
theorem Zkq(l:List α)(k:Nat):slc l none (some (k:Int))=l.take k:=by
 unfold slc
 simp only[Option.elim,clipAt_nat,List.drop_zero,Nat.sub_zero]
 by_cases h:k<=l.length
 .rw[Nat.min_eq_left h]
 .rw[Nat.min_eq_right (by k_units),List.take_of_length_le (Qw _),List.take_of_length_le (by k_units)]
theorem Zr6(l:List α)(k:Nat)(h:k<=l.length):slc l (some (k:Int)) none=l.drop k:=Zxy l k h
theorem VRs.intsAre{l:List Int}(r:VRs h (l.map V.int) vs):IntsAre vs l:=by
 induction l generalizing vs with
 | nil=>exact r.nilE ▸ .nil
 | cons a l ih=>exact r.consK λv ws x rl e=>VR.intK x λt e2=>e▸e2 ▸ .cons a t (ih rl)
theorem IntsAre.vrs{l:List Int}(r:IntsAre vs l):VRs h (l.map V.int) vs:=by
 induction r with
 | nil=>exact .nil
 | cons n t _ ih=>exact .cons (.int n t) ih
theorem Zxt{w:World}{A:Around}{l:Addr}{items:Array Value}{j:Nat}{k:Int}{v:Value}{Q:Unit->Shared->Prop}(ho:s.heap.get? l=some (listOf items n))(hfit:k<2 ^ 63)(h0:0<=k)(hk:k=(j:Int))(hj:j<items.size)
  (hQ:Q () { s with heap:=s.heap.update l (Obj.mapSeq (·.setIfInBounds j v)) }):wpAny (model prog w) A (setItem (.ref l) (.int k t) v) Q E s:=by
 exists (s n prog E t w A l items j k v Q),ho,hfit,h0,hk,hj,hQ
 have hl:s.heap.IsList l items:=⟨_,ho,rfl,n,rfl⟩
 unfold setItem
 try with_reducible refine wpAny_holding ?_
 first|refine Qh (Qi ?_)|skip
 refine Qh (wpAny_sequenceKey hl.typeIs (by decide) ?_)
 refine Qh (wpAny_callSpecial?_slot (name:=Str.ofString "__setitem__") hl.typeIs F.slot_list_setitem
  (wpAny_call_entry F.slot_list_setitem hl.typeIs F.entry_list_setitem ?_ (F.args_list_setitem_3 _ _ _)))
 show wpAny _ _ (Builtin.List.listSubscript? (.int k t) >>= _) _ _ s
 refine Qh (wpAny_listSubscript_int (fitsIndex_of h0 hfit) ?_)
 clear hfit h0
 subst hk
 have hx':items[j]?=some items[j]:=Array.getElem?_eq_getElem hj
 show wpAny _ _ ((seqItemAt l j >>= λr=>pure (r.map (j,·))) >>= _) _ _ s
 refine Qh (Qh (wpAny_seqItemAt ho rfl (Qi ?_)))
 rw[hx']
 show wpAny _ _ (setSeqItemAt l j v >>= _) _ _ s
 refine Qh (wpAny_setSeqItemAt ho rfl ?_)
 first
  | exact Qh (Qi (Qi ⟨.none,rfl,Qi hQ⟩))
  | exact Qi ⟨.none,rfl,Qi hQ⟩
theorem Zjo{x:V}{K:Wl}(u:UpO a (.list l) (.list (l.set i x)) J.obs obs')(k:K ⟨J.loc,obs'⟩)(hi:i<l.length)(hz:l.length<=sizeLine):OP3 C (λ_ (_:Unit) _=>True) setItem (.ref a) (.int i) x J (λY J=>K J):=by
 exists (C J a l i obs' x K),u,k,hi,hz
 intro s v1 v2 v3 H r1 r2 r3
 o_facts r1;o_facts r2
 refine Zbp (H.list u.lk) λvs n e r=>?_
 have hsz:sizeLine=16777216:=by decide
 have hl:=r.length
 refine .of (Zxt (j:=i) e (by lia) (Int.natCast_nonneg i) rfl (by simpa [hl] using hi) ?_)
 refine And.elim (λH' tk=>?_) (H.mapList u e (λy=>y.setIfInBounds i v3) (vs':=vs.set i v3) (by simp) (VRs.set r3 i r))
 exact⟨(),_,k,trivial,H',tk⟩
theorem Zmf (k:K (.bool true) J):CF C (.bi "isinstance") [.tup l,.ty "tuple"] J K:=λs fv vs H rf rl=>by
 o_facts rf
 revert rl
 intro rl0
 refine VRs.consK rl0 λY Y r rl e0=>?_
 subst e0
 revert rl
 intro rl0
 refine VRs.consK rl0 λY Y r2 rl e0=>?_
 subst e0
 o_facts rl
 o_facts r2
 refine VR.tupK r λa ws n e r e0=>?_
 subst e0
 exact .of (call_isinstance (isinstance_true (Tx := "tuple") F.isi_meta_tuple F.sub_tuple_tuple) ⟨⟨_,e,rfl⟩,Pst.here H (.bool _) k⟩)
theorem Zpz{l:List Int}{x:Int}(k:K (.bool (l.any (·==x))) J):OP2 C VR (compareOp .In) (.int x) (.tup (l.map V.int)) J K:=λs v u H r1 r2=>by
 o_facts r1
 refine VR.tupK r2 λa ws n e r e0=>?_
 subst e0
 exact .of (in_tuple_ints ⟨_,e,rfl,n,rfl⟩ (by simpa using r.intsAre) (Pst.here H (.bool _) k))
theorem op_bool_ne{x y:Bool}(k:K (.bool (!(x==y))) J):OP2 C VR (compareOp .NotEq) (.bool x) (.bool y) J K:=λs v u H r1 r2=>by
 o_facts r1;o_facts r2
 exact .of (show wpAny _ _ (richCompare .NotEq (.bool x) (.bool y)) _ _ _ from PySem.SeqAt.RcNeAt.bool_bool x y _ _ _ _ (Pst.here H (.bool _) k))
theorem Zfl {w:World} {A:Around} {t:Addr} {items:Array Value} {ns:List Int} (hT:T = "list" \/ T = "tuple") (ho:s.heap.get? t=some o) (hc:o.cls = .type T) (hd:o.data = .seq items n)
  (hI:IntsAre items.toList ns) (h64:items.size<64)
  (h:∀ h' a out ns' e,(∀ b o',s.heap.get? b=some o'->h'.get? b=some o')->s.heap.get? a=none->h'.get? a=some (seqObj "list" out e)->IntsAre out.toList ns'->ns'.Perm ns->ns'.Pairwise (·<=·)->Q (.ref a) { s with heap:=h' }) :
  wpAny (model prog w) A (call (.builtin "sorted") [.ref t]) Q E s:=by
 refine Calls.call_function_entry kind_sorted plain_sorted entry_sorted (args_sorted1 _) ?_
 unfold Builtin.«sorted»
 refine Qh (m:=checkCount "sorted" 1 1 _) (Qi ?_)
 refine Qh (wpAny_collect_seq t hT ho hc hd (λh1 k1=>?_) (Qx (Nat.le_of_lt h64) (by decide)))
 refine Qh (wpAny_newList (hsz:=by rw[Array.length_toList];exact Qx (Nat.le_of_lt h64) (by decide)) ?_)
 have hoL:(h1.push (seqObj "list" items.toList.toArray 0)).get? h1.objs.size=some (seqObj "list" items.toList.toArray 0):=Qg _ rfl
 refine Qh (wpAny_holding (wpAny_call_entry slot_list_sort ⟨_,hoL,rfl⟩ entry_list_sort (list_sort_tree hoL hI (by rw[Array.length_toList];exact h64) λout ns' a1 a2 a3=>⟨_,rfl,?_⟩) (args_list_sort _)))
 obtain⟨e,he⟩:=sortedHeap_at (out:=out) hoL
 refine Qi ⟨_,rfl,h _ h1.objs.size out ns' e (λb o' hb=>?_) ?_ he a1 a2 a3⟩
 .have hb1:=Qz (k1 _ _ hb)
  rw[sortedHeap_old (Nat.ne_of_lt hb1) (by rw[size_push'];exact Nat.lt_succ_of_lt hb1)]
  exact Heap.get?_push_of_some _ (k1 _ _ hb)
 .cases hq:s.heap.get? h1.objs.size with
  | none=>rfl
  | some o'=>exact absurd (Qz (k1 _ _ hq)) (Nat.lt_irrefl _)
theorem Holds.allocN(H:Holds C J s)(k:∀ b o,s.heap.get? b=some o->h'.get? b=some o){o:AO}{O:Obj}(hn:s.heap.get? a=none)(e:h'.get? a=some O)(r:OR h' o O)(n:Nat) :
  Holds C ⟨J.loc,(a,o)::J.obs⟩ { s with heap:=h',toks:=n }:=by
 have E:=H.ext k n
 have h3:a ∉ J.obs.map (·.1):=λhm=>by
  obtain⟨p,hp,q⟩:=Qf hm
  obtain⟨O',e',_⟩:=H.obs p hp
  rw[q,hn] at e';cases e'
 have h2:C.env.locals≠a:=λq=>by
  obtain⟨m,⟨o',_,_,e',_⟩,_⟩:=H.loc
  rw[q,hn] at e';cases e'
 refine⟨E.frz,E.loc,λp hp=>?_,?_,λb hb=>?_,E.nn,E.gens,E.drawn,E.os⟩
 .rcases Qb hp with q|q
  .subst q;exact⟨O,e,r⟩
  .exact E.obs p q
 .have h1:=H.nd
  rw[List.nodup_cons] at h1 ⊢
  refine⟨λhm=>?_,Qd ⟨h3,h1.2⟩⟩
  rcases Qb hm with q|q
  .exact h2 q
  .exact h1.1 q
 .rcases Qb hb with q|q
  .exact H.ap b (q ▸ .head _)
  .rcases Qb q with q|q
   .subst q
    cases hq:C.fz b with
    | none=>rfl
    | some o'=>have:=H.frz _ _ hq;rw[hn] at this;cases this
   .exact H.ap b (.tail _ q)
theorem Zpk {l l':List Int} (hl:LkO a (.list (l.map V.int)) J.obs) (k:∀ z,K (.ref z) ⟨J.loc,(z,.list (l'.map V.int))::J.obs⟩) (hz:l.length<64) (hp:l'.Perm l) (ho:l'.Pairwise (·<=·)):CF C (.bi "sorted") [.ref a] J K:=by
 exists (C J K a l l'),hl,k,hz,hp,ho
 intro s fv vs H rf rl
 o_facts rf
 revert rl
 intro rl0
 refine VRs.consK rl0 λY Y r rl e0=>?_
 subst e0
 o_facts rl
 o_facts r
 refine Zbp (H.list hl) λws n e r=>?_
 have hlen:=r.length
 rw[Qj] at hlen
 refine .of (Zfl (.inl rfl) e rfl rfl (by simpa using r.intsAre) (by simpa [hlen] using hz) λh' z out ns' e' k1 hn he hI hp' ho'=>?_)
 have hs:ns'=l':=(hp'.trans hp.symm).eq_of_pairwise (λx y Y Y h1 h2=>Int.le_antisymm h1 h2) ho' ho
 subst hs
 refine⟨_,_,k z,.ref z,H.allocN (n:=s.toks) k1 hn he ?_,.of_ext k1⟩
 have q:OR h' (.list (ns'.map V.int)) { cls:=.type "list",data:=.seq out.toList.toArray e' }:=.list e' (IntsAre.vrs hI)
 rwa [Array.toArray_toList] at q
theorem Zl3 {l l':List Int} (k:∀ z,K (.ref z) ⟨J.loc,(z,.list (l'.map V.int))::J.obs⟩) (hz:l.length<64) (hp:l'.Perm l) (ho:l'.Pairwise (·<=·)):CF C (.bi "sorted") [.tup (l.map V.int)] J K:=by
 exists (C J K l l'),k,hz,hp,ho
 intro s fv vs H rf rl
 o_facts rf
 revert rl
 intro rl0
 refine VRs.consK rl0 λY Y r rl e0=>?_
 subst e0
 o_facts rl
 refine VR.tupK r λa ws n e r2 e0=>?_
 subst e0
 have hlen:=r2.length
 rw[Qj] at hlen
 refine .of (Zfl (.inr rfl) e rfl rfl (by simpa using r2.intsAre) (by simpa [hlen] using hz) λh' z out ns' e' k1 hn he hI hp' ho'=>?_)
 have hs:ns'=l':=(hp'.trans hp.symm).eq_of_pairwise (λx y Y Y h1 h2=>Int.le_antisymm h1 h2) ho' ho
 subst hs
 refine⟨_,_,k z,.ref z,H.allocN (n:=s.toks) k1 hn he ?_,.of_ext k1⟩
 have q:OR h' (.list (ns'.map V.int)) { cls:=.type "list",data:=.seq out.toList.toArray e' }:=.list e' (IntsAre.vrs hI)
 rwa [Array.toArray_toList] at q
noncomputable def Z48:List Int->Int
 | []=>0
 | a::r=>r.foldl max a
theorem Zrz{l:List Int}(h:l≠[])(x:Int):Z48 (l++[x])=max (Z48 l) x:=by
 induction l with
 | nil=>exact absurd rfl h
 | cons a l=>exact List.foldl_append
set_option tactic.hygienic true in
theorem Zix(l:List Int)(n:Nat)(h:n<l.length):l.getD (argBest (λi j=>decide (l.getD i 0 > l.getD j 0)) n) 0=Z48 (l.take (n+1)):=by
 induction n with
 | zero=>
  induction l with
  | nil=>cases h
  | cons a l=>rfl
 | succ n ih=>
  have ih:=ih (Nat.lt_of_succ_lt h)
  have et:l.take (n+2)=l.take (n+1)++[l.getD (n+1) 0]:=by
   rw[List.take_add_one,Qu h]
   simp[h]
  have hne:l.take (n+1)≠[]:=by
   intro q
   have:=congrArg List.length q
   rw[List.length_take] at this
   simp at this
   subst this;cases h
  rw[et,Zrz hne,<- ih]
  simp -iota only[argBest]
  split
  .rename_i hc
   exact(Int.max_eq_right (Int.le_of_lt (of_decide_eq_true hc))).symm
  .rename_i hc
   exact(Int.max_eq_left (Int.not_lt.mp λq=>hc (decide_eq_true q))).symm
theorem Zxc {l:List Int} (hl:LkO a (.list (l.map V.int)) J.obs) (k:K (.int (Z48 l)) J) (hne:l≠[]) (hh:C.A.handled=none):CF C (.bi "max") [.ref a] J K:=by
 exists (C J K a l),hl,k,hne,hh
 intro s fv vs H rf rl
 o_facts rf
 revert rl
 intro rl0
 refine VRs.consK rl0 λY Y r rl e0=>?_
 subst e0
 o_facts rl
 o_facts r
 refine Zbp (H.list hl) λws n e r=>?_
 obtain⟨xs,e1,e2⟩:=r.intsI
 have hlen:xs.length=l.length:=by have:=congrArg List.length e2;simpa using this
 have hpos:0<l.length:=List.length_pos_iff.mpr hne
 have hit:ws.toArray=intItems xs.toArray:=by rw[e1];simp[intItems]
 have hnum:∀ i,numAt xs.toArray i=l.getD i 0:=λi=>by
  unfold numAt
  have:(xs.map (·.1))[i]?=l[i]?:=by rw[e2]
  simp only[List.getElem?_map] at this
  simp only[List.getElem?_toArray,List.getD_eq_getElem?_getD]
  rw[<- this]
 refine .of (max_intList hh ⟨_,e,rfl,n,by rw[hit]⟩ (by simp;lia) λv h' tk hv hk=>?_)
 have hf:(λi j=>decide (numAt xs.toArray i > numAt xs.toArray j))=λi j=>decide (l.getD i 0 > l.getD j 0):=by funext i j;rw[hnum,hnum]
 rw[hf] at hv
 obtain⟨t,rfl⟩:=intItems_at hv
 rw[hnum]
 have hs:xs.toArray.size=l.length:=by simpa using hlen
 rw[hs]
 have hmax:=Zix l (l.length-1) (Nat.sub_lt hpos Nat.one_pos)
 rw[show l.length-1+1=l.length from Nat.sub_add_cancel hpos,List.take_length] at hmax
 rw[hmax]
 exact⟨_,_,k,.int _ _,H.ext hk tk,.of_ext hk⟩
theorem VRs.rep(r:VRs h l vs)(n:Nat):VRs h (List.replicate n l).flatten (List.replicate n vs).flatten:=by
 induction n with
 | zero=>exact .nil
 | succ n ih=>rw[List.replicate_succ,List.replicate_succ,List.flatten_cons,List.flatten_cons];exact r.append ih
theorem Zkj(hl:LkO a (.list l) J.obs)(k:∀ c,K (.ref c) ⟨J.loc,(c,.list (List.replicate n l).flatten)::J.obs⟩)(hz:l.length<=100)(hn:n<=1000):OP2 C VR (binaryOp .Mult) (.ref a) (.int n) J K:=by
 intro s v u H r1 r2
 o_facts r1
 refine VR.intK r2 λt e0=>?_
 subst e0
 refine Zbp (H.list hl) λvs m e1 r1=>?_
 have l1:=r1.length
 have hs:vs.length * n<=100 * 1000:=Nat.mul_le_mul (show vs.length<=100 by rw[l1];exact hz) hn
 obtain⟨x,hx⟩:∃ x:Int,x=n:=⟨_,rfl⟩
 have hn2:x.toNat=n:=by rw[hx,Int.toNat_natCast]
 rw[<- hx]
 have hsz:vs.toArray.size * x.toNat<=100000:=by rw[List.size_toArray,hn2];exact hs
 have c0:¬(!Builtin.List.listFitsIndex x)=true:=by rw[hx];simp[Builtin.List.listFitsIndex];lia
 have c1:¬ vs.toArray.size * x.toNat > (2 ^ 63-1) / 8:=Nat.not_lt_of_le (Qx hsz (by decide))
 have c2:¬ Builtin.List.listTooLong (vs.toArray.size * x.toNat)=true:=by
  unfold Builtin.List.listTooLong
  have:sizeLine=16777216:=by decide
  rw[decide_eq_true_eq,this]
  exact Nat.not_lt_of_le (Qx hsz (by decide))
 have M:=AutoListH.list___mul___list_int_3 a vs.toArray m x t c0 c1 c2
 have e:List.foldl (λx1 x2=>x1++x2) #[] (List.replicate (if vs.toArray.isEmpty=true then 0 else x.toNat) vs.toArray)=(List.replicate n vs).flatten.toArray:=by rw[listMul_foldl_if,hn2]
 rw[e] at M
 refine .of (wpAny_binaryOp_repeat_ref (T := "list") (U := "int") (by decide) ⟨_,e1,rfl⟩ (λs'=>typeIs_int s' x t) noFill_list_mul F.fills_int_mul F.slot_int_rmul repeat_list F.slot_int_index.lookup
  (call_meets F.slot_int_rmul (typeIs_int s x t) F.entry_int_rmul (F.args_int_rmul_2 _ _) (int___rmul___int_list x t a vs.toArray m)
   ⟨e1,rfl,⟨_,e1,rfl⟩,call_meets F.slot_list_mul ⟨_,e1,rfl⟩ F.entry_list_mul (F.args_list_mul_2 _ _) M ⟨e1,?_⟩⟩))
 exact⟨_,_,k _,.ref _,H.alloc (n:=s.toks) Qa (Qw _) (Qg _ rfl) (.list 0 ((r1.rep n).mono (.of_ext Qa))),.of_ext Qa⟩
section
open Builtin.Bytes (takeBufferQuiet? takeBuffer? joinLetGo joined)
theorem Zdt:PlainAttrs "bytes" :=
 ⟨⟨"bytes.__getattribute__",by rw[Qn,Qm];kernel_rfl,by decide +kernel⟩,by rw[Qn,Qm];kernel_rfl⟩
theorem Zb2:Slot "bytes" "join" "bytes.join" :=
 .of (owner := "bytes") (n := "join") (by rw[Qn,Qm];kernel_rfl) (by decide +kernel) (by decide +kernel) (by decide +kernel)
  (by first|exact .inl (by decide +kernel)|exact .inr (by decide +kernel)) (by rw[isSubtype_type];kernel_rfl)
theorem Zeq:typeOf (.builtin "bytes.join")=pure (.type "method_descriptor"):=by show builtinType _=_;rw[builtinType_eq_fast];kernel_rfl
theorem Zsc {x:List Nat} {name:Str} {K:V->List V->Wl} (slot:Slot "bytes" name id) (hty:typeOf (.builtin id)=pure (.type "method_descriptor")) (k:K (.bi id) [.bytes x] J):GM C (.bytes x) name J K:=λs v pl H r=>by
 refine VR.bytesK r λt hb e0=>?_
 subst e0
 exact .of (getMethod_builtin (typeIs_bytes s _ t) Zdt slot hty (λa e=>by cases e) ⟨_,_,_,k,.bi _,.cons (.bytes t hb) .nil,H,.refl _⟩)
theorem Zzw{hs:List ExceptHandler}{K:Wj}(hE:∀ e s,¬ C.E e s)(hne:hs.isEmpty=false)(hb:XV C (execs body C.env) J K):XV C (exec (.Try body hs [] [] pos) C.env) J K:=by
 exists (C J pos body hs K),hE,hne,hb
 intro s H
 rw[arm_exec_Try]
 refine Zaa (Zac ?_)
 unfold tryStmt
 simp -iota only[List.isEmpty_nil,if_true,hne,Bool.false_and,Bool.false_eq_true,if_false]
 refine Zaa (Zbb (Zad (hb s H) (λf s_1 p=>?_) λv s_1 p=>(hE _ _ p).elim))
 obtain⟨a,J',k,r,H',tk⟩:=p
 induction r with
 | next=>exact .of (wpAny_execs_nil ⟨.next,J',k,.next,H',tk⟩)
 | brk=>exact Zab ⟨.brk,J',k,.brk,H',tk⟩
 | cont=>exact Zab ⟨.cont,J',k,.cont,H',tk⟩
 | ret r=>exact Zab ⟨.ret _,J',k,.ret r,H',tk⟩
theorem Zg9{prog:Program}{w:World}{A:Around}{s:Shared}{R:Result->Shared->Prop}(hh:A.handled=none)(x:Array UInt8)(t:Tok)(S:Addr)(res:Value)(c_0:Nat)(hS:s.heap.get? S=some { cls:=.type "list",data:=.seq #[] c_0 })
  (hR:∀ h' tk acc' c',(∀ b o,b≠S->s.heap.get? b=some o->h'.get? b=some o)->h'.get? S=some { cls:=.type "list",dict:=none,data:=.seq acc' c',slots:=#[] } ->
   ItemsOf (λi v=>∃ c u,x[i]?=some c/\v = .int (c.toNat:Int) u) acc' x.size->R (.ok (.ret res)) { s with heap:=h',toks:=tk }) (hn:x.size<=sizeLine) :
  wpAny (model prog w) A.in1 (Builtin.List.listExtendWith (.ref S) (.bytes x t) res)
   (λfin s'=>match fin with | .done f=>R (.ok f) s' | .again c'=>c'.quiet=true/\codeAny (model prog w) A c' R s') (λe s'=>R (.error e) s') s:=by
 exists (prog w A s R x t S res c_0),hh,hS,hR,hn
 have hSI:S≠s.heap.objs.size:=Nat.ne_of_lt (Qz hS)
 have hSf:S ∉ [s.heap.objs.size]:=λhm=>hSI (List.mem_singleton.mp hm)
 unfold Builtin.List.listExtendWith
 refine Qh (wpAny_typeOf (T := "bytes") (v:=.bytes x t) rfl ?_)
 have h1:Builtin.List.listSameRef (.ref S) (.bytes x t)=false:=rfl
 have h2:(Value.type "bytes" == Value.type "list")=false:=by decide
 have h3:(Value.type "bytes" == Value.type "tuple")=false:=by decide
 simp -iota only[h1,h2,h3,Bool.or_false,Bool.false_eq_true,if_false]
 refine Qh (KBw.pyIter_bytes ?_)
 refine Qh (wpAny_holding ?_)
 unfold Builtin.List.listLengthHint
 refine Qh (wpAny_specialOf (T := "bytes") (v:=.bytes x t) rfl FB.slot_bytes_len.lookup ?_)
 wp_delta
 refine Qh (wpAny_isInstance (T := "bytes") (v:=.bytes x t) (b:=true) rfl (by rw[isSubtype_type];kernel_rfl) ?_)
 show wpAny _ _ (typeOf (Value.bytes x t) >>= _) _ _ _
 refine Qh (wpAny_typeOf (T := "bytes") (v:=.bytes x t) rfl ?_)
 refine Qi ?_
 rw[if_neg (by decide)]
 refine Qi ⟨plainId_quiet F.plain_extend_loop _,codeAny_extend_loopS (KBw.walks (prog:=prog) (w:=w) (A:=A.in1) hh s.heap.objs.size x t).toS hn _ hSf _ x.size 0 _ _ _ rfl (Nat.zero_le _) ⟨_,Qg _ rfl,rfl,rfl⟩ (Heap.get?_push_of_some _ hS) (ItemsOf.nil _) λs' acc' c' hm hS' hacc=>?_⟩
 rw[Moved.eq_with hm]
 refine hR s'.heap s'.toks acc' c' (λb ob hb e=>hm.heap b ob (λhmem=>?_) (Heap.get?_push_of_some _ e)) hS' hacc
 rcases Qb hmem with e'|hmem
 .exact hb e'
 .exact absurd (Qz e) (by rw[List.mem_singleton.mp hmem];exact Nat.lt_irrefl _)
theorem Zep{w:World}{A:Around}(hh:A.handled=none)(x:Array UInt8)(t:Tok)
  (hQ:∀ h' tk acc' c',(∀ b o,s.heap.get? b=some o->h'.get? b=some o) ->
   h'.get? s.heap.objs.size=some { cls:=.type "list",dict:=none,data:=.seq acc' c',slots:=#[] }->ItemsOf (λi v=>∃ c u,x[i]?=some c/\v = .int (c.toNat:Int) u) acc' x.size->Q (.ref s.heap.objs.size) { s with heap:=h',toks:=tk }) (hn:x.size<=sizeLine) :
  wpAny (model prog w) A (call (.type "list") [.bytes x t]) Q E s:=by
 refine callType_codes (Q₁:=λobj s_1=>obj = .ref s.heap.objs.size/\s_1={ s with heap:=s.heap.push { cls:=.type "list",data:=.seq #[] } }) F.called_list (F.typeCall_list_1 _) F.entry_list_init
  (code_list_new _ ⟨rfl,rfl⟩) λobj s_1 h_1=>?_
 obtain⟨rfl,rfl⟩:=h_1
 have hS:(s.heap.push { cls:=.type "list",data:=.seq #[] }).get? s.heap.objs.size=some { cls:=.type "list",data:=.seq #[] }:=Qg _ rfl
 refine⟨⟨_,hS,rfl⟩,F.args_list_init_2 _ _,?_⟩
 show wpAny _ _ (do let old <- Builtin.List.listItems (.ref s.heap.objs.size);Builtin.List.listUpdate (.ref s.heap.objs.size) (λY=>#[]);letGo old.toList.reverse;Builtin.List.listExtendWith (.ref s.heap.objs.size) (.bytes x t) .none) _ _ _
 refine Qh ?_
 unfold Builtin.List.listItems
 refine Qh (wpAny_seqItems hS rfl (Qi ?_))
 show wpAny _ _ (updateSeq s.heap.objs.size (λY=>#[]) >>= λY=>letGo (#[]:Array Value).toList.reverse >>= λY=>Builtin.List.listExtendWith (.ref s.heap.objs.size) (.bytes x t) .none) _ _ _
 refine Qh (wpAny_updateSeq hS rfl ?_)
 have hS2:=Heap.get?_update_self (Obj.mapSeq (λY=>(#[]:Array Value))) hS rfl
 refine Qh (wpAny_letGo ?_)
 refine Zg9 (A:=A.in1) (hn:=hn) hh x t _ .none _ hS2 λh' tk acc' c' hk hS' hacc=>?_
 exact⟨rfl,hQ h' tk acc' c' (λb o e=>hk b o (Nat.ne_of_lt (Qz e)) ((Heap.get?_update_other _ _ (Ne.symm (Nat.ne_of_lt (Qz e)))).trans (Heap.get?_push_of_some _ e))) hS' hacc⟩
theorem Zf9 {l:List Nat} (h:∀ a,K (.ref a) ⟨J.loc,(a,.list (l.map vi))::J.obs⟩) (hh:C.A.handled=none) (hz:l.length<=100000):CF C (.ty "list") [.bytes l] J K:=by
 exists (C J K l),h,hh,hz
 intro s fv vs H rf rl
 o_facts rf
 revert rl
 intro rl0
 refine VRs.consK rl0 λY Y r rl e0=>?_
 subst e0
 o_facts rl
 refine VR.bytesK r λt hb e0=>?_
 subst e0
 refine .of (Zep hh _ t (λh' tk acc' c' kp e hi=>⟨_,_,h _,.ref _,H.alloc (n:=tk) kp (Qw _) e ?_,.of_ext kp⟩) (by rw[List.size_toArray,Qj];exact Qx hz (by decide)))
 have mk:∀ (cs:List Nat) (vs:List Value),(∀ x∈cs,x<256)->vs.length=cs.length->(∀ (j:Nat) (v:Value),vs[j]?=some v->∃ (c:UInt8) (u:Tok),(cs.map Nat.toUInt8)[j]?=some c/\v=Value.int (c.toNat:Int) u)->VRs h' (cs.map vi) vs:=by
  intro cs
  induction cs with
  | nil=>intro vs _ hl _;induction vs with
   | nil=>exact .nil
   | cons _ _=>simp at hl
  | cons c cs ih=>
   intro vs hc hl hv
   induction vs with
   | nil=>simp at hl
   | cons v vs=>
    obtain⟨c',u,e1,e2⟩:=hv 0 v rfl
    rw[Qr,List.getElem?_cons_zero] at e1
    cases e1
    subst e2
    have hcc:(Nat.toUInt8 c).toNat=c:=by
     have:=hc c (.head _)
     simp[Nat.toUInt8];k_units
    rw[hcc]
    exact .cons (.int _ u) (ih vs (λx hx=>hc x (.tail _ hx)) (by simpa using hl) λj v e=>by simpa using hv (j+1) v (by simpa using e))
 have:=OR.list (h:=h') (l:=l.map vi) (vs:=acc'.toList) c' (mk _ _ hb (by simpa using hi.1) λj v e=>by
  obtain⟨c,u,e1,e2⟩:=hi.2 j v (by simpa using e)
  exact⟨c,u,by simpa using e1,e2⟩)
 simpa using this
theorem Zdu:entryFor table "bytes.join" = some Builtin.«bytes.join»:=entryFor_of_tree (by kernel_rfl)
theorem Ze5 (a b:Value):argsOk "bytes.join" ⟨[a,b],[]⟩:=by unfold argsOk;kernel_rfl
theorem takeQ{b:Array UInt8}{f:Int}:takeBufferQuiet? id (.bytes b t) f=pure (some (b,none)):=by
 have h:takeBuffer? id (.bytes b t) f=pure (some (b,none)):=by
  unfold takeBuffer?
  rw[KBy.special_eq KBy.look_buffer,KBy.own_buffer]
  show(do return (<- Builtin.Bytes.buffer? id (.bytes b t) (full:=_)).map (·,none))=_
  unfold Builtin.Bytes.buffer?
  rw[KBy.special_eq KBy.look_buffer,KBy.own_buffer,KBy.own_release]
  rfl
 unfold takeBufferQuiet?
 rw[h];rfl
theorem Zbw(l:List (Array UInt8)):joined #[] l=l.foldl (·++·) #[]:=by
 have:∀ (l:List (Array UInt8)) (n:Nat) (acc:Array UInt8),((l.zipIdx n).foldl (λout (x:Array UInt8×Nat)=>(if x.2 > 0 then out++(#[]:Array UInt8) else out)++x.1) acc)=l.foldl (·++·) acc:=by
  intro l
  induction l with
  | nil=>intro n acc;rfl
  | cons a l ih=>
   intro n acc
   rw[List.zipIdx_cons,List.foldl_cons,ih]
   simp
 exact this l 0 #[]
theorem Zdi{w:World}{A:Around}{Q:Unit->Shared->Prop}{keep:List Value}(l:List (Value×Option Value))(hl:∀ x∈l,x.2=none)(h:Q () s):wpAny (model prog w) A (joinLetGo l keep) Q E s:=by
 induction l with
 | nil=>exact Qi h
 | cons x l ih=>
  obtain⟨x,w⟩:=x
  obtain rfl:w=none:=hl _ (.head _)
  exact Qh (wpAny_letGo (ih λy hy=>hl y (.tail _ hy)))
theorem Ztb{A:Around}{c:Prop}[Decidable c]{t u:Sem α}{Q:α->Shared->Prop}(hc:c)(h:wpAny M A t Q E s):wpAny M A (if c then t else u) Q E s:=by rw[if_pos hc];exact h
theorem Zls{A:Around}{c:Prop}[Decidable c]{t u:Sem α}{Q:α->Shared->Prop}(hc:¬ c)(h:wpAny M A u Q E s):wpAny M A (if c then t else u) Q E s:=by rw[if_neg hc];exact h
theorem turns{A:Around}{γ:Type}{f:Nat->β->Sem (ForInStep β)}{rest:β->Sem γ}{Q:γ->Shared->Prop}{b:β}(st:Nat->β)(hb:b=st 0)(hf:∀ i,i<n->wpAny M A (f i (st i)) (λr s'=>r = .yield (st (i+1))/\s'=s) E s)(h:wpAny M A (rest (st n)) Q E s):wpAny M A (forIn [:n] b f >>= rest) Q E s:=by
 rw[Std.Legacy.Range.forIn_eq_forIn_range']
 subst hb
 refine Qh (wpAny_forIn_list f (λl b s'=>∃ i,l=List.range' i (n-i) 1/\i<=n/\b=st i/\s'=s) _ ?_ ?_ _ _ ⟨0,?_,Nat.zero_le n,rfl,rfl⟩)
 .rintro x l b s' ⟨i,e,hi,rfl,rfl⟩
  cases hk:n-i with
  | zero=>rw[hk] at e;cases e
  | succ k=>
   rw[hk,List.range'_succ] at e
   obtain⟨rfl,rfl⟩:=List.cons.inj e
   exact wpAny_mono (hf x (Nat.lt_of_sub_eq_succ hk)) (λr s' z=>by obtain⟨rfl,rfl⟩:=z;exact⟨x+1,by rw[show n-(x+1)=k from congrArg Nat.pred hk],Nat.lt_of_sub_eq_succ hk,rfl,rfl⟩) λY Y e=>e
 .rintro b s' ⟨i,e,hi,rfl,rfl⟩
  have:n-i=0:=by
   cases hk:n-i with
   | zero=>rfl
   | succ k=>rw[hk,List.range'_succ] at e;cases e
  obtain rfl:i=n:=Nat.le_antisymm hi (Nat.le_of_sub_eq_zero this)
  exact h
 .show List.range' 0 ((n-0+1-1) / 1) 1=_
  simp
noncomputable abbrev vB(b:Array UInt8×Tok):Value:=.bytes b.1 b.2
theorem Zjq{l:List (Array UInt8×Tok)}:(l.map λb=>(vB b,(none:Option Value))).any (λx=>x.1.onHeap)=false:=by
 induction l with
 | nil=>rfl
 | cons a l ih=>rw[Qr,List.any_cons,ih];rfl
theorem Z03{w:World}{A:Around}{bs:List (Array UInt8×Tok)}{f:Nat->Array (Array UInt8)×List (Value×Option Value)->Sem (ForInStep (Array (Array UInt8)×List (Value×Option Value)))}{rest:Array (Array UInt8)×List (Value×Option Value)->Sem Fin}
  (hf:∀ i (hi:i<bs.length),wpAny (model prog w) A.in1 (f i (((bs.take i).map (·.1)).toArray,(bs.take i).map λb=>(vB b,none))) (λr s'=>r = .yield (((bs.take (i+1)).map (·.1)).toArray,(bs.take (i+1)).map λb=>(vB b,none))/\s'=s) E s)
  (h:wpAny (model prog w) A.in1 (rest ((bs.map (·.1)).toArray,bs.map λb=>(vB b,none))) (λfin s'=>∃ v,fin=Fin.done (Flow.ret v)/\Q v s') E s) :
  wpAny (model prog w) A.in1 (forIn [:(bs.map vB).toArray.size] (#[],[]) f >>= rest) (λfin s'=>∃ v,fin=Fin.done (Flow.ret v)/\Q v s') E s:=by
 rw[List.size_toArray,Qj]
 exact turns (λi=>(((bs.take i).map (·.1)).toArray,(bs.take i).map λb=>(vB b,none))) rfl hf (by rw[List.take_length];exact h)
theorem Z1r{l:List α}{f:α->β}(hi:i<l.length):(l.take (i+1)).map f=(l.take i).map f++[f l[i]]:=by
 rw[List.take_add_one,Qu hi,Qq];rfl
theorem jfold(l:List (Array UInt8))(n:Nat)(a:Array UInt8):(l.foldl (·++·) a).size+n=l.foldl (·+·.size) (a.size+n):=by
 induction l generalizing a n with
 | nil=>rfl
 | cons b l ih=>rw[List.foldl_cons,List.foldl_cons,ih,Array.size_append];congr 1;lia
theorem jfit{bs:List (Array UInt8×Tok)}(hz:(bs.map (·.1)).foldl (·+·.size) 0<=100000):((bs.map (·.1)).toArray.toList.foldl (·++·) #[]).size<=16777216:=by
 have:=jfold (bs.map (·.1)) 0 #[]
 simp at this hz ⊢
 lia
theorem Z1m{bs:List (Array UInt8×Tok)}(hz:(bs.map (·.1)).foldl (·+·.size) 0<=100000):¬ Builtin.Bytes.tooLong (Array.foldl (λx1 x2=>x1+x2.size) ((#[]:Array UInt8).size * ((bs.map (·.1)).toArray.size-1)) (bs.map (·.1)).toArray)=true:=by
 rw[show(#[]:Array UInt8).size * ((bs.map (·.1)).toArray.size-1)=0 from Nat.zero_mul _]
 rw[List.foldl_toArray,KBy.tooLong_not (Qx hz (by decide))]
 exact Wa
theorem Zmq{w:World}{A:Around}{bs:List (Array UInt8×Tok)}(ho:s.heap.get? a=some (listOf (bs.map λb=>Value.bytes b.1 b.2).toArray n))(hz:(bs.map (·.1)).foldl (·+·.size) 0<=100000)
  (hQ:∀ t' k,Q (.bytes ((bs.map (·.1)).foldl (·++·) #[]) t') { s with toks:=k }):wpAny (model prog w) A (call (.builtin "bytes.join") [.bytes #[] t,.ref a]) Q E s:=by
 exists (s a n Q prog E t w A bs),ho,hz,hQ
 refine wpAny_call_entry Zb2 (typeIs_bytes s #[] t) Zdu ?_ (Ze5 _ _)
 show wpAny _ _ (Builtin.Bytes.joinM .bytes _) _ _ _
 unfold Builtin.Bytes.joinM
 refine Qh (Qy (a:=(Value.bytes #[] t,Value.ref a)) rfl ?_)
 refine Ztb (by decide) ?_
 unfold Builtin.Bytes.joinItems
 refine Qh (Qh (wpAny_typeOf (T := "list") ⟨_,ho,rfl⟩ (Ztb (by decide) (Qi ?_))))
 refine Qh (wpAny_seqItems ho rfl ?_)
 refine Ztb (by decide) ?_
 match bs with
 | [b]=>exact Qh (wpAny_typeOf (T := "bytes") (v:=vB b) rfl (Ztb (by decide) (Qh (wpAny_rule (Qi ⟨_,rfl,show Q (vB b) s by have:=hQ b.2 s.toks;simpa using this⟩)))))
 | []=>
  refine Z03 (bs:=[]) (λi hi=>absurd hi (Nat.not_lt_zero i)) ?_
  refine Qh (Qy (a:=(#[]:Array UInt8)) rfl ?_)
  refine Zls (Z1m hz) ?_
  refine Qh (wpAny_mkBytes ?_ (by rw[Zbw];exact Qx (jfit hz) (by decide)))
  refine Qh (wpAny_holding (wpAny_point ?_))
  refine Qh (Zdi _ (λx hx=>by obtain⟨y,_,rfl⟩:=Qf hx;rfl) (Qi ⟨_,rfl,?_⟩))
  rw[Zbw]
  exact hQ _ _
 | b0::b1::l=>
  refine Z03 (bs:=b0::b1::l) (λi hi=>?_) ?_
  .refine Qh (wpAny_seqItems ho rfl ?_)
   have hx:((b0::b1::l).map λb=>Value.bytes b.1 b.2).toArray.getD i .none=vB (b0::b1::l)[i]:=by
    rw[Array.getD_eq_getD_getElem?,List.getElem?_toArray,List.getElem?_map,Qu hi];rfl
   dsimp only
   rw[hx]
   refine Zls (by rw[Zjq];decide) ?_
   refine Qh (wpAny_holding (Qy takeQ ?_))
   refine Qh (wpAny_seqItems ho rfl ?_)
   refine Zls (by simp) (Qi ⟨?_,rfl⟩)
   rw[Z1r hi,Z1r hi,<- List.push_toArray]
  .skip
   refine Qh (Qy (a:=(#[]:Array UInt8)) rfl ?_)
   refine Zls (Z1m hz) ?_
   refine Qh (wpAny_mkBytes ?_ (by rw[Zbw];exact Qx (jfit hz) (by decide)))
   refine Qh (wpAny_holding (wpAny_point ?_))
   refine Qh (Zdi _ (λx hx=>by obtain⟨y,_,rfl⟩:=Qf hx;rfl) (Qi ⟨_,rfl,?_⟩))
   rw[Zbw]
   exact hQ _ _
theorem VRs.bytesI{l:List (List Nat)}:∀ {vs:List Value},VRs h (l.map V.bytes) vs->∃ bs:List (Array UInt8×Tok),vs=bs.map vB/\bs.map (·.1)=l.map (λb=>(b.map Nat.toUInt8).toArray)/\∀ b∈l,∀ x∈b,x<256:=by
 induction l with
 | nil=>intro vs r;exact⟨[],r.nilE,rfl,λY h=>nomatch h⟩
 | cons a l ih=>
  intro vs r
  refine r.consK λv ws x rl e=>VR.bytesK x λt hb e2=>?_
  obtain⟨bs,e1,e3,hall⟩:=ih rl
  exact⟨((a.map Nat.toUInt8).toArray,t)::bs,by rw[e,e2,e1];rfl,by rw[Qr,e3];rfl,λb hb'=>(Qb hb').elim (λq=>q▸hb) (hall b)⟩
theorem jflat(l:List (List Nat))(acc:List Nat):(l.map λb=>(b.map Nat.toUInt8).toArray).foldl (·++·) (acc.map Nat.toUInt8).toArray=((acc++l.flatten).map Nat.toUInt8).toArray:=by
 induction l generalizing acc with
 | nil=>rw[List.flatten_nil,List.append_nil];rfl
 | cons a l ih=>
  rw[Qr,List.foldl_cons,List.append_toArray,<- Qq,ih,List.flatten_cons,Qs]
theorem jsum(l:List (List Nat))(n:Nat):(l.map λb=>(b.map Nat.toUInt8).toArray).foldl (·+·.size) n=n+l.flatten.length:=by
 induction l generalizing n with
 | nil=>rfl
 | cons a l ih=>rw[Qr,List.foldl_cons,ih,List.size_toArray,Qj,List.flatten_cons,List.length_append,Nat.add_assoc]
theorem Zrq {l:List (List Nat)} (hl:LkO a (.list (l.map V.bytes)) J.obs) (h:K (.bytes l.flatten) J) (hz:l.length<=100) (hz2:l.flatten.length<=100000):CF C (.bi "bytes.join") [.bytes [],.ref a] J K:=λs fv vs H rf rl=>by
 o_facts rf
 revert rl
 intro rl0
 refine VRs.consK rl0 λY Y r rl e0=>?_
 subst e0
 revert rl
 intro rl0
 refine VRs.consK rl0 λY Y r2 rl1 e0=>?_
 subst e0
 obtain rfl:=rl1.nilE
 refine VR.bytesK r λt hb e0=>?_
 subst e0
 o_facts r2
 refine Zbp (H.list hl) λws n e r=>?_
 obtain⟨bs,rfl,e3,hall⟩:=VRs.bytesI r
 refine .of (Zmq e (by rw[e3,jsum,Nat.zero_add];exact hz2) λt' k=>?_)
 rw[e3,show(#[]:Array UInt8)=(([]:List Nat).map Nat.toUInt8).toArray from rfl,jflat,List.nil_append]
 exact Pst.hereT H (.bytes _ λx hx=>by obtain⟨b,hb1,hb2⟩:=List.mem_flatten.mp hx;exact hall b hb1 x hb2) h
end
section
open Sem (wp)
theorem Zev{w:World}{A:Around}{f self:Value}(ho:s.heap.get? m=some (methodObj f self))(h:wpP (model prog w) A (call f (self::vs)) Q E s):wpP (model prog w) A (call (.ref m) vs) Q E s:=λht Γ p hΓ b cl=>by
 have h:wp _ Γ (runValue (.call f ⟨self::vs,[]⟩)) _ _ p s:=h ht Γ p hΓ b cl
 show wp _ Γ (runValue (.call (.ref m) ⟨vs,[]⟩)) _ _ p s
 rw[Sem.wp_runValue] at h ⊢
 rw[wpCode_iff_wp]
 show wp _ _ (callAny (.ref m) ⟨vs,[]⟩) _ _ p s
 unfold callAny
 rw[Sem.wp_bind',Sem.wp_load_of _ _ _ _ _ ho]
 induction f <;> exact⟨rfl,h⟩
theorem Zcq{A:Around}{f:Value}{args:List (Bool×Sem Value)}{P:Heap->Prop}(hst:args.any (·.1)=true)
  (hk:∀ h,P h->∃ k,(k=Keeper.frame\/k=Keeper.machine\/k=Keeper.boundFrame\/k=Keeper.caller)/\Looks M h (keeperOf f) k)
  (h:wpP M A (evalArgs f true args []) (λa s_1=>a.kw=[]/\P s_1.heap/\wpP M A (call f a.pos) Q E s_1) E s):wpP M A (callWith pos f [] args []) Q E s:=by
 unfold callWith
 refine Zaa (Zae (Zad h (λa s_1 h_1=>Zaa (Zac ?_)) λY Y x=>x))
 obtain⟨hkw,hP,hc⟩:=h_1
 obtain⟨k,hk',L⟩:=hk _ hP
 rw[show(args.any (·.1)||([]:List (Option Str×Sem Value)).any (·.1.isNone))=true by rw[hst];rfl,hkw,List.nil_append]
 refine Zaa (.of (L.here ?_))
 have tail:∀ {t:Sem Value},wpP M A t Q E s_1->wpP M A (t >>= λr=>holding [r] point >>= λY=>pure r) Q E s_1:=
  λht=>Zaa (Zad ht (λr s_2 hr=>Zaa (Zae (Zcy (Zab hr)))) λY Y x=>x)
 have marked (mk:Value):wpP M A (callMarked mk f a.pos []) Q E s_1:=by unfold callMarked;exact Zk5 hc
 rcases hk' with rfl|rfl|rfl|rfl <;> dsimp only <;> first|exact tail (marked _)|exact tail (Zas hc)
def Zpp(b:V)(l:List V)(J:St):Prop:=l.length<=sizeLine/\(b = .tup l\/∃ a,b = .ref a/\LkO a (.list l) J.obs)
theorem Zf3{b:V}(h:Zpp b l J){v:Value}(H:Holds C J s)(r:VR s.heap b v):wpAny (model C.G.prog C.G.w) C.A (notIterableAtAll v) (λq s_2=>q=false/\wpAny (model C.G.prog C.G.w) C.A (collect v) (λvs s_3=>VRs s_3.heap l vs/\Holds C J s_3/\TK s.heap s_3.heap) C.E s_2) C.E s:=by
 exists (C J s l b v),h,H,r
 have key:∃ a T o ws n,v = .ref a/\s.heap.get? a=some o/\o.cls = .type T/\o.data = .seq ws n/\(T = "list" \/ T = "tuple")/\VRs s.heap l ws.toList:=by
  obtain⟨_,rfl|⟨a,rfl,hl⟩⟩:=h
  .exact r.tupK λa vs n e rl e0=>⟨a,_,_,vs.toArray,n,e0,e,rfl,rfl,.inr rfl,rl⟩
  .o_facts r
   exact Zbp (H.list hl) λws n e rl=>⟨a,_,_,ws.toArray,n,rfl,e,rfl,rfl,.inl rfl,rl⟩
 obtain⟨a,T,o,ws,n,rfl,ho,hc,hd,hT,rl⟩:=key
 have z:wpAny (model C.G.prog C.G.w) C.A (collect (.ref a)) (λvs s_3=>VRs s_3.heap l vs/\Holds C J s_3/\TK s.heap s_3.heap) C.E s:=
  wpAny_collect_seq a hT ho hc hd (λh' hk=>⟨rl.mono (.of_ext hk),H.ext hk s.toks,.of_ext hk⟩) (by have:=rl.length;rw[Array.length_toList] at this;rw[this];exact h.1)
 unfold notIterableAtAll
 rcases hT with rfl|rfl
 .exact Qh (wpAny_specialOf ⟨o,ho,hc⟩ PySem.F.slot_list_iter.lookup (Qi ⟨rfl,z⟩))
 .exact Qh (wpAny_specialOf ⟨o,ho,hc⟩ PySem.F.slot_tuple_iter.lookup (Qi ⟨rfl,z⟩))
theorem Zwz{sp:Pos}{K:List V->Wl}(h:EV C (eval e env) J λb J_1=>∃ l,Zpp b l J_1/\K l J_1):LV C (spliced (backTo pos (starEach [.Starred e sp] env))) J K:=λs H=>by
 show wpP _ _ (spliced [(true,do let v <- eval e env;standAt pos;pure v)]) _ _ _
 rw[spliced]
 refine Zaa (Zaa (h.step H λb J_1 v s_1 k r H_1 t=>Zaa (Zac (Zab ?_))))
 obtain⟨l,hi,k⟩:=k
 refine Zaa (Zad (.of (Zf3 hi H_1 r)) (λq s_2 z=>?_) λY Y e=>e)
 obtain⟨rfl,z⟩:=z
 simp only[Bool.false_eq_true,if_false]
 refine Zaa (Zad (.of z) (λvs s_3 y=>?_) λY Y e=>e)
 obtain⟨rl,H_3,t_3⟩:=y
 exact Zaa (Zae (Zab (Zab ⟨l,J_1,k,by rw[List.append_nil];exact rl,H_3,t.trans t_3⟩)))
def KeepAt(C:Cx)(f:V)(J:St):Prop:=∀ s fv,Holds C J s->VR s.heap f fv->∃ k,(k=Keeper.frame\/k=Keeper.machine\/k=Keeper.boundFrame\/k=Keeper.caller)/\Looks (model C.G.prog C.G.w) s.heap (keeperOf fv) k
theorem Zrd{f:V}{sp:Pos}(h:EV C (eval e env) J λb J_1=>∃ l,Zpp b l J_1/\KeepAt C f J_1/\CF C f l J_1 K):CA C f [] [.Starred e sp] pos env J K:=λs fv fs H rf rfs=>by
 obtain rfl:=rfs.nilE
 refine Zcq (P:=λh=>∃ k,(k=Keeper.frame\/k=Keeper.machine\/k=Keeper.boundFrame\/k=Keeper.caller)/\Looks (model C.G.prog C.G.w) h (keeperOf fv) k) rfl (λY x=>x) ?_
 show wpP _ _ (evalArgs fv true [(true,do let v <- eval e env;standAt pos;pure v)] []) _ _ _
 unfold evalArgs
 refine Zaa (Zaa (h.step H λb J_1 v s_1 k r H_1 t=>Zaa (Zac (Zab (Zaa (Zab ?_))))))
 obtain⟨l,hi,hk,hc⟩:=k
 refine Zae ?_
 refine Zaa (Zab ?_)
 refine Zaa (Zaa (Zad (.of (Zf3 hi H_1 r)) (λq s_2 z=>?_) λY Y e=>e))
 obtain⟨rfl,z⟩:=z
 refine Zae (vs:=[]) (Zad (.of z) (λvs s_3 y=>?_) λY Y e=>e)
 obtain⟨rl,H_3,t_3⟩:=y
 exact Zab ⟨rfl,hk s_3 fv H_3 (rf.mono (t.trans t_3)),Zad (hc s_3 fv vs H_3 (rf.mono (t.trans t_3)) rl) (λY Y p=>p.tk (t.trans t_3)) λY Y e=>e⟩
theorem Zrg{f:V}{args:List Expr}(hst:(backTo pos (starEach args env)).any (·.1)=true)(h1:∀ x,backTo pos (starEach args env)≠[(true,x)])
  (h:LV C (spliced (backTo pos (starEach args env))) J λl J_1=>KeepAt C f J_1/\CF C f l J_1 K):CA C f [] args pos env J K:=λs fv fs H rf rfs=>by
 obtain rfl:=rfs.nilE
 refine Zcq (P:=λh=>∃ k,(k=Keeper.frame\/k=Keeper.machine\/k=Keeper.boundFrame\/k=Keeper.caller)/\Looks (model C.G.prog C.G.w) h (keeperOf fv) k) hst (λY x=>x) ?_
 have main:=h.step H (Q:=λvs s_1=>(∃ k,(k=Keeper.frame\/k=Keeper.machine\/k=Keeper.boundFrame\/k=Keeper.caller)/\Looks (model C.G.prog C.G.w) s_1.heap (keeperOf fv) k)/\wpP (model C.G.prog C.G.w) C.A (call fv vs) (Pst C VR K s) C.E s_1) λl J_1 vs s_1 k rl H_1 t=>⟨k.1 s_1 fv H_1 (rf.mono t),Zad (k.2 s_1 fv vs H_1 (rf.mono t) rl) (λY Y p=>p.tk t) λY Y e=>e⟩
 have fin:∀ {args:List (Bool×Sem Value)},wpP (model C.G.prog C.G.w) C.A (spliced args) (λvs s_1=>(∃ k,(k=Keeper.frame\/k=Keeper.machine\/k=Keeper.boundFrame\/k=Keeper.caller)/\Looks (model C.G.prog C.G.w) s_1.heap (keeperOf fv) k)/\wpP (model C.G.prog C.G.w) C.A (call fv vs) (Pst C VR K s) C.E s_1) C.E s->wpP (model C.G.prog C.G.w) C.A (spliced args >>= λpos=>holding (pos++(none:Option Value).toList) (do
    if ([]:List (Option Str×Sem Value)).all (·.1.isSome) then
     let kw:=(([]:List (Option Str×Sem Value)).filterMap (·.1)).zip (<- evalAll (([]:List (Option Str×Sem Value)).map (·.2)))
     return (⟨pos,kw⟩:Args)
    pure ⟨pos,[]⟩)) (λa s_1=>a.kw=[]/\(∃ k,(k=Keeper.frame\/k=Keeper.machine\/k=Keeper.boundFrame\/k=Keeper.caller)/\Looks (model C.G.prog C.G.w) s_1.heap (keeperOf fv) k)/\wpP (model C.G.prog C.G.w) C.A (call fv a.pos) (Pst C VR K s) C.E s_1) C.E s:=λh=>
  Zaa (Zad h (λvs s_1 h_1=>Zae (Zab (a:=(⟨vs,[]⟩:Args)) ⟨rfl,h_1⟩)) λY Y e=>e)
 generalize backTo pos (starEach args env)=ts at main hst h1
 unfold evalArgs
 match ts with
 | []=>exact fin main
 | [(true,x)]=>exact absurd rfl (h1 x)
 | [(false,x)]=>exact fin main
 | (b,x)::y::l=>induction b <;> exact fin main
noncomputable def Zfe(K:Frag)(Cl:Addr)(name:Str)(f:Addr):Bool:=plainGet K Cl name&&hasDictIn K Cl&&(findIn K (.ref Cl) name==some (some (.ref f)))&&isFn K (.ref f)&&(specialIn K (.ref f) "__get__" == some (some (.builtin "function.__get__")))&&(takesIn K (.ref f)==some false)&&!copiedNames.contains name&&fnIn K f
theorem Zvy{x Cl:Addr}{l:Wn}{name:Str}(f:Addr)(hx:LkO x (.inst Cl dx) J.obs)(hd:LkO dx (.attrs l) J.obs)(hs:Zfe C.G.K Cl name f=true)(hl:l.lookup name=none)(k:∀ m,K (.ref m) ⟨J.loc,(m,.raw (methodObj (.ref f) (.ref x)))::J.obs⟩):GA C name (.ref x) J K:=λs v H r=>by
 o_facts r
 obtain⟨es,n,ra,ed,I⟩:=H.inst hx hd
 simp only[Zfe,Qt,beq_iff_eq,Bool.not_eq_true'] at hs
 obtain⟨⟨⟨⟨⟨⟨⟨h1,h2⟩,h3⟩,h4⟩,h5⟩,h6⟩,h7⟩,_⟩:=hs
 have lk:lookIn name { cls:=.type "dict",data:=.dict es.toArray n }=some none:=by
  have z:=Zc5 (n:=n) (x:=name) ra
  rw[hl] at z
  exact z
 refine .of (get_bind H.inK I (plainGet_of h1).1 (findObj_fn h2 h3 h5 h6 h7 lk) (plainGet_of h1).2 (wpAny_call (fn_get (s:={ s with toks:=s.toks+1 }) H.inK (beq_iff_eq.mp h4) (handed_on rfl ?_))))
 exact⟨_,_,k _,.ref _,H.alloc (n:=s.toks+1) Qa (Qw _) (Qg _ rfl) (.raw _ λvs n e=>absurd (Value.type.inj (congrArg Obj.cls e)) (by decide)),.of_ext Qa⟩
theorem Zyt{x:Addr}(hf:fnIn C.G.K f=true)(h:LkO m (.raw (methodObj (.ref f) (.ref x))) J.obs):KeepAt C (.ref m) J:=λs fv H r=>by
 o_facts r
 refine Zaj (H.obj h) λO e ro=>?_
 obtain rfl:O=_:=OR.rawE ro
 obtain⟨k,a,b⟩:=keeps_M (M:=model C.G.prog C.G.w) hf s.heap ⟨e,H.inK⟩
 exact⟨k,a.elim .inl λa=>.inr (a.elim .inl λa=>.inr (.inl a)),b⟩
theorem Zwj{x:Addr}(h:Pick (m,.raw (methodObj (.ref f) (.ref x))) J.obs obs')(hc:CF C (.ref f) (.ref x::l) ⟨J.loc,obs'⟩ K):CF C (.ref m) l J K:=λs fv vs H rf rl=>by
 o_facts rf
 refine Zaj (H.obj (LkO.of_mem (h.perm.mem_iff.mpr (.head _)))) λO e ro=>?_
 obtain rfl:O=_:=OR.rawE ro
 exact Zev e (hc s (.ref f) (.ref x::vs) (H.drop h) (.ref _) (.cons (.ref _) rl))
end
noncomputable def Z45(c:Addr):Ob where
 P _ o:=∃ t,o={ cls:=.ref c,data:=.fields #[.ref t,.none,.none,.none,.bool false,.none] }
 mono _ _ _ _ h:=h
 noTup _ _ h vs n e:=by obtain⟨t,rfl⟩:=h;cases e
noncomputable def oFly(c T:Addr):Ob where
 P _ o:=∃ (vs:Array Value) (a0:Value),o.cls=Value.ref c/\o.data = .fields vs/\vs[0]?=some a0/\vs[1]?=some (Value.ref T)
 mono _ _ _ _ h:=h
 noTup _ _ h vs n e:=by obtain⟨_,_,_,h,_⟩:=h;subst e;cases h
noncomputable def oTb:Ob where
 P _ o:=∃ ts:Array Value,o.data = .fields ts/\ts[3]?=some Value.none
 mono _ _ _ _ h:=h
 noTup _ _ h vs n e:=by obtain⟨_,h,_⟩:=h;subst e;cases h
structure Zk4(G:Gl)(c:Addr):Prop where
 ok:∃ (nm q:Str) (N:Addr) (bs:List Value) (hd:Bool) (sn:List Str) (sub:List Value) (ab:Bool) (col:Option Bool) (dd:Option Addr) (k0 k1 k2 k3 k5:Option Value) (mN:Str->Option Value),
  G.K.lookup c=some (excClassObj nm q c N bs [.type "ValueError",.type "Exception",.type "BaseException",.type "object"] hd sn sub ab col dd k0 k1 k2 k3 k5 "ValueError.__new__") /\
  (∀ h:Heap,(∀ b o,G.K.lookup b=some o->h.get? b=some o)->h.Ns N mN)/\mN "__init__" = none
theorem Holds.kk(H:Holds C J s){b:Addr}(e:C.G.K.lookup b=some o):s.heap.get? b=some o:=H.frz _ _ (C.ok.sub _ _ e)
theorem Z1l(F:Zk4 C.G c)(hz:args.length<=sizeLine)(k:∀ e,K (.ref e) ⟨J.loc,(e,.own (Z45 c))::J.obs⟩):CF C (.ref c) args J K:=λs fv vs H rf rl=>by
 o_facts rf
 obtain⟨nm,q,N,bs,hd,sn,sub,ab,col,dd,k0,k1,k2,k3,k5,mN,h1,h2,h3⟩:=F.ok
 refine .of (wpAny_call_exc_sub PySem.F.excBase_ValueError (H.kk h1) (h2 _ λb o e=>H.kk e) h3 (λh' e m=>?_) (by rw[rl.length];exact hz))
 obtain⟨t,ht,_⟩:=m.there
 have he:∀ {b o},s.heap.get? b=some o->b≠e:=λe1 q=>by rw[q,m.new] at e1;cases e1
 refine⟨_,_,k e,.ref e,(H.ext m.keeps s.toks).more ht (.own ⟨t,rfl⟩) ?_ (λhm=>?_) ?_,.of_ext m.keeps⟩
 .obtain⟨_,⟨o,_,_,e1,_⟩,_⟩:=H.loc
  exact he e1
 .obtain⟨p,hp,q⟩:=Qf hm
  obtain⟨O,e1,_⟩:=H.obs p hp
  exact he e1 q
 .cases z:C.fz e with
  | none=>rfl
  | some o=>exact absurd rfl (he (H.frz _ _ z))
theorem Zrx{x:Sem Value}:raiseStmt env (some x) none=x >>= λv=>raiseStmt env (some (pure v)) none:=by
 unfold raiseStmt
 simp -iota only[pure_bind]
 rfl
theorem Zyi{x:Expr}{l:Wm}{K:Wj}(F:Zk4 C.G c)(hh:C.A.handled=none)
  (h:EV C (eval x C.env) J λv J'=>∃ e,v = .ref e/\J'=⟨l,(e,.own (Z45 c))::rest⟩/\∀ s',Holds C J' s'->C.E (.ref e) s'):XV C (exec (.Raise (some x) none pos) C.env) J K:=λs H=>by
 rw[arm_exec_Raise]
 refine Zaa (Zac ?_)
 show wpP _ _ (raiseStmt C.env (some (eval x C.env >>= λv=>standAt pos >>= λY=>pure v)) none) _ _ _
 rw[Zrx,bind_assoc]
 obtain⟨nm,q,N,bs,hd,sn,sub,ab,col,dd,k0,k1,k2,k3,k5,mN,h1,h2,h3⟩:=F.ok
 refine Zaa (h.step H λa J' v s' hk hr H' t=>?_)
 rw[bind_assoc]
 refine Zaa (Zac ?_)
 rw[pure_bind]
 obtain⟨e,rfl,rfl,hE⟩:=hk
 o_facts hr
 obtain⟨O,e1,ro⟩:=H'.obs _ (.head _)
 obtain⟨t,rfl⟩:=OR.ownE ro
 exact .of (wpAny_raiseStmt_made_sub (PySem.F.excBase_ValueError).hasBase hh (Qi ⟨e,t,rfl,H'.kk h1,e1,hE s' H'⟩))
def RErr(h:Heap)(a:V)(x:Except Value Value):Prop:=∃ v,x = .error v/\VR h a v
noncomputable def Zdl(c:Addr)(e T:Addr):Wg:=[(e,.own (oFly c T)),(T,.own oTb)]
noncomputable abbrev Cx.wE(C:Cx)(E:Wh):Cx:={ C with E:=E }
theorem Zni{K':Wg->Prop}
  (F:Z4j C.G RErr (λvs=>(call (.ref f) vs).attempt) n args sel λa o=>∃ e T o2,a = .ref e/\o=Zdl c e T++o2/\K' o2) (g:Good C.A n) (hf:FrIn C fr) (P:J.obs.Perm (sel++(Zau fr)))
  (k:∀ e T o2 s',K' o2->Holds C ⟨J.loc,Zdl c e T++(o2++Zau fr)⟩ s'->C.E (.ref e) s'):CF C (.ref f) args J K:=λs fv vs H rf rl=>by
 o_facts rf
 have h:=Zip (K:=λa J'=>∃ e T o2,a = .ref e/\J'=⟨J.loc,Zdl c e T++(o2++Zau fr)⟩/\K' o2) (rest:=[]) F g hf (by rw[List.append_nil];exact P)
  (λr o hr=>by obtain⟨e,T,o2,h1,h2,h3⟩:=hr;exact⟨e,T,o2,h1,by rw[h2,List.append_nil,Qs],h3⟩) s vs H rl
 intro ht Γ p hΓ b cl
 have h:=h ht Γ p hΓ b cl
 rw[Sem.wp_attempt] at h
 refine Sem.wp_mono _ Γ _ (λa p s' q=>?_) (λa p s' q=>?_) p s h
 .obtain⟨r,J',_,⟨v,hv,_⟩,_⟩:=q
  cases hv
 .obtain⟨r,J',⟨e,T,o2,rfl,rfl,h3⟩,⟨v,hv,hr⟩,H',_⟩:=q
  cases hv
  o_facts hr
  exact k e T o2 s' h3 H'
theorem Zol{cl:Addr}{args':List V}{K':Wg->Prop}{names rest:List Str}
  (DD:Dfn G f fd body)
  (hnl:names.length=args'.length) (hbind:Binds G fd names args args')
  (hloc:∀ x∈names,fd.scope.names.lookup x=some .local) (hcell:∀ x∈fd.scope.names,x.2 ≠ .cell) (hnn:(names++rest).Nodup)
  (hl:names.zip (args'.map some)++rest.map (·,none)=loc)
  (h:∀ (fr:Frs) (R:Ar G n) (L:Addr) (A0:Around) (E:Wh),FrOf fr A0->R.A=A0.deeper (callEnv fd L f) ->
   (∀ e l o2 s',K' o2->Holds ((R.cx (callEnv fd L f) DD.g DD.bt).wE E) ⟨l,(e,.own (Z45 cl))::(o2++Zau fr)⟩ s'->E (.ref e) s')->XV ((R.cx (callEnv fd L f) DD.g DD.bt).wE E) (execs body (callEnv fd L f)) ⟨loc,obs++Zau fr⟩ λY Y=>False) :
  Z4j G RErr (λvs=>(call (.ref f) vs).attempt) (n+1) args obs λa o=>∃ e T o2,a = .ref e/\o=Zdl cl e T++o2/\K' o2:=by
 intro fr A fz s vs E hA g ok L R
 refine Zbb (Zhz DD hnl hbind hloc hcell hnn hl g ok L R λL1 s0 H tk0=>?_)
 let C0:=((⟨A.deeper (callEnv fd L1 f),fz,s.gens,s.drawn,s.os,ok,g.deeper _⟩:Ar G n).cx (callEnv fd L1 f) DD.g DD.bt)
 let Ra:Ar G n:=⟨A.deeper (callEnv fd L1 f),fzT C0 s0.heap,s.gens,s.drawn,s.os,okT (C:=C0) s0.heap,g.deeper _⟩
 let E1:Wh:=λv s'=>∃ e l o2,v = .ref e/\K' o2/\Holds (C0.sw (fzT C0 s0.heap) (λY Y=>False) (okT s0.heap)) ⟨l,(e,.own (Z45 cl))::(o2++Zau fr)⟩ s'
 have hb:=h fr Ra L1 A E1 hA rfl (λe l o2 s' k1 H'=>⟨e,l,o2,rfl,k1,⟨H'.frz,H'.loc,H'.obs,H'.nd,H'.ap,H'.nn,H'.gens,H'.drawn,H'.os⟩⟩) s0 (H.toT E1)
 refine Zad hb (λa s' q=>by obtain⟨_,_,f,_⟩:=q;exact f.elim) ?_
 rintro v s1 ⟨e,l,o2,rfl,k1,H1⟩
 have H2:=H1.drop (.head)
 obtain⟨O,e1,ro⟩:=H1.obs _ (.head _)
 obtain⟨t,rfl⟩:=OR.ownE ro
 have nd:=Qc H1.nd
 have nd2:=Qc nd.2
 have hx:Xs (C0.sw (fzT C0 s0.heap) (λY Y=>False) (okT s0.heap)) ⟨l,o2++Zau fr⟩ s1 [e]:=λy hy=>by
  obtain rfl:=List.mem_singleton.mp hy
  exact⟨⟨_,_,e1,rfl⟩,λp hp q=>nd2.1 (Qe ⟨p,hp,q⟩),λq=>nd.1 (q ▸ .head _),H1.ap _ (.tail _ (.head _))⟩
 obtain⟨ll,hfr,hin⟩:=hA.deeper (callEnv fd L1 f)
 have FF:=FrIn.fun (xs:=[e]) H2 (fr:=fr) (l:=ll) (λp hp=>Qk _ hp) (by show fd.scope.kind≠_;rw[DD.k];decide) rfl hin
 refine .of (wpAny_leaving_firstW hfr FF rfl e1 (λb o eb=>of_hideAll _ eb) (hideAll_none _ (.tail _ (.head _))) rfl rfl rfl λh' ⟨n1,n2,n3,n4⟩=>?_)
 obtain⟨oe,ws,T,oT,ts,f1,⟨f2,f3⟩,f4,f5,f6,f7,f8,f9,f10⟩:=n3
 obtain⟨H3,tk3⟩:=H2.slots (λp hp=>Qk _ hp) hx n1 n4
 have frm:∀ b∈fr.map (·.1),b≠T:=λb hb q=>by
  obtain⟨p,hp,rfl⟩:=Qf hb
  obtain⟨O,g1,g2⟩:=H3.obs _ (Qk _ (Qe ⟨p,hp,rfl⟩))
  obtain⟨es,ep,g3,_⟩:=OR.ownE g2
  have g1:h'.get? p.1=some O:=g1
  rw[q,f8] at g1;cases g1;rw[f9] at g3;cases g3
 have hT:∀ b o,s1.heap.get? b=some o->b≠L1->b≠T:=λb o hb h1 q=>by
  have:(hideAll s1.heap (hid (C0.sw (fzT C0 s0.heap) (λY Y=>False) (okT s0.heap)) fr [e])).get? b=some o:=hideAll_get _ hb λhm=>by
   rcases Qb hm with z|z
   .exact h1 z
   rcases List.mem_append.mp z with z|z
   .exact f7 (q.symm.trans (List.mem_singleton.mp z))
   .exact frm _ z q
  rw[q,f6] at this;cases this
 obtain⟨H4,tk4⟩:=H.ofT (E:=λY Y=>False) H3
 have hz:∀ b,(C0.sw (fzT C0 s0.heap) (λY Y=>False) (okT s0.heap)).fz b=none->fz b=none:=λb hb=>by
  cases z:fz b with
  | none=>rfl
  | some o=>rw[show(C0.sw (fzT C0 s0.heap) (λY Y=>False) (okT s0.heap)).fz b=some o from Zey C0 _ z] at hb;cases hb
 have ndo:=(Qc H2.nd)
 have hTo:T ∉ (o2++Zau fr).map (·.1):=λhm=>by
  obtain⟨p,hp,q⟩:=Qf hm
  obtain⟨O,g1,_⟩:=H2.obs p hp
  exact hT _ _ g1 (λz=>ndo.1 (Qe ⟨p,hp,z⟩)) q
 refine⟨.ref e,Zdl cl e T++(o2++Zau fr),⟨Zdl cl e T++o2,by rw[Qs],e,T,o2,rfl,rfl,k1⟩,⟨.ref e,rfl,.ref e⟩,⟨H4.frz,λp hp=>?_,?_,λa ha=>?_⟩,tk0.trans tk4,H4.gens,H4.drawn,H4.os⟩
 .rcases Qb hp with rfl|hp
  .exact⟨oe,f1,.own ⟨ws,_,f2,f4,f3,f5⟩⟩
  rcases Qb hp with rfl|hp
  .exact⟨oT,f8,.own ⟨ts,f9,f10⟩⟩
  .exact H4.obs p hp
 .refine Qd ⟨λhm=>?_,Qd ⟨hTo,ndo.2⟩⟩
  rcases Qb hm with q|q
  .exact f7 q.symm
  .exact nd2.1 q
 .rcases Qb ha with rfl|ha
  .exact hz _ (H1.ap _ (.tail _ (.head _)))
  rcases Qb ha with q|ha
  .rw[show a=T from q]
   refine hz _ ?_
   cases z:(C0.sw (fzT C0 s0.heap) (λY Y=>False) (okT s0.heap)).fz T with
   | none=>rfl
   | some o=>exact absurd rfl (hT T o (H1.frz _ _ z) λq=>by have:=H1.ap _ (.head _);rw[show(C0.sw (fzT C0 s0.heap) (λY Y=>False) (okT s0.heap)).env.locals=T from q.symm,z] at this;cases this)
  .exact H4.ap _ (.tail _ ha)
theorem Z31{suite:List Stmt}{b0:Stmt}{px:Pos}{K2:Wl}{K:Wj}(F:Zk4 C.G c)(hf:FrIn C fr)
  (hb:∀ (fz:Addr->Option Obj) (ok:C.G.Ok fz) (E:Wh),
   (∀ e T l o s',K2 ⟨l,o⟩->Holds (C.sw fz E ok) ⟨l,Zdl c e T++o⟩ s'->E (.ref e) s')->XV (C.sw fz E ok) (execs body C.env) J K)
  (hs:∀ Je,K2 Je->(∀ p∈Zau fr,p∈Je.obs)/\∀ e,XV (C.hd e) (execs (b0::suite) C.env) Je K)
  (hk:C.env.scope.kind = .function) (hx:C.env.kindOf x=some .globalImplicit) (hv:C.G.mg x=some (.ref c)) (hd:(x==("__debug__" : Str))=false:=by decide) :
  XV C (exec (.Try body [.ExceptHandler (some (.Name x px)) none (b0::suite) pos'] [] [] pos) C.env) J K:=
 Zu1 (cls:=.ref c) hf (λfz ok E hE=>hb fz ok E λe T l o s' k2 H'=>by
  have nd:=Qc H'.nd
  have nd2:=Qc nd.2
  have nd3:=Qc nd2.2
  obtain⟨O,e1,ro⟩:=H'.obs _ (.head _)
  obtain⟨O2,e2,ro2⟩:=H'.obs _ (.tail _ (.head _))
  obtain⟨vs,a0,h1,h2,h3,h4⟩:=OR.ownE ro
  obtain⟨ts,h5,h6⟩:=OR.ownE ro2
  have hne:T≠e:=λq=>nd2.1 (q ▸ .head _)
  refine hE e ⟨l,o⟩ s' [e,T] k2 ((H'.drop .head).drop .head) (λy hy=>?_) (.head _) ⟨O,vs,a0,e1,h1,h2,h3,.inr ⟨T,O2,ts,.tail _ (.head _),h4,hne,e2,h5,h6⟩⟩
  rcases Qb hy with rfl|hy
  .exact⟨⟨_,_,e1,h2⟩,λp hp q=>nd2.1 (.tail _ (Qe ⟨p,hp,q⟩)),λq=>nd.1 (q ▸ .head _),H'.ap _ (.tail _ (.head _))⟩
  .obtain rfl:=List.mem_singleton.mp hy
   exact⟨⟨_,_,e2,h5⟩,λp hp q=>nd3.1 (Qe ⟨p,hp,q⟩),λq=>nd.1 (q ▸ .tail _ (.head _)),H'.ap _ (.tail _ (.tail _ (.head _)))⟩) hs hk hx (.inl hv)
  (λA E Q s e oe hk h1 h2 hq=>by
   obtain⟨nm,q,N,bs,hd,sn,sub,ab,col,dd,k0,k1,k2,k3,k5,mN,g1,_⟩:=F.ok
   exact wpAny_excMatches_sub_self (hk _ _ (C.ok.sub _ _ g1)) h1 h2 (PySem.F.excBase_ValueError).hasBase hq) hd
end
namespace MI
open Mine
inductive A where
 | none|bool (b:Bool)|int (i:Int)|ord (c:Nat)|str (l:List Nat)|bytes (l:List Nat)
 | ty (n:Nat)|bi (n:Nat)|fz (a:Addr)|ref (h:Nat)|nil|cons (a l:A)|opq (k:Nat)
inductive Lc where
 | nil|no (l:Lc)|so (a:A) (l:Lc)
inductive O where
 | list (l:List A)|ba (l:List Nat)|liter (h i:Nat)|riter (x:Int) (left:Nat) (step:Int)|titer (l:A) (i:Nat)|enum (it i:Nat)
 | cell (v:Lc)|dict (e:Option Nat) (l:List (A×A))|kiter (d i n e:Nat)|viter (d i n e:Nat)|vview (d:Nat)
 | inst (c:Addr) (dx:Nat)|attrs (l:List (Str×A))|slots (c:Addr) (dx:Nat) (l:Lc)|emp|set (l:List A)|bnext (it:Nat)|lit (l:Nat)|range (a b c:Int)|bm (f:Addr) (h:Nat)
inductive Hp where
 | nil|cons (h:Nat) (o:O) (l:Hp)
structure S where
 loc:Lc
 cel:List Nat
 obs:Hp
 nx:Nat
structure Cl(α:Type) where
 run:α
abbrev KS:=S->Bool
abbrev KA:=A->S->Bool
noncomputable def iff(b:Bool)(x y:Bool):Bool:=Bool.rec (motive:=Wf) y x b
noncomputable def gd(b x:Bool):Bool:=Bool.rec (motive:=Wf) false x b
noncomputable def frc(n:Nat)(k:Nat->Bool):Bool:=Nat.rec (motive:=Wf) (k 0) (λm Y=>k (Nat.add m 1)) n
noncomputable def fri(i:Int)(k:Int->Bool):Bool:=Int.rec (motive:=Wf) (λn=>frc n λn=>k (.ofNat n)) (λn=>frc n λn=>k (.negSucc n)) i
noncomputable def opt{α:Type}(o:Option α)(n:Bool)(k:α->Bool):Bool:=Option.rec (motive:=Wf) n k o
noncomputable def S.w(s:S)(k:Lc->List Nat->Hp->Nat->Bool):Bool:=S.rec (motive:=Wf) k s
section
variable (a:A)
noncomputable abbrev F0:Bool:=false
noncomputable def A.onInt(k:Int->Bool):Bool:=A.rec (motive:=Wf) F0 We k We We We We We We We F0 Wb We a
noncomputable def A.onBytes(k:List Nat->Bool):Bool:=A.rec (motive:=Wf) F0 We We We We k We We We We F0 Wb We a
noncomputable def A.onRef(k:Nat->Bool):Bool:=A.rec (motive:=Wf) F0 We We We We We We We We k F0 Wb We a
noncomputable def A.sw(ki:Int->Bool)(kb:List Nat->Bool)(kr:Nat->Bool)(kt:Bool):Bool:=A.rec (motive:=Wf) F0 We ki We We kb We We We kr kt (λY Y Y Y=>kt) We a
end
noncomputable def ieq(i j:Int):Bool:=Int.rec (motive:=Wf) (λn=>Int.rec (motive:=Wf) (λm=>Nat.beq n m) (λY=>false) j) (λn=>Int.rec (motive:=Wf) (λY=>false) (λm=>Nat.beq n m) j) i
noncomputable def ile(i j:Int):Bool:=Int.rec (motive:=Wf) (λn=>Int.rec (motive:=Wf) (λm=>Nat.ble n m) (λY=>false) j) (λn=>Int.rec (motive:=Wf) (λY=>true) (λm=>Nat.ble m n) j) i
noncomputable def Z4z(i j:Int):Int:=Int.rec (motive:=λY=>Int) (λn=>Int.rec (motive:=λY=>Int) (λm=>.ofNat (Nat.add n m)) (λY=>Int.add i j) j) (λY=>Int.add i j) i
noncomputable def isub(i j:Int):Int:=Int.rec (motive:=λY=>Int) (λn=>Int.rec (motive:=λY=>Int) (λm=>Bool.rec (motive:=λY=>Int) (Int.sub i j) (.ofNat (Nat.sub n m)) (Nat.ble m n)) (λY=>Int.sub i j) j) (λY=>Int.sub i j) i
noncomputable def nC:Nat:=2097152
noncomputable def Zg6(c:Nat):Bool:=gd (Nat.ble 2097152 c) (Nat.ble c 2097159)
noncomputable def Zz0(c:Nat):Bool:=Nat.ble c 2097151
noncomputable def eqC2(a b:Nat)(k:Bool->Bool):Bool:=iff (Zz0 a) (gd (Zz0 b) (k (Nat.beq a b))) (gd (Zg6 a) (gd (Zg6 b) (k (Nat.beq a b))))
noncomputable def eqCs(l:List Nat):List Nat->(Bool->Bool)->Bool:=List.rec (motive:=λY=>List Nat->(Bool->Bool)->Bool) (λm k=>List.rec (motive:=Wf) (k true) (λY Y Y=>k false) m)
 (λa Y ih m k=>List.rec (motive:=Wf) (k false) (λb m Y=>eqC2 a b λt=>iff t (ih m k) (k false)) m) l
noncomputable def Znd(a b:A)(k:Bool->Bool):Bool:=A.rec (motive:=Wf) F0 We (λi=>b.onInt λj=>k (ieq i j))
 (λc=>A.rec (motive:=Wf) F0 We We (λd=>gd (Zg6 c) (gd (Zg6 d) (k (Nat.beq c d)))) We We We We We We F0 Wb We b)
 We (λl=>b.onBytes λm=>eqCs l m k) We We We We F0 Wb We a
noncomputable def A.onT(a:A)(kn:Bool)(kc:A->A->Bool):Bool:=A.rec (motive:=Wf) F0 We We We We We We We We We kn (λa b Y Y=>kc a b) We a
noncomputable def eqT2(a:A):A->(Bool->Bool)->Bool:=A.rec (motive:=λY=>A->(Bool->Bool)->Bool) Wd Wc Wc Wc Wc Wc Wc Wc Wc Wc
 (λb k=>b.onT (k true) Wd) (λx Y Y ih b k=>b.onT F0 λy b=>Znd x y λt=>ih b λu=>k (gd t u)) Wc a
noncomputable def Zx0(a:A):Bool:=A.rec (motive:=Wf) F0 We We We We We We We We We true (λY Y Y Y=>true) We a
noncomputable def eqS3(a b:A)(k:Bool->Bool):Bool:=iff (Zx0 a) (eqT2 a b k) (Znd a b k)
noncomputable def anyE(x:A)(l:List A):(Bool->Bool)->Bool:=List.rec (motive:=λY=>(Bool->Bool)->Bool) (λk=>k false) (λy Y ih k=>eqS3 y x λt=>ih λu=>k (iff t true u)) l
noncomputable def Zmt(a:A):Bool:=A.rec (motive:=Wf) F0 We (λY=>true) (λc=>Zg6 c) We We We We We We F0 Wb We a
noncomputable def lkK(x:A)(l:List (A×A))(kn:Bool)(k:A->Bool):Bool:=List.rec (motive:=Wf) kn (λp Y ih=>Prod.rec (motive:=Wf) (λy v=>Znd y x λt=>iff t (k v) ih) p) l
noncomputable def setK(x v:A)(l:List (A×A)):Bool->(List (A×A)->Bool)->Bool:=List.rec (motive:=λY=>Bool->(List (A×A)->Bool)->Bool) (λb k=>iff b (k []) (k [(x,v)])) (λp Y ih b k=>Prod.rec (motive:=Wf) (λy w=>Znd y x λt=>iff t (ih true λl'=>k ((y,v)::l')) (ih b λl'=>k ((y,w)::l'))) p) l
noncomputable def delK(x:A)(l:List (A×A)):Bool->(List (A×A)->Bool)->Bool:=List.rec (motive:=λY=>Bool->(List (A×A)->Bool)->Bool) (λb k=>gd b (k [])) (λp Y ih b k=>Prod.rec (motive:=Wf) (λy w=>Znd y x λt=>iff t (ih true k) (ih b λl'=>k ((y,w)::l'))) p) l
noncomputable def app{α:Type}(l m:List α):(List α->Bool)->Bool:=List.rec (motive:=λY=>(List α->Bool)->Bool) (λk=>k m) (λa Y ih k=>ih λr=>k (a::r)) l
noncomputable def nth{α:Type}(l:List α):Nat->Bool->(α->Bool)->Bool:=List.rec (motive:=λY=>Nat->Bool->(α->Bool)->Bool) (λY n Y=>n) (λa Y ih i n k=>Nat.rec (motive:=Wf) (k a) (λj Y=>ih j n k) i) l
noncomputable def Z47{α:Type}(l:List α)(v:α):Nat->(List α->Bool)->Bool:=List.rec (motive:=λY=>Nat->(List α->Bool)->Bool) Wd (λa l ih i k=>Nat.rec (motive:=Wf) (k (v::l)) (λj Y=>ih j λr=>k (a::r)) i) l
noncomputable def eraN{α:Type}(l:List α):Nat->(List α->Bool)->Bool:=List.rec (motive:=λY=>Nat->(List α->Bool)->Bool) Wd (λa l ih i k=>Nat.rec (motive:=Wf) (k l) (λj Y=>ih j λr=>k (a::r)) i) l
noncomputable def lenN{α:Type}(l:List α):Nat:=List.rec (motive:=λY=>Nat) 0 (λY Y ih=>Nat.add ih 1) l
noncomputable def len{α:Type}(l:List α)(k:Nat->Bool):Bool:=frc (lenN l) λn=>gd (Nat.ble n 100000) (k n)
noncomputable def tkN{α:Type}(l:List α):Nat->(List α->Bool)->Bool:=List.rec (motive:=λY=>Nat->(List α->Bool)->Bool) (λY k=>k []) (λa Y ih i k=>Nat.rec (motive:=Wf) (k []) (λj Y=>ih j λr=>k (a::r)) i) l
noncomputable def drN{α:Type}(l:List α):Nat->(List α->Bool)->Bool:=List.rec (motive:=λY=>Nat->(List α->Bool)->Bool) (λY k=>k []) (λa l ih i k=>Nat.rec (motive:=Wf) (k (a::l)) (λj Y=>ih j k) i) l
noncomputable def clpI(n:Nat)(i:Int)(k:Nat->Bool):Bool:=Int.rec (motive:=Wf) (λm=>iff (Nat.ble m n) (k m) (k n)) (λm=>frc (Nat.sub n (Nat.add m 1)) k) i
noncomputable def slcN{α:Type}(l:List α)(lo hi:Option Int)(k:List α->Bool):Bool:=len l λn=>Option.rec (motive:=λY=>(Nat->Bool)->Bool) (λk=>k 0) (λi k=>clpI n i k) lo λa=>Option.rec (motive:=λY=>(Nat->Bool)->Bool) (λk=>k n) (λi k=>clpI n i k) hi λb=>drN l a λr=>tkN r (Nat.sub b a) k
noncomputable def lkO(h:Nat)(m:Hp)(k:O->Bool):Bool:=Hp.rec (motive:=Wf) false (λh' o Y ih=>Bool.rec (motive:=Wf) ih (k o) (Nat.beq h' h)) m
noncomputable def upO(h:Nat)(o:O)(m:Hp):(Hp->Bool)->Bool:=Hp.rec (motive:=λY=>(Hp->Bool)->Bool) We (λh' o' l ih k=>Bool.rec (motive:=Wf) (ih λl'=>k (.cons h' o' l')) (k (.cons h' o l)) (Nat.beq h' h)) m
noncomputable def rmO(h:Nat)(m:Hp):(Hp->Bool)->Bool:=Hp.rec (motive:=λY=>(Hp->Bool)->Bool) We (λh' o' l ih k=>Bool.rec (motive:=Wf) (ih λl'=>k (.cons h' o' l')) (k l) (Nat.beq h' h)) m
noncomputable def S.new(s:S)(o:O)(k:Nat->S->Bool):Bool:=s.w λlc ce ob n=>frc (Nat.add n 1) λm=>k n ⟨lc,ce,.cons n o ob,m⟩
noncomputable def S.bump(s:S)(k:Nat->S->Bool):Bool:=s.w λlc ce ob n=>frc (Nat.add n 1) λm=>k n ⟨lc,ce,ob,m⟩
noncomputable def S.up(s:S)(h:Nat)(o:O)(k:S->Bool):Bool:=s.w λlc ce ob n=>upO h o ob λob=>k ⟨lc,ce,ob,n⟩
noncomputable def S.rm(s:S)(h:Nat)(k:S->Bool):Bool:=s.w λlc ce ob n=>rmO h ob λob=>k ⟨lc,ce,ob,n⟩
noncomputable def S.lk(s:S)(h:Nat)(k:O->Bool):Bool:=s.w λY Y ob Y=>lkO h ob k
noncomputable def O.sw(o:O)(kl:List A->Bool)(kb:List Nat->Bool)(kd:Option Nat->List (A×A)->Bool)(ks:List A->Bool)(ki:Addr->Nat->Bool)(kt:Addr->Nat->Lc->Bool)(kr:Bool):Bool:=
 O.rec (motive:=Wf) kl kb (λY Y=>kr) (λY Y Y=>kr) (λY Y=>kr) (λY Y=>kr) (λY=>kr) kd (λY Y Y Y=>kr) (λY Y Y Y=>kr) (λY=>kr) ki (λY=>kr) kt kr ks (λY=>kr) (λY=>kr) (λY Y Y=>kr) (λY Y=>kr) o
noncomputable def O.onList(o:O)(k:List A->Bool):Bool:=O.rec (motive:=Wf) k We Wd Wc Wd Wd We Wd Wb Wb We Wd We Wc F0 We We We Wc Wd o
noncomputable def O.onCell(o:O)(k:Lc->Bool):Bool:=O.rec (motive:=Wf) We We Wd Wc Wd Wd k Wd Wb Wb We Wd We Wc F0 We We We Wc Wd o
noncomputable def O.onAttrs(o:O)(k:List (Str×A)->Bool):Bool:=O.rec (motive:=Wf) We We Wd Wc Wd Wd We Wd Wb Wb We Wd k Wc F0 We We We Wc Wd o
noncomputable def O.isEmp(o:O)(k:Bool):Bool:=O.rec (motive:=Wf) We We Wd Wc Wd Wd We Wd Wb Wb We Wd We Wc k We We We Wc Wd o
noncomputable def O.onDict(o:O)(k:Option Nat->List (A×A)->Bool):Bool:=O.rec (motive:=Wf) We We Wd Wc Wd Wd We k Wb Wb We Wd We Wc F0 We We We Wc Wd o
noncomputable def O.onLiter(o:O)(k:Nat->Nat->Bool):Bool:=O.rec (motive:=Wf) We We k Wc Wd Wd We Wd Wb Wb We Wd We Wc F0 We We We Wc Wd o
noncomputable def O.onBnext(o:O)(k:Nat->Bool):Bool:=O.rec (motive:=Wf) We We Wd Wc Wd Wd We Wd Wb Wb We Wd We Wc F0 We k We Wc Wd o
noncomputable def O.onInst(o:O)(k:Addr->Nat->Bool):Bool:=O.rec (motive:=Wf) We We Wd Wc Wd Wd We Wd Wb Wb We k We Wc F0 We We We Wc Wd o
noncomputable def O.onBm(o:O)(k:Addr->Nat->Bool):Bool:=O.rec (motive:=Wf) We We Wd Wc Wd Wd We Wd Wb Wb We Wd We Wc F0 We We We Wc k o
noncomputable def S.lst(s:S)(h:Nat)(k:List A->Bool):Bool:=s.lk h λo=>o.onList k
noncomputable def Lc.get(l:Lc):Nat->(A->Bool)->Bool:=Lc.rec (motive:=λY=>Nat->(A->Bool)->Bool) Wd (λY ih i k=>Nat.rec (motive:=Wf) F0 (λj Y=>ih j k) i) (λa Y ih i k=>Nat.rec (motive:=Wf) (k a) (λj Y=>ih j k) i) l
noncomputable def Lc.set(l:Lc)(v:A):Nat->(Lc->Bool)->Bool:=Lc.rec (motive:=λY=>Nat->(Lc->Bool)->Bool) Wd (λl ih i k=>Nat.rec (motive:=Wf) (k (.so v l)) (λj Y=>ih j λr=>k (.no r)) i) (λa l ih i k=>Nat.rec (motive:=Wf) (k (.so v l)) (λj Y=>ih j λr=>k (.so a r)) i) l
noncomputable def Lc.put(l:Lc)(v:A):Nat->(Lc->Bool)->Bool:=Lc.rec (motive:=λY=>Nat->(Lc->Bool)->Bool) (λi k=>Nat.rec (motive:=Wf) (k (.so v .nil)) Wd i) (λl ih i k=>Nat.rec (motive:=Wf) (k (.so v l)) (λj Y=>ih j λr=>k (.no r)) i) (λa l ih i k=>Nat.rec (motive:=Wf) (k (.so v l)) (λj Y=>ih j λr=>k (.so a r)) i) l
theorem neMA:Nonempty A:=⟨.none⟩
theorem neMO:Nonempty O:=⟨.emp⟩
theorem neMS:Nonempty S:=⟨⟨.nil,[],.nil,0⟩⟩
end MI
namespace MI
open Mine
abbrev C2:=Cl (A->A->S->KA->Bool)
abbrev P2:=Cl (A->A->S->(Bool->Bool)->Bool)
noncomputable def rAdd(a b:A)(s:S)(k:KA):Bool:=a.sw (λi=>b.onInt λj=>fri (Z4z i j) λm=>k (.int m) s)
 (λl=>b.onBytes λm=>len l λY=>len m λY=>app l m λr=>k (.bytes r) s) (λh=>b.onRef λg=>s.lst h λl=>s.lst g λm=>len l λY=>len m λY=>app l m λr=>s.new (.list r) λh s=>k (.ref h) s) F0
noncomputable def Zft(i:Int):Bool:=Int.rec (motive:=Wf) (λn=>Nat.ble n 1000000) (λn=>Nat.ble n 1000000) i
noncomputable def iNz(i:Int):Bool:=Int.rec (motive:=Wf) (λn=>Nat.ble 1 n) (λn=>true) i
noncomputable def rMod(i j:Int):Int:=Int.rec (motive:=λY=>Int) (λn=>Int.rec (motive:=λY=>Int) (λm=>.ofNat (Nat.mod n m)) (λY=>i.fmod j) j) (λY=>i.fmod j) i
noncomputable def rDiv(i j:Int):Int:=Int.rec (motive:=λY=>Int) (λn=>Int.rec (motive:=λY=>Int) (λm=>.ofNat (Nat.div n m)) (λY=>i.fdiv j) j) (λY=>i.fdiv j) i
noncomputable def refD(a:A)(k:Nat->Bool)(r:Bool):Bool:=A.rec (motive:=Wf) r (λY=>r) (λY=>r) (λY=>r) (λY=>r) (λY=>r) (λY=>r) (λY=>r) (λY=>r) k r (λY Y Y Y=>r) (λY=>r) a
noncomputable def repL(l:List A)(n:Nat):(List A->Bool)->Bool:=Nat.rec (motive:=λY=>(List A->Bool)->Bool) (λk=>k []) (λY ih k=>ih λr=>app l r k) n
noncomputable def ii(a b:A)(k:Int->Int->Bool):Bool:=a.onInt λi=>b.onInt λj=>k i j
noncomputable def binC:Operator->C2
 | .Add=>⟨rAdd⟩
 | .Sub=>⟨λa b s k=>ii a b λi j=>fri (isub i j) λm=>k (.int m) s⟩
 | .Mult=>⟨λa b s k=>refD a (λh=>s.lst h λl=>b.onInt λj=>Int.rec (motive:=Wf) (λn=>gd (Nat.ble n 1000) (len l λm=>gd (Nat.ble m 100) (repL l n λr=>s.new (.list r) λh s=>k (.ref h) s))) We j) <| ii a b λi j=>gd (Zft i) (gd (Zft j) (fri (Int.mul i j) λm=>k (.int m) s))⟩
 | .Mod=>⟨λa b s k=>ii a b λi j=>gd (iNz j) (fri (rMod i j) λm=>k (.int m) s)⟩
 | .FloorDiv=>⟨λa b s k=>ii a b λi j=>gd (iNz j) (gd (Zft j) (fri (rDiv i j) λm=>k (.int m) s))⟩
 | _=>⟨λY Y Y Y=>F0⟩
noncomputable def inpC:Operator->C2
 | .Add=>⟨λa b s k=>ii a b λi j=>fri (Z4z i j) λm=>k (.int m) s⟩
 | .Sub=>⟨λa b s k=>ii a b λi j=>fri (isub i j) λm=>k (.int m) s⟩
 | _=>⟨λY Y Y Y=>F0⟩
noncomputable def Zvp(a:A)(k:Bool->Bool):Bool:=A.rec (motive:=Wf) (k true) (λY=>k false) (λY=>k false) (λY=>k false) (λY=>k false) (λY=>k false) (λY=>k false) (λY=>k false) (λY=>k false) (λY=>k false) (k false) (λY Y Y Y=>k false) We a
noncomputable def A.onBool(a:A)(k:Bool->Bool):Bool:=A.rec (motive:=Wf) F0 k We We We We We We We We F0 Wb We a
noncomputable def inT(x:Int)(b:A):(Bool->Bool)->Bool:=A.rec (motive:=λY=>(Bool->Bool)->Bool) We Wd Wd Wd Wd Wd Wd Wd Wd Wd (λk=>k false) (λy Y Y ih k=>y.onInt λy=>ih λt=>k (iff (ieq y x) true t)) Wd b
noncomputable def rIn(a b:A)(s:S)(k:Bool->Bool):Bool:=b.sw We We
 (λh=>s.lk h λo=>o.sw (λl=>anyE a l k) We (λY l=>gd (Zmt a) (lkK a l (k false) λY=>k true)) (λl=>len l λn=>gd (Nat.ble n 4000) (gd (Zmt a) (anyE a l k))) Wd Wc F0) (a.onInt λx=>inT x b k)
noncomputable def rEq(a b:A)(s:S)(k:Bool->Bool):Bool:=a.sw (λY=>Znd a b k) (λY=>Znd a b k) (λh=>b.onRef λg=>s.lst h λl=>s.lst g λm=>len l λx=>len m λy=>gd (Nat.beq x y) (eqLs l m k)) F0
where eqLs (l:List A):List A->(Bool->Bool)->Bool:=List.rec (motive:=λY=>List A->(Bool->Bool)->Bool) (λY k=>k true) (λa Y ih m k=>List.rec (motive:=Wf) (k true) (λb m Y=>Znd a b λt=>ih m λu=>k (gd t u)) m) l
noncomputable def neg(b:Bool):Bool:=Bool.rec (motive:=Wf) true false b
noncomputable def xorB(x y:Bool):Bool:=Bool.rec (motive:=Wf) y (neg y) x
noncomputable def Z00(a:A)(k:Bool->Bool)(r:Bool):Bool:=A.rec (motive:=Wf) r k (λY=>r) (λY=>r) (λY=>r) (λY=>r) (λY=>r) (λY=>r) (λY=>r) (λY=>r) r (λY Y Y Y=>r) (λY=>r) a
noncomputable def cmpC:CmpOp->P2
 | .Eq=>⟨rEq⟩
 | .NotEq=>⟨λa b s k=>Z00 a (λx=>b.onBool λy=>k (xorB x y)) (rEq a b s λt=>k (neg t))⟩
 | .Lt=>⟨λa b s k=>ii a b λi j=>k (neg (ile j i))⟩
 | .LtE=>⟨λa b s k=>ii a b λi j=>k (ile i j)⟩
 | .Gt=>⟨λa b s k=>ii a b λi j=>k (neg (ile i j))⟩
 | .GtE=>⟨λa b s k=>ii a b λi j=>k (ile j i)⟩
 | .Is=>⟨λa b s k=>Zvp b λt=>gd t (Zvp a k)⟩
 | .IsNot=>⟨λa b s k=>Zvp b λt=>gd t (Zvp a λt=>k (neg t))⟩
 | .In=>⟨rIn⟩
 | _=>⟨λY Y Y Y=>F0⟩
noncomputable def emL{α:Type}(l:List α):Bool:=List.rec (motive:=Wf) true (λY Y Y=>false) l
noncomputable def Z4m(a:A)(s:S)(k:Bool->Bool):Bool:=A.rec (motive:=Wf) (k false) k (λi=>k (iNz i)) We We We We We We (λh=>s.lst h λl=>len l λY=>k (neg (emL l))) F0 Wb We a
noncomputable def Z4p(c:Nat)(k:A->Bool):Bool:=iff (Zz0 c) (k (.int (.ofNat c))) (k (.ord c))
noncomputable def atL{α:Type}(l:List α)(i:Int)(k:α->Bool):Bool:=Int.rec (motive:=Wf) (λn=>nth l n F0 k) (λn=>len l λm=>gd (Nat.ble (Nat.add n 1) m) (frc (Nat.sub m (Nat.add n 1)) λj=>nth l j F0 k)) i
noncomputable def Zxu(i:Int)(k:Nat->Bool):Bool:=Int.rec (motive:=Wf) k We i
noncomputable def rSub(a b:A)(s:S)(k:KA):Bool:=a.sw We (λl=>b.onInt λi=>Zxu i λn=>len l λY=>nth l n F0 λc=>Z4p c λa=>k a s)
 (λh=>s.lk h λo=>o.sw (λl=>b.onInt λi=>len l λY=>gd (Zft i) (atL l i λx=>k x s)) We (λY l=>gd (Zmt b) (lkK b l F0 λx=>k x s)) We Wd Wc F0)
 F0
noncomputable def rSlc(a:A)(lo hi:Option Int)(s:S)(k:KA):Bool:=a.sw We (λl=>slcN l lo hi λr=>k (.bytes r) s) (λh=>s.lst h λl=>slcN l lo hi λr=>s.new (.list r) λh s=>k (.ref h) s) F0
noncomputable def Zqr(a:A)(k:Nat->Bool):Bool:=A.rec (motive:=Wf) F0 We (λi=>Zxu i λn=>gd (Nat.ble n 255) (k n)) (λc=>gd (Zg6 c) (k c)) We We We We We We F0 Wb We a
noncomputable def onN{α:Type}(o:Option α)(k:Bool):Bool:=Option.rec (motive:=Wf) k We o
noncomputable def rSet(a i v:A)(s:S)(k:KS):Bool:=a.onRef λh=>s.lk h λo=>o.sw (λl=>i.onInt λj=>Zxu j λn=>len l λY=>Z47 l v n λr=>s.up h (.list r) k)
 (λl=>i.onInt λj=>Zxu j λn=>len l λY=>Zqr v λc=>Z47 l c n λr=>s.up h (.ba r) k) (λe l=>onN e (gd (Zmt i) (len l λY=>setK i v l false λr=>s.up h (.dict .none r) k))) We Wd Wc F0
noncomputable def rDel(a i:A)(s:S)(k:KS):Bool:=a.onRef λh=>s.lk h λo=>o.onDict λe l=>onN e (gd (Zmt i) (len l λY=>delK i l false λr=>s.up h (.dict .none r) k))
noncomputable def Zxo(h:Nat)(l:List (A×A))(s:S)(k:Nat->Nat->S->Bool):Bool:=len l λn=>s.bump λx s=>s.up h (.dict (some x) l) λs=>k n x s
noncomputable def Zwe(a:A)(s:S)(k:Nat->S->Bool):Bool:=a.sw We We
 (λh=>s.lk h λo=>O.rec (motive:=Wf) (λY=>s.new (.liter h 0) k) We Wd Wc Wd (λY Y=>k h s) We
  (λe l=>onN e (Zxo h l s λn x s=>s.new (.kiter h 0 n x) k)) Wb Wb
  (λd=>s.rm h λs=>s.lk d λo=>o.onDict λe l=>onN e (Zxo d l s λn x s=>s.new (.viter d 0 n x) k))
  Wd We Wc F0 We We We (λa b c=>gd (Builtin.Range.small a b c) (Zxu (Builtin.Range.rangeSize a b c) λn=>frc n λn=>s.rm h λs=>s.new (.riter a n c) k)) Wd o)
 (s.new (.titer a 0) k)
noncomputable def nthK(l:List (A×A))(i:Nat)(kn:Bool)(k:A->A->Bool):Bool:=nth l i kn λp=>Prod.rec (motive:=Wf) k p
noncomputable def nthT(a:A):Nat->Bool->(A->Bool)->Bool:=A.rec (motive:=λY=>Nat->Bool->(A->Bool)->Bool) Wc Wb Wb Wb Wb Wb Wb Wb Wb Wb (λY n Y=>n)
 (λx Y Y ih i n k=>Nat.rec (motive:=Wf) (k x) (λm Y=>ih m n k) i) Wb a
noncomputable def onS{α:Type}(o:Option α)(k:α->Bool):Bool:=Option.rec (motive:=Wf) F0 k o
noncomputable def Zwc(it d i n e:Nat)(s:S)(kn:KS)(f:A->A->Nat->Bool):Bool:=s.lk d λo=>o.onDict λe' l=>onS e' λe'=>gd (Nat.beq e e') (len l λm=>gd (Nat.beq n m) (nthK l i (s.rm it λs=>s.lk d λo=>o.onDict λY l=>s.up d (.dict .none l) kn) λx y=>frc (Nat.add i 1) λi=>f x y i))
noncomputable def Zp2(t:Bool)(it:Nat)(s:S)(kn:KS)(k:KA)(o:O):Bool:=O.rec (motive:=Wf) We We
 (λh i=>s.lst h λl=>nth l i (s.rm it kn) λx=>frc (Nat.add i 1) λi=>s.up it (.liter h i) λs=>k x s)
 (λx n st=>Nat.rec (motive:=Wf) (s.rm it kn) (λm Y=>fri (Z4z x st) λy=>s.up it (.riter y m st) λs=>k (.int x) s) n)
 (λl i=>nthT l i (s.rm it kn) λx=>frc (Nat.add i 1) λi=>s.up it (.titer l i) λs=>k x s)
 (λj i=>gd t (s.lk j λo=>o.onLiter λh n=>gd (Nat.beq n i) (s.lst h λl=>nth l i (len l λm=>gd (Nat.beq i m) (s.rm it λs=>s.lk j λY=>s.rm j kn)) λx=>frc (Nat.add i 1) λi'=>s.up it (.enum j i') λs=>s.lk j λY=>s.up j (.liter h i') λs=>k (.cons (.int (.ofNat i)) (.cons x .nil)) s)))
 We Wd
 (λd i n e=>Zwc it d i n e s kn λx Y i=>s.up it (.kiter d i n e) λs=>k x s)
 (λd i n e=>Zwc it d i n e s kn λY y i=>s.up it (.viter d i n e) λs=>k y s)
 We Wd We Wc F0 We We We Wc Wd o
noncomputable def Zsv(t:Bool)(it:Nat)(s:S)(kn:KS)(k:KA):Bool:=s.lk it λo=>Zp2 t it s kn k o
noncomputable def Zei(l:List A)(k:A->Bool):Bool:=List.rec (motive:=Wf) F0 (λa r Y=>List.rec (motive:=Wf) (k a) Wc r) l
noncomputable def Z42(l:List A)(k:A->A->Bool):Bool:=List.rec (motive:=Wf) F0 (λa r Y=>Zei r λb=>k a b) l
noncomputable def Z4n{β:Type}(f:A->(β->Bool)->Bool)(l:List A):(List β->Bool)->Bool:=List.rec (motive:=λY=>(List β->Bool)->Bool) (λk=>k []) (λa Y ih k=>f a λb=>ih λr=>k (b::r)) l
noncomputable def Z4y(a:A)(k:Nat->Bool):Bool:=a.onInt λi=>Zxu i k
noncomputable def Zqu(l:List A)(k:List Nat->Bool):Bool:=Z4n Zqr l k
noncomputable def Zrp(l:List A)(k:List (List Nat)->Bool):Bool:=Z4n (λa k=>a.onBytes k) l k
noncomputable def Zyd(l:List A)(k:List Nat->Bool):Bool:=Z4n Z4y l k
noncomputable def Zv5(l:List (List Nat)):(List Nat->Bool)->Bool:=List.rec (motive:=λY=>(List Nat->Bool)->Bool) (λk=>k []) (λa Y ih k=>ih λt=>app a t k) l
noncomputable def sumL(l:List Nat):Nat->(Nat->Bool)->Bool:=List.rec (motive:=λY=>Nat->(Nat->Bool)->Bool) (λm k=>frc m k) (λa Y ih m k=>gd (Nat.ble a 1000000) (ih (Nat.add m a) k)) l
noncomputable def Zv4{α:Type}(l:List α)(k:α->List α->Bool):Bool:=List.rec (motive:=Wf) F0 (λa r Y=>k a r) l
noncomputable def Zy6(a:A):(Nat->Bool)->Bool:=A.rec (motive:=λY=>(Nat->Bool)->Bool) We Wd Wd Wd Wd Wd Wd Wd Wd Wd (λk=>k 0) (λY Y Y ih k=>ih λn=>k (Nat.add n 1)) Wd a
abbrev CC:=Cl (List A->S->KA->Bool)
noncomputable def onTB(a:A)(k:Bool):Bool:=A.rec (motive:=Wf) F0 We We We We We We We We We k (λY Y Y Y=>k) We a
noncomputable def Zp7(l:List A)(k:List Int->Bool):Bool:=Z4n (λa k=>a.onInt k) l k
noncomputable def maxZ(l:List Int):Int->(Int->Bool)->Bool:=List.rec (motive:=λY=>Int->(Int->Bool)->Bool) (λm k=>k m) (λa Y ih m k=>iff (ile a m) (ih m k) (ih a k)) l
noncomputable def insZ(x:Int)(l:List Int):(List Int->Bool)->Bool:=List.rec (motive:=λY=>(List Int->Bool)->Bool) (λk=>k [x]) (λy l ih k=>iff (ile x y) (k (x::y::l)) (ih λr=>k (y::r))) l
noncomputable def Zy5(l:List Int):(List Int->Bool)->Bool:=List.rec (motive:=λY=>(List Int->Bool)->Bool) (λk=>k []) (λx Y ih k=>ih λr=>insZ x r k) l
noncomputable def Zvx(m:List Int):(List A->Bool)->Bool:=List.rec (motive:=λY=>(List A->Bool)->Bool) (λk=>k []) (λc Y ih k=>ih λr=>k (.int c::r)) m
noncomputable def Zld(a:A):(List A->Bool)->Bool:=A.rec (motive:=λY=>(List A->Bool)->Bool) We Wd Wd Wd Wd Wd Wd Wd Wd Wd (λk=>k []) (λx Y Y ih k=>ih λr=>k (x::r)) Wd a
noncomputable def sqA(a:A)(s:S)(k:List A->Bool):Bool:=a.sw We We (λh=>s.lst h k) (Zld a k)
noncomputable def biC:Nat->CC
 | 0=>⟨λl s k=>Zei l λa=>a.sw We (λl=>len l λn=>k (.int (.ofNat n)) s) (λh=>s.lst h λl=>len l λn=>k (.int (.ofNat n)) s) (Zy6 a λn=>frc n λn=>gd (Nat.ble n 100000) (k (.int (.ofNat n)) s))⟩ -- len
 | 3=>⟨λl s k=>Zei l λa=>a.onRef λh=>s.lst h λl=>Zp7 l λl=>Zv4 l λa l=>maxZ l a λn=>k (.int n) s⟩ -- max
 | 8=>⟨λl s k=>Zei l λa=>sqA a s λl=>Zp7 l λl=>len l λn=>gd (Nat.ble n 63) (Zy5 l λl=>Zvx l λl=>s.new (.list l) λh s=>k (.ref h) s)⟩ -- sorted
 | 5=>⟨λl s k=>Zei l λa=>a.onRef λh=>s.lst h λl=>Zyd l λl=>len l λn=>gd (Nat.ble n 100) (sumL l 0 λn=>k (.int (.ofNat n)) s)⟩ -- sum
 | 6=>⟨λl s k=>Zei l λa=>a.onRef λh=>s.lst h λY=>s.new (.lit h) λx s=>k (.ref x) s⟩ -- iter
 | 7=>⟨λl s k=>Z42 l λa b=>onTB a (A.rec (motive:=Wf) F0 We We We We We (λn=>gd (Nat.beq n 5) (k (.bool true) s)) We We We F0 Wb We b)⟩ -- isinstance
 | _=>⟨λY Y Y=>F0⟩
noncomputable def Z16(l:List A):(A->Bool)->Bool:=List.rec (motive:=λY=>(A->Bool)->Bool) (λk=>k .nil) (λa Y ih k=>ih λr=>k (.cons a r)) l
noncomputable def repN(n:Nat):(List Nat->Bool)->Bool:=Nat.rec (motive:=λY=>(List Nat->Bool)->Bool) (λk=>k []) (λY ih k=>ih λr=>k (0::r)) n
noncomputable def Zu0(l:List Nat):(List A->Bool)->Bool:=List.rec (motive:=λY=>(List A->Bool)->Bool) (λk=>k []) (λc Y ih k=>ih λr=>Z4p c λa=>k (a::r)) l
noncomputable def tyC:Nat->CC
 | 0=>⟨λl s k=>Zv4 l λa r=>a.onInt λi=>List.rec (motive:=Wf) (s.new (.range 0 i 1) λx s=>k (.ref x) s) (λb r Y=>b.onInt λj=>List.rec (motive:=Wf) (s.new (.range i j 1) λx s=>k (.ref x) s)
   (λc r Y=>c.onInt λm=>gd (emL r) (gd (iNz m) (gd (neg (Builtin.divisionGoesByPylong (j-i) m)) (s.new (.range i j m) λx s=>k (.ref x) s)))) r) r⟩ -- range
 | 1=>⟨λl s k=>Zei l λa=>a.onRef λh=>s.lk h λo=>o.sw (λl=>len l λY=>Zqu l λm=>k (.bytes m) s) (λl=>len l λY=>k (.bytes l) s) Wd We Wd Wc F0⟩ -- bytes
 | 2=>⟨λl s k=>Zei l λa=>Z4y a λn=>gd (Nat.ble n 100000) (repN n λl=>s.new (.ba l) λx s=>k (.ref x) s)⟩ -- bytearray
 | 3=>⟨λl s k=>Zei l λa=>a.onRef λh=>s.lst h λY=>s.new (.liter h 0) λx s=>s.new (.enum x 0) λy s=>k (.ref y) s⟩ -- enumerate
 | 4=>⟨λl s k=>gd (emL l) (s.new (.set []) λx s=>k (.ref x) s)⟩ -- set
 | 5=>⟨λl s k=>Zei l λa=>a.onRef λh=>s.lst h λl=>len l λY=>Z16 l λt=>k t s⟩ -- tuple
 | 6=>⟨λl s k=>Zei l λa=>a.onRef λh=>s.lst h λl=>len l λY=>k (.bool (neg (emL l))) s⟩ -- bool
 | 7=>⟨λl s k=>Zei l λa=>a.onBytes λl=>len l λY=>Zu0 l λm=>s.new (.list m) λx s=>k (.ref x) s⟩ -- list
 | _=>⟨λY Y Y=>F0⟩
abbrev MC:=Cl (A->List A->S->KA->Bool)
noncomputable def onL(a:A)(s:S)(k:Nat->List A->Bool):Bool:=a.onRef λh=>s.lst h λl=>len l λY=>k h l
noncomputable def Zxq{α:Type}(l:List α)(k:Nat->α->Bool):Bool:=len l λn=>Nat.rec (motive:=Wf) F0 (λm Y=>nth l m F0 λx=>k m x) n
noncomputable def mtC:List (Str×MC):=[
 ("append",⟨λa l s k=>Zei l λx=>onL a s λh l=>app l [x] λr=>s.up h (.list r) λs=>k .none s⟩),
 ("pop",⟨λa l s k=>gd (emL l) (onL a s λh m=>Zxq m λi x=>eraN m i λr=>s.up h (.list r) λs=>k x s)⟩),
 ("clear",⟨λa l s k=>gd (emL l) (onL a s λh Y=>s.up h (.list []) λs=>k .none s)⟩),
 ("get",⟨λa l s k=>Zei l λx=>a.onRef λh=>s.lk h λo=>o.onDict λY l=>gd (Zmt x) (lkK x l (k .none s) λv=>k v s)⟩),
 ("values",⟨λa l s k=>gd (emL l) (a.onRef λh=>s.lk h λo=>o.onDict λY Y=>s.new (.vview h) λx s=>k (.ref x) s)⟩),
 ("bjoin",⟨λa l s k=>Zei l λb=>a.onBytes λx=>gd (emL x) (onL b s λY l=>Zrp l λm=>len m λn=>gd (Nat.ble n 100) (Zv5 m λr=>len r λY=>k (.bytes r) s))⟩),
 ("add",⟨λa l s k=>Zei l λx=>a.onRef λh=>s.lk h λo=>o.sw We We Wd (λl=>gd (Zmt x) (len l λn=>gd (Nat.ble n 1000) (s.up h (.set (x::l)) λs=>k .none s))) Wd Wc F0⟩)]
end MI
namespace MI
open Mine
structure FI where
 names:List Str
 kind:Nat
 rest:List Str
 body:List Stmt
 sn:List (Str×NameKind)
structure Pg where
 gl:List (Str×A)
 bl:List (Str×A)
 fn:List (Addr×FI)
 me:List ((Addr×Str)×Addr)
 ats:List (Addr×Str)
 sl:List ((Addr×Str)×(Nat×Addr))
 cl:List (Addr×(Bool×Addr))
 hk:List (Addr×CC)
structure Fm where
 names:List (Str×NameKind)
 ns:List Str
 cn:List Str
 md:Bool
 hd:Bool
abbrev CE:=Cl (S->KA->Bool)
abbrev CB:=Cl (S->KS->KS->Bool)
abbrev CL:=Cl (S->(List A->S->Bool)->Bool)
abbrev CX:=Cl (S->KS->KS->KS->KA->Bool)
abbrev CS:=Cl (A->S->KS->Bool)
abbrev CI:=Cl (S->(Option Int->S->Bool)->Bool)
noncomputable def one{α β:Type}(d:β)(l:List α)(k:α->β):β:=List.rec (motive:=λY=>β) d (λa r Y=>List.rec (motive:=λY=>β) (k a) (λY Y Y=>d) r) l
noncomputable def Zq4{α β:Type}(d x:β)(l:List α):β:=List.rec (motive:=λY=>β) x (λY Y Y=>d) l
theorem Zgu{α β:Type}{P:List α->β->Prop}{d:β}{k:α->β}(l:List α)(bad:∀ l,P l d)(h:∀ a,P [a] (k a)):P l (one d l k):=by
 induction l with
 | nil=>exact bad _
 | cons a l=>induction l with
  | nil=>exact h a
  | cons b l=>exact bad _
theorem Zia{α β:Type}{P:List α->β->Prop}{d x:β}(l:List α)(bad:∀ l,P l d)(h:P [] x):P l (Zq4 d x l):=by
 induction l with
 | nil=>exact h
 | cons a l=>exact bad _
theorem Zzl{α β:Type}{P:Option α->β->Prop}{d:β}{k:α->β}(o:Option α)(bad:P none d)(h:∀ a,P (some a) (k a)):P o (Option.rec (motive:=λY=>β) d k o):=by
 induction o with
 | none=>exact bad
 | some a=>exact h a
noncomputable def tgS{β:Type}(d:β)(cn:Const->Nat->Pos->β)(nm:Str->Pos->β)(at_:Expr->Str->Pos->β)(su:Expr->Expr->Pos->β)(tu:List Expr->Nat->Pos->β)(ca:Expr->List Expr->List Keyword->Pos->β)(e:Expr):β:=Expr.casesOn (motive_1:=λY=>β) e (λY Y Y=>d) (λY Y Y=>d) (λY Y Y Y=>d) (λY Y Y=>d) (λY Y Y Y=>d) (λY Y Y Y=>d) (λY Y Y=>d) (λY Y Y=>d) (λY Y Y Y=>d) (λY Y Y Y=>d) (λY Y Y Y Y=>d) (λY Y Y Y=>d) (λY Y=>d) (λY Y=>d) (λY Y=>d) (λY Y Y Y=>d) (ca) (λY Y Y Y=>d) (λY Y=>d) (cn) (at_) (su) (λY Y=>d) (nm) (λY Y=>d) (tu) (λY Y Y Y=>d)
theorem Zcp{β:Type}{P:Expr->β->Prop}{d:β}{cn:Const->Nat->Pos->β}{nm:Str->Pos->β}{at_:Expr->Str->Pos->β}{su:Expr->Expr->Pos->β}{tu:List Expr->Nat->Pos->β}{ca:Expr->List Expr->List Keyword->Pos->β}(e:Expr)(bad:∀ e,P e d)
  (h0:∀ c n p,P (.Constant c n p) (cn c n p)) (h1:∀ x p,P (.Name x p) (nm x p)) (h2:∀ o n p,P (.Attribute o n p) (at_ o n p)) (h3:∀ o i p,P (.Subscript o i p) (su o i p)) (h4:∀ es n p,P (.Tuple es n p) (tu es n p)) (h5:∀ f l k p,P (.Call f l k p) (ca f l k p)):P e (tgS d cn nm at_ su tu ca e):=by
 induction e using Expr.casesOn with
 | Constant c n p=>exact h0 c n p
 | Name x p=>exact h1 x p
 | Attribute o n p=>exact h2 o n p
 | Subscript o i p=>exact h3 o i p
 | Tuple es n p=>exact h4 es n p
 | Call f l k p=>exact h5 f l k p
 | _=>exact bad _
noncomputable def slS{β:Type}(d:Expr->β)(k:Option Expr->Option Expr->Option Expr->β)(e:Expr):β:=Expr.casesOn (motive_1:=λY=>β) e (λY Y Y=>d e) (λY Y Y=>d e) (λY Y Y Y=>d e) (λY Y Y=>d e) (λY Y Y Y=>d e) (λY Y Y Y=>d e) (λY Y Y=>d e) (λY Y Y=>d e) (λY Y Y Y=>d e) (λY Y Y Y=>d e) (λY Y Y Y Y=>d e) (λY Y Y Y=>d e) (λY Y=>d e) (λY Y=>d e) (λY Y=>d e) (λY Y Y Y=>d e) (λY Y Y Y=>d e) (λY Y Y Y=>d e) (λY Y=>d e) (λY Y Y=>d e) (λY Y Y=>d e) (λY Y Y=>d e) (λY Y=>d e) (λY Y=>d e) (λY Y=>d e) (λY Y Y=>d e) (λa b c Y=>k a b c)
theorem slS_k{β:Type}{P:Expr->β->Prop}{d:Expr->β}{k:Option Expr->Option Expr->Option Expr->β}(e:Expr)(bad:∀ e,P e (d e))(h:∀ a b c p,P (.Slice a b c p) (k a b c)):P e (slS d k e):=by
 induction e using Expr.casesOn with
 | Slice a b c p=>exact h a b c p
 | _=>exact bad _
noncomputable def tgB(e:Expr):Bool:=tgS false (λY Y Y=>false) (λY Y=>true) (λY Y Y=>false) (λY Y Y=>false) (λY Y Y=>true) (λY Y Y Y=>false) e
noncomputable def Zbi(e:Expr):Bool:=tgS false (λY Y Y=>false) (λY Y=>false) (λY Y Y=>false) (λY Y Y=>false) (λY Y Y=>true) (λY Y Y Y=>false) e
noncomputable def Zfo(e:Expr):Bool:=match e with | .Starred _ _=>true|_=>false
noncomputable def plE(e:Expr):Bool:=!Zfo e
noncomputable def gen1{β:Type}(d:β)(l:List Comprehension)(k:Expr->Expr->List Expr->β):β:=one d l λg=>Bool.rec (motive:=λY=>β) d (k g.target g.iter g.ifs) (g.is_async==0)
theorem Zut{β:Type}{P:List Comprehension->β->Prop}{d:β}{k:Expr->Expr->List Expr->β}(l:List Comprehension)(bad:∀ l,P l d)(h:∀ t i s,P [⟨t,i,s,0⟩] (k t i s)):P l (gen1 d l k):=
 Zgu l bad λg=>by
  obtain⟨t,i,s,a⟩:=g
  show P _ (Bool.rec (motive:=λY=>β) d (k t i s) (a==0))
  cases h2:a==0 with
  | true=>obtain rfl:=eq_of_beq h2;exact h t i s
  | false=>exact bad _
noncomputable def knE(e:Expr):Bool:=Expr.casesOn (motive_1:=λY=>Bool) e (λY Y Y=>true) (λY Y Y=>true) (λY Y Y Y=>true) (λY Y Y=>true) (λY Y Y Y=>true) (λY Y Y Y=>true) (λY Y Y=>true) (λY Y Y=>false) (λY gs Y Y=>gen1 false gs λY Y Y=>true) (λY Y Y Y=>false) (λY Y Y Y Y=>false) (λY Y Y Y=>true) (λY Y=>true) (λY Y=>true) (λY Y=>true) (λY Y Y Y=>true) (λY Y Y Y=>true) (λY Y Y Y=>true) (λY Y=>true) (λY Y Y=>true) (λY Y Y=>true) (λY Y Y=>true) (λY Y=>true) (λY Y=>true) (λY Y=>true) (λY Y Y=>true) (λY Y Y Y=>true)
noncomputable def Zy9(o:Expr):Bool:=tgS false (λY Y Y=>true) (λY Y=>true) (λY Y Y=>true) (λY Y Y=>true) (λY Y Y=>false) (λY l Y Y=>Zq4 true false l) o
noncomputable def calE(e:Expr):Bool:=tgS false (λY Y Y=>false) (λY Y=>false) (λY Y Y=>false) (λY Y Y=>false) (λY Y Y=>false) (λY Y Y Y=>true) e
noncomputable def Zvg(a:A):List Nat->List Nat:=A.rec (motive:=λY=>List Nat->List Nat) (λr=>r) (λY r=>r) (λY r=>r) (λY r=>r) (λY r=>r) (λY r=>r) (λY r=>r) (λY r=>r) (λY r=>r) (λh r=>h::r) (λr=>r) (λY Y i j r=>i (j r)) (λY r=>r) a
noncomputable def refAs(l:List A)(r:List Nat):List Nat:=List.rec (motive:=λY=>List Nat) r (λa Y ih=>Zvg a ih) l
noncomputable def Zrt(l:Lc)(r:List Nat):List Nat:=Lc.rec (motive:=λY=>List Nat) r (λY ih=>ih) (λa Y ih=>Zvg a ih) l
noncomputable def Z3a(l:List (A×A))(r:List Nat):List Nat:=List.rec (motive:=λY=>List Nat) r (λp Y ih=>Prod.rec (motive:=λY=>List Nat) (λY v=>Zvg v ih) p) l
noncomputable def refAt(l:List (Str×A))(r:List Nat):List Nat:=List.rec (motive:=λY=>List Nat) r (λp Y ih=>Prod.rec (motive:=λY=>List Nat) (λY v=>Zvg v ih) p) l
noncomputable def refO(o:O)(r:List Nat):List Nat:=O.rec (motive:=λY=>List Nat) (λl=>refAs l r) (λY=>r) (λh Y=>h::r) (λY Y Y=>r) (λl Y=>Zvg l r) (λj Y=>j::r) (λl=>Zrt l r)
 (λe l=>Option.rec (motive:=λY=>List Nat) (Z3a l r) (λe=>e::Z3a l r) e) (λd Y Y e=>d::e::r) (λd Y Y e=>d::e::r) (λd=>d::r) (λY dx=>dx::r) (λl=>refAt l r) (λY dx l=>dx::Zrt l r) r (λY=>r) (λit=>it::r) (λl=>l::r) (λY Y Y=>r) (λY h=>h::r) o
noncomputable def refHp(m:Hp)(r:List Nat):List Nat:=Hp.rec (motive:=λY=>List Nat) r (λY o Y ih=>refO o ih) m
noncomputable def Z40(x:Nat)(l:List Nat):Bool:=List.rec (motive:=Wf) false (λy Y ih=>iff (Nat.beq y x) true ih) l
noncomputable def refH(lim h:Nat)(m:Hp)(r:List Nat):List Nat:=Hp.rec (motive:=λY=>List Nat) r (λh' o Y ih=>Bool.rec (motive:=λY=>List Nat) r (Bool.rec (motive:=λY=>List Nat) ih (refO o r) (Nat.beq h' h)) (Nat.ble lim h')) m
noncomputable def Z36(lim:Nat)(m:Hp)(n:Nat):List Nat->List Nat->(List Nat->Bool)->Bool:=Nat.rec (motive:=λY=>List Nat->List Nat->(List Nat->Bool)->Bool) (λY acc k=>k acc)
 (λY ih w acc k=>List.rec (motive:=Wf) (k acc) (λh w Y=>iff (Nat.ble lim h) (iff (Z40 h acc) (ih w acc k) (ih (refH lim h m w) (h::acc) k)) (ih w acc k)) w) n
noncomputable def Z0e(lim:Nat)(acc:List Nat)(m:Hp):(Hp->Bool)->Bool:=Hp.rec (motive:=λY=>(Hp->Bool)->Bool) (λk=>k .nil) (λh o l ih k=>iff (Nat.ble lim h) (iff (Z40 h acc) (ih λr=>k (.cons h o r)) (ih k)) (k (.cons h o l))) m
noncomputable def oldR(lim:Nat)(m:Hp)(r:List Nat):List Nat:=Hp.rec (motive:=λY=>List Nat) r (λh o l ih=>Bool.rec (motive:=λY=>List Nat) (refO o (refHp l r)) ih (Nat.ble lim h)) m
noncomputable def gcO(lim:Nat)(roots:List Nat)(m:Hp)(k:Hp->Bool):Bool:=Hp.rec (motive:=Wf) (k m) (λh Y Y Y=>iff (Nat.ble lim h) (Z36 lim m 3000 (oldR lim m roots) [] λacc=>Z0e lim acc m k) (k m)) m
noncomputable def gcS(lim:Nat)(s:S)(k:KS):Bool:=s.w λlc ce ob n=>gcO lim (Zrt lc []) ob λob=>k ⟨lc,ce,ob,n⟩
section
variable (p:Pg) (f:Fm)
noncomputable def Zyh(l:List Nat)(i:Nat)(k:Nat->Bool):Bool:=nth l i F0 k
noncomputable def Lc.one(l:Lc)(k:A->Bool):Bool:=Lc.rec (motive:=Wf) F0 Wd (λa Y Y=>k a) l
noncomputable def Zoa(i:Nat):CE:=⟨λs k=>s.w λY ce ob Y=>Zyh ce i λh=>lkO h ob λo=>o.onCell λv=>v.one λa=>k a s⟩
noncomputable def nmC(x:Str):CE:=match f.names.lookup x with
 | some .local=>⟨λs k=>s.w λlc Y Y Y=>lc.get (f.ns.idxOf x) λa=>k a s⟩
 | some .cell=>Zoa (f.cn.idxOf x)
 | some .free=>if x==("__classdict__" : Str) then ⟨λY Y=>F0⟩ else Zoa (f.cn.idxOf x)
 | some .globalImplicit=>(match p.gl.lookup x with|some v=>⟨λs k=>k v s⟩ | .none=>(match p.bl.lookup x with|some v=>⟨λs k=>k v s⟩ | .none=>⟨λY Y=>F0⟩))
 | _=>⟨λY Y=>F0⟩
noncomputable def stC(x:Str):CS:=match f.names.lookup x with
 | some .local=>⟨λa s k=>s.w λlc ce ob n=>lc.set a (f.ns.idxOf x) λlc=>k ⟨lc,ce,ob,n⟩⟩
 | some .cell=>⟨λa s k=>s.w λlc ce ob n=>Zyh ce (f.cn.idxOf x) λh=>s.lk h λo=>o.onCell λY=>s.up h (.cell (.so a .nil)) k⟩
 | _=>⟨λY Y Y=>F0⟩
noncomputable def Z4u(a:A):Bool:=A.rec (motive:=Wf) true (λY=>true) (λY=>true) (λY=>true) (λY=>true) (λY=>true) (λY=>true) We (λY=>true) (λY=>true) true (λY Y Y Y=>true) We a
noncomputable def lkA(x:Str)(l:List (Str×A))(kn:Bool)(k:A->Bool):Bool:=List.rec (motive:=Wf) kn (λq Y ih=>Prod.rec (motive:=Wf) (λy a=>iff (y==x) (k a) ih) q) l
noncomputable def putR(x:Str)(a:A)(l:List (Str×A)):(List (Str×A)->Bool)->Bool:=List.rec (motive:=λY=>(List (Str×A)->Bool)->Bool) (λk=>k [(x,a)]) (λq l ih k=>Prod.rec (motive:=Wf) (λy b=>iff (y==x) (k ((y,a)::l)) (ih λr=>k ((y,b)::r))) q) l
abbrev GC:=Cl (A->S->KA->Bool)
noncomputable def Z1j(c:Addr)(n:Str)(k:Nat->Bool):Bool:=opt (p.sl.lookup (c,n)) F0 λq=>k q.1
noncomputable def getC(n:Str):GC:=⟨λa s k=>a.onRef λh=>s.lk h λo=>O.rec (motive:=Wf) We We Wd Wc Wd Wd We Wd Wb Wb We
 (λc dx=>gd (p.ats.elem (c,n)) (s.lk dx λo=>o.onAttrs λl=>lkA n l F0 λv=>gd (Z4u v) (k v s))) We
 (λc dx l=>Z1j p c n λi=>s.lk dx λo=>o.isEmp (l.get i λv=>gd (Z4u v) (k v s))) F0 We We
 (λl=>gd (n == "__next__") (s.up h (.liter l 0) λs=>s.new (.bnext h) λx s=>k (.ref x) s)) Wc Wd o⟩
abbrev SC:=Cl (A->A->S->KS->Bool)
noncomputable def setC(n:Str):SC:=⟨λa v s k=>a.onRef λh=>s.lk h λo=>o.sw We We Wd We
 (λc dx=>gd (p.ats.elem (c,n)) (s.lk dx λo=>o.onAttrs λl=>len l λm=>gd (Nat.ble m 1000) (putR n v l λr=>s.up dx (.attrs r) k)))
 (λc dx l=>Z1j p c n λi=>s.lk dx λo=>o.isEmp (l.put v i λr=>s.up h (.slots c dx r) k)) F0⟩
structure Rec where
 E:Fm->Expr->CE
 B:Fm->Expr->CB
 T:Fm->BoolOp->List Expr->CB
 L:Fm->List Expr->CL
 X:Fm->List Stmt->CX
 S:Fm->Expr->CS
 V:Fm->List Expr->CS
variable (cal:Bool->Addr->CC) (r:Rec)
noncomputable def noE:CE:=⟨λY Y=>F0⟩
noncomputable def noX:CX:=⟨λY Y Y Y Y=>F0⟩
noncomputable def noB:CB:=⟨λY Y Y=>F0⟩
noncomputable def noS:CS:=⟨λY Y Y=>F0⟩
noncomputable def ifB{α:Type}(b:Bool)(x y:α):α:=Bool.rec (motive:=λY=>α) y x b
noncomputable def Zu2(c:Const):CE:=match c with
 | .none=>⟨λs k=>k .none s⟩
 | .bool b=>⟨λs k=>k (.bool b) s⟩
 | .int i=>⟨λs k=>k (.int i) s⟩
 | .bytes b=>⟨λs k=>k (.bytes (b.map UInt8.toNat)) s⟩
 | _=>noE
noncomputable def optI(e:Option Expr):CI:=match e with
 | .none=>⟨λs k=>k .none s⟩
 | some e=>⟨λs k=>(r.E f e).run s λa s=>a.onInt λi=>k (some i) s⟩
noncomputable def Zpm(sn:List (Str×NameKind)):List (Str×NameKind):=sn.map λx=>if x.2 == .free&&f.names.lookup x.1==some .cell then (x.1,.cell) else x
noncomputable def loK(x:Str×NameKind):Bool:=x.2 == .local
noncomputable def frK(x:Str×NameKind):Bool:=x.2 == .free
noncomputable def Zy2(l:List Str):Lc:=List.rec (motive:=λY=>Lc) .nil (λY Y ih=>.no ih) l
noncomputable def Z1z(l:List Nat)(ix:List Nat):(List Nat->Bool)->Bool:=List.rec (motive:=λY=>(List Nat->Bool)->Bool) (λk=>k []) (λi Y ih k=>nth l i F0 λh=>ih λt=>k (h::t)) ix
noncomputable def Zgt:Nat:=100000
noncomputable def Zyp(elt:CE)(acc:Nat)(s:S)(k:KS):Bool:=elt.run s λx s=>s.lst acc λl=>len l λY=>app l [x] λt=>s.up acc (.list t) k
noncomputable def Zmw(tp:Bool)(elt:CE)(tgt:CS)(ifs:Option CB)(it acc:Nat)(n:Nat):S->KS->Bool:=Nat.rec (motive:=λY=>S->KS->Bool) Wd
 (λY ih s k=>Zsv tp it s k λv s=>tgt.run v s λs=>Option.rec (motive:=Wf) (Zyp elt acc s λs=>ih s k) (λc=>c.run s (λs=>Zyp elt acc s λs=>ih s k) λs=>ih s k) ifs) n
noncomputable def compC(tp:Bool)(it:CE)(elt:CE)(tgt:CS)(ifs:Option CB)(ls:List Str)(ix:List Nat):CE:=⟨λs k=>it.run s λa s=>Zwe a s λi s=>s.w λlc ce ob n=>Z1z ce ix λce'=>frc (Nat.add n 1) λm=>
 Zmw tp elt tgt ifs i n Zgt ⟨Zy2 ls,ce',.cons n (.list []) ob,m⟩ λs=>s.w λY Y ob m=>k (.ref n) ⟨lc,ce,ob,m⟩⟩
noncomputable def Z4k(k:ScopeKind):Bool:=match k with | .function=>true|_=>false
noncomputable def cF(sn:List (Str×NameKind)):Fm:=⟨Zpm f sn,(sn.filter loK).map (·.1),((sn.filter frK).map (·.1)).reverse,false,false⟩
noncomputable def Z4o(sn:List (Str×NameKind))(x:Str×NameKind):Bool:=match x.2 with | .cell=>false | .free=>f.cn.elem x.1 | .local=>(Zpm f sn).lookup x.1==some .local|_=>true
noncomputable def cOk(sc:Scope)(iter target:Expr):Bool:=!f.hd&&(Z4k sc.kind&&(knE iter&&(tgB target&&(sc.names.all (Z4o f sc.names)&&decide ((sc.names.filter loK).map (·.1)).Nodup))))
noncomputable def Zw9(elt target iter:Expr)(ifs:Option CB)(sc:Scope):CE:=compC (Zbi target) (r.E f iter) (r.E (cF f sc.names) elt) (r.S (cF f sc.names) target) ifs (cF f sc.names).ns ((cF f sc.names).cn.map (f.cn.idxOf ·))
noncomputable def Zeu(elt target iter:Expr)(ifs:List Expr)(sc:Scope):CE:=ifB (cOk f sc iter target) (match ifs with
 | []=>Zw9 f r elt target iter .none sc
 | c::l=>(match l with|[]=>Zw9 f r elt target iter (some (r.B (cF f sc.names) c)) sc|_::_=>noE)) noE
noncomputable def mtK(n:Str):Nat:=(mtL.lookup n).getD 9
where mtL:List (Str×Nat):=[("append",0),("pop",0),("clear",0),("get",1),("values",1),("add",2)]
noncomputable def mtR(n:Str):MC:=(mtC.lookup n).getD ⟨λY Y Y Y=>F0⟩
noncomputable def Zx3:Addr->CC:=ifB f.hd (λY=>⟨λY Y Y=>F0⟩) (cal f.md)
noncomputable def Z43(h:Nat)(n:Str)(s:S)(k:Addr->Bool):Bool:=s.lk h λo=>o.onInst λc dx=>opt (p.me.lookup (c,n)) F0 λg=>s.lk dx λo=>o.onAttrs λat_=>lkA n at_ (k g) We
noncomputable def Zw5(n:Str)(args:CL):GC:=⟨λa s k=>a.sw We (λY=>gd (n == "join") (args.run s λl s=>(mtR "bjoin").run a l s k))
 (λh=>s.lk h λo=>o.sw (λY=>gd (Nat.beq (mtK n) 0) (args.run s λl s=>(mtR n).run a l s k)) We (λY Y=>gd (Nat.beq (mtK n) 1) (args.run s λl s=>(mtR n).run a l s k)) (λm=>gd (Nat.beq (mtK n) 2) (len m λz=>gd (Nat.ble z 4000) (args.run s λl s=>(mtR n).run a l s k)))
  (λY Y=>Z43 p h n s λg=>args.run s λl s=>(Zx3 f cal g).run (a::l) s k) Wc F0) F0⟩
noncomputable def Zps(k:KA)(m:Nat)(g:Addr)(e:CE)(l:List A)(s:S):Bool:=e.run s λb s=>sqA b s λl2=>len l2 λY=>s.lk m λo=>o.onBm λg' h'=>gd (Nat.beq g g') (s.rm m λs=>app l l2 λl=>(Zx3 f cal g').run (.ref h'::l) s k)
noncomputable def Z4d(n:Str)(ini:Option CE)(e:CE):GC:=⟨λa s k=>a.onRef λh=>Z43 p h n s λg=>s.new (.bm g h) λm s=>Option.rec (motive:=Wf) (Zps f cal k m g e [] s) (λx=>x.run s λb s=>Zps f cal k m g e [b] s) ini⟩
noncomputable def kpB(a:Addr):Bool:=(p.fn.lookup a).isSome||((p.cl.lookup a).isSome||(p.hk.lookup a).isSome)
noncomputable def bNx(it:Nat)(s:S)(kn:KS)(k:KA):Bool:=s.lk it λo=>o.onLiter λh i=>s.lst h λl=>nth l i (s.rm it kn) λx=>frc (Nat.add i 1) λi=>s.up it (.liter h i) λs=>k x s
noncomputable def appC(g:A)(l:List A)(s:S)(k:KA):Bool:=A.rec (motive:=Wf) F0 We We We We We (λn=>(tyC n).run l s k) (λn=>(biC n).run l s k) (λa=>gd (kpB p a) ((Zx3 f cal a).run l s k))
 (λh=>s.lk h λo=>o.onBnext λit=>gd (emL l) (bNx it s We k)) F0 Wb We g
noncomputable def plA(es:List Expr):Bool:=es.all plE
noncomputable def Zo5(e:Expr):Option Expr:=Expr.casesOn (motive_1:=λY=>Option Expr) e (λY Y Y=>.none) (λY Y Y=>.none) (λY Y Y Y=>.none) (λY Y Y=>.none) (λY Y Y Y=>.none) (λY Y Y Y=>.none) (λY Y Y=>.none) (λY Y Y=>.none) (λY Y Y Y=>.none) (λY Y Y Y=>.none) (λY Y Y Y Y=>.none) (λY Y Y Y=>.none) (λY Y=>.none) (λY Y=>.none) (λY Y=>.none) (λY Y Y Y=>.none) (λY Y Y Y=>.none) (λY Y Y Y=>.none) (λY Y=>.none) (λY Y Y=>.none) (λY Y Y=>.none) (λY Y Y=>.none) (λe Y=>some e) (λY Y=>.none) (λY Y=>.none) (λY Y Y=>.none) (λY Y Y Y=>.none)
noncomputable def stA(es:List Expr):Option (Option Expr×Expr):=match es with
 | []=>.none
 | x::l=>(match l with
  | []=>(Zo5 x).map λe=>(.none,e)
  | y::l=>(match l with
   | []=>ifB (plE x) ((Zo5 y).map λe=>(some x,e)) .none
   | _::_=>.none))
noncomputable def mOk(args:List Expr)(apos pos:Pos):Bool:=decide (args.length<30)&&apos.endLine==pos.line
noncomputable def Zw3(fn:Expr)(args:List Expr):CE:=ifB (plA args&&!f.hd) ⟨λs k=>(r.E f fn).run s λg s=>(r.L f args).run s λl s=>appC p f cal g l s k⟩ noE
noncomputable def Zmm(o:Expr)(n:Str)(q:Option (Option Expr×Expr)):CE:=Option.rec (motive:=λY=>CE) noE (λq=>⟨λs k=>(r.E f o).run s λa s=>(Z4d p f cal n (q.1.map (r.E f)) (r.E f q.2)).run a s k⟩) q
noncomputable def cmpE(l:Expr)(op:CmpOp)(c:Expr)(s:S)(k:Bool->S->Bool):Bool:=(r.E f l).run s λa s=>(r.E f c).run s λb s=>(cmpC op).run a b s λt=>k t s
noncomputable def Z1o(op:BoolOp)(vs:List Expr):CE:=match vs with
 | []=>noE
 | x::l=>(match l with
  | []=>noE
  | y::l=>(match l with
   | []=>(match op with
    | .And=>⟨λs k=>(r.E f x).run s λa s=>Z4m a s λt=>iff t ((r.E f y).run s k) (k a s)⟩
    | .Or=>⟨λs k=>(r.E f x).run s λa s=>Z4m a s λt=>iff t (k a s) ((r.E f y).run s k)⟩)
   | _::_=>noE))
noncomputable def Z05(fn:Expr)(args:List Expr)(pos:Pos):CE:=tgS noE (λY Y Y=>noE) (λx np=>Zw3 p f cal r (.Name x np) args) (λo n ap=>ifB (Zy9 o) (ifB (plA args) (ifB (mOk args ap pos) ⟨λs k=>(r.E f o).run s λa s=>(Zw5 p f cal n (r.L f args)).run a s k⟩ noE) (Zmm p f cal r o n (stA args))) noE) (λo i sp=>Zw3 p f cal r (.Subscript o i sp) args) (λY Y Y=>noE) (λY Y Y Y=>noE) fn
noncomputable def slcC(o:Expr)(lo up st:Option Expr):CE:=Option.rec (motive:=λY=>CE) ⟨λs k=>(r.E f o).run s λa s=>(optI f r lo).run s λl s=>(optI f r up).run s λu s=>rSlc a l u s k⟩ (λY=>noE) st
noncomputable def fE(e:Expr):CE:=Expr.casesOn (motive_1:=λY=>CE) e (λop vs Y=>Z1o f r op vs) (λt v Y=>tgS noE (λY Y Y=>noE) (λx Y=>⟨λs k=>(r.E f v).run s λa s=>(stC f x).run a s λs=>k a s⟩) (λY Y Y=>noE) (λY Y Y=>noE) (λY Y Y=>noE) (λY Y Y Y=>noE) t) (λl op r' Y=>⟨λs k=>(r.E f l).run s λa s=>(r.E f r').run s λb s=>(binC op).run a b s k⟩) (λop x Y=>UnaryOp.rec (motive:=λY=>CE) noE noE noE ⟨λs k=>(r.E f x).run s λa s=>a.onInt λi=>fri (Int.neg i) λj=>k (.int j) s⟩ op) (λY Y Y Y=>noE) (λt b o Y=>⟨λs k=>(r.B f t).run s (λs=>(r.E f b).run s k) λs=>(r.E f o).run s k⟩) (λks vs Y=>Zq4 noE (Zq4 noE ⟨λs k=>s.new (.dict .none []) λh s=>k (.ref h) s⟩ vs) ks) (λY Y Y=>noE) (λelt gs sc Y=>gen1 noE gs λtgt it ifs=>Zeu f r elt tgt it ifs sc) (λY Y Y Y=>noE) (λY Y Y Y Y=>noE) (λY Y Y Y=>noE) (λY Y=>noE) (λY Y=>noE) (λY Y=>noE) (λl ops cs Y=>one noE ops λop=>one noE cs λc=>ifB (behindInMarks op c) noE ⟨λs k=>cmpE f r l op c s λt s=>k (.bool t) s⟩) (λfn args kw pos=>Zq4 noE (Z05 p f cal r fn args pos) kw) (λY Y Y Y=>noE) (λY Y=>noE) (λc Y Y=>Zu2 c) (λo n Y=>ifB (Zy9 o) ⟨λs k=>(r.E f o).run s λa s=>(getC p n).run a s k⟩ noE) (λo i Y=>slS (λi=>⟨λs k=>(r.E f o).run s λa s=>(r.E f i).run s λb s=>rSub a b s k⟩) (slcC f r o) i) (λY Y=>noE) (λx Y=>ifB (x==("__debug__" : Str)) noE (nmC p f x)) (λes Y=>ifB (plA es) ⟨λs k=>(r.L f es).run s λl s=>len l λY=>s.new (.list l) λh s=>k (.ref h) s⟩ noE) (λes Y Y=>ifB (plA es) ⟨λs k=>(r.L f es).run s λl s=>len l λY=>Z16 l λt=>k t s⟩ noE) (λY Y Y Y=>noE)
noncomputable def fT(op:BoolOp)(vs:List Expr):CB:=match vs with
 | []=>(match op with | .And=>⟨λs kt Y=>kt s⟩ | .Or=>⟨λs Y kf=>kf s⟩)
 | x::l=>(match op with
  | .And=>⟨λs kt kf=>(r.B f x).run s (λs=>(r.T f op l).run s kt kf) kf⟩
  | .Or=>⟨λs kt kf=>(r.B f x).run s kt λs=>(r.T f op l).run s kt kf⟩)
noncomputable def Z2r(e:Expr):CB:=⟨λs kt kf=>(r.E f e).run s λa s=>Z4m a s λt=>iff t (kt s) (kf s)⟩
noncomputable def fB(e:Expr):CB:=Expr.casesOn (motive_1:=λY=>CB) e (λop vs Y=>r.T f op vs) (λY Y Y=>noB) (λY Y Y Y=>noB) (λop x Y=>UnaryOp.rec (motive:=λY=>CB) noB ⟨λs kt kf=>(r.B f x).run s kf kt⟩ noB noB op) (λY Y Y Y=>noB) (λY Y Y Y=>noB) (λY Y Y=>noB) (λY Y Y=>noB) (λY Y Y Y=>noB) (λY Y Y Y=>noB) (λY Y Y Y Y=>noB) (λY Y Y Y=>noB) (λY Y=>noB) (λY Y=>noB) (λY Y=>noB) (λl ops cs Y=>one noB ops λop=>one noB cs λc=>ifB (behindInMarks op c) noB ⟨λs kt kf=>cmpE f r l op c s λt s=>iff t (kt s) (kf s)⟩) (λY Y Y Y=>Z2r f r e) (λY Y Y Y=>noB) (λY Y=>noB) (λY Y Y=>Z2r f r e) (λY Y Y=>Z2r f r e) (λY Y Y=>noB) (λY Y=>noB) (λY Y=>Z2r f r e) (λY Y=>noB) (λY Y Y=>noB) (λY Y Y Y=>noB)
noncomputable def fL(es:List Expr):CL:=match es with
 | []=>⟨λs k=>k [] s⟩
 | e::l=>⟨λs k=>(r.E f e).run s λa s=>(r.L f l).run s λm s=>k (a::m) s⟩
noncomputable def subS(o i:Expr):CS:=⟨λa s k=>(r.E f o).run s λb s=>(r.E f i).run s λc s=>rSet b c a s k⟩
noncomputable def attS(o:Expr)(n:Str):CS:=⟨λa s k=>(r.E f o).run s λb s=>(setC p n).run b a s k⟩
noncomputable def fS(t:Expr):CS:=tgS noS (λY Y Y=>noS) (λx Y=>stC f x) (λo n Y=>attS p f r o n) (λo i Y=>subS f r o i) (λts Y Y=>ifB (plA ts&&!f.hd) ⟨λa s k=>Zy6 a λn=>gd (Nat.beq n ts.length) ((r.V f ts).run a s k)⟩ noS) (λY Y Y Y=>noS) t
noncomputable def fV(ts:List Expr):CS:=match ts with
 | []=>⟨λa s k=>a.onT (k s) λY Y=>F0⟩
 | t::ts=>⟨λa s k=>a.onT F0 λx l=>(r.S f t).run x s λs=>(r.V f ts).run l s k⟩
noncomputable def Zs1(ts:List Expr):List Str:=ts.filterMap λe=>match e with | .Name id pos=>if f.names.lookup id==some .local&&pos.line==(ts.head?.map (·.pos.line)).getD 0 then some id else .none|_=>.none
noncomputable def swN2(ts vs:List Expr):Option (Option (List Str)):=
 if !(ts.length==2||ts.length==3)||vs.length != ts.length then some .none
 else if vs.any Zfo then some .none
 else if (Zs1 f ts).length != ts.length||(Zs1 f ts).eraseDups.length != (Zs1 f ts).length then some .none
 else if vs.all (foldedForSure 8) then some .none
 else if vs.all (constantsAlone 8) then .none
 else some (some (Zs1 f ts))
noncomputable def swN(ts:List Expr)(v:Expr):Option (Option (List Str)):=tgS (some .none) (λY Y Y=>some .none) (λY Y=>some .none) (λY Y Y=>some .none) (λY Y Y=>some .none) (λvs Y Y=>swN2 f ts vs) (λY Y Y Y=>some .none) v
noncomputable def revT(a:A):A->A:=A.rec (motive:=λY=>A->A) (λr=>r) (λY r=>r) (λY r=>r) (λY r=>r) (λY r=>r) (λY r=>r) (λY r=>r) (λY r=>r) (λY r=>r) (λY r=>r) (λr=>r) (λx Y Y ih r=>ih (.cons x r)) (λY r=>r) a
noncomputable def stL(ns:List Str):CS:=match ns with
 | []=>⟨λa s k=>a.onT (k s) λY Y=>F0⟩
 | x::ns=>⟨λa s k=>a.onT F0 λy l=>(stC f x).run y s λs=>(stL ns).run l s k⟩
noncomputable def Zzm(v:CE)(t:CS):CX:=⟨λs kn Y Y Y=>v.run s λa s=>t.run a s kn⟩
noncomputable def swC(v:CE)(ns:List Str):CX:=⟨λs kn Y Y Y=>v.run s λa s=>Zy6 a λn=>gd (Nat.beq n ns.length) ((stL f ns.reverse).run (revT a .nil) s kn)⟩
noncomputable def asgT(t:Expr)(v:CE)(w:Option (Option (List Str))):CX:=Option.rec (motive:=λY=>CX) noX (λw=>Option.rec (motive:=λY=>CX) (Zzm v (r.S f t)) (λns=>ifB f.hd noX (swC f v ns)) w) w
noncomputable def fAsg(t v:Expr):CX:=tgS noX (λY Y Y=>noX) (λx Y=>ifB (knE v) (Zzm (r.E f v) (stC f x)) noX) (λo n Y=>ifB (knE v) (Zzm (r.E f v) (attS p f r o n)) noX) (λo i Y=>ifB (knE v) (Zzm (r.E f v) (subS f r o i)) noX) (λts n q=>asgT f r (.Tuple ts n q) (r.E f v) (swN f ts v)) (λY Y Y Y=>noX) t
noncomputable def augN(x:Str)(op:Operator)(v:CE):CX:=ifB (f.names.lookup x==some .local) ⟨λs kn Y Y Y=>s.w λlc Y Y Y=>lc.get (f.ns.idxOf x) λa=>v.run s λb s=>(inpC op).run a b s λc s=>(stC f x).run c s kn⟩ noX
noncomputable def augA(o:CE)(n:Str)(op:Operator)(v:CE):CX:=⟨λs kn Y Y Y=>o.run s λb s=>(getC p n).run b s λa s=>v.run s λc s=>(inpC op).run a c s λd s=>(setC p n).run b d s kn⟩
noncomputable def fAug(t:Expr)(op:Operator)(v:Expr):CX:=tgS noX (λY Y Y=>noX) (λx Y=>augN f x op (r.E f v)) (λo n Y=>augA p (r.E f o) n op (r.E f v)) (λY Y Y=>noX) (λY Y Y=>noX) (λY Y Y Y=>noX) t
noncomputable def tryC(x:Str)(m:CE)(hs:CX):CX:=⟨λs kn kb kc kr=>m.run s λm s=>m.onRef λh=>s.lk h λo=>o.onBnext λit=>bNx it s (λs=>hs.run s kn kb kc kr) λv s=>(stC f x).run v s kb⟩
noncomputable def asS(k:List Expr->Expr->CX)(br:CX)(s:Stmt):CX:=Stmt.casesOn (motive_2:=λY=>CX) s (λY Y Y Y Y Y Y Y Y Y=>noX) (λY Y Y Y Y Y Y Y Y Y=>noX) (λY Y Y Y Y Y Y Y Y Y Y=>noX) (λY Y=>noX) (λY Y=>noX) (λts v Y=>k ts v) (λY Y Y Y Y Y Y=>noX) (λY Y Y Y=>noX) (λY Y Y Y Y=>noX) (λY Y Y Y Y=>noX) (λY Y Y Y Y=>noX) (λY Y Y Y=>noX) (λY Y Y Y=>noX) (λY Y Y=>noX) (λY Y Y=>noX) (λY Y Y=>noX) (λY Y Y=>noX) (λY Y Y Y Y=>noX) (λY Y Y Y Y=>noX) (λY Y Y=>noX) (λY Y=>noX) (λY Y Y Y=>noX) (λY Y=>noX) (λY Y=>noX) (λY Y=>noX) (λY=>noX) (λY=>br) (λY=>noX)
noncomputable def fTry2(hs:CX)(y:Str)(v:Expr):CX:=tgS noX (λY Y Y=>noX) (λY Y=>noX) (λY Y Y=>noX) (λY Y Y=>noX) (λY Y Y=>noX) (λfn l kw Y=>Zq4 noX (Zq4 noX (tgS noX (λY Y Y=>noX) (λY Y=>noX) (λY Y Y=>noX) (λo i sp=>tryC f y (r.E f (.Subscript o i sp)) hs) (λY Y Y=>noX) (λY Y Y Y=>noX) fn) kw) l) v
noncomputable def fTry(body:List Stmt)(hs:CX):CX:=List.rec (motive:=λY=>CX) noX (λs1 l Y=>one noX l λs2=>asS (λY Y=>noX) (asS (λts v=>one noX ts λt=>tgS noX (λY Y Y=>noX) (λy Y=>fTry2 f r hs y v) (λY Y Y=>noX) (λY Y Y=>noX) (λY Y Y=>noX) (λY Y Y Y=>noX) t) noX s1) s2) body
noncomputable def forL(tp:Bool)(tgt:CS)(b o:CX)(it:Nat)(n:Nat):S->KS->KS->KS->KA->Bool:=Nat.rec (motive:=λY=>S->KS->KS->KS->KA->Bool) (λY Y Y Y Y=>F0)
 (λY ih s kn kb kc kr=>Zsv tp it s (λs=>o.run s kn kb kc kr) λv s=>tgt.run v s λs=>b.run s (λs=>gcS (Nat.add it 1) s λs=>ih s kn kb kc kr) kn (λs=>gcS (Nat.add it 1) s λs=>ih s kn kb kc kr) kr) n
noncomputable def whL(t:CB)(b o:CX)(lim:Nat)(n:Nat):S->KS->KS->KS->KA->Bool:=Nat.rec (motive:=λY=>S->KS->KS->KS->KA->Bool) (λY Y Y Y Y=>F0)
 (λY ih s kn kb kc kr=>t.run s (λs=>b.run s (λs=>gcS lim s λs=>ih s kn kb kc kr) kn (λs=>gcS lim s λs=>ih s kn kb kc kr) kr) λs=>o.run s kn kb kc kr) n
noncomputable def ifC(t:CB)(b o:CX):CX:=⟨λs kn kb kc kr=>t.run s (λs=>b.run s kn kb kc kr) λs=>o.run s kn kb kc kr⟩
noncomputable def whC(t:CB)(b o:CX):CX:=⟨λs kn kb kc kr=>s.w λY Y Y n=>whL t b o n Zgt s kn kb kc kr⟩
noncomputable def forC(tp:Bool)(it:CE)(tgt:CS)(b o:CX):CX:=⟨λs kn kb kc kr=>it.run s λa s=>Zwe a s λi s=>forL tp tgt b o i Zgt s kn kb kc kr⟩
noncomputable def tryX(x:Str)(a b:CX):CX:=ifB ((f.md&&!f.hd)&&f.names.lookup x==some .globalImplicit) (ifB (x == "StopIteration") a (ifB (x == "CycleError") b noX)) noX
noncomputable def hdX(k:Str->Stmt->List Stmt->CX)(h:ExceptHandler):CX:=ExceptHandler.casesOn (motive_4:=λY=>CX) h λt nm su Y=>Option.rec (motive:=λY=>CX) (Option.rec (motive:=λY=>CX) noX (λt=>tgS noX (λY Y Y=>noX) (λx Y=>List.rec (motive:=λY=>CX) noX (λb0 su Y=>k x b0 su) su) (λY Y Y=>noX) (λY Y Y=>noX) (λY Y Y=>noX) (λY Y Y Y=>noX) t) t) (λY=>noX) nm
noncomputable def fSt(st:Stmt):CX:=Stmt.casesOn (motive_2:=λY=>CX) st (λY Y Y Y Y Y Y Y Y Y=>noX) (λY Y Y Y Y Y Y Y Y Y=>noX) (λY Y Y Y Y Y Y Y Y Y Y=>noX) (λv Y=>Option.rec (motive:=λY=>CX) noX (λv=>⟨λs Y Y Y kr=>(r.E f v).run s kr⟩) v) (λts Y=>one noX ts λt=>tgS noX (λY Y Y=>noX) (λY Y=>noX) (λY Y Y=>noX) (λo i Y=>⟨λs kn Y Y Y=>(r.E f o).run s λa s=>(r.E f i).run s λb s=>rDel a b s kn⟩) (λY Y Y=>noX) (λY Y Y Y=>noX) t) (λts v Y=>List.rec (motive:=λY=>CX) noX (λt ts Y=>List.rec (motive:=λY=>CX) (fAsg p f r t v) (λt2 l Y=>Zq4 noX (ifB (plA [t,t2]&&knE v) ⟨λs kn Y Y Y=>(r.E f v).run s λa s=>(r.S f t).run a s λs=>(r.S f t2).run a s kn⟩ noX) l) ts) ts) (λY Y Y Y Y Y Y=>noX) (λt op v Y=>fAug p f r t op v) (λY Y Y Y Y=>noX) (λt it b o Y=>ifB (!f.hd&&(knE it&&tgB t)) (forC (Zbi t) (r.E f it) (r.S f t) (r.X f b) (r.X f o)) noX) (λY Y Y Y Y=>noX) (λt b o Y=>whC (r.B f t) (r.X f b) (r.X f o)) (λt b o Y=>ifC (r.B f t) (r.X f b) (r.X f o)) (λY Y Y=>noX) (λY Y Y=>noX) (λY Y Y=>noX) (λY Y Y=>noX) (λbody hs oe fb Y=>Zq4 noX (Zq4 noX (one noX hs (hdX λx b0 suite=>tryX f x (fTry f r body (r.X { f with hd:=true } (b0::suite))) ⟨λs kn Y Y Y=>(r.X f body).run s kn We We λY Y=>F0⟩)) fb) oe) (λY Y Y Y Y=>noX) (λt Y Y=>⟨λs kn Y Y Y=>(r.B f t).run s kn λY=>F0⟩) (λY Y=>noX) (λY Y Y Y=>noX) (λY Y=>noX) (λY Y=>noX) (λe Y=>ifB (calE e) ⟨λs kn Y Y Y=>(r.E f e).run s λY s=>kn s⟩ noX) (λY=>⟨λs kn Y Y Y=>kn s⟩) (λY=>⟨λs Y kb Y Y=>kb s⟩) (λY=>⟨λs Y Y kc Y=>kc s⟩)
noncomputable def fX(ss:List Stmt):CX:=match ss with
 | []=>⟨λs kn Y Y Y=>kn s⟩
 | st::l=>⟨λs kn kb kc kr=>(fSt p f r st).run s (λs=>(r.X f l).run s kn kb kc kr) kb kc kr⟩
end
noncomputable def stp(p:Pg)(cal:Bool->Addr->CC)(r:Rec):Rec:=⟨λf e=>fE p f cal r e,λf e=>fB f r e,λf o l=>fT f r o l,λf l=>fL f r l,λf l=>fX p f r l,λf t=>fS p f r t,λf l=>fV f r l⟩
noncomputable def no0:Rec:=⟨λY Y=>noE,λY Y=>noB,λY Y Y=>noB,λY Y=>⟨λY Y=>F0⟩,λY Y=>noX,λY Y=>noS,λY Y=>noS⟩
noncomputable def Zoh(p:Pg)(cal:Bool->Addr->CC):Nat->Rec
 | 0=>no0
 | n+1=>stp p cal (Zoh p cal n)
noncomputable def Zj8(l:List A):Nat->(List A->List A->Bool)->Bool:=List.rec (motive:=λY=>Nat->(List A->List A->Bool)->Bool) (λn k=>Nat.rec (motive:=Wf) (k [] []) Wd n) (λa l ih n k=>Nat.rec (motive:=Wf) (k [] (a::l)) (λm Y=>ih m λx y=>k (a::x) y) n) l
noncomputable def Z0o(kind n:Nat)(l:List A)(k:List A->Bool):Bool:=match kind with
 | 0=>Zj8 l n λx y=>gd (emL y) (k x)
 | 1=>Nat.rec (motive:=Wf) F0 (λm Y=>Zj8 l m λx y=>len y λY=>Z16 y λt=>app x [t] k) n
 | _=>Nat.rec (motive:=Wf) F0 (λm Y=>Zj8 l m λx y=>gd (emL y) (app x [.none] k)) n
noncomputable def Z4x(sn:List (Str×NameKind))(names rest:List Str):List A->(Lc->Bool)->Bool:=List.rec (motive:=λY=>List A->(Lc->Bool)->Bool) (λl k=>gd (emL l) (k (Zy2 rest))) (λx Y ih l k=>Zv4 l λa l=>iff (sn.lookup x==some .local) (ih l λt=>k (.so a t)) (ih l k)) names
noncomputable def Zzv(x:Str)(names:List Str):List A->Lc:=List.rec (motive:=λY=>List A->Lc) (λY=>.nil) (λy Y ih l=>List.rec (motive:=λY=>Lc) .nil (λa l Y=>Bool.rec (motive:=λY=>Lc) (ih l) (.so a .nil) (y==x)) l) names
noncomputable def Zi4(sn:List (Str×NameKind)):List Str:=(sn.filter λx=>x.2 == .cell).map (·.1)
noncomputable def Z44(names:List Str)(args:List A)(cn:List Str):Nat->Hp->List Nat->(Nat->Hp->List Nat->Bool)->Bool:=List.rec (motive:=λY=>Nat->Hp->List Nat->(Nat->Hp->List Nat->Bool)->Bool) (λn m c k=>k n m c)
 (λx Y ih n m c k=>frc (Nat.add n 1) λn'=>ih n' (.cons n (.cell (Zzv x names args)) m) (n::c) k) cn
noncomputable def Zuw(fi:FI)(md:Bool):Fm:=⟨fi.sn,(fi.names.filter λx=>fi.sn.lookup x==some .local)++fi.rest,(Zi4 fi.sn).reverse,md,false⟩
noncomputable def Zzi(lc:Lc)(ce:List Nat)(n:Nat)(k:KA)(a:A)(s:S):Bool:=s.w λY Y ob m=>gcO n (Zvg a []) ob λob=>k a ⟨lc,ce,ob,m⟩
noncomputable def fnC(fi:FI)(body:CX):CC:=⟨λl s k=>Z0o fi.kind fi.names.length l λl=>s.w λlc ce ob n=>Z4x fi.sn fi.names fi.rest l λlc'=>Z44 fi.names l (Zi4 fi.sn) n ob [] λn' ob' ce'=>
 body.run ⟨lc',ce',ob',n'⟩ (Zzi lc ce n k .none) We We (Zzi lc ce n k)⟩
noncomputable def isNone(a:A):Bool:=A.rec (motive:=Wf) true We We We We We We We We We F0 Wb We a
noncomputable def clC(sl:Bool)(c:Addr)(ini:CC):CC:=match sl with
 | false=>⟨λl s k=>s.new (.attrs []) λdx s=>s.new (.inst c dx) λx s=>ini.run (.ref x::l) s λv s=>gd (isNone v) (k (.ref x) s)⟩
 | true=>⟨λl s k=>s.new .emp λdx s=>s.new (.slots c dx .nil) λx s=>ini.run (.ref x::l) s λv s=>gd (isNone v) (k (.ref x) s)⟩
noncomputable def Zde:Nat:=60
noncomputable def noC:CC:=⟨λY Y Y=>F0⟩
noncomputable def call(p:Pg):Nat->Bool->Addr->CC
 | 0=>λY Y=>noC
 | d+1=>λmd a=>match p.fn.lookup a with
  | some fi=>fnC fi ((Zoh p (call p d) Zde).X (Zuw fi md) fi.body)
  | .none=>match p.cl.lookup a with
   | some c=>clC c.1 a (call p d false c.2)
   | .none=>(p.hk.lookup a).getD noC
theorem neFI:Nonempty FI:=⟨⟨[],0,[],[],[]⟩⟩
theorem nePg:Nonempty Pg:=⟨⟨[],[],[],[],[],[],[],[]⟩⟩
theorem neFm:Nonempty Fm:=⟨⟨[],[],[],false,false⟩⟩
theorem neRec:Nonempty Rec:=⟨no0⟩
theorem neCC:Nonempty CC:=⟨noC⟩
end MI
namespace MI
open Mine
structure En where
 χ:Nat->Nat
 ν:Nat->V
 kn:∀ c,Zz0 c=true->χ c=c
 inj:∀ a b,Zg6 a=true->Zg6 b=true->χ a=χ b->a=b
 lt:∀ a,Zg6 a=true->χ a<128
abbrev Rh:=Nat->Option Addr
def Le(D D':Rh):Prop:=∀ h a,D h=some a->D' h=some a
theorem Le.refl(D:Rh):Le D D:=λY Y e=>e
theorem Le.trans{a b c:Rh}(x:Le a b)(y:Le b c):Le a c:=λh q e=>y h q (x h q e)
noncomputable def tyNm(n:Nat):String:=["range", "bytes", "bytearray", "enumerate", "set", "tuple", "bool", "list"].getD n ""
noncomputable def biNm(n:Nat):String:=["len", "chr", "ord", "max", "min", "sum", "iter", "isinstance", "sorted"].getD n ""
section
variable (E:En) (D:Rh)
def AR(a:A):V->Prop:=A.rec (motive:=λY=>V->Prop) (λv=>v = .none) (λb v=>v = .bool b) (λi v=>v = .int i) (λc v=>v = .int (E.χ c)) (λl v=>v = .str ⟨(l.map E.χ).toArray⟩) (λl v=>v = .bytes (l.map E.χ))
 (λn v=>v = .ty (tyNm n)) (λn v=>v = .bi (biNm n)) (λa v=>v = .ref a) (λh v=>∃ a,D h=some a/\v = .ref a) (λv=>v = .tup []) (λY Y ih ihl v=>∃ x xs,v = .tup (x::xs)/\ih x/\ihl (.tup xs)) (λk v=>v=E.ν k) a
def LR(l:List A):List V->Prop:=List.rec (motive:=λY=>List V->Prop) (λvs=>vs=[]) (λa Y ih vs=>∃ v w,vs=v::w/\AR E D a v/\ih w) l
def LcR(l:Lc):List Str->Wm->Prop:=Lc.rec (motive:=λY=>List Str->Wm->Prop) (λns m=>ns=[]/\m=[]) (λY ih ns m=>∃ x xs r,ns=x::xs/\m=(x,none)::r/\ih xs r)
 (λa Y ih ns m=>∃ x xs v r,ns=x::xs/\m=(x,some v)::r/\AR E D a v/\ih xs r) l
def SlR(l:Lc):List (Option V)->Prop:=Lc.rec (motive:=λY=>List (Option V)->Prop) (λm=>m=[]) (λY ih m=>∃ r,m=none::r/\ih r) (λa Y ih m=>∃ v r,m=some v::r/\AR E D a v/\ih r) l
def CR(l:Lc)(o:Option V):Prop:=Lc.rec (motive:=λY=>Prop) (o=none) (λY Y=>o=none) (λa Y Y=>∃ v,o=some v/\AR E D a v) l
def TaR(l:List (Str×A)):Wn->Prop:=List.rec (motive:=λY=>Wn->Prop) (λm=>m=[]) (λp Y ih m=>∃ v r,m=(p.1,v)::r/\AR E D p.2 v/\ih r) l
def KR(l:List (A×A)):List (Int×V)->Prop:=List.rec (motive:=λY=>List (Int×V)->Prop) (λm=>m=[]) (λp Y ih m=>∃ i v r,m=(i,v)::r/\Zmt p.1=true/\AR E D p.1 (.int i)/\AR E D p.2 v/\ih r) l
def IR(l:List A):List Int->Prop:=List.rec (motive:=λY=>List Int->Prop) (λm=>m=[]) (λa Y ih m=>∃ i r,m=i::r/\Zmt a=true/\AR E D a (.int i)/\ih r) l
def EpR(e:Option Nat)(o:Option Nat):Prop:=Option.rec (motive:=λY=>Prop) (o=none) (λe=>∃ ep,D e=some ep/\o=some ep) e
def OO(o:O)(x:AO):Prop:=O.rec (motive:=λY=>Prop) (λl=>∃ vs,x = .list vs/\LR E D l vs) (λl=>x = .ba (l.map E.χ)) (λh i=>∃ a,D h=some a/\x = .liter a i) (λy n st=>x = .riter y n st) (λl i=>∃ vs,AR E D l (.tup vs)/\x = .titer vs i)
 (λj i=>∃ a,D j=some a/\x = .enum a i) (λv=>∃ w,x = .cell w/\CR E D v w) (λe l=>∃ oe kv,x = .dictE oe kv/\KR E D l kv/\EpR D e oe) (λd i n e=>∃ a ep,D d=some a/\D e=some ep/\x = .kiter a i n ep) (λd i n e=>∃ a ep,D d=some a/\D e=some ep/\x = .viter a i n ep)
 (λd=>∃ a,D d=some a/\x = .vview a) (λc dx=>∃ a,D dx=some a/\x = .inst c a) (λl=>∃ m,x = .attrs m/\TaR E D l m) (λc dx l=>∃ a m,D dx=some a/\x = .slots c a m/\SlR E D l m) (x = .raw emptyDict) (λl=>∃ m,x = .set m/\IR E D l m)
 (λj=>∃ a,D j=some a/\x = .bound "method-wrapper" "list_iterator.__next__" a) (λl=>∃ a,D l=some a/\x = .own (Z4l a)) (λa b c=>x = .range a b c) (λf h=>∃ a,D h=some a/\x = .raw (methodObj (.ref f) (.ref a))) o
def HR(T:Wg)(m:Hp):Wg->Prop:=Hp.rec (motive:=λY=>Wg->Prop) (λl=>l=T) (λh o Y ih l=>∃ a x r,l=(a,x)::r/\D h=some a/\OO E D o x/\ih r) m
def CeR(cs:List (Str×Addr))(ce:List Nat):List Str->Prop:=List.rec (motive:=λY=>List Str->Prop) (λcn=>cn=[]) (λh Y ih cn=>∃ x r a,cn=x::r/\D h=some a/\cs.lookup x=some a/\ih r) ce
structure SR(f:Fm)(T:Wg)(cs:List (Str×Addr))(s:S)(J:Mine.St):Prop where
 loc:LcR E D s.loc f.ns J.loc
 cel:CeR D cs s.cel f.cn
 obs:HR E D T s.obs J.obs
 fr:∀ h,s.nx<=h->D h=none
end
section
variable {E:En} {D D':Rh} (hle:Le D D')
include hle
theorem AR.le{a:A}{v:V}(h:AR E D a v):AR E D' a v:=by
 induction a generalizing v with
 | ref i=>obtain⟨a,e,q⟩:=h;exact⟨a,hle _ _ e,q⟩
 | cons a l ih ihl=>obtain⟨x,xs,e,p,q⟩:=h;exact⟨x,xs,e,ih p,ihl q⟩
 | _=>exact h
theorem LR.le{l:List A}{vs:List V}(h:LR E D l vs):LR E D' l vs:=by
 induction l generalizing vs with
 | nil=>exact h
 | cons a l ih=>obtain⟨v,w,e,p,q⟩:=h;exact⟨v,w,e,p.le hle,ih q⟩
theorem LcR.le{l:Lc}{ns:List Str}{m:Wm}(h:LcR E D l ns m):LcR E D' l ns m:=by
 induction l generalizing ns m with
 | nil=>exact h
 | no l ih=>obtain⟨x,xs,r,e,e2,q⟩:=h;exact⟨x,xs,r,e,e2,ih q⟩
 | so a l ih=>obtain⟨x,xs,v,r,e,e2,p,q⟩:=h;exact⟨x,xs,v,r,e,e2,p.le hle,ih q⟩
theorem SlR.le{l:Lc}{m:List (Option V)}(h:SlR E D l m):SlR E D' l m:=by
 induction l generalizing m with
 | nil=>exact h
 | no l ih=>obtain⟨r,e,q⟩:=h;exact⟨r,e,ih q⟩
 | so a l ih=>obtain⟨v,r,e,p,q⟩:=h;exact⟨v,r,e,p.le hle,ih q⟩
theorem CR.le{l:Lc}{o:Option V}(h:CR E D l o):CR E D' l o:=by
 induction l with
 | nil=>exact h
 | no l=>exact h
 | so a l=>obtain⟨v,e,p⟩:=h;exact⟨v,e,p.le hle⟩
theorem TaR.le{l:List (Str×A)}{m:Wn}(h:TaR E D l m):TaR E D' l m:=by
 induction l generalizing m with
 | nil=>exact h
 | cons a l ih=>obtain⟨v,r,e,p,q⟩:=h;exact⟨v,r,e,p.le hle,ih q⟩
theorem KR.le{l:List (A×A)}{m:List (Int×V)}(h:KR E D l m):KR E D' l m:=by
 induction l generalizing m with
 | nil=>exact h
 | cons a l ih=>obtain⟨i,v,r,e,k,p,p2,q⟩:=h;exact⟨i,v,r,e,k,p.le hle,p2.le hle,ih q⟩
theorem IR.le{l:List A}{m:List Int}(h:IR E D l m):IR E D' l m:=by
 induction l generalizing m with
 | nil=>exact h
 | cons a l ih=>obtain⟨i,r,e,k,p,q⟩:=h;exact⟨i,r,e,k,p.le hle,ih q⟩
theorem OO.le{o:O}{x:AO}(h:OO E D o x):OO E D' o x:=by
 induction o with
 | list l=>obtain⟨vs,e,p⟩:=h;exact⟨vs,e,p.le hle⟩
 | liter h i=>obtain⟨a,e,p⟩:=h;exact⟨a,hle _ _ e,p⟩
 | titer l i=>obtain⟨vs,p,e⟩:=h;exact⟨vs,p.le hle,e⟩
 | enum j i=>obtain⟨a,e,p⟩:=h;exact⟨a,hle _ _ e,p⟩
 | cell v=>obtain⟨w,e,p⟩:=h;exact⟨w,e,p.le hle⟩
 | dict e l=>
  obtain⟨oe,kv,q,p,r⟩:=h
  refine⟨oe,kv,q,p.le hle,?_⟩
  induction e with
  | none=>exact r
  | some e=>obtain⟨ep,a,b⟩:=r;exact⟨ep,hle _ _ a,b⟩
 | kiter d i n e=>obtain⟨a,ep,p,q,r⟩:=h;exact⟨a,ep,hle _ _ p,hle _ _ q,r⟩
 | viter d i n e=>obtain⟨a,ep,p,q,r⟩:=h;exact⟨a,ep,hle _ _ p,hle _ _ q,r⟩
 | vview d=>obtain⟨a,e,p⟩:=h;exact⟨a,hle _ _ e,p⟩
 | inst c dx=>obtain⟨a,e,p⟩:=h;exact⟨a,hle _ _ e,p⟩
 | attrs l=>obtain⟨m,e,p⟩:=h;exact⟨m,e,p.le hle⟩
 | slots c dx l=>obtain⟨a,m,e,p,q⟩:=h;exact⟨a,m,hle _ _ e,p,q.le hle⟩
 | set l=>obtain⟨m,e,p⟩:=h;exact⟨m,e,p.le hle⟩
 | bnext j=>obtain⟨a,e,p⟩:=h;exact⟨a,hle _ _ e,p⟩
 | lit l=>obtain⟨a,e,p⟩:=h;exact⟨a,hle _ _ e,p⟩
 | bm f l=>obtain⟨a,e,p⟩:=h;exact⟨a,hle _ _ e,p⟩
 | _=>exact h
theorem HR.le{T:Wg}{m:Hp}{l:Wg}(h:HR E D T m l):HR E D' T m l:=by
 induction m generalizing l with
 | nil=>exact h
 | cons i o m ih=>obtain⟨a,x,r,e,p,q,t⟩:=h;exact⟨a,x,r,e,hle _ _ p,q.le hle,ih t⟩
theorem CeR.le{cs:List (Str×Addr)}{ce:List Nat}{cn:List Str}(h:CeR D cs ce cn):CeR D' cs ce cn:=by
 induction ce generalizing cn with
 | nil=>exact h
 | cons i ce ih=>obtain⟨x,r,a,e,p,q,t⟩:=h;exact⟨x,r,a,e,hle _ _ p,q,ih t⟩
end
theorem Zj4{b x:Bool}(h:gd b x=true):b=true/\x=true:=by
 induction b with
 | false=>cases h
 | true=>exact⟨rfl,h⟩
theorem Znf{b x y:Bool}(h:iff b x y=true):(b=true/\x=true)\/(b=false/\y=true):=by
 induction b with
 | false=>exact .inr ⟨rfl,h⟩
 | true=>exact .inl ⟨rfl,h⟩
theorem Za1{n:Nat}{k:Nat->Bool}(h:frc n k=true):k n=true:=by
 induction n with
 | zero=>exact h
 | succ n=>exact h
theorem Zul{i:Int}{k:Int->Bool}(h:fri i k=true):k i=true:=by
 induction i with
 | ofNat n=>exact Za1 (k:=λn=>k (.ofNat n)) h
 | negSucc n=>exact Za1 (k:=λn=>k (.negSucc n)) h
theorem ff{Q:Prop}(h:F0=true):Q:=nomatch h
theorem Zar{b x:Bool}{Q:Prop}(h:gd b x=true)(q:b=true->x=true->Q):Q:=by
 induction b with
 | false=>cases h
 | true=>exact q rfl h
theorem Zb0{b x y:Bool}{Q:Prop}(h:iff b x y=true)(q1:b=true->x=true->Q)(q2:b=false->y=true->Q):Q:=by
 induction b with
 | false=>exact q2 rfl h
 | true=>exact q1 rfl h
theorem Zsh{α:Type}{o:Option α}{k:α->Bool}{Q:Option α->Prop}(h:opt o F0 k=true)(q:∀ x,k x=true->Q (some x)):Q o:=by
 induction o with
 | none=>cases h
 | some x=>exact q x h
theorem Zta{α:Type}{o:Option α}{x:Bool}{Q:Option α->Prop}(h:onN o x=true)(q:x=true->Q none):Q o:=by
 induction o with
 | none=>exact q h
 | some x=>cases h
section
variable {E:En} {D:Rh} {a:A} {v:V} {Q:V->Prop}
theorem Zbx{k:Int->Bool}(r:AR E D a v)(e:a.onInt k=true)(q:∀ i,k i=true->Q (.int i)):Q v:=by
 induction a with
 | int i=>obtain rfl:v=_:=r;exact q i e
 | _=>exact ff e
theorem Zc8{k:List Nat->Bool}(r:AR E D a v)(e:a.onBytes k=true)(q:∀ l,k l=true->Q (.bytes (l.map E.χ))):Q v:=by
 induction a with
 | bytes i=>obtain rfl:v=_:=r;exact q i e
 | _=>exact ff e
theorem Zfk{i:Int}{k:Nat->Bool}{Q:Int->Prop}(e:Zxu i k=true)(q:∀ n:Nat,k n=true->Q n):Q i:=by
 induction i with
 | ofNat n=>exact q n e
 | negSucc n=>cases e
theorem Z3k{k:Nat->Bool}(r:AR E D a v)(e:Z4y a k=true)(q:∀ n:Nat,k n=true->Q (.int n)):Q v:=Zbx (Q:=Q) r e λY e=>Zfk (Q:=λi=>Q (.int i)) e q
theorem Zdv{k:Nat->Bool}(r:AR E D a v)(e:a.onRef k=true)(q:∀ h b,D h=some b->k h=true->Q (.ref b)):Q v:=by
 induction a with
 | ref i=>obtain⟨b,hb,rfl⟩:=r;exact q i b hb e
 | _=>exact ff e
theorem Zsi{ki:Int->Bool}{kb:List Nat->Bool}{kr:Nat->Bool}{kt:Bool}{R:A->V->Prop}(r:AR E D a v)(e:a.sw ki kb kr kt=true)(q1:∀ i,ki i=true->R (.int i) (.int i))(q2:∀ l,kb l=true->R (.bytes l) (.bytes (l.map E.χ)))
  (q3:∀ h b,D h=some b->kr h=true->R (.ref h) (.ref b)) (q4:∀ l,AR E D a (.tup l)->kt=true->R a (.tup l)):R a v:=by
 induction a with
 | int i=>obtain rfl:v=_:=r;exact q1 i e
 | bytes i=>obtain rfl:v=_:=r;exact q2 i e
 | ref i=>obtain⟨b,hb,rfl⟩:=r;exact q3 i b hb e
 | nil=>obtain rfl:v=_:=r;exact q4 _ rfl e
 | cons x y=>obtain⟨x,xs,rfl,p,q⟩:=r;exact q4 _ ⟨x,xs,rfl,p,q⟩ e
 | _=>exact ff e
theorem Zl2{l:List V}{kn:Bool}{k:A->A->Bool}{R:A->List V->Prop}(r:AR E D a (.tup l))(e:a.onT kn k=true)(q1:kn=true->R .nil [])(q2:∀ x y v w,AR E D x v->AR E D y (.tup w)->k x y=true->R (.cons x y) (v::w)):R a l:=by
 induction a with
 | nil=>obtain rfl:l=[]:=V.tup.inj r;exact q1 e
 | cons x y=>obtain⟨v,w,h,p,q⟩:=r;obtain rfl:=V.tup.inj h;exact q2 x y v w p q e
 | _=>exact ff e
theorem Zqy{l:List A}{vs:List V}{R:List A->List V->Prop}(r:LR E D l vs)(q1:R [] [])(q2:∀ x l v w,AR E D x v->LR E D l w->R (x::l) (v::w)):R l vs:=by
 induction l with
 | nil=>obtain rfl:vs=[]:=r;exact q1
 | cons x l=>obtain⟨v,w,rfl,p,q⟩:=r;exact q2 x l v w p q
end
section
variable {o:O}
theorem Zsn{k:List A->Bool}(h:o.onList k=true):∃ l,o = .list l/\k l=true:=by induction o <;> first|exact⟨_,rfl,h⟩|exact ff h
theorem Zsm{k:Lc->Bool}(h:o.onCell k=true):∃ l,o = .cell l/\k l=true:=by induction o <;> first|exact⟨_,rfl,h⟩|exact ff h
theorem Zqm{k:List (Str×A)->Bool}(h:o.onAttrs k=true):∃ l,o = .attrs l/\k l=true:=by induction o <;> first|exact⟨_,rfl,h⟩|exact ff h
theorem Zwm{k:Bool}(h:o.isEmp k=true):o = .emp/\k=true:=by induction o <;> first|exact⟨rfl,h⟩|exact ff h
theorem Zk1{k:Option Nat->List (A×A)->Bool}(h:o.onDict k=true):∃ e l,o = .dict e l/\k e l=true:=by induction o <;> first|exact⟨_,_,rfl,h⟩|exact ff h
theorem Zo9{k:Nat->Nat->Bool}(h:o.onLiter k=true):∃ e l,o = .liter e l/\k e l=true:=by induction o <;> first|exact⟨_,_,rfl,h⟩|exact ff h
theorem Zru{k:Addr->Nat->Bool}(h:o.onInst k=true):∃ e l,o = .inst e l/\k e l=true:=by induction o <;> first|exact⟨_,_,rfl,h⟩|exact ff h
theorem Z22{k:Addr->Nat->Bool}(h:o.onBm k=true):∃ e l,o = .bm e l/\k e l=true:=by induction o <;> first|exact⟨_,_,rfl,h⟩|exact ff h
theorem Znk{k:Nat->Bool}(h:o.onBnext k=true):∃ l,o = .bnext l/\k l=true:=by induction o <;> first|exact⟨_,rfl,h⟩|exact ff h
end
section
variable {α:Type}
theorem Zcn{l m:List α}{k:List α->Bool}(h:app l m k=true):k (l++m)=true:=by
 induction l generalizing k with
 | nil=>exact h
 | cons a l ih=>exact ih (k:=λr=>k (a::r)) h
theorem Zug{l:List α}{i:Nat}{n:Bool}{k:α->Bool}(h:nth l i n k=true):(l[i]?=none/\n=true)\/∃ x,l[i]?=some x/\k x=true:=by
 induction l generalizing i with
 | nil=>exact .inl ⟨rfl,h⟩
 | cons a l ih=>
  induction i with
  | zero=>exact .inr ⟨a,rfl,h⟩
  | succ i=>exact ih h
theorem Zwt{l:List α}{i:Nat}{k:α->Bool}(h:nth l i F0 k=true):∃ x,l[i]?=some x/\k x=true:=(Zug h).elim (λq=>nomatch q.2) id
theorem Znq{l:List α}{v:α}{i:Nat}{k:List α->Bool}(h:Z47 l v i k=true):i<l.length/\k (l.set i v)=true:=by
 induction l generalizing i k with
 | nil=>cases h
 | cons a l ih=>
  induction i with
  | zero=>exact⟨Nat.zero_lt_succ _,h⟩
  | succ i=>exact(ih (k:=λr=>k (a::r)) h).imp Nat.succ_lt_succ id
theorem Zyj{l:List α}{i:Nat}{k:List α->Bool}(h:eraN l i k=true):k (l.eraseIdx i)=true:=by
 induction l generalizing i k with
 | nil=>cases h
 | cons a l ih=>
  induction i with
  | zero=>exact h
  | succ i=>exact ih (k:=λr=>k (a::r)) h
theorem Zvz(l:List α):lenN l=l.length:=by
 induction l with
 | nil=>rfl
 | cons a l ih=>exact congrArg (·+1) ih
theorem Zqj{l:List α}{k:Nat->Bool}(h:len l k=true):l.length<=100000/\k l.length=true:=by
 have h1:=Zj4 (Za1 h)
 rw[Zvz] at h1
 exact⟨Qo h1.1,h1.2⟩
theorem Zll{l:List α}{i:Nat}{k:List α->Bool}(h:tkN l i k=true):k (l.take i)=true:=by
 induction l generalizing i k with
 | nil=>rw[List.take_nil];exact h
 | cons a l ih=>
  induction i with
  | zero=>exact h
  | succ i=>exact ih (k:=λr=>k (a::r)) h
theorem Zk0{l:List α}{i:Nat}{k:List α->Bool}(h:drN l i k=true):k (l.drop i)=true:=by
 induction l generalizing i k with
 | nil=>rw[List.drop_nil];exact h
 | cons a l ih=>
  induction i with
  | zero=>exact h
  | succ i=>exact ih h
theorem Zi9{n:Nat}{i:Int}{k:Nat->Bool}(h:clpI n i k=true):k (clipAt n i)=true:=by
 induction i with
 | ofNat m=>
  rcases Znf h with⟨a,b⟩|⟨a,b⟩
  .rw[show(Int.ofNat m)=(m:Int) from rfl,Zd2 (Qo a)];exact b
  .have:n<m:=Nat.lt_of_not_le λq=>by rw[Nat.ble_eq_true_of_le q] at a;cases a
   have e:clipAt n (Int.ofNat m)=n:=(clipAt_nat n m).trans (Nat.min_eq_right (Nat.le_of_lt this))
   rw[e];exact b
 | negSucc m=>
  have e:clipAt n (Int.negSucc m)=n-(m+1):=clipAt_neg n (m+1) (Nat.succ_pos m)
  rw[e];exact Za1 h
theorem Znw{l:List α}{lo hi:Option Int}{k:List α->Bool}(h:slcN l lo hi k=true):l.length<=100000/\k (Mine.slc l lo hi)=true:=by
 have h:=Zqj h
 refine⟨h.1,?_⟩
 have h:=h.2
 unfold Mine.slc
 induction lo with
 | none=>
  induction hi with
  | none=>exact Zll (Zk0 h)
  | some j=>exact Zll (Zk0 (Zi9 (n:=l.length) (i:=j) (k:=λb=>drN l 0 λr=>tkN r (Nat.sub b 0) k) h))
 | some i=>
  have h:=Zi9 h
  induction hi with
  | none=>exact Zll (Zk0 h)
  | some j=>exact Zll (Zk0 (Zi9 (n:=l.length) (i:=j) (k:=λb=>drN l (clipAt l.length i) λr=>tkN r (Nat.sub b (clipAt l.length i)) k) h))
theorem Zao{l:List α}{k:Nat->Bool}{Q:Prop}(h:len l k=true)(q:l.length<=100000->k l.length=true->Q):Q:=q (Zqj h).1 (Zqj h).2
theorem Zeh{l:List α}{i:Nat}{k:α->Bool}{Q:Prop}(h:nth l i F0 k=true)(q:∀ x,l[i]?=some x->k x=true->Q):Q:=(Zwt h).elim λx e=>q x e.1 e.2
theorem Zrf{l:List α}{i:Nat}{n:Bool}{k:α->Bool}{Q:Prop}(h:nth l i n k=true)(q1:l[i]?=none->n=true->Q)(q2:∀ x,l[i]?=some x->k x=true->Q):Q:=(Zug h).elim (λe=>q1 e.1 e.2) λe=>e.elim λx e=>q2 x e.1 e.2
end
theorem gu1{A:Around}{n:Nat}(g:Good A n)(h:0<n):A.units+20<cLine:=Nat.lt_of_le_of_lt (Nat.add_le_add_left (Nat.le_mul_of_pos_right 20 h) _) g.u
end MI
section
variable {α:Type}{D:MI.Rh}{Q:Prop}{a:MI.A}{l:List MI.A}{vs:List Mine.V}{x:Str}{v:Mine.V}{i:Nat}{n:Nat}{k:Bool->Bool}{J:Mine.St}{h:Nat}{pos:Pos}{env:Env}{b:Bool}{o:MI.O}{K:Wl}{s:MI.S}{D':MI.Rh}{m:List (Int×Mine.V)}{Kn:Wl}{d:Nat}{ce:List Nat}
namespace MI
open Mine
noncomputable def idx(h:Nat)(m:Hp):Nat:=Hp.rec (motive:=λY=>Nat) 0 (λi Y Y ih=>Bool.rec (motive:=λY=>Nat) (ih+1) 0 (Nat.beq i h)) m
noncomputable def Zzc(i:Nat)(x:AO):Wg->Wg
 | []=>[]
 | p::l=>match i with
  | 0=>(p.1,x)::l
  | i+1=>p::Zzc i x l
structure Spot(E:En)(D:Rh)(T:Wg)(h:Nat)(m:Hp)(l:Wg)(o:O)(a:Addr)(x:AO):Prop where
 ad:D h=some a
 lk:LkO a x l
 ob:OO E D o x
 up1:∀ x',UpO a x x' l (Zzc (idx h m) x' l)
 up2:∀ o' x',OO E D o' x'->∀ k:Hp->Bool,upO h o' m k=true->∃ m',HR E D T m' (Zzc (idx h m) x' l)/\k m'=true
 rm:∀ k:Hp->Bool,rmO h m k=true->∃ m' l',Pick (a,x) l l'/\HR E D T m' l'/\k m'=true
theorem Spot.up{E:En}{T:Wg}{m:Hp}{l:Wg}{a:Addr}{x:AO}(p:Spot E D T h m l o a x)(o':O)(x':AO)(ho:OO E D o' x')(k:Hp->Bool)(e:upO h o' m k=true):∃ m' l',UpO a x x' l l'/\HR E D T m' l'/\k m'=true:=
 let ⟨m',q,r⟩:=p.up2 o' x' ho k e
 ⟨m',_,p.up1 x',q,r⟩
theorem Zqb{E:En}{T:Wg}{m:Hp}{l:Wg}{k:O->Bool}(r:HR E D T m l)(e:lkO h m k=true):∃ o a x,(∀ D',Le D D'->Spot E D' T h m l o a x)/\k o=true:=by
 induction m generalizing l with
 | nil=>cases e
 | cons i o m ih=>
  obtain⟨a,x,l,rfl,p,q,t⟩:=r
  have t:HR E D T m l:=t
  cases hb:Nat.beq i h with
  | true=>
   have e':k o=true:=by
    have:Bool.rec (motive:=Wf) (lkO h m k) (k o) (Nat.beq i h)=true:=e
    rwa [hb] at this
   have hi:i=h:=Qp hb
   have h0:idx h (.cons i o m)=0:=by
    show Bool.rec (motive:=λY=>Nat) (idx h m+1) 0 (Nat.beq i h)=0
    rw[hb]
   refine⟨o,a,x,λD' le=>⟨hi▸le _ _ p,.head,q.le le,λx'=>by rw[h0];exact .head,λo' x' ho k hk=>?_,λk hk=>?_⟩,e'⟩
   .have hk:Bool.rec (motive:=Wf) (upO h o' m λl'=>k (.cons i o l')) (k (.cons i o' m)) (Nat.beq i h)=true:=hk
    rw[hb] at hk
    rw[h0]
    exact⟨.cons i o' m,⟨a,x',l,rfl,le _ _ p,ho,t.le le⟩,hk⟩
   .have hk:Bool.rec (motive:=Wf) (rmO h m λl'=>k (.cons i o l')) (k m) (Nat.beq i h)=true:=hk
    rw[hb] at hk
    exact⟨m,l,.head,t.le le,hk⟩
  | false=>
   have e':lkO h m k=true:=by
    have:Bool.rec (motive:=Wf) (lkO h m k) (k o) (Nat.beq i h)=true:=e
    rwa [hb] at this
   obtain⟨o2,a2,x2,s,z⟩:=ih t e'
   have h0:idx h (.cons i o m)=idx h m+1:=by
    show Bool.rec (motive:=λY=>Nat) (idx h m+1) 0 (Nat.beq i h)=_
    rw[hb]
   refine⟨o2,a2,x2,λD' le=>⟨(s _ le).ad,.tail (s _ le).lk,(s _ le).ob,λx'=>by rw[h0];exact .tail ((s _ le).up1 x'),λo' x' ho k hk=>?_,λk hk=>?_⟩,z⟩
   .have hk:Bool.rec (motive:=Wf) (upO h o' m λl'=>k (.cons i o l')) (k (.cons i o' m)) (Nat.beq i h)=true:=hk
    rw[hb] at hk
    obtain⟨m',v,w⟩:=(s _ le).up2 o' x' ho _ hk
    rw[h0]
    exact⟨.cons i o m',⟨a,x,_,rfl,le _ _ p,q.le le,v⟩,w⟩
   .have hk:Bool.rec (motive:=Wf) (rmO h m λl'=>k (.cons i o l')) (k m) (Nat.beq i h)=true:=hk
    rw[hb] at hk
    obtain⟨m',l',u,v,w⟩:=(s _ le).rm _ hk
    exact⟨.cons i o m',(a,x)::l',.tail u,⟨a,x,l',rfl,le _ _ p,q.le le,v⟩,w⟩
theorem Z2p{E:En}{T:Wg}{m:Hp}{l:Wg}{k:O->Bool}(r:HR E D T m l)(e:lkO h m k=true):∃ o a x,Spot E D T h m l o a x/\k o=true:=
 let ⟨o,a,x,s,z⟩:=Zqb r e
 ⟨o,a,x,s D (Le.refl _),z⟩
noncomputable def upd(D:Rh)(n:Nat)(a:Addr):Rh:=λi=>if i=n then some a else D i
theorem Zlu{a:Addr}(h:D n=none):Le D (upd D n a):=λi b e=>by
 unfold upd
 by_cases hi:i=n
 .rw[hi,h] at e;cases e
 .rw[if_neg hi];exact e
theorem Zds{a:Addr}:upd D n a n=some a:=if_pos rfl
structure Ct where
 E:En
 f:Fm
 T:Wg
 cs:List (Str×Addr)
theorem neEn:Nonempty En:=⟨⟨λc=>Bool.rec c (Nat.sub c 2097152) (Zg6 c),λY=>.none,λc h=>by
  have:Zg6 c=false:=by
   cases e:Zg6 c with
   | false=>rfl
   | true=>exact absurd (Qx (Qo (Zj4 e).1) (Qo h)) (by decide)
  rw[this],λa b ha hb h=>by
  rw[ha,hb] at h
  have h1:=Nat.sub_add_cancel (Qo (Zj4 ha).1)
  rw[<- h1,show a-2097152=b-2097152 from h,Nat.sub_add_cancel (Qo (Zj4 hb).1)],λa ha=>by
  rw[ha]
  exact Nat.lt_of_le_of_lt (Nat.sub_le_sub_right (Qo (Zj4 ha).2) _) (by decide)⟩⟩
theorem neCt:Nonempty Ct:=⟨⟨Classical.choice neEn,Classical.choice neFm,[],[]⟩⟩
abbrev Ct.S(c:Ct)(D:Rh)(s:S)(J:Mine.St):Prop:=SR c.E D c.f c.T c.cs s J
def PA(c:Ct)(D:Rh)(k:KA)(K:V->Wl):Prop:=∀ D' a s' v J',Le D D'->k a s'=true->AR c.E D' a v->c.S D' s' J'->K v J'
def PS(c:Ct)(D:Rh)(k:KS)(K:Wl):Prop:=∀ D' s' J',Le D D'->k s'=true->c.S D' s' J'->K J'
theorem PA.le{c:Ct}{k:KA}{K:V->Wl}(h:PA c D k K)(l:Le D D'):PA c D' k K:=λY a s v J x=>h _ a s v J (l.trans x)
theorem PS.le{c:Ct}{k:KS}(h:PS c D k K)(l:Le D D'):PS c D' k K:=λY s J x=>h _ s J (l.trans x)
section
variable {c:Ct} {D:Rh} {s:S} {J:Mine.St}
theorem lk_k{k:O->Bool}(r:c.S D s J)(e:s.lk h k=true)(q:∀ o a x,Spot c.E D c.T h s.obs J.obs o a x->k o=true->Q):Q:=(Z2p r.obs e).elim λo e=>e.elim λa e=>e.elim λx e=>q o a x e.1 e.2
theorem Z0c{k:O->Bool}(r:c.S D s J)(e:s.lk h k=true):∃ o a x,(∀ D',Le D D'->Spot c.E D' c.T h s.obs J.obs o a x)/\k o=true:=Zqb r.obs e
theorem Za0{b:Addr}{k:O->Bool}(r:c.S D s J)(hb:D h=some b)(e:s.lk h k=true)(q:∀ o x,(∀ D',Le D D'->Spot c.E D' c.T h s.obs J.obs o b x)->k o=true->Q):Q:=by
 obtain⟨o,a,x,p,z⟩:=Z0c r e
 obtain rfl:b=a:=Qv (hb.symm.trans (p D (Le.refl _)).ad)
 exact q o x p z
theorem Zm6{k:Nat->O->Bool}{Q:V->Prop}(r:c.S D s J)(ra:AR c.E D a v)(e:(a.onRef λh=>s.lk h (k h))=true)(q:∀ h o b x,Spot c.E D c.T h s.obs J.obs o b x->k h o=true->Q (.ref b)):Q v:=
 Zdv (Q:=Q) ra e λh b hb e=>Za0 r hb e λo x p e=>q h o b x (p D (Le.refl _)) e
theorem Zg4{o':O}{a:Addr}{x x':AO}{k:KS}(r:c.S D s J)(p:Spot c.E D c.T h s.obs J.obs o a x)(ho:OO c.E D o' x')(e:s.up h o' k=true)(q:∀ s' l',UpO a x x' J.obs l'->c.S D s' ⟨J.loc,l'⟩->k s'=true->Q):Q:=by
 obtain⟨m',l',u,v,w⟩:=p.up o' x' ho _ e
 exact q ⟨s.loc,s.cel,m',s.nx⟩ l' u ⟨r.loc,r.cel,v,r.fr⟩ w
theorem Zp8{a:Addr}{x:AO}{k:KS}(r:c.S D s J)(p:Spot c.E D c.T h s.obs J.obs o a x)(e:s.rm h k=true)(q:∀ s' l',Pick (a,x) J.obs l'->c.S D s' ⟨J.loc,l'⟩->k s'=true->Q):Q:=by
 obtain⟨m',l',u,v,w⟩:=p.rm _ e
 exact q ⟨s.loc,s.cel,m',s.nx⟩ l' u ⟨r.loc,r.cel,v,r.fr⟩ w
theorem Zzb{o':O}{a:Addr}{x x':AO}{k:KS}(r:c.S D s J)(p:Spot c.E D c.T h s.obs J.obs o a x)(ho:OO c.E D o' x')(e:s.up h o' k=true)(q:∀ s',c.S D s' ⟨J.loc,Zzc (idx h s.obs) x' J.obs⟩->k s'=true->Q):Q:=by
 obtain⟨m',v,w⟩:=p.up2 o' x' ho _ e
 exact q ⟨s.loc,s.cel,m',s.nx⟩ ⟨r.loc,r.cel,v,r.fr⟩ w
theorem Z2c{k:Nat->S->Bool}(r:c.S D s J)(a:Addr)(e:s.bump k=true)(q:∀ s' n D',Le D D'->D' n=some a->c.S D' s' J->s'.obs=s.obs->k n s'=true->Q):Q:=by
 have n0:D s.nx=none:=r.fr _ (Qw _)
 have l:=Zlu (a:=a) n0
 refine q ⟨s.loc,s.cel,s.obs,s.nx+1⟩ s.nx _ l Zds ⟨r.loc.le l,r.cel.le l,r.obs.le l,λh q=>?_⟩ rfl (Za1 (n:=s.nx+1) (k:=λm=>k s.nx ⟨s.loc,s.cel,s.obs,m⟩) e)
 have q:s.nx+1<=h:=q
 show(if h=s.nx then _ else _)=_
 rw[if_neg (by lia)]
 exact r.fr h (by lia)
theorem Zc7{x:AO}{k:Nat->S->Bool}(r:c.S D s J)(ho:OO c.E D o x)(a:Addr)(e:s.new o k=true)(q:∀ s' n D',Le D D'->D' n=some a->c.S D' s' ⟨J.loc,(a,x)::J.obs⟩->k n s'=true->Q):Q:=by
 have n0:D s.nx=none:=r.fr _ (Qw _)
 have l:=Zlu (a:=a) n0
 refine q ⟨s.loc,s.cel,.cons s.nx o s.obs,s.nx+1⟩ s.nx _ l Zds ⟨r.loc.le l,r.cel.le l,⟨a,x,J.obs,rfl,Zds,ho.le l,r.obs.le l⟩,λh q=>?_⟩ (Za1 (n:=s.nx+1) (k:=λm=>k s.nx ⟨s.loc,s.cel,.cons s.nx o s.obs,m⟩) e)
 have q:s.nx+1<=h:=q
 show(if h=s.nx then _ else _)=_
 rw[if_neg (by lia)]
 exact r.fr h (by lia)
theorem Zcv{x:AO}{k:KA}{K:V->Wl}(r:c.S D s J)(h:PA c D k K)(ho:OO c.E D o x)(e:s.new o (λh s=>k (.ref h) s)=true)(a:Addr):K (.ref a) ⟨J.loc,(a,x)::J.obs⟩:=Zc7 r ho a e λs' n D' le ea r' e=>h _ _ _ _ _ le e ⟨a,ea,rfl⟩ r'
section
variable {T obs:Wg} {h:Nat} {m:Hp} {o:O} {b:Addr} {x:AO} {Q:Prop} {E:En}
theorem Z2u{k:List A->Bool}(p:Spot E D T h m obs o b x)(e:o.onList k=true)(q:∀ l vs,Spot E D T h m obs (.list l) b (.list vs)->LR E D l vs->k l=true->Q):Q:=by
 obtain⟨l,rfl,e⟩:=Zsn e
 obtain⟨vs,rfl,t⟩:=p.ob
 exact q l vs p t e
theorem Zt6{k:Lc->Bool}(p:Spot E D T h m obs o b x)(e:o.onCell k=true)(q:∀ v w,Spot E D T h m obs (.cell v) b (.cell w)->CR E D v w->k v=true->Q):Q:=by
 obtain⟨l,rfl,e⟩:=Zsm e
 obtain⟨w,rfl,t⟩:=p.ob
 exact q l w p t e
theorem Zkh{k:List (Str×A)->Bool}(p:Spot E D T h m obs o b x)(e:o.onAttrs k=true)(q:∀ l m',Spot E D T h m obs (.attrs l) b (.attrs m')->TaR E D l m'->k l=true->Q):Q:=by
 obtain⟨l,rfl,e⟩:=Zqm e
 obtain⟨w,rfl,t⟩:=p.ob
 exact q l w p t e
theorem Z0y{k:Bool}(p:Spot E D T h m obs o b x)(e:o.isEmp k=true)(q:LkO b (.raw emptyDict) obs->k=true->Q):Q:=by
 obtain⟨rfl,e⟩:=Zwm e
 obtain rfl:=p.ob
 exact q p.lk e
theorem Zh0{k:Option Nat->List (A×A)->Bool}(p:Spot E D T h m obs o b x)(e:o.onDict k=true)(q:∀ oe l oe' kv,Spot E D T h m obs (.dict oe l) b (.dictE oe' kv)->KR E D l kv->EpR D oe oe'->k oe l=true->Q):Q:=by
 obtain⟨oe,l,rfl,e⟩:=Zk1 e
 obtain⟨oe',kv,rfl,t,ep⟩:=p.ob
 exact q oe l oe' kv p t ep e
theorem Zjd{k:Nat->Nat->Bool}(p:Spot E D T h m obs o b x)(e:o.onLiter k=true)(q:∀ hl i al,D hl=some al->Spot E D T h m obs (.liter hl i) b (.liter al i)->k hl i=true->Q):Q:=by
 obtain⟨hl,i,rfl,e⟩:=Zo9 e
 obtain⟨al,hal,rfl⟩:=p.ob
 exact q hl i al hal p e
theorem Z0x{k:Addr->Nat->Bool}(p:Spot E D T h m obs o b x)(e:o.onInst k=true)(q:∀ cl dx ad,D dx=some ad->LkO b (.inst cl ad) obs->k cl dx=true->Q):Q:=by
 obtain⟨cl,dx,rfl,e⟩:=Zru e
 obtain⟨ad,had,rfl⟩:=p.ob
 exact q cl dx ad had p.lk e
theorem bm_k{k:Addr->Nat->Bool}(p:Spot E D T h m obs o b x)(e:o.onBm k=true)(q:∀ f hs a,D hs=some a->Spot E D T h m obs (.bm f hs) b (.raw (methodObj (.ref f) (.ref a)))->k f hs=true->Q):Q:=by
 obtain⟨f,hs,rfl,e⟩:=Z22 e
 obtain⟨a,ha,rfl⟩:=p.ob
 exact q f hs a ha p e
theorem Zn2 {k:Nat->Bool} (p:Spot E D T h m obs o b x) (e:o.onBnext k=true) (q:∀ j a,D j=some a->LkO b (.bound "method-wrapper" "list_iterator.__next__" a) obs->k j=true->Q):Q:=by
 obtain⟨j,rfl,e⟩:=Znk e
 obtain⟨a,ha,rfl⟩:=p.ob
 exact q j a ha p.lk e
theorem Zkb{kl:List A->Bool}{kb:List Nat->Bool}{kd:Option Nat->List (A×A)->Bool}{ks:List A->Bool}{ki:Addr->Nat->Bool}{kt:Addr->Nat->Lc->Bool}(p:Spot E D T h m obs o b x)(e:o.sw kl kb kd ks ki kt F0=true)
  (q1:∀ l vs,Spot E D T h m obs (.list l) b (.list vs)->LR E D l vs->kl l=true->Q) (q2:∀ l,Spot E D T h m obs (.ba l) b (.ba (l.map E.χ))->kb l=true->Q)
  (q3:∀ oe l oe' kv,Spot E D T h m obs (.dict oe l) b (.dictE oe' kv)->KR E D l kv->EpR D oe oe'->kd oe l=true->Q) (q4:∀ l m',Spot E D T h m obs (.set l) b (.set m')->IR E D l m'->ks l=true->Q)
  (q5:∀ cl dx ad,D dx=some ad->LkO b (.inst cl ad) obs->ki cl dx=true->Q) (q6:∀ cl dx l ad m',D dx=some ad->Spot E D T h m obs (.slots cl dx l) b (.slots cl ad m')->SlR E D l m'->kt cl dx l=true->Q):Q:=by
 have w:=p.ob
 induction o with
 | list l=>obtain⟨vs,rfl,t⟩:=w;exact q1 l vs p t e
 | ba l=>obtain rfl:=w;exact q2 l p e
 | dict oe l=>obtain⟨oe',kv,rfl,t,ep⟩:=w;exact q3 oe l oe' kv p t ep e
 | set l=>obtain⟨m',rfl,t⟩:=w;exact q4 l m' p t e
 | inst cl dx=>obtain⟨ad,had,rfl⟩:=w;exact q5 cl dx ad had p.lk e
 | slots cl dx l=>obtain⟨ad,m',had,rfl,t⟩:=w;exact q6 cl dx l ad m' had p t e
 | _=>exact ff e
end
theorem Za3{b:Addr}{k:List A->Bool}(r:c.S D s J)(hb:D h=some b)(e:s.lst h k=true)(q:∀ l vs,Spot c.E D c.T h s.obs J.obs (.list l) b (.list vs)->LR c.E D l vs->k l=true->Q):Q:=Za0 r hb e λo x p z=>Z2u (p D (Le.refl _)) z q
theorem Zfm{k:Nat->List A->Bool}{Q:V->Prop}(r:c.S D s J)(ra:AR c.E D a v)(e:(a.onRef λh=>s.lst h (k h))=true)(q:∀ h l b vs,Spot c.E D c.T h s.obs J.obs (.list l) b (.list vs)->LR c.E D l vs->k h l=true->Q (.ref b)):Q v:=
 Zdv (Q:=Q) ra e λh b hb e=>Za3 r hb e λl vs p t e=>q h l b vs p t e
end
theorem OO.lst{E:En}(t:LR E D l vs):OO E D (.list l) (.list vs):=⟨vs,rfl,t⟩
section
variable {E:En} {D:Rh}
theorem LR.length(h:LR E D l vs):vs.length=l.length:=by
 induction l generalizing vs with
 | nil=>rw[show vs=[] from h];rfl
 | cons a l ih=>obtain⟨v,w,rfl,p,q⟩:=h;exact congrArg (·+1) (ih q)
theorem LR.append{m:List A}{ws:List V}(h:LR E D l vs)(h2:LR E D m ws):LR E D (l++m) (vs++ws):=by
 induction l generalizing vs with
 | nil=>rw[show vs=[] from h];exact h2
 | cons a l ih=>obtain⟨v,w,rfl,p,q⟩:=h;exact⟨v,w++ws,rfl,p,ih q⟩
theorem LR.get(h:LR E D l vs)(e:l[i]?=some a):∃ v,vs[i]?=some v/\AR E D a v:=by
 induction l generalizing vs i with
 | nil=>cases e
 | cons b l ih=>
  obtain⟨v,w,rfl,p,q⟩:=h
  induction i with
  | zero=>cases e;exact⟨v,rfl,p⟩
  | succ i=>exact ih (vs:=w) (i:=i) q e
theorem LR.none(h:LR E D l vs)(e:l[i]?=none):vs[i]?=none:=by
 rw[List.getElem?_eq_none_iff] at e ⊢
 rw[h.length];exact e
theorem LR.set(h:LR E D l vs)(x:AR E D a v):LR E D (l.set i a) (vs.set i v):=by
 induction l generalizing vs i with
 | nil=>rw[show vs=[] from h];exact rfl
 | cons b l ih=>
  obtain⟨v,w,rfl,p,q⟩:=h
  induction i with
  | zero=>exact⟨_,_,rfl,x,q⟩
  | succ i=>exact⟨_,_,rfl,p,ih q⟩
theorem LR.erase(h:LR E D l vs):LR E D (l.eraseIdx i) (vs.eraseIdx i):=by
 induction l generalizing vs i with
 | nil=>rw[show vs=[] from h];exact rfl
 | cons b l ih=>
  obtain⟨v,w,rfl,p,q⟩:=h
  induction i with
  | zero=>exact q
  | succ i=>exact⟨_,_,rfl,p,ih q⟩
theorem LR.take(h:LR E D l vs):LR E D (l.take i) (vs.take i):=by
 induction l generalizing vs i with
 | nil=>rw[show vs=[] from h,List.take_nil,List.take_nil];exact rfl
 | cons b l ih=>
  obtain⟨v,w,rfl,p,q⟩:=h
  induction i with
  | zero=>exact rfl
  | succ i=>exact⟨_,_,rfl,p,ih q⟩
theorem LR.drop(h:LR E D l vs):LR E D (l.drop i) (vs.drop i):=by
 induction l generalizing vs i with
 | nil=>rw[show vs=[] from h,List.drop_nil,List.drop_nil];exact rfl
 | cons b l ih=>
  obtain⟨v,w,rfl,p,q⟩:=h
  induction i with
  | zero=>exact⟨_,_,rfl,p,q⟩
  | succ i=>exact ih q
theorem LR.slc{lo hi:Option Int}(h:LR E D l vs):LR E D (Mine.slc l lo hi) (Mine.slc vs lo hi):=by
 unfold Mine.slc
 rw[h.length]
 exact h.drop.take
theorem Zgq{β:Type}(f:α->β)(l:List α)(lo hi:Option Int):Mine.slc (l.map f) lo hi=(Mine.slc l lo hi).map f:=by
 unfold Mine.slc
 rw[Qj,List.map_take,List.map_drop]
theorem Zbs(h:n<=100000):n<=sizeLine:=by have:sizeLine=16777216:=(by decide);lia
theorem LR.get_k(h:LR E D l vs)(e:l[i]?=some a)(q:∀ v,vs[i]?=some v->AR E D a v->Q):Q:=(h.get e).elim λv e=>q v e.1 e.2
theorem PA.at{c:Ct}{k:KA}{K:V->Wl}(h:PA c D k K)(e:k a s=true)(r:AR c.E D a v)(q:c.S D s J):K v J:=h D a s v J (Le.refl _) e r q
theorem PS.at{c:Ct}{k:KS}(h:PS c D k K)(e:k s=true)(q:c.S D s J):K J:=h D s J (Le.refl _) e q
end
end MI
namespace MI
open Mine
section
variable {E:En} {D:Rh}
theorem Za7{a:Bool}(h:a=true↔b=true):a=b:=by induction a <;> induction b <;> simp_all
theorem Zv7(a b:Nat):Nat.beq a b=(a==b):=Za7 ⟨λh=>by rw[Qp h];simp,λh=>by rw[beq_iff_eq.mp h];exact Nat.beq_refl b⟩
theorem Zwq(E:En){a b:Nat}(h:eqC2 a b k=true):k (E.χ a==E.χ b)=true:=
 Zb0 h (λx y=>Zar y λy z=>by rw[E.kn a x,E.kn b y,<- Zv7];exact z) λY y=>Zar y λy z=>Zar z λz w=>by
  have e:(E.χ a==E.χ b)=Nat.beq a b:=Za7 ⟨λq=>by rw[E.inj a b y z (by simpa using q)];exact Nat.beq_refl b,λq=>by rw[Qp q];simp⟩
  rw[e];exact w
theorem Zvr(E:En){l m:List Nat}(h:eqCs l m k=true):k (l.map E.χ==m.map E.χ)=true:=by
 induction l generalizing m k with
 | nil=>induction m <;> exact h
 | cons a l ih=>
  induction m with
  | nil=>exact h
  | cons b m=>
   have h:=Zwq E (k:=λt=>iff t (eqCs l m k) (k false)) h
   show k ((E.χ a::l.map E.χ)==(E.χ b::m.map E.χ))=true
   rw[List.cons_beq_cons]
   cases hb:(E.χ a==E.χ b) with
   | true=>rw[hb] at h;exact ih h
   | false=>rw[hb] at h;exact h
theorem Zu3(i j:Int):ieq i j=(i==j):=by
 induction i with
 | ofNat n=>induction j with
  | ofNat m=>exact Za7 ⟨λh=>by rw[Qp h];simp,λh=>by rw[Int.ofNat.inj (beq_iff_eq.mp h)];exact Nat.beq_refl m⟩
  | negSucc m=>simp[ieq]
 | negSucc n=>induction j with
  | ofNat m=>simp[ieq]
  | negSucc m=>exact Za7 ⟨λh=>by rw[Qp h];simp,λh=>by rw[Int.negSucc.inj (beq_iff_eq.mp h)];exact Nat.beq_refl m⟩
theorem Zdk(i j:Int):ile i j=decide (i<=j):=by
 induction i with
 | ofNat n=>induction j with
  | ofNat m=>exact Za7 ⟨λq=>by have:=Qo q;simp;k_units,λq=>Nat.ble_eq_true_of_le (by simp at q;k_units)⟩
  | negSucc m=>simp[ile];lia
 | negSucc n=>induction j with
  | ofNat m=>simp[ile];lia
  | negSucc m=>exact Za7 ⟨λq=>by have:=Qo q;simp;lia,λq=>Nat.ble_eq_true_of_le (by simp at q;lia)⟩
theorem Zi8(i j:Int):Z4z i j=i+j:=by induction i <;> induction j <;> rfl
theorem Zpt(i j:Int):isub i j=i-j:=by
 induction i with
 | ofNat n=>induction j with
  | ofNat m=>
   show Bool.rec (motive:=λY=>Int) (Int.sub (.ofNat n) (.ofNat m)) (.ofNat (Nat.sub n m)) (Nat.ble m n)=_
   cases h:Nat.ble m n with
   | false=>rfl
   | true=>
    have:=Qo h
    show((n-m:Nat):Int)=(n:Int)-m
    lia
  | negSucc m=>rfl
 | negSucc n=>induction j <;> rfl
theorem Zd9(b:Bool):neg b=!b:=by induction b <;> rfl
theorem Zoi{i:Int}(h:iNz i=true):i≠0:=by
 induction i with
 | ofNat n=>have:=Qo (show Nat.ble 1 n=true from h);intro q;have:(n:Int)=0:=q;lia
 | negSucc n=>intro q;cases q
theorem Zzj(i:Int):iNz i=(i != 0):=by
 induction i with
 | ofNat n=>induction n <;> rfl
 | negSucc n=>rfl
theorem Zuu(a b:Bool):gd a b=(a&&b):=by induction a <;> rfl
theorem Zus(a b:Bool):iff a true b=(a||b):=by induction a <;> rfl
theorem Zem{b:A}{va vb:V}(ra:AR E D a va)(rb:AR E D b vb)(h:Znd a b k=true)(q:Sc va vb->k (Zdr va vb)=true->Q):Q:=by
 revert q
 induction a with
 | int i=>
  obtain rfl:va = .int i:=ra
  exact Zbx (Q:=λvb=>(Sc _ vb->k (Zdr _ vb)=true->Q)->Q) rb h λj e q=>q (.int _ _) (by show k (i==j)=true;rw[<- Zu3];exact e)
 | ord x=>
  induction b with
  | ord y=>
   obtain rfl:va = .int (E.χ x):=ra
   obtain rfl:vb = .int (E.χ y):=rb
   refine λq=>Zar h λh1 h2=>Zar h2 λh2 h3=>q (.int _ _) ?_
   have e:((E.χ x:Int)==(E.χ y:Int))=Nat.beq x y:=Za7 ⟨λq=>by rw[E.inj x y h1 h2 (by have:=beq_iff_eq.mp q;lia)];exact Nat.beq_refl y,λq=>by rw[Qp q];simp⟩
   show k ((E.χ x:Int)==(E.χ y:Int))=true
   rw[e];exact h3
  | _=>exact ff h
 | bytes l=>
  obtain rfl:va = .bytes _:=ra
  exact Zc8 (Q:=λvb=>(Sc _ vb->k (Zdr _ vb)=true->Q)->Q) rb h λm e q=>q (.bytes _ _) (Zvr E e)
 | _=>exact ff h
theorem Zq5:∀ (j:Nat) (a b:V),([]:List V)[j]?=some a->([]:List V)[j]?=some b->Sc a b:=λj Y Y e Y=>nomatch (List.getElem?_nil.symm.trans e)
theorem Zhe{w:V}{l m:List V}(s:Sc v w)(h:∀ (j:Nat) (a b:V),l[j]?=some a->m[j]?=some b->Sc a b)(j:Nat)(a b:V)(ea:(v::l)[j]?=some a)(eb:(w::m)[j]?=some b):Sc a b:=by
 induction j with
 | zero=>cases ea;cases eb;exact s
 | succ j=>exact h j a b ea eb
theorem Z0f{b:A}{l m:List V}(ra:AR E D a (.tup l))(rb:AR E D b (.tup m))(h:eqT2 a b k=true)(q:l.length=m.length->(∀ (j:Nat) (a b:V),l[j]?=some a->m[j]?=some b->Sc a b)->k (Zlh l m)=true->Q):Q:=by
 induction a generalizing b l m k with
 | nil=>
  obtain rfl:l=[]:=V.tup.inj ra
  exact Zl2 (R:=λY m=>(([]:List V).length=m.length->(∀ (j:Nat) (a b:V),([]:List V)[j]?=some a->m[j]?=some b->Sc a b)->k (Zlh [] m)=true->Q)->Q) rb h (λe q=>q rfl Zq5 e) (λY Y Y Y Y Y e=>ff e) q
 | cons x y _ ih=>
  obtain⟨v,w,e1,p1,p2⟩:=ra
  obtain rfl:=V.tup.inj e1
  refine Zl2 (R:=λY m=>((v::w).length=m.length->(∀ (j:Nat) (a b:V),(v::w)[j]?=some a->m[j]?=some b->Sc a b)->k (Zlh (v::w) m)=true->Q)->Q) rb h (λe=>ff e) (λY Y v' w' p1' p2' e q=>?_) q
  exact Zem p1 p1' e λs1 e=>ih p2 p2' e λh1 h2 h3=>q (congrArg (·+1) h1) (Zhe s1 h2) (by rw[Zco,<- Zuu];exact h3)
 | _=>exact ff h
noncomputable def Zqx:V->V->Bool
 | .tup l,.tup m=>Zlh l m
 | a,b=>Zdr a b
theorem Zok{Q:V->Prop}(r:AR E D a v)(h:Zx0 a=true)(q:∀ l,AR E D a (.tup l)->Q (.tup l)):Q v:=by
 induction a with
 | nil=>obtain rfl:v=_:=r;exact q _ rfl
 | cons x y=>obtain⟨x,xs,rfl,e⟩:=r;exact q _ ⟨x,xs,rfl,e⟩
 | _=>exact ff h
theorem Zo8{a b:V}(h:Sc a b):Zqx a b=Zdr a b:=by induction h <;> rfl
theorem Z0n{b:A}{va vb:V}(ra:AR E D a va)(rb:AR E D b vb)(h:eqS3 a b k=true)(q:Cmp va vb (Zqx va vb)->k (Zqx va vb)=true->Q):Q:=by
 refine Zb0 h (λx e=>?_) λx e=>Zem ra rb e λs e=>q (by rw[Zo8 s];exact .sc s) (by rw[Zo8 s];exact e)
 have:Zx0 b=true:=by
  induction a with
  | nil=>cases b <;> first|rfl|cases e
  | cons x y=>cases b <;> first|rfl|cases e
  | _=>exact ff x
 revert q
 exact Zok (Q:=λva=>(Cmp va vb (Zqx va vb)->k (Zqx va vb)=true->Q)->Q) ra x λl ra=>Zok (Q:=λvb=>(Cmp _ vb (Zqx _ vb)->k (Zqx _ vb)=true->Q)->Q) rb this λm rb q=>Z0f ra rb e λh1 h2 h3=>q (.tup h1 h2) h3
theorem Zt9{x:A}{vx:V}(rx:AR E D x vx)(r:LR E D l vs)(h:anyE x l k=true)(q:(∀ y∈vs,Cmp y vx (Zqx y vx))->k (vs.any λy=>Zqx y vx)=true->Q):Q:=by
 induction l generalizing vs k with
 | nil=>obtain rfl:vs=[]:=r;exact q (λy hy=>(nomatch hy)) h
 | cons a l ih=>
  obtain⟨v,w,rfl,p,t⟩:=r
  exact Z0n p rx h λc1 e=>ih t e λc2 e=>q (λy hy=>(Qb hy).elim (λe=>e▸c1) (c2 y)) (by rw[List.any_cons,<- Zus];exact e)
theorem Zkd{Q:V->Prop}(r:AR E D a v)(h:Zmt a=true)(q:∀ i,AR E D a (.int i)->Q (.int i)):Q v:=by
 induction a with
 | int i=>obtain rfl:v=_:=r;exact q _ rfl
 | ord c=>obtain rfl:v=_:=r;exact q _ rfl
 | _=>exact ff h
theorem KR.length{l:List (A×A)}(r:KR E D l m):m.length=l.length:=by
 induction l generalizing m with
 | nil=>obtain rfl:m=[]:=r;rfl
 | cons p l ih=>obtain⟨i,v,m,rfl,_,_,_,q⟩:=r;exact congrArg (·+1) (ih q)
theorem Zwy{x:A}{i:Int}{l:List (A×A)}{kn:Bool}{k:A->Bool}{Q:Option V->Prop}(rx:AR E D x (.int i))(r:KR E D l m)(h:lkK x l kn k=true)(q1:kn=true->Q none)(q2:∀ a v,AR E D a v->k a=true->Q (some v)):Q (m.lookup i):=by
 induction l generalizing m with
 | nil=>obtain rfl:m=[]:=r;exact q1 h
 | cons p l ih=>
  obtain⟨j,v,m,rfl,hk,p1,p2,t⟩:=r
  rw[List.lookup_cons]
  refine Zem p1 rx h λY e=>Zb0 (b:=j==i) e (λb e=>?_) λb e=>?_
  .rw[show(i==j)=true by simpa using (by simpa using b:j=i).symm]
   exact q2 _ _ p2 e
  .rw[show(i==j)=false by simpa using λq:i=j=>by simp[q] at b]
   exact ih t e
theorem Z01{x:A}{i:Int}{l:List (A×A)}{k:List (A×A)->Bool}(rx:AR E D x (.int i))(hx:Zmt x=true)(ra:AR E D a v)(r:KR E D l m)(h:setK x a l b k=true)
  (q:∀ l',KR E D l' (m.map (λkv=>if kv.1=i then (kv.1,v) else kv)++if b||m.any (λkv=>kv.1=i) then [] else [(i,v)])->k l'=true->Q):Q:=by
 induction l generalizing m b k with
 | nil=>
  obtain rfl:m=[]:=r
  refine Zb0 h (λw e=>?_) λw e=>?_
  .subst w;exact q [] rfl e
  .subst w;exact q [(x,a)] ⟨i,v,[],rfl,hx,rx,ra,rfl⟩ e
 | cons p l ih=>
  obtain⟨j,w,m,rfl,hk,p1,p2,t⟩:=r
  refine Zem p1 rx h λY e=>Zb0 (b:=j==i) e (λc e=>ih t e λl' r' e=>?_) λc e=>ih t e λl' r' e=>?_
  .have hj:j=i:=by simpa using c
   refine q ((p.1,a)::l') ⟨j,v,_,?_,hk,p1,ra,r'⟩ e
   simp[hj]
  .have hj:j≠i:=by simpa using c
   refine q ((p.1,p.2)::l') ⟨j,w,_,?_,hk,p1,p2,r'⟩ e
   rw[Qr,List.any_cons,if_neg (show ¬ ((j,w):Int×V).1=i from hj),show decide (((j,w):Int×V).1=i)=false from decide_eq_false hj,Bool.false_or]
   rfl
theorem Z1q{x:A}{i:Int}{l:List (A×A)}{k:List (A×A)->Bool}(rx:AR E D x (.int i))(r:KR E D l m)(h:delK x l b k=true)
  (q:∀ l',KR E D l' (Zhk i m)->(b||(m.lookup i).isSome)=true->k l'=true->Q):Q:=by
 induction l generalizing m b k with
 | nil=>
  obtain rfl:m=[]:=r
  exact Zar h λh1 h2=>q [] rfl (by rw[h1];rfl) h2
 | cons p l ih=>
  obtain⟨j,w,m,rfl,hk,p1,p2,t⟩:=r
  refine Zem p1 rx h λY e=>Zb0 (b:=j==i) e (λc e=>ih t e λl' r' Y e=>?_) λc e=>ih t e λl' r' z e=>?_
  .have hj:j=i:=by simpa using c
   refine q l' ?_ ?_ e
   .unfold Zhk at r' ⊢;simpa [hj] using r'
   .rw[List.lookup_cons,show(i==j)=true by simpa using hj.symm];simp
  .have hj:j≠i:=by simpa using c
   refine q ((p.1,p.2)::l') ⟨j,w,Zhk i m,?_,hk,p1,p2,r'⟩ ?_ e
   .unfold Zhk;simp[hj]
   .rw[List.lookup_cons,show(i==j)=false by simpa using λq:i=j=>hj q.symm];exact z
end
end MI
namespace MI
open Mine
def Z4i(c:Ct)(C:Cx)(g:A->A->S->KA->Bool)(t:Value->Value->Sem Value):Prop:=
 ∀ {D s J a b va vb k K},c.S D s J->AR c.E D a va->AR c.E D b vb->g a b s k=true->PA c D k K->OP2 C VR t va vb J K
def OkP2(c:Ct)(C:Cx)(g:A->A->S->(Bool->Bool)->Bool)(t:Value->Value->Sem Value):Prop:=
 ∀ {D s J a b va vb k} {K:V->Wl},c.S D s J->AR c.E D a va->AR c.E D b vb->g a b s k=true->(∀ t,k t=true->K (.bool t) J)->OP2 C VR t va vb J K
structure Cc(c:Ct)(C:Cx):Prop where
 hE:∀ e s,¬ C.E e s
 hh:c.f.hd=false->C.A.handled=none
 gu:C.A.guards=some []
 un:C.A.units+20<cLine
 kd:C.env.scope.kind = .function
 nm:C.env.scope.names=c.f.names
 cl:C.env.cells=c.cs
section
variable {c:Ct} {C:Cx}
theorem Zq0{D a b va vb}{k:Int->Int->Bool}{Q:V->V->Prop}(ra:AR c.E D a va)(rb:AR c.E D b vb)(e:ii a b k=true)(q:∀ i j,k i j=true->Q (.int i) (.int j)):Q va vb:=Zbx (Q:=λva=>Q va vb) ra e λi e=>Zbx (Q:=Q (.int i)) rb e (q i)
theorem Zew{i:Int}(h:Zft i=true):i.natAbs<=1000001:=by
 induction i with
 | ofNat n=>have:=Qo (show Nat.ble n 1000000=true from h);simp;lia
 | negSucc n=>have:=Qo (show Nat.ble n 1000000=true from h);simp;k_units
theorem Zya(i j:Int):rMod i j=i.fmod j:=by
 induction i with
 | ofNat n=>induction j with
  | ofNat m=>exact(Int.ofNat_fmod n m)
  | negSucc m=>rfl
 | negSucc n=>rfl
theorem Zvd(i j:Int):rDiv i j=i.fdiv j:=by
 induction i with
 | ofNat n=>induction j with
  | ofNat m=>exact(Int.ofNat_fdiv n m)
  | negSucc m=>rfl
 | negSucc n=>rfl
theorem Zqq{m:Nat}(h:m<=100000)(h2:n<=100000):m+n<=16777216:=by lia
theorem Zil{D s J i k K}(r:c.S D s J)(h:PA c D k K)(e:fri i (λm=>k (.int m) s)=true):K (.int i) J:=h.at (Zul (k:=λm=>k (.int m) s) e) rfl r
theorem Zy1:Z4i c C rAdd (binaryOp .Add):=by
 intro D s J a b va vb k K r ra rb e h
 refine Zsi (R:=λY va=>OP2 C VR _ va vb J K) ra e (λi e=>?_) (λl e=>?_) (λx ax hx e=>?_) λY Y e=>ff e
 .exact Zbx (Q:=λvb=>OP2 C VR _ _ vb J K) rb e λj e=>Ztv (Zi8 i j▸Zil r h e)
 .refine Zc8 (Q:=λvb=>OP2 C VR _ _ vb J K) rb e λm e=>Zao e λh1 e=>Zao e λh2 e=>op_bytes_add ?_ (by rw[Qj,Qj];exact Zqq h1 h2)
  rw[<- Qq]
  exact h.at (Zcn (k:=λr=>k (.bytes r) s) e) rfl r
 .refine Zdv (Q:=λvb=>OP2 C VR _ _ vb J K) rb e λy ay hy e=>Za3 r hx e λl vs p1 t1 e=>Za3 r hy e λm ws p2 t2 e=>Zao e λh1 e=>Zao e λh2 e=>?_
  exact Zeo p1.lk p2.lk (Zcv r h (.lst (t1.append t2)) (Zcn (k:=λr=>s.new (.list r) λh s=>k (.ref h) s) e)) (by rw[t1.length,t2.length];exact Zqq h1 h2)
theorem Zzs{D a va}{k:Nat->Bool}{d:Bool}{Q:V->Prop}(ra:AR c.E D a va)(e:refD a k d=true)(q1:∀ h b,D h=some b->k h=true->Q (.ref b))(q2:d=true->Q va):Q va:=by
 induction a with
 | ref i=>obtain⟨b,hb,rfl⟩:=ra;exact q1 i b hb e
 | _=>exact q2 e
theorem Zz5{k:List A->Bool}(t:LR c.E D l vs)(e:repL l n k=true)(q:∀ m,LR c.E D m (List.replicate n vs).flatten->k m=true->Q):Q:=by
 induction n generalizing k with
 | zero=>exact q [] rfl e
 | succ n ih=>exact ih (k:=λr=>app l r k) e λm tm e=>q (l++m) (by rw[List.replicate_succ,List.flatten_cons];exact t.append tm) (Zcn e)
set_option tactic.hygienic true in
theorem Zwh(op:Operator):Z4i c C (binC op).run (binaryOp op):=by
 intro D s J a b va vb k K r ra rb e h
 induction op with
 | Add=>exact Zy1 r ra rb e h
 | Sub=>exact Zq0 (Q:=λva vb=>OP2 C VR _ va vb J K) ra rb e λi j e=>Zue (Zpt i j▸Zil r h e)
 | Mult=>
  refine Zzs (Q:=λva=>OP2 C VR _ va vb J K) ra e (λx ax hx e=>Za3 r hx e λl vs p t e=>Zbx (Q:=λvb=>OP2 C VR _ _ vb J K) rb e λj e=>?_) λe=>Zq0 (Q:=λva vb=>OP2 C VR _ va vb J K) ra rb e λi j e=>Zar e λh1 e=>Zar e λh2 e=>Zuz (Zil r h e) (.of_left ?_)
  .induction j with
   | negSucc n=>cases e
   | ofNat n=>
    refine Zar e λh1 e=>Zao e λ_ e=>Zar e λh2 e=>Zz5 t e λm tm e=>?_
    exact Zkj p.lk (Zcv r h (.lst tm) e) (by rw[t.length];exact Qo h2) (Qo h1)
  .have:=Zew h1
   unfold Builtin.Int.intBits
   split
   .k_units
   .rename_i hi
    have h0:i.natAbs≠0:=λq=>(show i≠0 by simpa using hi) (Int.natAbs_eq_zero.mp q)
    have:=(Nat.log2_lt h0 (k:=63)).mpr (by lia)
    lia
 | Mod=>exact Zq0 (Q:=λva vb=>OP2 C VR _ va vb J K) ra rb e λi j e=>Zar e λh1 e=>Ztj (Zya i j▸Zil r h e) (Zoi h1)
 | FloorDiv=>exact Zq0 (Q:=λva vb=>OP2 C VR _ va vb J K) ra rb e λi j e=>Zar e λh1 e=>Zar e λh2 e=>op_floordiv (Zvd i j▸Zil r h e) (Zoi h1) (by have:=Zew h2;lia)
 | _=>exact ff e
end
end MI
namespace MI
open Mine
section
variable {c:Ct} {C:Cx}
theorem Zqo(op:Operator):Z4i c C (inpC op).run (inplaceOp op):=by
 intro D s J a b va vb k K r ra rb e h
 induction op with
 | Add=>exact Zq0 (Q:=λva vb=>OP2 C VR _ va vb J K) ra rb e λi j e=>Zn5 (Zi8 i j▸Zil r h e)
 | Sub=>exact Zq0 (Q:=λva vb=>OP2 C VR _ va vb J K) ra rb e λi j e=>Zp9 (Zpt i j▸Zil r h e)
 | _=>exact ff e
theorem Zgn(ra:AR c.E D a v)(e:Zvp a k=true):k v.isNone=true:=by
 induction a with
 | opq i=>cases e
 | ref i=>obtain⟨_,_,rfl⟩:=ra;exact e
 | cons x y=>obtain⟨_,_,rfl,_⟩:=ra;exact e
 | _=>obtain rfl:v=_:=ra;exact e
theorem Zin(h:v.isNone=true):v = .none:=by cases v <;> first|rfl|exact ff h
theorem Z3o{m:List A}{ws:List V}(r1:LR c.E D l vs)(r2:LR c.E D m ws)(hl:l.length=m.length)(e:rEq.eqLs l m k=true)
  (q:(∀ (j:Nat) (a b:V),vs[j]?=some a->ws[j]?=some b->Sc a b)->k (Zlh vs ws)=true->Q):Q:=by
 induction l generalizing m vs ws k with
 | nil=>
  obtain rfl:vs=[]:=r1
  exact q (λj a b (e:([]:List V)[j]?=_) _=>by simp at e) e
 | cons a l ih=>
  induction m with
  | nil=>cases hl
  | cons b m=>
   obtain⟨v,vs,rfl,p1,q1⟩:=r1
   obtain⟨w,ws,rfl,p2,q2⟩:=r2
   exact Zem (k:=λt=>rEq.eqLs l m λu=>k (gd t u)) p1 p2 e λs1 e1=>ih (k:=λu=>k (gd (Zdr v w) u)) q1 q2 (Nat.succ.inj hl) e1 λh1 e2=>q (Zhe s1 h1) (by rw[Zco,<- Zuu];exact e2)
inductive EqW(C:Cx)(J:Mine.St):V->V->Bool->Prop
 | int (i j:Int):EqW C J (.int i) (.int j) (i==j)
 | str (x y:Str):EqW C J (.str x) (.str y) (x==y)
 | bytes (x y:List Nat):EqW C J (.bytes x) (.bytes y) (x==y)
 | list {a b:Addr} {l m:List V} (hl:LkO a (.list l) J.obs) (hm:LkO b (.list m) J.obs) (hs:∀ (j:Nat) (a b:V),l[j]?=some a->m[j]?=some b->Sc a b):EqW C J (.ref a) (.ref b) (leq l m)
theorem scEqW{a b:V}(h:Sc a b):EqW C J a b (Zdr a b):=by induction h <;> constructor
theorem Z1n{D s J a b va vb}{Q:V->V->Prop}(r:c.S D s J)(ra:AR c.E D a va)(rb:AR c.E D b vb)(e:rEq a b s k=true)(q:∀ va vb t,EqW C J va vb t->k t=true->Q va vb):Q va vb:=by
 have sc:∀ {a va},AR c.E D a va->Znd a b k=true->Q va vb:=λra e=>Zem ra rb e λh1 h2=>q _ _ _ (scEqW h1) h2
 refine Zsi (R:=λY va=>Q va vb) ra (ki:=λi=>Znd (.int i) b k) (kb:=λl=>Znd (.bytes l) b k) (kr:=λh=>b.onRef λg=>s.lst h λl=>s.lst g λm=>len l λx=>len m λy=>gd (Nat.beq x y) (rEq.eqLs l m k)) (kt:=F0) ?_ (λi e=>sc (a:=.int i) rfl e) (λl e=>sc (a:=.bytes l) rfl e) (λx ax hx e=>?_) λY Y e=>ff e
 .induction a <;> exact e
 .refine Zdv (Q:=Q _) rb e λy ay hy e=>Za3 r hx e λl vs p1 t1 e=>Za3 r hy e λm ws p2 t2 e=>Zao e λY e=>Zao e λY e=>Zar e λe7 e=>?_
  have hl:=Qp e7
  refine Z3o t1 t2 hl e λh1 h2=>q _ _ _ (.list p1.lk p2.lk h1) ?_
  unfold leq
  rw[t1.length,t2.length,hl,beq_self_eq_true,Bool.true_and];exact h2
end
end MI
namespace MI
open Mine
section
variable {c:Ct} {C:Cx}
theorem KR.dec{m:List Int}(h:IR c.E D l m):LR c.E D l (m.map V.int):=by
 induction l generalizing m with
 | nil=>obtain rfl:m=[]:=h;exact rfl
 | cons a l ih=>obtain⟨i,r,rfl,_,p,q⟩:=h;exact⟨_,_,rfl,p,ih q⟩
theorem Zwr(i:Int)(m:List Int):((m.map V.int).any λy=>Zqx y (.int i))=decide (i∈m):=by
 induction m with
 | nil=>rfl
 | cons j m ih=>
  rw[Qr,List.any_cons,ih]
  show((j==i)||_)=_
  by_cases h:j=i
  .subst h;simp
  .have h2:i≠j:=λq=>h q.symm
   simp[h,h2]
theorem IR.length{m:List Int}(h:IR c.E D l m):m.length=l.length:=by
 have:=(KR.dec h).length
 rwa [Qj] at this
theorem inT_k{b:A}{x:Int}{Q:List V->Prop}(rb:AR c.E D b (.tup vs))(e:inT x b k=true)(q:∀ m:List Int,k (m.any (·==x))=true->Q (m.map V.int)):Q vs:=by
 induction b generalizing vs k Q with
 | nil=>obtain rfl:vs=[]:=V.tup.inj rb;exact q [] e
 | cons y l _ ih=>
  obtain⟨v,w,h,p,t⟩:=rb
  obtain rfl:=V.tup.inj h
  exact Zbx (Q:=λv=>Q (v::w)) p (show y.onInt (λy=>inT x l λt=>k (iff (ieq y x) true t))=true from e) λi e=>ih (Q:=λw=>Q (.int i::w)) t e λm e=>q (i::m) (by rw[List.any_cons,<- Zus,<- Zu3];exact e)
 | _=>exact ff e
theorem Z09(un:C.A.units+20<cLine):OkP2 c C rIn (compareOp .In):=by
 intro D s J a b va vb k K r ra rb e h
 refine Zsi (R:=λY vb=>OP2 C VR _ va vb J K) rb e (λY e=>ff e) (λY e=>ff e) (λx ax hx e=>?_) λl rb e=>?_
 .refine Za0 r hx e λo z p e=>Zkb (p D (Le.refl _)) e (λl vs p t e=>?_) (λY Y e=>ff e) (λoe l oe' kv p t Y e=>?_) (λl m p t e=>?_) (λY Y Y Y Y e=>ff e) λY Y Y Y Y Y Y Y e=>ff e
  .exact Zt9 ra t e λh2 e=>Zfz _ p.lk (h _ e) h2 un
  .exact Zar e λh1 e=>Zkd (Q:=λva=>OP2 C VR _ va _ J K) ra h1 λi ra=>op_dict_in p.lk (Zwy (Q:=λq=>K (.bool q.isSome) J) ra t e (λe=>h _ e) λY v Y e=>h _ e)
  .refine Zao e λY e=>Zar e λh1 e=>Zar e λh2 e=>Zkd (Q:=λva=>OP2 C VR _ va _ J K) ra h2 λi ra=>Zt9 ra (KR.dec t) e λY e=>?_
   rw[Zwr] at e
   exact op_set_in p.lk (h _ e) (by have:=Qo h1;rw[IR.length t];lia)
 .exact Zbx (Q:=λva=>OP2 C VR _ va _ J K) ra e λx e=>inT_k (Q:=λl=>OP2 C VR _ _ (.tup l) J K) rb e λm e=>Zpz (h _ e)
theorem Zvk{d:Bool}{Q:V->Prop}(ra:AR c.E D a v)(e:Z00 a k d=true)(q1:∀ b,k b=true->Q (.bool b))(q2:d=true->Q v):Q v:=by
 induction a with
 | bool b=>obtain rfl:v=_:=ra;exact q1 b e
 | _=>exact q2 e
theorem Z24{Q:V->Prop}(ra:AR c.E D a v)(e:a.onBool k=true)(q:∀ b,k b=true->Q (.bool b)):Q v:=by
 induction a with
 | bool b=>obtain rfl:v=_:=ra;exact q b e
 | _=>exact ff e
theorem Zwg(x y:Bool):xorB x y=(x != y):=by induction x <;> induction y <;> rfl
theorem Zwd(un:C.A.units+20<cLine)(op:CmpOp):OkP2 c C (cmpC op).run (compareOp op):=by
 intro D s J a b va vb k K r ra rb e h
 induction op with
 | Eq=>
  refine Z1n (C:=C) (Q:=λva vb=>OP2 C VR _ va vb J K) r ra rb e λva vb t w e=>?_
  induction w with
  | int i j=>exact Zzz (h _ e)
  | str x y=>exact op_str_eq (h _ e)
  | bytes x y=>exact op_bytes_eq (h _ e)
  | list hl hm hs=>exact Zl0 hl hm (h _ e) hs un
 | NotEq=>
  refine Zvk (Q:=λva=>OP2 C VR _ va vb J K) ra e (λx e=>Z24 (Q:=λvb=>OP2 C VR _ _ vb J K) rb e λy e=>op_bool_ne (h _ (by rw[Zwg] at e;exact e))) λe=>Z1n (C:=C) (Q:=λva vb=>OP2 C VR _ va vb J K) r ra rb e λva vb t w e=>?_
  rw[Zd9] at e
  induction w with
  | int i j=>exact Z0d (h _ e)
  | str x y=>exact op_str_ne (h _ e)
  | bytes x y=>exact op_bytes_ne (h _ e)
  | list hl hm hs=>exact Zm9 hl hm (h _ e) hs un
 | Lt=>
  refine Zq0 (Q:=λva vb=>OP2 C VR _ va vb J K) ra rb e λi j e=>Z2o (h _ ?_)
  rw[Zd9,Zdk] at e
  rw[show decide (i<j)=!decide (j<=i) from Za7 (by simp)];exact e
 | LtE=>exact Zq0 (Q:=λva vb=>OP2 C VR _ va vb J K) ra rb e λi j e=>Z0l (h _ (Zdk i j▸e))
 | Gt=>
  refine Zq0 (Q:=λva vb=>OP2 C VR _ va vb J K) ra rb e λi j e=>Z0i (h _ ?_)
  rw[Zd9,Zdk] at e
  rw[show decide (i > j)=!decide (i<=j) from Za7 (by simp)];exact e
 | GtE=>exact Zq0 (Q:=λva vb=>OP2 C VR _ va vb J K) ra rb e λi j e=>Z4b (h _ (Zdk j i▸e))
 | Is=>
  refine Zar (Zgn (k:=λt=>gd t (Zvp a k)) rb e) λh1 e=>?_
  obtain rfl:=Zin h1
  exact op_is_none (h _ (Zgn ra e))
 | IsNot=>
  refine Zar (Zgn (k:=λt=>gd t (Zvp a λt=>k (neg t))) rb e) λh1 e=>?_
  obtain rfl:=Zin h1
  exact op_isnot_none (h _ (Zd9 _▸Zgn (k:=λt=>k (neg t)) ra e))
 | In=>exact Z09 un r ra rb e h
 | _=>exact ff e
theorem Zur(l:List α):emL l=l.isEmpty:=by induction l <;> rfl
theorem LR.emp(t:LR c.E D l vs):vs.isEmpty=l.isEmpty:=Zqy (R:=λl vs=>vs.isEmpty=l.isEmpty) t rfl λY Y Y Y Y Y=>rfl
theorem Zjl{D s J a va}{K:Bool->Wl}(r:c.S D s J)(ra:AR c.E D a va)(e:Z4m a s k=true)(h:∀ t,k t=true->K t J):TR C va J K:=by
 induction a with
 | none=>obtain rfl:va=_:=ra;exact tr_none (h _ e)
 | bool b=>obtain rfl:va=_:=ra;exact Zjx (h _ e)
 | int i=>
  obtain rfl:va=_:=ra
  exact Ztk (h _ (Zzj i▸(show k (iNz i)=true from e)))
 | ref x=>
  refine Zdv (Q:=λva=>TR C va J K) ra (show(A.ref x).onRef (λh=>s.lst h λl=>len l λY=>k (neg (emL l)))=true from e) λx ax hx e=>Za3 r hx e λl vs p t e=>Zao e λh1 e=>tr_list p.lk (h _ ?_) (by rw[t.length];exact Zbs h1)
  rw[Zd9,Zur] at e
  rw[t.emp];exact e
 | _=>exact ff e
end
end MI
namespace MI
open Mine
section
variable {c:Ct} {C:Cx}
theorem Zfn(sl:Expr):∀ o i,∃ xs,subscripted sl false o i=operate xs (getItem o i):=λo i=>by
 cases sl with
 | Slice _ _ st _=>induction st <;> exact⟨_,rfl⟩
 | _=>exact⟨_,rfl⟩
theorem Zse{i:Int}(h:Zft i=true):-(2 ^ 63)<=i/\i<2 ^ 63:=by
 have h:=Int.ofNat_le.mpr (Zew h)
 exact⟨Int.le_trans (by decide:(-(2 ^ 63):Int)<=-((1000001:Nat):Int)) (Int.le_trans (Int.neg_le_neg h) (Int.neg_le_of_neg_le (Int.natAbs_neg i▸Int.le_natAbs))),Int.lt_of_le_of_lt Int.le_natAbs (Int.lt_of_le_of_lt h (by decide:((1000001:Nat):Int)<2 ^ 63))⟩
theorem atL_k{l:List α}{i:Int}{k:α->Bool}(h:atL l i k=true)(q1:∀ x,0<=i->l[i.toNat]?=some x->k x=true->Q)(q2:∀ x,i<0->-(l.length:Int)<=i->l[(i+l.length).toNat]?=some x->k x=true->Q):Q:=by
 induction i with
 | ofNat n=>exact Zeh h λx e h2=>q1 x (Int.natCast_nonneg n) e h2
 | negSucc n=>
  refine Zao h λY h=>Zar h λh2 h=>Zeh (Za1 (k:=λj=>nth l j F0 k) h) λx e h4=>?_
  have:n+1<=l.length:=Qo h2
  refine q2 x (Int.negSucc_lt_zero n) (Int.neg_le_neg (Int.ofNat_le.mpr this)) ?_ h4
  rw[show(Int.negSucc n+(l.length:Int)).toNat=l.length-(n+1) from(congrArg Int.toNat (Int.subNatNat_eq_coe (m:=l.length) (n:=n+1))).trans (Int.toNat_sub _ _)];exact e
theorem Zun{x:Nat}{k:A->Bool}(h:Z4p x k=true)(q:∀ a,AR c.E D a (.int (c.E.χ x))->k a=true->Q):Q:=
 Zb0 h (λh1 h2=>q (.int (.ofNat x)) (by rw[c.E.kn x h1];exact rfl) h2) λY h2=>q (.ord x) rfl h2
theorem nlt{m:Nat}(h:m<n):(m:Int)<n:=Int.ofNat_lt.mpr h
theorem Zye(v sl:Expr):Z4i c C rSub (subscriptTail v sl):=by
 intro D s J a b va vb k K r ra rb e h
 refine Zsi (R:=λY va=>OP2 C VR _ va vb J K) ra e (λY e=>ff e) (λl e=>?_) (λx ax hx e=>?_) λY Y e=>ff e
 .refine Zbx (Q:=λvb=>OP2 C VR _ _ vb J K) rb e λi e=>Zfk (Q:=λi=>OP2 C VR _ _ (.int i) J K) e λn e=>Zao e λh1 e=>Zeh e λy hy e=>Zun (c:=c) (D:=D) e λa ra e=>?_
  have hl:=(List.getElem?_eq_some_iff.mp hy).1
  refine Zdh (h.at e ?_ r) (Zfn sl) (by rw[Qj];exact Qx h1 (by decide)) (Int.natCast_nonneg n) (by rw[Qj];exact nlt hl)
  rw[show(l.map c.E.χ).getD ((n:Int)).toNat 0=c.E.χ y by rw[Int.toNat_natCast,Za9 (d:=0) hl,List.getD,hy];rfl]
  exact ra
 .refine Za0 r hx e λo z p e=>Zkb (p D (Le.refl _)) e (λl vs p t e=>?_) (λY Y e=>ff e) (λoe l oe' kv p t Y e=>?_) (λY Y Y Y e=>ff e) (λY Y Y Y Y e=>ff e) λY Y Y Y Y Y Y Y e=>ff e
  .refine Zbx (Q:=λvb=>OP2 C VR _ _ vb J K) rb e λi e=>Zao e λY e=>Zar e λh1 e=>?_
   have h63:=Zse h1
   refine atL_k e (λy h1 h2 e=>t.get_k h2 λw hw rw_=>?_) λy h1 h2 h3 e=>t.get_k h3 λw hw rw_=>?_
   .exact Zaq p.lk (h.at e rw_ r) (Zfn sl) h1 h63.2 hw
   .rw[<- t.length] at hw h2
    exact Zdn p.lk (h.at e rw_ r) (Zfn sl) h1 h2 h63.1 hw
  .refine Zar e λh1 e=>Zkd (Q:=λvb=>OP2 C VR _ _ vb J K) rb h1 λi rb=>Zwy (Q:=λq=>kv.lookup i=q->OP2 C VR _ _ (.int i) J K) rb t e (λe=>ff e) (λy w ry e hq=>?_) rfl
   exact Zi7 p.lk (h.at e ry r) (Zfn sl) hq
end
end MI
namespace MI
open Mine
section
variable {c:Ct} {C:Cx}
theorem Zxf(v sl:Expr){D s J a va lo hi k K}(r:c.S D s J)(ra:AR c.E D a va)(e:rSlc a lo hi s k=true)(h:PA c D k K)(x:Addr):OP2 C VR (subscriptTail v sl) va (.ref x) ⟨J.loc,(x,.slice lo hi)::J.obs⟩ K:=by
 refine Zsi (R:=λY va=>OP2 C VR _ va _ _ K) ra e (λY e=>ff e) (λl e=>?_) (λy ay hy e=>?_) λY Y e=>ff e
 .have e2:=Znw e
  refine op_bytes_subs .head ?_ (Zfn sl) (by rw[Qj];exact Zbs e2.1)
  rw[Zgq]
  exact h.at e2.2 rfl r
 .refine Za3 r hy e λl vs p t e=>?_
  have e3:=Znw e
  exact Zb7 .head p.lk (.tail p.lk) (Zcv r h (.lst t.slc) e3.2) (Zfn sl) (by rw[t.length];exact Zbs e3.1)
theorem Zlo{k:Nat->Bool}{Q:V->Prop}(r:AR c.E D a v)(h:Zqr a k=true)(q:∀ n,c.E.χ n<256->k n=true->Q (.int (c.E.χ n:Nat))):Q v:=by
 induction a with
 | int i=>
  obtain rfl:v=_:=r
  refine Zfk (Q:=λi=>Q (.int i)) h λn h=>Zar h λh2 h=>?_
  have hn:=Qo h2
  have hk:c.E.χ n=n:=c.E.kn n (Nat.ble_eq_true_of_le (Qx hn (by decide)))
  have:=q n (by rw[hk];exact Nat.lt_succ_of_le hn) h
  rw[hk] at this;exact this
 | ord x=>
  obtain rfl:v=_:=r
  exact Zar h λh1 h=>q x (Nat.lt_trans (c.E.lt x h1) (by decide)) h
 | _=>exact ff h
theorem Ztm{l:List α}{v:α}{k:List α->Bool}(h:Z47 l v i k=true)(q:i<l.length->k (l.set i v)=true->Q):Q:=q (Znq h).1 (Znq h).2
set_option tactic.hygienic true in
theorem Zv1(j:Int)(w:V)(kv:List (Int×V)):Z4f j w kv=kv.map (λq=>if q.1=j then (q.1,w) else q)++if false||kv.any (λq=>q.1=j) then [] else [(j,w)]:=by
 unfold Z4f
 rw[Bool.false_or]
 split
 .rw[List.append_nil]
 .rename_i hn
  have hm:kv.map (λq=>if q.1=j then (q.1,w) else q)=kv.map id:=List.map_congr_left λq hq=>by
   have:q.1≠j:=λw=>hn (List.any_eq_true.mpr ⟨q,hq,by simpa using w⟩)
   simp[this]
  rw[hm,List.map_id]
theorem OO.dct{l:List (A×A)}{kv:List (Int×V)}(t:KR c.E D l kv):OO c.E D (.dict .none l) (.dict kv):=⟨none,_,rfl,t,rfl⟩
theorem Zpo{D s J a i v va vi_ vv k}(r:c.S D s J)(ra:AR c.E D a va)(ri:AR c.E D i vi_)(rv:AR c.E D v vv)(e:rSet a i v s k=true)(h:PS c D k K):OP3 C (λ_ (_:Unit) _=>True) setItem va vi_ vv J (λY J=>K J):=by
 refine Zm6 (Q:=λva=>OP3 C _ _ va _ _ _ _) r ra e λx o ax z p e=>Zkb p e (λl vs p t e=>?_) (λl p e=>?_) (λoe l oe' kv p t ep e=>?_) (λY Y Y Y e=>ff e) (λY Y Y Y Y e=>ff e) λY Y Y Y Y Y Y Y e=>ff e
 .refine Zbx (Q:=λvi_=>OP3 C _ _ _ vi_ _ _ _) ri e λj e=>Zfk (Q:=λi=>OP3 C _ _ _ (.int i) _ _ _) e λn e=>Zao e λh1 e=>Ztm e λh2 e=>?_
  refine Zg4 r p (.lst (t.set (i:=n) rv)) e λs' l' u r' e=>Zjo u (h.at e r') (by rw[t.length];exact h2) (by rw[t.length];exact Zbs h1)
 .refine Zbx (Q:=λvi_=>OP3 C _ _ _ vi_ _ _ _) ri e λj e=>Zfk (Q:=λi=>OP3 C _ _ _ (.int i) _ _ _) e λn e=>Zao e λh1 e=>Zlo (Q:=λvv=>OP3 C _ _ _ _ vv _ _) rv e λb hb e=>Ztm e λh2 e=>?_
  refine Zg4 r p (o':=.ba (l.set n b)) (x':=.ba ((l.set n b).map c.E.χ)) rfl e λs' l' u r' e=>?_
  rw[show(l.set n b).map c.E.χ=(l.map c.E.χ).set ((n:Int)).toNat ((c.E.χ b:Int)).toNat by rw[List.map_set];rfl] at u
  exact Zg8 u (h.at e r') (Int.natCast_nonneg n) (by rw[Qj];exact nlt h2) (Int.natCast_nonneg _) (nlt hb) (by rw[Qj];exact Zbs h1)
 .refine Zta (Q:=λoe=>Spot c.E D c.T x s.obs J.obs (.dict oe l) ax (.dictE oe' kv)->EpR D oe oe'->OP3 C _ _ _ _ _ _ _) e (λe p ep=>?_) p ep
  obtain rfl:oe'=none:=ep
  refine Zar e λh1 e=>Zkd (Q:=λvi_=>OP3 C _ _ _ vi_ _ _ _) ri h1 λj ri=>Zao e λh2 e=>Z01 ri h1 rv t e λl2 t2 e=>?_
  rw[<- Zv1] at t2
  exact Zg4 r p (.dct t2) e λs' l' u r' e=>Zj2 u (h.at e r') (by rw[t.length];exact Zbs h2)
theorem Zvo{D s J a i va vi_ k}(r:c.S D s J)(ra:AR c.E D a va)(ri:AR c.E D i vi_)(e:rDel a i s k=true)(h:PS c D k K):OP2 C (λ_ (_:Unit) _=>True) delItem va vi_ J (λY J=>K J):=by
 refine Zm6 (Q:=λva=>OP2 C _ _ va _ _ _) r ra e λx o ax z p e=>Zh0 p e λoe l oe' kv p t ep e=>?_
 refine Zta (Q:=λoe=>Spot c.E D c.T x s.obs J.obs (.dict oe l) ax (.dictE oe' kv)->EpR D oe oe'->OP2 C _ _ _ _ _ _) e (λe p ep=>?_) p ep
 obtain rfl:oe'=none:=ep
 refine Zar e λh1 e=>Zkd (Q:=λvi_=>OP2 C _ _ _ vi_ _ _) ri h1 λj ri=>Zao e λh2 e=>Z1q ri t e λl2 t2 h1 e=>Zg4 r p (.dct t2) e λs' l' u r' e=>?_
 exact Zka u (h.at e r') (by rw[Bool.false_or] at h1;exact h1) (by rw[t.length];exact Zbs h2)
end
end MI
namespace MI
open Mine
section
variable {c:Ct} {C:Cx}
def PI(c:Ct)(D:Rh)(k:Nat->S->Bool)(K:Value->Wl):Prop:=∀ D' h s' it J',Le D D'->k h s'=true->D' h=some it->c.S D' s' J'->K (.ref it) J'
theorem Zn4{D s J k}{K:Value->Wl}{x:AO}(r:c.S D s J)(h:PI c D k K)(ho:OO c.E D o x)(e:s.new o k=true)(a:Addr):K (.ref a) ⟨J.loc,(a,x)::J.obs⟩:=Zc7 r ho a e λs' n D' le ea r' e=>h _ _ _ _ _ le e ea r'
theorem PI.le{D D' k}{K:Value->Wl}(h:PI c D k K)(l:Le D D'):PI c D' k K:=λY a s v J x=>h _ a s v J (l.trans x)
theorem Zqn{D s J h l b kv k}(r:c.S D s J)(p:∀ D',Le D D'->Spot c.E D' c.T h s.obs J.obs (.dict none l) b (.dict kv))(t:KR c.E D l kv)(x:Addr)(e:Zxo h l s k=true)
  (q:∀ D' s' n,Le D D'->D' n=some x->c.S D' s' ⟨J.loc,Zzc (idx h s.obs) (.dictE (some x) kv) J.obs⟩->k kv.length n s'=true->Q):Q:=by
 refine Zao e λh2 e=>Z2c r x e λs1 n D1 le1 hn r1 eo e=>?_
 have p1:=p _ le1
 rw[<- eo] at p1
 rw[<- t.length] at e
 exact Zzb r1 p1 (o':=.dict (some n) l) (x':=.dictE (some x) kv) ⟨some x,kv,rfl,t.le le1,x,hn,rfl⟩ e λs2 r2 e=>q _ _ _ le1 hn (eo▸r2) e
theorem Zko{D s J a va k}{K:Value->Wl}(r:c.S D s J)(ra:AR c.E D a va)(e:Zwe a s k=true)(h:PI c D k K):IT C va J K:=by
 exists (c C D s J a va k K),r,ra,e,h
 refine Zsi (R:=λa va=>a=a->IT C va J K) ra e (λY e=>ff e) (λY e=>ff e) (λx ax hx e Y=>?_) (λl ra e Y=>Ztq (Zn4 r h (o:=.titer a 0) (x:=.titer l 0) ⟨l,ra,rfl⟩ e)) rfl
 refine Za0 r hx e λo z pL e=>?_
 have p:=pL D (Le.refl _)
 induction o with
 | list l=>
  obtain⟨vs,rfl,t⟩:=p.ob
  exact Zor p.lk (Zn4 r h (o:=.liter x 0) (x:=.liter ax 0) ⟨ax,hx,rfl⟩ e)
 | enum j i=>
  obtain⟨b,q2,rfl⟩:=p.ob
  exact it_enum p.lk (h _ _ _ _ _ (Le.refl _) e hx r)
 | range a b d=>
  obtain rfl:=p.ob
  refine Zar e λh1 e=>Zfk (Q:=λi=>Builtin.Range.rangeSize a b d=i->IT C _ J K) e (λn e hn=>Zp8 r p (Za1 (n:=n) (k:=λn=>s.rm x λs=>s.new (.riter a n d) k) e) λs1 l' pk r1 e=>Zgk pk (λz=>?_) h1) rfl
  rw[hn]
  exact Zn4 r1 h (o:=.riter a n d) (x:=.riter a n d) rfl e z
 | dict oe l=>
  obtain⟨oe',kv,rfl,t,eo⟩:=p.ob
  refine Zta (Q:=λoe=>(∀ D',Le D D'->Spot c.E D' c.T x s.obs J.obs (.dict oe l) ax (.dictE oe' kv))->EpR D oe oe'->IT C _ J K) e (λe pL eo=>?_) pL eo
  obtain rfl:oe'=none:=eo
  refine Zvj (λoe=>(pL D (Le.refl _)).up1 (.dictE oe kv)) λz ep=>Zqn r pL t ep e λD1 s1 n le1 hn r1 e=>?_
  exact Zn4 r1 (h.le le1) (o:=.kiter x 0 kv.length n) (x:=.kiter ax 0 kv.length ep) ⟨ax,ep,le1 _ _ hx,hn,rfl⟩ e z
 | vview d=>
  obtain⟨ad,qd,rfl⟩:=p.ob
  refine Zp8 r p e λs0 l' pk r0 e=>Za0 r0 qd e λo z2 p2 e=>?_
  obtain⟨oe,l,rfl,e⟩:=Zk1 e
  obtain⟨oe',kv,rfl,t,eo⟩:=(p2 D (Le.refl _)).ob
  refine Zta (Q:=λoe=>(∀ D',Le D D'->Spot c.E D' c.T d s0.obs l' (.dict oe l) ad (.dictE oe' kv))->EpR D oe oe'->IT C _ J K) e (λe p2 eo=>?_) p2 eo
  obtain rfl:oe'=none:=eo
  refine Znj pk (λoe=>(p2 D (Le.refl _)).up1 (.dictE oe kv)) λz ep=>Zqn r0 p2 t ep e λD1 s1 n le1 hn r1 e=>?_
  exact Zn4 r1 (h.le le1) (o:=.viter d 0 kv.length n) (x:=.viter ad 0 kv.length ep) ⟨ad,ep,le1 _ _ qd,hn,rfl⟩ e z
 | _=>exact ff e
theorem LkO.pk{a:Addr}{x:AO}{l:Wg}(h:LkO a x l):∃ l',Pick (a,x) l l':=by
 obtain⟨p,q,rfl⟩:=List.append_of_mem h
 exact⟨p++q,List.perm_middle⟩
theorem Z1h{n:Bool}{k:A->Bool}{Q:Option V->Prop}(r:AR c.E D a (.tup vs))(h:nthT a i n k=true)(q1:n=true->Q none)(q2:∀ x v,AR c.E D x v->k x=true->Q (some v)):Q vs[i]?:=by
 induction a generalizing vs i with
 | nil=>obtain rfl:vs=[]:=V.tup.inj r;exact q1 h
 | cons x y _ ih=>
  obtain⟨v,w,e,p,t⟩:=r
  obtain rfl:=V.tup.inj e
  induction i with
  | zero=>exact q2 _ _ p h
  | succ i=>exact ih (vs:=w) (i:=i) t h
 | _=>exact ff h
theorem Z06{l:List (A×A)}{kn:Bool}{k:A->A->Bool}{Q:Option (Int×V)->Prop}(r:KR c.E D l m)(h:nthK l i kn k=true)(q1:kn=true->Q none)(q2:∀ x y j v,AR c.E D x (.int j)->AR c.E D y v->k x y=true->Q (some (j,v))):Q m[i]?:=by
 induction l generalizing m i with
 | nil=>obtain rfl:m=[]:=r;exact q1 h
 | cons p l ih=>
  obtain⟨j,v,m,rfl,_,p1,p2,t⟩:=r
  induction i with
  | zero=>exact q2 _ _ _ _ p1 p2 h
  | succ i=>exact ih (m:=m) (i:=i) t h
theorem NX.loose{it:Value}{Ks:V->Wl}(h:NX C it J Ks λJ'=>∃ d oe l l',UpO d (.dictE oe l) (.dict l) J'.obs l'/\Kn ⟨J'.loc,l'⟩):NX C it J Ks Kn:=λs E H=>
 Zad (h s E H) (λx s' q=>by
  induction x with
  | some v=>exact q
  | none=>
   obtain⟨J',⟨d,oe,l,l',u,k⟩,H',t⟩:=q
   exact⟨_,k,H'.sharp u λO Y r=>Zmo r,t⟩) λY Y e=>e
def Zlj(C:Cx)(a:Addr)(J:Mine.St):Prop:=∀ s,Holds C J s->∃ O n,s.heap.get? a=some O/\O.cls = .type n/\ownsTuple.contains n=false
theorem Z2f{a:Addr}{x x':AO}{loc:Wm}{l l':Wg}(u:UpO a x x' l l')(k:∀ s r,Holds C ⟨loc,(a,x')::r⟩ s->∃ O n,s.heap.get? a=some O/\O.cls = .type n/\ownsTuple.contains n=false):Zlj C a ⟨loc,l'⟩:=λs H=>by
 obtain⟨r,p⟩:=LkO.pk (UpO.nw u)
 exact k s r (H.perm p.perm)
theorem Zb3{o:Option α}{x:α}(h:o=none)(h2:o=some x):Q:=by rw[h] at h2;cases h2
theorem Zc1{o:Option α}{x:α}(h:o=some x)(h2:o=none):Q:=Zb3 h2 h
theorem Zog{D s J d b i n e2 ep it a o z}{kn:KS}{f:A->A->Nat->Bool}(r:c.S D s J)(p:Spot c.E D c.T it s.obs J.obs o a z)(qb:D d=some b)(qe:D e2=some ep)(e:Zwc it d i n e2 s kn f=true)(hn:PS c D kn Kn)
  (q1:∀ kv l',n=kv.length->LkO b (.dictE (some ep) kv) J.obs->kv[i]?=none->Pick (a,z) J.obs l'->(∃ d oe l l2,UpO d (.dictE oe l) (.dict l) l' l2/\Kn ⟨J.loc,l2⟩)->Q)
  (q2:∀ kv x y j v,n=kv.length->LkO b (.dictE (some ep) kv) J.obs->kv[i]?=some (j,v)->AR c.E D x (.int j)->AR c.E D y v->f x y (i+1)=true->Q):Q:=by
 refine Za0 r qb e λo2 z2 pd e=>Zh0 (pd D (Le.refl _)) e λoe l oe' kv pd t eo e=>Zsh (Q:=λoe=>EpR D oe oe'->Q) e (λe' e eo=>?_) eo
 refine Zar e λh1 e=>Zao e λY e=>Zar e λh2 e9=>?_
 obtain rfl:e2=e':=Qp h1
 obtain⟨ep2,qe2,rfl⟩:=eo
 obtain rfl:ep=ep2:=Qv (qe.symm.trans qe2)
 have hl:n=kv.length:=(Qp h2).trans t.length.symm
 refine Z06 (Q:=λw=>kv[i]?=w->Q) t e9 (λe hk=>Zp8 r p e λs' l' pk r' e=>q1 kv l' hl pd.lk hk pk ?_) (λx y j v rx ry e hk=>q2 kv x y j v hl pd.lk hk rx ry (Za1 (n:=i+1) (k:=λi=>f x y i) e)) rfl
 exact lk_k r' e λo3 b3 z3 p3 e=>Zh0 p3 e λoe l oe' kv p3 t Y e=>Zg4 r' p3 (.dct t) e λs4 l4 u r4 e=>⟨_,_,_,_,u,hn.at e r4⟩
theorem Zq6(hh:C.A.handled=none){tp:Bool}{D s J it a kn k o z}{Ks:V->Wl}(r:c.S D s J)(p:Spot c.E D c.T it s.obs J.obs o a z)(e:Zp2 tp it s kn k o=true)(hs:PA c D k Ks)(hn:PS c D kn Kn)(hne:∀ j i,o ≠ .enum j i):NX C (.ref a) J (λv J'=>Ks v J'/\Zlj C a J') Kn:=by
 exists (Kn c C tp D s J it a kn k o z Ks),hh,r,p,e,hs,hn,hne
 induction o with
 | liter x i=>
  obtain⟨b,qb,rfl⟩:=p.ob
  refine Za3 r qb e λl vs pl t e=>Zrf e (λh1 e=>Zp8 r p e λs' l' pk r' e=>?_) λy h1 e=>t.get_k h1 λw hw rw_=>(LkO.pk p.lk).elim λl' pk=>?_
  .exact Zga hh pl.lk (p.up1 _) pk (λx hx=>Zb3 (t.none h1) hx) λY=>hn.at e r'
  .refine Zzb r p (o':=.liter x (i+1)) (x':=.liter b (i+1)) ⟨b,qb,rfl⟩ (Za1 (n:=i+1) (k:=λi=>s.up it (.liter x i) λs=>k y s) e) λs' r' e=>Zga hh pl.lk (p.up1 _) pk (λx hx=>?_) λhx=>Zc1 hw hx
   obtain rfl:=Qv (hw.symm.trans hx)
   exact⟨hs.at e rw_ r',Z2f (p.up1 _) λY Y H=>Ziq H⟩
 | riter x n st=>
  obtain rfl:=p.ob
  induction n with
  | zero=>exact Zp8 r p e λs' l' pk r' e=>Zd4 hh (p.up1 _) pk (λh=>absurd h (Int.lt_irrefl 0)) λY=>hn.at e r'
  | succ n=>
   refine(LkO.pk p.lk).elim λl2 pk2=>?_
   have e:=Zul (k:=λy=>s.up it (.riter y n st) λs=>k (.int x) s) e
   rw[Zi8] at e
   refine Zzb r p (o':=.riter (x+st) n st) (x':=.riter (x+st) n st) rfl e λs' r' e=>Zd4 hh (obs':=Zzc (idx it s.obs) (.riter (x+st) n st) J.obs) ?_ pk2 (λY=>⟨hs.at e rfl r',Z2f (p.up1 _) λY Y H=>Zhd H⟩) λh=>absurd h (by simp)
   have:=p.up1 (.riter (x+st) n st)
   rw[show(((n+1:Nat):Int)-1)=n by simp];exact this
 | titer l i=>
  obtain⟨vs,tv,rfl⟩:=p.ob
  refine Z1h (Q:=λw=>vs[i]?=w->NX C _ _ _ _) tv e (λe h1=>Zp8 r p e λs' l' pk r' e=>?_) (λy w rw_ e h1=>(LkO.pk p.lk).elim λl2 pk2=>?_) rfl
  .exact Zt2 hh (p.up1 _) pk (λx hx=>Zb3 h1 hx) λY=>hn.at e r'
  .refine Zzb r p (o':=.titer l (i+1)) (x':=.titer vs (i+1)) ⟨vs,tv,rfl⟩ (Za1 (n:=i+1) (k:=λi=>s.up it (.titer l i) λs=>k y s) e) λs' r' e=>Zt2 hh (p.up1 _) pk2 (λx hx=>?_) λhx=>Zc1 h1 hx
   obtain rfl:=Qv (h1.symm.trans hx)
   exact⟨hs.at e rw_ r',Z2f (p.up1 _) λY Y H=>Zoz H⟩
 | kiter d i n e2=>
  obtain⟨b,ep,qb,qe,rfl⟩:=p.ob
  refine Zog (Q:=NX C (.ref a) J (λv J'=>Ks v J'/\Zlj C a J') Kn) r p qb qe e hn (λkv l' hl pd h1 pk q=>?_) λkv x y j v hl pd h1 rx ry e=>(LkO.pk p.lk).elim λl2 pk2=>?_
  .subst hl
   exact NX.loose (Zot hh pd (p.up1 (.kiter b (i+1) kv.length ep)) pk (λa x hx=>Zb3 h1 hx) λY=>q)
  .subst hl
   refine Zzb r p (o':=.kiter d (i+1) kv.length e2) (x':=.kiter b (i+1) kv.length ep) ⟨b,ep,qb,qe,rfl⟩ e λs' r' e=>Zot hh pd (p.up1 _) pk2 (λa x hx=>?_) λhx=>Zc1 h1 hx
   obtain⟨rfl,rfl⟩:=Prod.mk.inj (Qv (h1.symm.trans hx))
   exact⟨hs.at e rx r',Z2f (p.up1 _) λY Y H=>Zqe H⟩
 | viter d i n e2=>
  obtain⟨b,ep,qb,qe,rfl⟩:=p.ob
  refine Zog (Q:=NX C (.ref a) J (λv J'=>Ks v J'/\Zlj C a J') Kn) r p qb qe e hn (λkv l' hl pd h1 pk q=>?_) λkv x y j v hl pd h1 rx ry e=>(LkO.pk p.lk).elim λl2 pk2=>?_
  .subst hl
   exact NX.loose (Zpn hh pd (p.up1 (.viter b (i+1) kv.length ep)) pk (λa x hx=>Zb3 h1 hx) λY=>q)
  .subst hl
   refine Zzb r p (o':=.viter d (i+1) kv.length e2) (x':=.viter b (i+1) kv.length ep) ⟨b,ep,qb,qe,rfl⟩ e λs' r' e=>Zpn hh pd (p.up1 _) pk2 (λa x hx=>?_) λhx=>Zc1 h1 hx
   obtain⟨rfl,rfl⟩:=Prod.mk.inj (Qv (h1.symm.trans hx))
   exact⟨hs.at e ry r',Z2f (p.up1 _) λY Y H=>Zpg H⟩
 | enum j i=>exact absurd rfl (hne _ _)
 | _=>exact ff e
end
end MI
namespace MI
open Mine
section
variable {c:Ct} {C:Cx}
def Zqz(c:Ct)(C:Cx)(g:List A->S->KA->Bool)(f:V):Prop:=∀ {D s J l vs k K},c.S D s J->LR c.E D l vs->g l s k=true->PA c D k K->CF C f vs J K
section
variable {D:Rh} {l:List A} {vs:List V}
theorem Za4{k:A->Bool}{Q:List V->Prop}(r:LR c.E D l vs)(h:Zei l k=true)(q:∀ a v,AR c.E D a v->k a=true->Q [v]):Q vs:=by
 refine Zqy (R:=λl vs=>Zei l k=true->Q vs) r (λe=>ff e) (λa l v w p t=>?_) h
 exact Zqy (R:=λl w=>Zei (a::l) k=true->Q (v::w)) t (λe=>q a v p e) λY Y Y Y Y Y e=>ff e
theorem Zub{k:A->A->Bool}{Q:List V->Prop}(r:LR c.E D l vs)(h:Z42 l k=true)(q:∀ a b v w,AR c.E D a v->AR c.E D b w->k a b=true->Q [v,w]):Q vs:=
 Zqy (R:=λl vs=>Z42 l k=true->Q vs) r (λe=>ff e) (λa l v w p t e=>Za4 (Q:=λw=>Q (v::w)) t e λb u p2 e=>q a b v u p p2 e) h
theorem Zm7{Q:List V->Prop}(r:LR c.E D l vs)(h:emL l=true)(q:Q []):Q vs:=Zqy (R:=λl vs=>emL l=true->Q vs) r (λY=>q) (λY Y Y Y Y Y e=>ff e) h
theorem Zt0{k:Nat->Bool}(r:AR c.E D a (.tup vs))(h:Zy6 a k=true):k vs.length=true:=by
 induction a generalizing vs k with
 | nil=>obtain rfl:vs=[]:=V.tup.inj r;exact h
 | cons x y _ ih=>
  obtain⟨v,w,e,p,q⟩:=r
  obtain rfl:=V.tup.inj e
  exact ih (k:=λn=>k (n+1)) q h
 | _=>exact ff h
theorem Zy4{k:List Nat->Bool}{Q:List V->Prop}(r:LR c.E D l vs)(h:Zyd l k=true)(q:∀ m:List Nat,k m=true->Q (m.map vi)):Q vs:=by
 induction l generalizing vs k Q with
 | nil=>obtain rfl:vs=[]:=r;exact q [] h
 | cons a l ih=>
  obtain⟨v,w,rfl,p,t⟩:=r
  exact Z3k (Q:=λv=>Q (v::w)) p (show Z4y a (λb=>Zyd l λr=>k (b::r))=true from h) λn e=>ih (Q:=λw=>Q (.int n::w)) t e λm e=>q (n::m) e
theorem Zqi{k:List Int->Bool}{Q:List V->Prop}(r:LR c.E D l vs)(h:Zp7 l k=true)(q:∀ m:List Int,k m=true->Q (m.map V.int)):Q vs:=by
 induction l generalizing vs k Q with
 | nil=>obtain rfl:vs=[]:=r;exact q [] h
 | cons a l ih=>
  obtain⟨v,w,rfl,p,t⟩:=r
  exact Zbx (Q:=λv=>Q (v::w)) p (show a.onInt (λb=>Zp7 l λr=>k (b::r))=true from h) λn e=>ih (Q:=λw=>Q (.int n::w)) t e λm e=>q (n::m) e
theorem Zw4{m:List Int}{k:List A->Bool}(h:Zvx m k=true)(q:∀ l,LR c.E D l (m.map V.int)->k l=true->Q):Q:=by
 induction m generalizing k with
 | nil=>exact q [] rfl h
 | cons n m ih=>exact ih (k:=λr=>k (.int n::r)) h λl t e=>q (.int n::l) ⟨_,_,rfl,rfl,t⟩ e
theorem Zw6{k:List A->Bool}(r:AR c.E D a (.tup vs))(h:Zld a k=true)(q:∀ l,LR c.E D l vs->k l=true->Q):Q:=by
 induction a generalizing vs k with
 | nil=>obtain rfl:vs=[]:=V.tup.inj r;exact q [] rfl h
 | cons x y _ ih=>
  obtain⟨v,w,e,p,t⟩:=r
  obtain rfl:=V.tup.inj e
  exact ih (k:=λr=>k (x::r)) t h λl t e=>q (x::l) ⟨v,w,rfl,p,t⟩ e
 | _=>exact ff h
theorem Zzo{s J a v}{k:List A->Bool}{Q:V->Prop}(r:c.S D s J)(ra:AR c.E D a v)(e:sqA a s k=true)(q1:∀ l b vs,LkO b (.list vs) J.obs->LR c.E D l vs->k l=true->Q (.ref b))(q2:∀ l vs,LR c.E D l vs->k l=true->Q (.tup vs)):Q v:=
 Zsi (R:=λY v=>Q v) ra e (λY e=>ff e) (λY e=>ff e) (λY b hx e=>Za3 r hx e λl vs p t e=>q1 l b vs p.lk t e) λvs ra e=>Zw6 ra e λl t e=>q2 l vs t e
end
theorem Zve{l:List Int}{n:Int}{k:Int->Bool}(h:maxZ l n k=true):k (l.foldl max n)=true:=by
 induction l generalizing n with
 | nil=>exact h
 | cons a l ih=>
  rw[List.foldl_cons]
  refine Zb0 h (λh1 h2=>?_) λh1 h2=>?_
  .rw[Zdk,decide_eq_true_iff] at h1
   rw[Int.max_eq_left h1];exact ih h2
  .rw[Zdk,decide_eq_false_iff_not] at h1
   rw[Int.max_eq_right (Int.le_of_lt (Int.lt_of_not_ge h1))];exact ih h2
theorem Z39{x:Int}{l:List Int}{k:List Int->Bool}(h:insZ x l k=true)(hs:l.Pairwise (·<=·))(q:∀ r:List Int,r.Perm (x::l)->r.Pairwise (·<=·)->k r=true->Q):Q:=by
 induction l generalizing k with
 | nil=>exact q [x] (.refl _) (List.pairwise_singleton _ _) h
 | cons y l ih=>
  have hy:=List.pairwise_cons.mp hs
  refine Zb0 h (λh1 h2=>?_) λh1 h2=>ih (k:=λr=>k (y::r)) h2 hy.2 λr hp hr e=>?_
  .rw[Zdk,decide_eq_true_iff] at h1
   exact q _ (.refl _) (List.pairwise_cons.mpr ⟨λz hz=>(Qb hz).elim (λe=>e▸h1) λhz=>Int.le_trans h1 (hy.1 z hz),hs⟩) h2
  .rw[Zdk,decide_eq_false_iff_not] at h1
   refine q (y::r) ((hp.cons y).trans (.swap ..)) (List.pairwise_cons.mpr ⟨λz hz=>?_,hr⟩) e
   exact(Qb (hp.mem_iff.mp hz)).elim (λe=>e▸Int.le_of_lt (Int.lt_of_not_ge h1)) (hy.1 z)
theorem Zu9{l:List Int}{k:List Int->Bool}(h:Zy5 l k=true)(q:∀ r:List Int,r.Perm l->r.Pairwise (·<=·)->k r=true->Q):Q:=by
 induction l generalizing k with
 | nil=>exact q [] (.refl _) .nil h
 | cons x l ih=>exact ih (k:=λr=>insZ x r k) h λr hp hr e=>Z39 e hr λr' hp' hr' e=>q r' (hp'.trans (hp.cons x)) hr' e
theorem Zr7(m:List Nat):(m.map λn:Nat=>(n:Int)).sum=(m.sum:Nat):=by
 induction m with
 | nil=>rfl
 | cons a m ih=>rw[Qr,List.sum_cons,ih,List.sum_cons];simp
theorem Z20{l:List Nat}{k:Nat->Bool}(h:sumL l n k=true)(q:(∀ x∈l,x<=1000000)->k (n+l.sum)=true->Q):Q:=by
 induction l generalizing n with
 | nil=>exact q (λx hx=>(nomatch hx)) (Za1 h)
 | cons a l ih=>
  refine Zar h λh1 h=>ih h λh2 h3=>q (λx hx=>(Qb hx).elim (λe=>e▸Qo h1) (h2 x)) ?_
  rw[List.sum_cons,<- Nat.add_assoc];exact h3
theorem Z2l(hh:C.A.handled=none)(n:Nat):Zqz c C (biC n).run (.bi (biNm n)):=by
 exists (c C n),hh
 intro D s J l vs k K r rl e h
 match n with
 | 0=>
  refine Za4 (Q:=λvs=>CF C _ vs J K) rl e λa v ra e=>Zsi (R:=λY v=>CF C _ [v] J K) ra e (λY e=>ff e) (λl e=>Zao e λh1 e=>Zdg ?_ (by rw[Qj];exact Qx h1 (by decide))) (λx ax hx e=>Za3 r hx e λl vs p t e=>Zao e λh1 e=>cf_len_list p.lk ?_ (by rw[t.length];exact Zbs h1)) λm ra e=>?_
  .rw[Qj];exact h.at e rfl r
  .rw[t.length];exact h.at e rfl r
  .exact Zar (Za1 (k:=λn=>gd (Nat.ble n 100000) (k (.int (.ofNat n)) s)) (Zt0 ra e)) λh1 e=>cf_len_tup (h.at e rfl r) (Zbs (Qo h1))
 | 3=>
  refine Za4 (Q:=λvs=>CF C _ vs J K) rl e λa v ra e=>Zfm (Q:=λv=>CF C _ [v] J K) r ra e λx l ax vs p t e=>Zqi (Q:=λvs=>LkO ax (.list vs) J.obs->CF C _ [.ref ax] J K) t e (λm e p=>?_) p.lk
  cases m with
  | nil=>exact ff e
  | cons y m=>exact Zxc p (h.at (Zve (show maxZ m y (λn=>k (.int n) s)=true from e)) rfl r) (λq=>nomatch q) hh
 | 5=>
  refine Za4 (Q:=λvs=>CF C _ vs J K) rl e λa v ra e=>Zfm (Q:=λv=>CF C _ [v] J K) r ra e λx l ax vs p t e=>Zy4 (Q:=λvs=>LkO ax (.list vs) J.obs->CF C _ [.ref ax] J K) t e (λm e p=>Zao e λY e=>Zar e λh1 e=>Z20 e λh2 e=>?_) p.lk
  rw[show m.map vi=(m.map λn:Nat=>(n:Int)).map V.int by rw[List.map_map];rfl] at p
  refine Zuc p ?_ (λx hx=>?_) (by rw[Qj];exact Qo h1) hh
  .rw[Zr7,<- Nat.zero_add m.sum];exact h.at e rfl r
  .obtain⟨n,hn,rfl⟩:=Qf hx
   exact⟨Int.natCast_nonneg n,Int.ofNat_le.mpr (h2 n hn)⟩
 | 6=>
  exact Za4 (Q:=λvs=>CF C _ vs J K) rl e λa v ra e=>Zdv (Q:=λv=>CF C _ [v] J K) ra e λx ax hx e=>Za3 r hx e λl vs p t e=>Zu6 p.lk (Zcv r h (o:=.lit x) (x:=.own (Z4l ax)) ⟨ax,hx,rfl⟩ e)
 | 7=>
  refine Zub (Q:=λvs=>CF C _ vs J K) rl e λa b v w ra rb e=>?_
  have key:∃ n vs,b = .ty n/\v = .tup vs/\gd (Nat.beq n 5) (k (.bool true) s)=true:=by
   cases a with
   | nil=>cases b <;> first|exact⟨_,_,rfl,ra,e⟩|exact ff e
   | cons x y=>obtain⟨x,xs,rfl,_⟩:=ra;cases b <;> first|exact⟨_,_,rfl,rfl,e⟩|exact ff e
   | _=>exact ff e
  obtain⟨n,vs,rfl,rfl,e⟩:=key
  refine Zar e λh1 e=>?_
  obtain rfl:n=5:=Qp h1
  obtain rfl:w=_:=rb
  exact Zmf (h.at e rfl r)
 | 8=>
  have fin:∀ {l vs} {R:List V->Prop},LR c.E D l vs->(Zp7 l λl=>len l λn=>gd (Nat.ble n 63) (Zy5 l λl=>Zvx l λl=>s.new (.list l) λh s=>k (.ref h) s))=true->(∀ m l':List Int,(∀ z,K (.ref z) ⟨J.loc,(z,.list (l'.map V.int))::J.obs⟩)->m.length<64->l'.Perm m->l'.Pairwise (·<=·)->R (m.map V.int))->R vs:=λ{l vs R} t e q=>
   Zqi (Q:=R) t e λm e=>Zao e λY e=>Zar e λh1 e=>Zu9 e λr' hp hr e=>Zw4 (c:=c) (D:=D) e λl2 t2 e=>q m r' (Zcv r h (.lst t2) e) (Nat.lt_succ_of_le (Qo h1)) hp hr
  refine Za4 (Q:=λvs=>CF C _ vs J K) rl e λa v ra e=>Zzo (Q:=λv=>CF C _ [v] J K) r ra e (λl b vs p t e=>?_) λl vs t e=>?_
  .exact fin (R:=λvs=>LkO b (.list vs) J.obs->CF C _ [.ref b] J K) t e (λm l' k h1 h2 h3 p=>Zpk p k h1 h2 h3) p
  .exact fin (R:=λvs=>CF C _ [.tup vs] J K) t e λm l' k h1 h2 h3=>Zl3 k h1 h2 h3
 | 1=>exact ff e
 | 2=>exact ff e
 | 4=>exact ff e
 | n+9=>exact ff e
end
end MI
namespace MI
open Mine
section
variable {c:Ct} {C:Cx}
theorem Ztc{k:List Nat->Bool}{Q:List V->Prop}(r:LR c.E D l vs)(h:Zqu l k=true)(q:∀ m:List Nat,(∀ x∈m.map c.E.χ,x<256)->k m=true->Q ((m.map c.E.χ).map vi)):Q vs:=by
 induction l generalizing vs k Q with
 | nil=>obtain rfl:vs=[]:=r;exact q [] (λx hx=>(nomatch hx)) h
 | cons a l ih=>
  obtain⟨v,w,rfl,p,t⟩:=r
  exact Zlo (Q:=λv=>Q (v::w)) (k:=λb=>Zqu l λr=>k (b::r)) p h λn hn e=>ih (Q:=λw=>Q (vi (c.E.χ n)::w)) t e λm hm e=>q (n::m) (λx hx=>(Qb hx).elim (λe=>e▸hn) (hm x)) e
theorem Zpb{k:A->Bool}(r:LR c.E D l vs)(h:Z16 l k=true)(q:∀ a,AR c.E D a (.tup vs)->k a=true->Q):Q:=by
 induction l generalizing vs k with
 | nil=>obtain rfl:vs=[]:=r;exact q .nil rfl h
 | cons a l ih=>
  obtain⟨v,w,rfl,p,t⟩:=r
  exact ih (k:=λr=>k (.cons a r)) t h λb rb e=>q (.cons a b) ⟨v,w,rfl,p,rb⟩ e
theorem Zu8{k:List Nat->Bool}(h:repN n k=true):k (List.replicate n 0)=true:=by
 induction n generalizing k with
 | zero=>exact h
 | succ n ih=>exact ih (k:=λr=>k (0::r)) h
theorem Zr2{l:List Nat}{k:List A->Bool}(h:Zu0 l k=true)(q:∀ m,LR c.E D m ((l.map c.E.χ).map vi)->k m=true->Q):Q:=by
 induction l generalizing k with
 | nil=>exact q [] rfl h
 | cons a l ih=>exact ih (k:=λr=>Z4p a λa=>k (a::r)) h λm r e=>Zun (c:=c) (D:=D) e λb rb e=>q (b::m) ⟨_,_,rfl,rb,r⟩ e
theorem Z2n(hh:C.A.handled=none)(gu:C.A.guards=some [])(n:Nat):Zqz c C (tyC n).run (.ty (tyNm n)):=by
 intro D s J l vs k K r rl e h
 have rng:∀ {a b d:Int},s.new (.range a b d) (λx s=>k (.ref x) s)=true->∀ z,K (.ref z) ⟨J.loc,(z,.range a b d)::J.obs⟩:=λe z=>Zcv r h (o:=.range _ _ _) (x:=.range _ _ _) rfl e z
 match n with
 | 0=>
  refine Zqy (R:=λl vs=>(tyC 0).run l s k=true->CF C _ vs J K) rl (λe=>ff e) (λa l v w ra q e=>Zbx (Q:=λv=>CF C _ (v::w) J K) (a:=a) ra e λi e=>?_) e
  refine Zqy (R:=λl w=>List.rec (motive:=Wf) (s.new (.range 0 i 1) λx s=>k (.ref x) s) (λb r Y=>b.onInt λj=>List.rec (motive:=Wf) (s.new (.range i j 1) λx s=>k (.ref x) s)
   (λc r Y=>c.onInt λm=>gd (emL r) (gd (iNz m) (gd (neg (Builtin.divisionGoesByPylong (j-i) m)) (s.new (.range i j m) λx s=>k (.ref x) s)))) r) l=true->CF C _ (.int i::w) J K) q (λe=>Zhj (rng e)) (λb l v w rb q e=>Zbx (Q:=λv=>CF C _ (_::v::w) J K) (a:=b) rb e λj e=>?_) e
  refine Zqy (R:=λl w=>List.rec (motive:=Wf) (s.new (.range i j 1) λx s=>k (.ref x) s)
   (λc r Y=>c.onInt λm=>gd (emL r) (gd (iNz m) (gd (neg (Builtin.divisionGoesByPylong (j-i) m)) (s.new (.range i j m) λx s=>k (.ref x) s)))) l=true->CF C _ (.int i :: .int j::w) J K) q (λe=>Zn1 (rng e)) (λd l v w rd q e=>Zbx (Q:=λv=>CF C _ (_::_::v::w) J K) (a:=d) rd e λm e=>?_) e
  refine Zar e λh1 e=>Zar e λh2 e=>Zar e λh3 e=>Zm7 (Q:=λw=>CF C _ (_::_::_::w) J K) q h1 (Zh9 (rng e) (Zoi h2) ?_)
  rw[Zd9] at h3
  simpa using h3
 | 1=>
  refine Za4 (Q:=λvs=>CF C _ vs J K) rl e λa v ra e=>Zm6 (Q:=λv=>CF C _ [v] J K) r ra e λx o ax z p e=>Zkb p e (λl vs p t e=>?_) (λl p e=>?_) (λY Y Y Y Y Y Y e=>ff e) (λY Y Y Y e=>ff e) (λY Y Y Y Y e=>ff e) λY Y Y Y Y Y Y Y e=>ff e
  .refine Zao e λh1 e=>Ztc (Q:=λvs=>LkO ax (.list vs) J.obs->vs.length=l.length->CF C _ [.ref ax] J K) t e (λm hm e p t=>?_) p.lk t.length
   rw[Qj] at t
   exact Zc2 p (h.at e rfl r) hm (by rw[t];exact Zbs h1) hh
  .exact Zao e λh1 e=>Zi5 p.lk (h.at e rfl r) (by rw[Qj];exact Zbs h1)
 | 2=>
  refine Za4 (Q:=λvs=>CF C _ vs J K) rl e λa v ra e=>Z3k (Q:=λv=>CF C _ [v] J K) ra e λn e=>Zar e λh1 e=>?_
  have hn:=Qo h1
  refine cf_ba (Zcv r h (o:=.ba (List.replicate n 0)) (x:=.ba (List.replicate (Int.toNat n) 0)) ?_ (Zu8 e)) gu (Int.natCast_nonneg n) (by have:=Zbs hn;lia)
  show AO.ba _=AO.ba _
  rw[Int.toNat_natCast,List.map_replicate,c.E.kn 0 rfl]
 | 3=>
  exact Za4 (Q:=λvs=>CF C _ vs J K) rl e λa v ra e=>Zdv (Q:=λv=>CF C _ [v] J K) ra e λx ax hx e=>Za3 r hx e λl vs p t e=>cf_enum p.lk λz it=>Zc7 r (o:=.liter x 0) (x:=.liter ax 0) ⟨ax,hx,rfl⟩ it e λs1 n1 D1 le1 ea1 r1 e=>Zcv r1 (h.le le1) (o:=.enum n1 0) (x:=.enum it 0) ⟨it,ea1,rfl⟩ e z
 | 4=>exact Zar e λh1 e=>Zm7 (Q:=λvs=>CF C _ vs J K) rl h1 (cf_set0 (Zcv r h (o:=.set []) (x:=.set []) ⟨[],rfl,rfl⟩ e))
 | 5=>exact Za4 (Q:=λvs=>CF C _ vs J K) rl e λa v ra e=>Zfm (Q:=λv=>CF C _ [v] J K) r ra e λx l ax vs p t e=>Zao e λh1 e=>Zpb (k:=λt=>k t s) t e λb rb e=>Zgb p.lk (h.at e rb r) (by rw[t.length];exact Zbs h1)
 | 6=>
  refine Za4 (Q:=λvs=>CF C _ vs J K) rl e λa v ra e=>Zfm (Q:=λv=>CF C _ [v] J K) r ra e λx l ax vs p t e=>Zao e λh1 e=>Zhf p.lk ?_ (by rw[t.length];exact Zbs h1)
  rw[Zd9,Zur] at e
  rw[t.emp]
  exact h.at e rfl r
 | 7=>
  exact Za4 (Q:=λvs=>CF C _ vs J K) rl e λa v ra e=>Zc8 (Q:=λv=>CF C _ [v] J K) ra e λl e=>Zao e λh1 e=>Zr2 (c:=c) (D:=D) e λm rm e=>Zf9 (Zcv r h (.lst rm) e) hh (by rw[Qj];exact h1)
 | n+8=>exact ff e
end
end MI
namespace MI
open Mine
section
variable {c:Ct} {C:Cx}
theorem Zsg{D s J a va}{k:Nat->List A->Bool}{Q:V->Prop}(r:c.S D s J)(ra:AR c.E D a va)(e:onL a s k=true)(q:∀ h l b vs,Spot c.E D c.T h s.obs J.obs (.list l) b (.list vs)->LR c.E D l vs->vs.length<=sizeLine->k h l=true->Q (.ref b)):Q va:=
 Zfm (Q:=Q) r ra e λh l b vs p t e=>Zao e λh1 e=>q h l b vs p t (by rw[t.length];exact Zbs h1) e
def OkM(c:Ct)(C:Cx)(g:A->List A->S->KA->Bool)(id:String):Prop:=∀ {D s J a va l vs k K},c.S D s J->AR c.E D a va->LR c.E D l vs->g a l s k=true->PA c D k K->CF C (.bi id) (va::vs) J K
theorem Zqw:OkM c C (λa l s k=>Zei l λx=>onL a s λh l=>app l [x] λr=>s.up h (.list r) λs=>k .none s) "list.append" := by
 intro D s J a va l vs k K r ra rl e h
 refine Za4 (Q:=λvs=>CF C _ (_::vs) J K) rl e λx v rx e=>Zsg (Q:=λva=>CF C _ (va::_) J K) r ra e λhd l b ws p t hz e=>?_
 exact Zg4 r p (.lst (t.append (show LR c.E D [x] [v] from⟨v,[],rfl,rx,rfl⟩))) (Zcn (k:=λr=>s.up hd (.list r) λs=>k .none s) e) λs' l' u r' e=>cf_append u (h.at e rfl r') hz
theorem Zsf:OkM c C (λa l s k=>gd (emL l) (onL a s λh Y=>s.up h (.list []) λs=>k .none s)) "list.clear" := by
 intro D s J a va l vs k K r ra rl e h
 exact Zar e λh1 e=>Zm7 (Q:=λvs=>CF C _ (_::vs) J K) rl h1 (Zsg (Q:=λva=>CF C _ [va] J K) r ra e λhd l b ws p t hz e=>Zg4 r p (.lst (show LR c.E D [] [] from rfl)) e λs' l' u r' e=>Zsr u (h.at e rfl r') hz)
theorem Z1w:OkM c C (λa l s k=>Zei l λx=>a.onRef λh=>s.lk h λo=>o.onDict λY l=>gd (Zmt x) (lkK x l (k .none s) λv=>k v s)) "dict.get" := by
 intro D s J a va l vs k K r ra rl e h
 refine Za4 (Q:=λvs=>CF C _ (_::vs) J K) rl e λx v rx e=>Zm6 (Q:=λva=>CF C _ (va::_) J K) r ra e λhd o b z p e=>Zh0 p e λoe l oe' kv p t Y e=>Zar e λh1 e=>Zkd (Q:=λv=>CF C _ [_,v] J K) rx h1 λi rx=>Zke p.lk ?_
 exact Zwy (Q:=λw=>K (w.getD .none) J) rx t e (λe=>h.at e rfl r) λy w rw_ e=>h.at e rw_ r
theorem Zpv:OkM c C (λa l s k=>gd (emL l) (a.onRef λh=>s.lk h λo=>o.onDict λY Y=>s.new (.vview h) λx s=>k (.ref x) s)) "dict.values" := by
 intro D s J a va l vs k K r ra rl e h
 exact Zar e λh1 e=>Zm7 (Q:=λvs=>CF C _ (_::vs) J K) rl h1 (Zdv (Q:=λva=>CF C _ [va] J K) ra e λhd b hb e=>Za0 r hb e λo z p e=>Zh0 (p D (Le.refl _)) e λoe l oe' kv p t Y e=>Zp0 p.lk (Zcv r h (o:=.vview hd) (x:=.vview b) ⟨b,hb,rfl⟩ e))
theorem Zyc{l:List α}{k:Nat->α->Bool}(h:Zxq l k=true)(q:∀ x,l[l.length-1]?=some x->k (l.length-1) x=true->Q):Q:=by
 refine Zao h λY h2=>?_
 cases hl:l.length with
 | zero=>rw[hl] at h2;exact ff h2
 | succ m=>rw[hl] at h2 q;exact Zeh (show nth l m F0 (λx=>k m x)=true from h2) q
theorem Z2v:OkM c C (λa l s k=>gd (emL l) (onL a s λh m=>Zxq m λi x=>eraN m i λr=>s.up h (.list r) λs=>k x s)) "list.pop" := by
 intro D s J a va l vs k K r ra rl e h
 refine Zar e λh1 e=>Zm7 (Q:=λvs=>CF C _ (_::vs) J K) rl h1 (Zsg (Q:=λva=>CF C _ [va] J K) r ra e λhd m b ws p t hz e=>Zyc e λx hx e=>t.get_k hx λw hw rw_=>?_)
 rw[<- t.length] at hw
 exact Zg4 r p (.lst (t.erase (i:=m.length-1))) (Zyj (k:=λr=>s.up hd (.list r) λs=>k x s) e) λs' l' u r' e=>Zys (by rw[t.length];exact u) (h.at e rw_ r') hw hz
theorem Zv2{k:List (List Nat)->Bool}{Q:List V->Prop}(r:LR c.E D l vs)(h:Zrp l k=true)(q:∀ m:List (List Nat),k m=true->Q ((m.map (·.map c.E.χ)).map V.bytes)):Q vs:=by
 induction l generalizing vs k Q with
 | nil=>obtain rfl:vs=[]:=r;exact q [] h
 | cons a l ih=>
  obtain⟨v,w,rfl,p,t⟩:=r
  exact Zc8 (Q:=λv=>Q (v::w)) p (show a.onBytes (λb=>Zrp l λr=>k (b::r))=true from h) λn e=>ih (Q:=λw=>Q (.bytes (n.map c.E.χ)::w)) t e λm e=>q (n::m) e
theorem Zrk{l:List (List Nat)}{k:List Nat->Bool}(h:Zv5 l k=true):k l.flatten=true:=by
 induction l generalizing k with
 | nil=>exact h
 | cons a l ih=>rw[List.flatten_cons];exact Zcn (ih (k:=λt=>app a t k) h)
theorem Zte:OkM c C (λa l s k=>Zei l λb=>a.onBytes λx=>gd (emL x) (onL b s λY l=>Zrp l λm=>len m λn=>gd (Nat.ble n 100) (Zv5 m λr=>len r λY=>k (.bytes r) s))) "bytes.join" := by
 intro D s J a va l vs k K r ra rl e h
 refine Za4 (Q:=λvs=>CF C _ (_::vs) J K) rl e λb v rb e=>Zc8 (Q:=λva=>CF C _ (va::_) J K) ra e λx e=>Zar e λh1 e=>?_
 induction x with
 | cons _ _=>exact ff h1
 | nil=>
  refine Zsg (Q:=λv=>CF C _ [_,v] J K) r rb e λhd l b vs p t hz e=>Zv2 (Q:=λvs=>LkO b (.list vs) J.obs->CF C _ [_,.ref b] J K) t e (λm e p=>Zao e λY e=>Zar e λh2 e=>Zao (Zrk e) λh3 e=>?_) p.lk
  have hf:(m.map (·.map c.E.χ)).flatten=m.flatten.map c.E.χ:=List.map_flatten.symm
  exact Zrq p (hf▸h.at e rfl r) (by rw[Qj];exact Qo h2) (by rw[hf,Qj];exact h3)
theorem Zzu:OkM c C (λa l s k=>Zei l λx=>a.onRef λh=>s.lk h λo=>o.sw We We Wd (λl=>gd (Zmt x) (len l λn=>gd (Nat.ble n 1000) (s.up h (.set (x::l)) λs=>k .none s))) Wd Wc F0) "set.add" := by
 intro D s J a va l vs k K r ra rl e h
 refine Za4 (Q:=λvs=>CF C _ (_::vs) J K) rl e λx v rx e=>Zm6 (Q:=λva=>CF C _ (va::_) J K) r ra e λhd o b z p e=>Zkb p e (λY Y Y Y e=>ff e) (λY Y e=>ff e) (λY Y Y Y Y Y Y e=>ff e) (λl m p t e=>?_) (λY Y Y Y Y e=>ff e) λY Y Y Y Y Y Y Y e=>ff e
 refine Zar e λh1 e=>Zkd (Q:=λv=>CF C _ [_,v] J K) rx h1 λi rx=>Zao e λY e=>Zar e λh2 e=>Zg4 r p (o':=.set (x::l)) (x':=.set (i::m)) ⟨_,rfl,i,m,rfl,h1,rx,t⟩ e λs' l' u r' e=>?_
 exact Zm5 u (h.at e rfl r') (by have:=Qo h2;rw[IR.length t];lia)
end
end MI
namespace MI
open Mine
section
variable {c:Ct} {C:Cx}
theorem get_k{l:Lc}{ns:List Str}{m:Wm}{k:A->Bool}(r:LcR c.E D l ns m)(h:l.get i k=true)(q:∀ x a v,ns[i]?=some x->Lk x v m->AR c.E D a v->k a=true->Q):Q:=by
 induction l generalizing ns m i with
 | nil=>exact ff h
 | no l ih=>
  obtain⟨x,xs,r,rfl,rfl,t⟩:=r
  induction i with
  | zero=>exact ff h
  | succ i=>exact ih (ns:=xs) (m:=r) (i:=i) t h λy a v h1 h2 h3 h4=>q y a v h1 (.tail h2) h3 h4
 | so a l ih=>
  obtain⟨x,xs,v,r,rfl,rfl,p,t⟩:=r
  induction i with
  | zero=>exact q x a v rfl .head p h
  | succ i=>exact ih (ns:=xs) (m:=r) (i:=i) t h λy a v h1 h2 h3 h4=>q y a v h1 (.tail h2) h3 h4
theorem Zz4{l:Lc}{ns:List Str}{m:Wm}{k:Lc->Bool}(r:LcR c.E D l ns m)(ra:AR c.E D a v)(h:l.set a i k=true)(q:∀ x l' m',ns[i]?=some x->Up x (some v) m m'->LcR c.E D l' ns m'->k l'=true->Q):Q:=by
 induction l generalizing ns m i k with
 | nil=>exact ff h
 | no l ih=>
  obtain⟨x,xs,r,rfl,rfl,t⟩:=r
  induction i with
  | zero=>exact q x (.so a l) ((x,some v)::r) rfl .head ⟨x,xs,v,r,rfl,rfl,ra,t⟩ h
  | succ i=>exact ih (ns:=xs) (m:=r) (i:=i) (k:=λr=>k (.no r)) t h λy l' m' h1 h2 h3 h4=>q y (.no l') ((x,none)::m') h1 (.tail h2) ⟨x,xs,m',rfl,rfl,h3⟩ h4
 | so b l ih=>
  obtain⟨x,xs,w,r,rfl,rfl,p,t⟩:=r
  induction i with
  | zero=>exact q x (.so a l) ((x,some v)::r) rfl .head ⟨x,xs,v,r,rfl,rfl,ra,t⟩ h
  | succ i=>exact ih (ns:=xs) (m:=r) (i:=i) (k:=λr=>k (.so b r)) t h λy l' m' h1 h2 h3 h4=>q y (.so b l') ((x,some w)::m') h1 (.tail h2) ⟨x,xs,w,m',rfl,rfl,p,h3⟩ h4
theorem Ze1{ns:List Str}{y:Str}(h:ns[ns.idxOf x]?=some y):y=x:=by
 induction ns with
 | nil=>cases h
 | cons z ns ih=>
  rw[List.idxOf_cons] at h
  cases hz:(z==x) with
  | true=>
   rw[hz] at h
   exact Qv h▸beq_iff_eq.mp hz
  | false=>
   rw[hz] at h
   exact ih h
def OkE(c:Ct)(C:Cx)(g:CE)(t:Sem Value):Prop:=∀ {D s J k K},c.S D s J->g.run s k=true->PA c D k K->EV C t J K
def OkS(c:Ct)(C:Cx)(g:CS)(t:Value->Sem Unit):Prop:=∀ {D s J a v k} {K:Wl},c.S D s J->AR c.E D a v->g.run a s k=true->PS c D k K->U1 C t v J K
theorem Ze6{cs:List (Str×Addr)}{cn:List Str}(r:CeR D cs ce cn)(e:ce[i]?=some h)(q:∀ x a,cn[i]?=some x->D h=some a->cs.lookup x=some a->Q):Q:=by
 induction ce generalizing cn i with
 | nil=>cases e
 | cons b ce ih=>
  obtain⟨x,r,a,rfl,p,w,t⟩:=r
  induction i with
  | zero=>cases e;exact q x a rfl p w
  | succ i=>exact ih (cn:=r) (i:=i) t e q
theorem nmE(X:Cc c C){w:Option NameKind}(hx:c.f.names.lookup x=w):C.env.scope.names.lookup x=w:=X.nm▸hx
theorem Ztg (X:Cc c C) (hx:c.f.names.lookup x=some .local) (hd:(x==("__debug__" : Str))=false):OkE c C ⟨λs k=>s.w λlc Y Y Y=>lc.get (c.f.ns.idxOf x) λa=>k a s⟩ (eval (.Name x pos) C.env):=by
 intro D s J k K r e h
 refine get_k r.loc e λy a v h1 h2 h3 h4=>?_
 obtain rfl:=Ze1 h1
 exact Zgd X.kd (nmE X hx) h2 (h.at h4 h3 r) hd
theorem Zm2(X:Cc c C)(hx:c.f.names.lookup x=some .local):OkS c C ⟨λa s k=>s.w λlc ce ob n=>lc.set a (c.f.ns.idxOf x) λlc=>k ⟨lc,ce,ob,n⟩⟩ (storeName C.env x):=by
 intro D s J a v k K r ra e h
 refine Zz4 r.loc ra e λy l' m' h1 h2 h3 h4=>?_
 obtain rfl:=Ze1 h1
 exact Zbv (nmE X hx) (by rw[X.kd];rfl) h2 (h.at h4 ⟨h3,r.cel,r.obs,r.fr⟩)
theorem Zwi{l:Lc}{o:Option V}{k:A->Bool}{Q:Option V->Prop}(r:CR c.E D l o)(h:l.one k=true)(q:∀ a v,AR c.E D a v->k a=true->Q (some v)):Q o:=by
 induction l with
 | so a l=>obtain⟨v,rfl,p⟩:=r;exact q a v p h
 | _=>exact ff h
theorem Zpi{D s J k}(X:Cc c C)(r:c.S D s J)(e:(Zoa (c.f.cn.idxOf x)).run s k=true)(q:∀ ca a v,C.env.cells.lookup x=some ca->LkO ca (.cell (some v)) J.obs->AR c.E D a v->k a s=true->Q):Q:=by
 refine Zeh (show nth s.cel _ F0 (λh=>s.lk h λo=>o.onCell λv=>v.one λa=>k a s)=true from e) λhd hh e=>Ze6 r.cel hh λy ca h1 h2 h3=>Za0 r h2 e λo z p e=>Zt6 (p D (Le.refl _)) e λv w p rv e9=>?_
 obtain rfl:=Ze1 h1
 exact Zwi (Q:=λw=>LkO ca (.cell w) J.obs->Q) rv e9 (λa v ra e p=>q ca a v (by rw[X.cl];exact h3) p ra e) p.lk
theorem Zvv (X:Cc c C) (hx:c.f.names.lookup x=some .cell) (hd:(x==("__debug__" : Str))=false):OkE c C (Zoa (c.f.cn.idxOf x)) (eval (.Name x pos) C.env):=
 λr e h=>Zpi X r e λca a v h2 h3 h4 h5=>ev_cell h2 h3 X.kd (nmE X hx) hd (h.at h5 h4 r)
theorem Zyo (X:Cc c C) (hx:c.f.names.lookup x=some .free) (hd:(x==("__debug__" : Str))=false) (hn:(x==("__classdict__" : Str))=false):OkE c C (Zoa (c.f.cn.idxOf x)) (eval (.Name x pos) C.env):=
 λr e h=>Zpi X r e λca a v h2 h3 h4 h5=>ev_free h2 h3 X.kd (nmE X hx) hd hn (h.at h5 h4 r)
theorem Zn9(X:Cc c C)(hx:c.f.names.lookup x=some .cell):OkS c C ⟨λa s k=>s.w λlc ce ob n=>Zyh ce (c.f.cn.idxOf x) λh=>s.lk h λo=>o.onCell λY=>s.up h (.cell (.so a .nil)) k⟩ (storeName C.env x):=by
 intro D s J a v k K r ra e h
 refine Zeh (show nth s.cel (c.f.cn.idxOf x) F0 (λh=>s.lk h λo=>o.onCell λY=>s.up h (.cell (.so a .nil)) k)=true from e) λhd hh e=>Ze6 r.cel hh λy ca h1 h2 h3=>Za0 r h2 e λo z p e=>Zt6 (p D (Le.refl _)) e λY w p Y e9=>?_
 obtain rfl:=Ze1 h1
 exact Zg4 r p (o':=.cell (.so a .nil)) (x':=.cell (some v)) ⟨some v,rfl,v,rfl,ra⟩ e9 λs' l' u r' e=>uv_cell (by rw[X.cl];exact h3) u X.kd (nmE X hx) (h.at e r')
end
end MI
namespace MI
open Mine
section
variable {c:Ct} {C:Cx}
structure Zd8(E:En)(p:Pg)(G:Gl):Prop where
 gl:∀ x a,p.gl.lookup x=some a->∃ v val,(∀ D,AR E D a v)/\G.mg x=some val/\∀ h,VR h v val
 bl:∀ x a,p.bl.lookup x=some a->∃ v val,(∀ D,AR E D a v)/\G.mg x=none/\G.mb x=some val/\∀ h,VR h v val
 ats:∀ cl n,p.ats.elem (cl,n)=true->Zf7 G.K cl n=true/\Zd1 G.K cl n=true
 sl:∀ cl n i q,p.sl.lookup (cl,n)=some (i,q)->Zlr G.K cl q n i=true/\Zc0 G.K cl q n i=true/\i<1000
 st:G.mg "StopIteration" = none/\G.mb "StopIteration" = some (.type "StopIteration")
 me:∀ cl n f,p.me.lookup (cl,n)=some f->Ziy G.K cl n f=true/\keepIn G.K (.ref f)=true/\Zfe G.K cl n f=true
theorem Zyw (X:Cc c C) {p:Pg} (P:Zd8 c.E p C.G) (hx:c.f.names.lookup x=some .globalImplicit) (ha:p.gl.lookup x=some a) (hd:(x==("__debug__" : Str))=false):OkE c C ⟨λs k=>k a s⟩ (eval (.Name x pos) C.env):=
 λr e h=>(P.gl x a ha).elim λv q=>q.elim λval q=>Znt X.kd (nmE X hx) q.2.1 q.2.2 (h.at e (q.1 _) r) hd
theorem Z3h (X:Cc c C) {p:Pg} (P:Zd8 c.E p C.G) (hx:c.f.names.lookup x=some .globalImplicit) (ha:p.bl.lookup x=some a) (hd:(x==("__debug__" : Str))=false):OkE c C ⟨λs k=>k a s⟩ (eval (.Name x pos) C.env):=
 λr e h=>(P.bl x a ha).elim λv q=>q.elim λval q=>Zuy X.kd (nmE X hx) q.2.1 q.2.2.1 q.2.2.2 (h.at e (q.1 _) r) hd
theorem Zlf{t:Sem Value}:OkE c C ⟨λY Y=>F0⟩ t:=λY e Y=>ff e
theorem Z0q (X:Cc c C) {p:Pg} (P:Zd8 c.E p C.G) (hd:(x==("__debug__" : Str))=false):OkE c C (nmC p c.f x) (eval (.Name x pos) C.env):=by
 unfold nmC
 cases hx:c.f.names.lookup x with
 | none=>exact Zlf
 | some w=>
  induction w with
  | «local»=>exact Ztg X hx hd
  | cell=>exact Zvv X hx hd
  | free=>
   cases hn:x==("__classdict__" : Str) with
   | true=>exact Zlf
   | false=>exact Zyo X hx hd hn
  | globalImplicit=>
   cases hv:p.gl.lookup x with
   | some v=>exact Zyw X P hx hv hd
   | none=>
    cases hv:p.bl.lookup x with
    | some v=>exact Z3h X P hx hv hd
    | none=>exact Zlf
  | _=>exact Zlf
theorem Zfq(X:Cc c C):OkS c C (stC c.f x) (storeName C.env x):=by
 unfold stC
 cases hx:c.f.names.lookup x with
 | none=>exact λY Y e Y=>ff e
 | some w=>
  induction w with
  | «local»=>exact Zm2 X hx
  | cell=>exact Zn9 X hx
  | _=>exact λY Y e Y=>ff e
end
end MI
namespace MI
open Mine
section
variable {c:Ct} {C:Cx}
theorem Z1p{l:List (Str×A)}{m:Wn}{kn:Bool}{k:A->Bool}{Q:Option V->Prop}(r:TaR c.E D l m)(h:lkA x l kn k=true)(q1:kn=true->Q none)(q2:∀ a v,AR c.E D a v->k a=true->Q (some v)):Q (m.lookup x):=by
 induction l generalizing m with
 | nil=>obtain rfl:m=[]:=r;exact q1 h
 | cons p l ih=>
  obtain⟨v,m,rfl,p1,t⟩:=r
  rw[List.lookup_cons]
  refine Zb0 (show iff (p.1==x) (k p.2) (lkA x l kn k)=true from h) (λh1 h2=>?_) λh1 h2=>?_
  .rw[BEq.comm,h1]
   exact q2 _ _ p1 h2
  .rw[BEq.comm,h1]
   exact ih t h2
theorem Zp3(r:AR c.E D a v)(h:Z4u a=true):∀ n,v ≠ .bi n:=by
 intro n e
 subst e
 induction a with
 | ref h=>obtain⟨_,_,e⟩:=r;cases e
 | cons x y=>obtain⟨_,_,e,_⟩:=r;cases e
 | bi k=>exact ff h
 | opq k=>exact ff h
 | _=>cases r
theorem Zvs{l:Lc}{m:List (Option V)}{k:A->Bool}(r:SlR c.E D l m)(h:l.get i k=true)(q:∀ a v,m[i]?=some (some v)->AR c.E D a v->k a=true->Q):Q:=by
 induction l generalizing m i with
 | nil=>exact ff h
 | no l ih=>
  obtain⟨r,rfl,t⟩:=r
  induction i with
  | zero=>exact ff h
  | succ i=>exact ih (m:=r) (i:=i) t h q
 | so a l ih=>
  obtain⟨v,r,rfl,p,t⟩:=r
  induction i with
  | zero=>exact q a v rfl p h
  | succ i=>exact ih (m:=r) (i:=i) t h q
theorem Zqf{p:Pg}(P:Zd8 c.E p C.G)(n:Str){D s J a va k K}(r:c.S D s J)(ra:AR c.E D a va)(e:(getC p n).run a s k=true)(h:PA c D k K):GA C n va J K:=by
 exists (c C p n D s J a va k K),P,r,ra,e,h
 refine Zdv (Q:=λva=>GA C n va J K) ra e λx b hx e=>Za0 r hx e λo z pt e=>?_
 have pt:=pt D (Le.refl _)
 induction o with
 | inst cl dx=>
  obtain⟨ad,qd,rfl⟩:=pt.ob
  refine Zar e λh1 e=>Za0 r qd e λo2 z2 p2 e=>Zkh (p2 D (Le.refl _)) e λl m p2 t e=>Z1p (Q:=λw=>m.lookup n=w->GA C n _ J K) t e (λe=>ff e) (λy v ry e hm=>Zar e λh2 e=>?_) rfl
  exact Z3g pt.lk p2.lk (h.at e ry r) (P.ats cl n h1).1 hm (Zp3 ry h2)
 | slots cl dx l=>
  obtain⟨ad,m,qd,rfl,t⟩:=pt.ob
  refine Zsh (Q:=λw=>p.sl.lookup (cl,n)=w->GA C n _ J K) (show opt (p.sl.lookup (cl,n)) F0 (λq=>s.lk dx λo=>o.isEmp (l.get q.1 λv=>gd (Z4u v) (k v s)))=true from e) (λq e hq=>?_) rfl
  refine Za0 r qd e λo2 z2 p2 e=>Z0y (p2 D (Le.refl _)) e λp2 e=>Zvs t e λy v h1 ry e=>Zar e λh2 e=>?_
  exact Zxg q.2 q.1 pt.lk p2 (h.at e ry r) (P.sl cl n q.1 q.2 hq).1 h1 (Zp3 ry h2)
 | lit l=>
  obtain⟨al,ql,rfl⟩:=pt.ob
  refine Zar e λh1 e=>?_
  obtain rfl:=beq_iff_eq.mp h1
  exact Zg4 r pt (o':=.liter l 0) (x':=.liter al 0) ⟨al,ql,rfl⟩ e λs1 l' u r1 e=>Z3l u (Zcv r1 h (o:=.bnext x) (x:=.bound "method-wrapper" "list_iterator.__next__" b) ⟨b,hx,rfl⟩ e)
 | _=>exact ff e
theorem Zzx{l:List (Str×A)}{m:Wn}{k:List (Str×A)->Bool}(r:TaR c.E D l m)(ra:AR c.E D a v)(h:putR x a l k=true)(q:∀ l',TaR c.E D l' (Zne x v m)->k l'=true->Q):Q:=by
 induction l generalizing m k with
 | nil=>obtain rfl:m=[]:=r;exact q [(x,a)] ⟨v,[],rfl,ra,rfl⟩ h
 | cons p l ih=>
  obtain⟨w,m,rfl,p1,t⟩:=r
  unfold Zne at q
  refine Zb0 (show iff (p.1==x) (k ((p.1,a)::l)) (putR x a l λr=>k ((p.1,p.2)::r))=true from h) (λh1 h2=>?_) λh1 h2=>ih t h2 λl' r' e=>?_
  .rw[if_pos h1] at q
   exact q ((p.1,a)::l) ⟨v,m,rfl,ra,t⟩ h2
  .rw[if_neg (by rw[h1];decide)] at q
   exact q ((p.1,p.2)::l') ⟨w,_,rfl,p1,r'⟩ e
theorem Zih(i:Nat)(v:V)(o:Option V)(m:List (Option V)):Zq3 (i+1) v (o::m)=o::Zq3 i v m:=by
 unfold Zq3
 rw[List.length_cons,Nat.add_sub_add_right,List.cons_append,List.set_cons_succ]
theorem Zik(v:V)(o:Option V)(m:List (Option V)):Zq3 0 v (o::m)=some v::m:=by
 unfold Zq3
 rw[List.length_cons,Nat.add_sub_add_right,Nat.zero_sub]
 simp
theorem Zx7{l:Lc}{m:List (Option V)}{k:Lc->Bool}(r:SlR c.E D l m)(ra:AR c.E D a v)(h:l.put a i k=true)(q:∀ l',SlR c.E D l' (Zq3 i v m)->k l'=true->Q):Q:=by
 induction l generalizing m i k with
 | nil=>
  obtain rfl:m=[]:=r
  induction i with
  | zero=>exact q (.so a .nil) ⟨v,[],rfl,ra,rfl⟩ h
  | succ i=>exact ff h
 | no l ih=>
  obtain⟨r,rfl,t⟩:=r
  induction i with
  | zero=>rw[Zik] at q;exact q (.so a l) ⟨v,r,rfl,ra,t⟩ h
  | succ i=>rw[Zih] at q;exact ih (m:=r) (i:=i) (k:=λr=>k (.no r)) t h λl' r' e=>q (.no l') ⟨_,rfl,r'⟩ e
 | so b l ih=>
  obtain⟨w,r,rfl,p,t⟩:=r
  induction i with
  | zero=>rw[Zik] at q;exact q (.so a l) ⟨v,r,rfl,ra,t⟩ h
  | succ i=>rw[Zih] at q;exact ih (m:=r) (i:=i) (k:=λr=>k (.so b r)) t h λl' r' e=>q (.so b l') ⟨w,_,rfl,p,r'⟩ e
theorem TaR.length{l:List (Str×A)}{m:Wn}(r:TaR c.E D l m):m.length=l.length:=by
 induction l generalizing m with
 | nil=>obtain rfl:m=[]:=r;rfl
 | cons p l ih=>obtain⟨v,m,rfl,_,q⟩:=r;exact congrArg (·+1) (ih q)
theorem Zqk{p:Pg}(P:Zd8 c.E p C.G)(n:Str){D s J a va v vv k}(r:c.S D s J)(ra:AR c.E D a va)(rv:AR c.E D v vv)(e:(setC p n).run a v s k=true)(h:PS c D k K):SA C n va vv J K:=by
 refine Zm6 (Q:=λva=>SA C n va vv J K) r ra e λx o b z pt e=>Zkb pt e (λY Y Y Y e=>ff e) (λY Y e=>ff e) (λY Y Y Y Y Y Y e=>ff e) (λY Y Y Y e=>ff e) (λcl dx ad qd hb e=>?_) λcl dx l ad m qd pt t e=>?_
 .refine Zar e λh1 e=>Za0 r qd e λo2 z2 p2 e=>Zkh (p2 D (Le.refl _)) e λl m p2 t e=>Zao e λY e=>Zar e λh2 e=>Zzx t rv e λl2 t2 e=>?_
  exact Zg4 r p2 (o':=.attrs l2) (x':=.attrs (Zne n vv m)) ⟨_,rfl,t2⟩ e λs' l' u r' e=>Z2s hb u (h.at e r') (P.ats cl n h1).2 (by rw[TaR.length t];exact Qo h2)
 .refine Zsh (Q:=λw=>p.sl.lookup (cl,n)=w->SA C n _ vv J K) (show opt (p.sl.lookup (cl,n)) F0 (λq=>s.lk dx λo=>o.isEmp (l.put v q.1 λr=>s.up x (.slots cl dx r) k))=true from e) (λq e hq=>?_) rfl
  refine Za0 r qd e λo2 z2 p2 e=>Z0y (p2 D (Le.refl _)) e λp2 e=>Zx7 t rv e λl2 t2 e=>?_
  have P3:=P.sl cl n q.1 q.2 hq
  exact Zg4 r pt (o':=.slots cl dx l2) (x':=.slots cl ad (Zq3 q.1 vv m)) ⟨ad,_,qd,rfl,t2⟩ e λs' l' u r' e=>Zx2 q.2 q.1 u p2 (h.at e r') P3.2.1 P3.2.2
end
end MI
namespace MI
open Mine
def OkB(c:Ct)(C:Cx)(g:CB)(t:Sem Bool):Prop:=∀ {D s J kt kf} {K:Bool->Wl},c.S D s J->g.run s kt kf=true->PS c D kt (K true)->PS c D kf (K false)->BV C t J K
def PL(c:Ct)(D:Rh)(k:List A->S->Bool)(K:List V->Wl):Prop:=∀ D' l s' vs J',Le D D'->k l s'=true->LR c.E D' l vs->c.S D' s' J'->K vs J'
def OkL(c:Ct)(C:Cx)(g:CL)(t:Sem (List Value)):Prop:=∀ {D s J} {k:List A->S->Bool} {K:List V->Wl},c.S D s J->g.run s k=true->PL c D k K->LV C t J K
def OkX(c:Ct)(C:Cx)(g:CX)(t:Sem Flow):Prop:=∀ {D s J kn kb kc kr} {K:Fl->Wl},c.S D s J->g.run s kn kb kc kr=true->PS c D kn (K .next)->PS c D kb (K .brk)->PS c D kc (K .cont)->PA c D kr (λv J=>K (.ret v) J)->XV C t J K
def OkV(c:Ct)(C:Cx)(g:CS)(ts:List (Value->Sem Unit)):Prop:=∀ {D s J a vs k} {K:Wl},c.S D s J->AR c.E D a (.tup vs)->g.run a s k=true->PS c D k K->AIO C ts vs J K
structure RecOk(r:Rec)(c:Ct)(C:Cx):Prop where
 E:∀ e,OkE c C (r.E c.f e) (eval e C.env)
 B:∀ e,OkB c C (r.B c.f e) (isTrue e C.env (eval e C.env))
 T:∀ o l,OkB c C (r.T c.f o l) (allTrue o l C.env)
 L:∀ l pos,plA l=true->OkL c C (r.L c.f l) (spliced (backTo pos (starEach l C.env)))
 X:∀ l,OkX c C (r.X c.f l) (execs l C.env)
 S:∀ t,OkS c C (r.S c.f t) (assign t C.env)
 V:∀ ts,plA ts=true->OkV c C (r.V c.f ts) ((assignEach ts C.env).map (·.2))
structure Zci(p:Pg)(cal:Bool->Addr->CC)(c:Ct)(C:Cx):Prop where
 ok:∀ a,Zqz c C (Zx3 c.f cal a).run (.ref a)
 kp:∀ a,kpB p a=true->keepIn C.G.K (.ref a)=true
section
variable {c:Ct} {C:Cx}
theorem ifE{x y:CE}{t:Sem Value}(h1:b=true->OkE c C x t)(h2:b=false->OkE c C y t):OkE c C (ifB b x y) t:=by
 induction b with
 | true=>exact h1 rfl
 | false=>exact h2 rfl
theorem ifG{x:S->KA->Bool}{t:Sem Value}(h1:b=true->∀ D s J k K,c.S D s J->x s k=true->PA c D k K->EV C t J K):OkE c C (ifB b ⟨x⟩ noE) t:=by
 induction b with
 | true=>exact λq e h=>h1 rfl _ _ _ _ _ q e h
 | false=>exact λY e Y=>ff e
theorem ifF{x:S->KA->Bool}{t:Sem Value}(h1:b=false->∀ D s J k K,c.S D s J->x s k=true->PA c D k K->EV C t J K):OkE c C (ifB b noE ⟨x⟩) t:=by
 induction b with
 | true=>exact λY e Y=>ff e
 | false=>exact λq e h=>h1 rfl _ _ _ _ _ q e h
theorem ifVF{x:S->KS->KS->Bool}{t:Sem Bool}(h1:b=false->∀ D s J kt kf (K:Bool->Wl),c.S D s J->x s kt kf=true->PS c D kt (K true)->PS c D kf (K false)->BV C t J K):OkB c C (ifB b noB ⟨x⟩) t:=by
 induction b with
 | true=>exact λY e Y Y=>ff e
 | false=>exact λq e h h2=>h1 rfl _ _ _ _ _ _ q e h h2
theorem ifSG{x:A->S->KS->Bool}{t:Value->Sem Unit}(h1:b=true->∀ D s J a v k (K:Wl),c.S D s J->AR c.E D a v->x a s k=true->PS c D k K->U1 C t v J K):OkS c C (ifB b ⟨x⟩ noS) t:=by
 induction b with
 | true=>exact λq ra e h=>h1 rfl _ _ _ _ _ _ _ q ra e h
 | false=>exact λY Y e Y=>ff e
theorem ifX{x:CX}{t:Sem Flow}(h1:b=true->OkX c C x t):OkX c C (ifB b x noX) t:=by
 induction b with
 | true=>exact h1 rfl
 | false=>exact λY e Y Y Y Y=>ff e
theorem Ze2{t:Sem Value}:OkE c C noE t:=λY e Y=>ff e
theorem Zzd{t:Sem Bool}:OkB c C noB t:=λY e Y Y=>ff e
theorem badS{t:Value->Sem Unit}:OkS c C noS t:=λY Y e Y=>ff e
theorem Zdo{t:Sem Flow}:OkX c C noX t:=λY e Y Y Y Y=>ff e
theorem Zce{e:Expr}{l:List Expr}(h:plA (e::l)=true):plE e=true/\plA l=true:=by
 have h:(plE e&&plA l)=true:=h
 rwa [Qt] at h
theorem Zyk{e:Expr}{l:List Expr}(h:plE e=true):starEach (e::l) env=(false,eval e env)::starEach l env:=by
 induction e using Expr.casesOn with
 | Starred e p=>exact ff h
 | _=>rfl
theorem Zd6{l:List Expr}(h:plA l=true):(backTo pos (starEach l env)).any (·.1)=false:=by
 induction l with
 | nil=>rfl
 | cons e l ih=>
  have h1:=Zce h
  rw[Zyk h1.1]
  exact ih h1.2
theorem fL_ok{r:Rec}(R:RecOk r c C)(es:List Expr)(pos:Pos)(hp:plA es=true):OkL c C (fL c.f r es) (spliced (backTo pos (starEach es C.env))):=by
 intro D s J k K q e h
 induction es with
 | nil=>exact Zk6 (h D [] s [] J (Le.refl _) e rfl q)
 | cons x l=>
  have h1:=Zce hp
  exact Zkf (R.E x q e λD1 a s1 va J1 le1 e2 ra q1=>R.L l pos h1.2 q1 e2 λD2 m s2 vs J2 le2 e3 rl q2=>h _ _ _ _ _ (le1.trans le2) e3 ⟨va,vs,rfl,ra.le le2,rl⟩ q2) (Zyk h1.1)
theorem Z32(E:En){l:List Nat}(h:∀ x∈l,Zz0 x=true):l.map E.χ=l:=by
 induction l with
 | nil=>rfl
 | cons a l ih=>rw[Qr,E.kn a (h a (.head _)),ih λx hx=>h x (.tail _ hx)]
theorem Zoj(co:Const)(n:Nat)(pos:Pos):OkE c C (Zu2 co) (eval (.Constant co n pos) C.env):=by
 intro D s J k K q e h
 induction co with
 | none=>exact Zn6 (h.at e rfl q)
 | bool b=>exact Zql (h.at e rfl q)
 | int i=>exact Zto (h.at e rfl q)
 | bytes b=>
  refine Zli (h.at e (show V.bytes _=V.bytes ((b.map UInt8.toNat).map c.E.χ) from ?_) q)
  rw[Z32 c.E λx hx=>?_]
  obtain⟨y,_,rfl⟩:=Qf hx
  exact Nat.ble_eq_true_of_le (Qx (Nat.le_of_lt y.toNat_lt) (by decide))
 | _=>exact ff e
theorem Zbo{β:Type}{l:List (Str×β)}{n:Str}{b:β}(h:l.lookup n=some b):(n,b)∈l:=by
 induction l with
 | nil=>cases h
 | cons p l ih=>
  obtain⟨x,y⟩:=p
  rw[List.lookup_cons] at h
  cases hx:n==x with
  | true=>rw[hx] at h;cases h;rw[beq_iff_eq] at hx;subst hx;exact .head _
  | false=>rw[hx] at h;exact .tail _ (ih h)
theorem Zjh{n:Str}{j:Nat}(h:Nat.beq (mtK n) j=true)(hj:j≠9):(n,j)∈mtK.mtL:=by
 have h:=Qp h
 unfold mtK at h
 cases hl:mtK.mtL.lookup n with
 | none=>rw[hl] at h;exact absurd h.symm hj
 | some i=>rw[hl] at h;obtain rfl:i=j:=h;exact Zbo hl
theorem Zyv {n:Str} {j:Nat} {Q:Str->Nat->Prop} (h:(n,j)∈mtK.mtL) (q0:Q "append" 0) (q1:Q "pop" 0) (q2:Q "clear" 0) (q3:Q "get" 1) (q4:Q "values" 1) (q5:Q "add" 2):Q n j:=by
 exists (n j Q),h,q0,q1,q2,q3,q4,q5
 unfold mtK.mtL at h
 rcases Qb h with h|h
 .cases h;exact q0
 rcases Qb h with h|h
 .cases h;exact q1
 rcases Qb h with h|h
 .cases h;exact q2
 rcases Qb h with h|h
 .cases h;exact q3
 rcases Qb h with h|h
 .cases h;exact q4
 rcases Qb h with h|h
 .cases h;exact q5
 cases h
def Mt(c:Ct)(C:Cx)(T:String)(n:Str):Prop:=∃ id,Slot T n id/\typeOf (.builtin id)=pure (.type "method_descriptor")/\OkM c C (mtR n).run id
theorem Zyx {n:Str} (h:Nat.beq (mtK n) 0=true):Mt c C "list" n:=
 Zyv (Q:=λn j=>j=0->Mt c C "list" n) (Zjh h (by decide)) (λY=>⟨_,F.slot_list_append,Mine.type_list_append,Zqw⟩) (λY=>⟨_,F.slot_list_pop,Mine.type_list_pop,Z2v⟩) (λY=>⟨_,F.slot_list_clear,F.type_list_clear,Zsf⟩) (λh=>nomatch h) (λh=>nomatch h) (λh=>nomatch h) rfl
theorem Zxr {n:Str} (h:Nat.beq (mtK n) 1=true):Mt c C "dict" n:=
 Zyv (Q:=λn j=>j=1->Mt c C "dict" n) (Zjh h (by decide)) (λh=>nomatch h) (λh=>nomatch h) (λh=>nomatch h) (λY=>⟨_,PySem.F.slot_dict_get,PySem.F.type_dict_get,Z1w⟩) (λY=>⟨_,PySem.F.slot_dict_values,PySem.F.type_dict_values,Zpv⟩) (λh=>nomatch h) rfl
theorem Zzq {n:Str} (h:Nat.beq (mtK n) 2=true):n = "add" :=
 Zyv (Q:=λn j=>j=2->n = "add") (Zjh h (by decide)) (λh=>nomatch h) (λh=>nomatch h) (λh=>nomatch h) (λh=>nomatch h) (λh=>nomatch h) (λY=>rfl) rfl
end
end MI
namespace MI
open Mine
section
variable {c:Ct} {C:Cx} {p:Pg} {cal:Bool->Addr->CC} {r:Rec}
theorem ka_bi(id:String)(J:Mine.St):KeepAt C (.bi id) J:=λs fv H r=>by o_facts r;exact⟨.machine,.inr (.inl rfl),.now⟩
theorem ka_ty(T:String)(J:Mine.St):KeepAt C (.ty T) J:=λs fv H r=>by o_facts r;exact⟨.machine,.inr (.inl rfl),.now⟩
theorem ka_K{a:Addr}(hk:keepIn C.G.K (.ref a)=true)(J:Mine.St):KeepAt C (.ref a) J:=λs fv H r=>by
 o_facts r
 obtain⟨k,a,b⟩:=looks_keep (M:=model C.G.prog C.G.w) hk H.inK
 exact⟨k,a.elim .inl (λe=>.inr (.inl e)),b⟩
theorem Zwl {m a:Addr} {id:String} (h:LkO m (.bound "method-wrapper" id a) J.obs):KeepAt C (.ref m) J:=λs fv H r=>by
 o_facts r
 refine Zaj (H.obj h) λO e ro=>?_
 have q:=OR.ownE ro
 have q':O=_:=q
 subst q'
 exact⟨.machine,.inr (.inl rfl),(Looks.ld (part:=none) e).andThen Looks.now⟩
theorem Z2y {D s J it a m kn k} {Ks:V->Wl} (q:c.S D s J) (ra:D it=some a) (hm:LkO m (.bound "method-wrapper" "list_iterator.__next__" a) J.obs) (e:bNx it s kn k=true) (h:PA c D k Ks) (hn:∀ s',kn s'=true->False):CF C (.ref m) [] J Ks:=
 Za0 q ra e λo z pt e=>Zjd (pt D (Le.refl _)) e λhl i al ql pt e=>Za3 q ql e λl vs p2 t e=>Zrf e (λY e=>Zp8 q pt e λs' Y Y Y e=>(hn _ e).elim) λx hx e=>t.get_k hx λv hv rv=>
  Zg4 q pt (o':=.liter hl (i+1)) (x':=.liter al (i+1)) ⟨al,ql,rfl⟩ (Za1 (n:=i+1) (k:=λi=>s.up it (.liter hl i) λs=>k x s) e) λs' l' u q' e=>Zlp hm p2.lk u hv (h.at e rv q')
theorem Zyy(X:Cc c C)(hd:c.f.hd=false)(Q:Zci p cal c C)(R:RecOk r c C)(es:List Expr)(pos:Pos)(hp:plA es=true){D s J g vg k K}(q:c.S D s J)(rg:AR c.E D g vg)(e:(r.L c.f es).run s (λl s=>appC p c.f cal g l s k)=true)(h:PA c D k K):CA C vg [] es pos C.env J K:=by
 refine Zpj (Zd6 hp) (R.L es pos hp q e λD1 l s1 vs J1 le e1 rl q1=>?_)
 have rg:=rg.le le
 show KeepAt C vg J1/\CF C vg vs J1 K
 induction g with
 | ty n=>obtain rfl:vg=_:=rg;exact⟨ka_ty _ _,Z2n (X.hh hd) X.gu n q1 rl e1 (h.le le)⟩
 | bi n=>obtain rfl:vg=_:=rg;exact⟨ka_bi _ _,Z2l (X.hh hd) n q1 rl e1 (h.le le)⟩
 | fz a=>
  obtain rfl:vg=_:=rg
  exact Zar e1 λh1 e=>⟨ka_K (Q.kp a h1) _,Q.ok a q1 rl e (h.le le)⟩
 | ref x=>
  obtain⟨m,qm,rfl⟩:=rg
  exact Za0 q1 qm e1 λo z pt e=>Zn2 (pt D1 (Le.refl _)) e λit a qa pt e=>Zar e λh1 e=>Zm7 (Q:=λvs=>KeepAt C _ J1/\CF C _ vs J1 K) rl h1 ⟨Zwl pt,Z2y q1 qa pt e (h.le le) λY z=>nomatch z⟩
 | _=>exact ff e1
theorem Zno(P:Zd8 c.E p C.G){n:Str}{b:Addr}{D s J}{k:Addr->Bool}(q:c.S D s J)(hb:D h=some b)(e:Z43 p h n s k=true)(w:∀ g cl ad m,LkO b (.inst cl ad) J.obs->LkO ad (.attrs m) J.obs->Ziy C.G.K cl n g=true/\keepIn C.G.K (.ref g)=true/\Zfe C.G.K cl n g=true->m.lookup n=none->k g=true->Q):Q:=
 Za0 q hb e λo z pt e=>Z0x (pt D (Le.refl _)) e λcl dx ad qd pt e=>Zsh (Q:=λw=>p.me.lookup (cl,n)=w->Q) e (λg e hg=>Za0 q qd e λo2 z2 p2 e=>Zkh (p2 D (Le.refl _)) e λl m p2 t e=>
  Z1p (Q:=λw=>m.lookup n=w->Q) t e (λe hm=>w g cl ad m pt p2.lk (P.me cl n g hg) hm e) (λY Y Y e Y=>ff e) rfl) rfl
theorem Zso(X:Cc c C)(P:Zd8 c.E p C.G)(Q:Zci p cal c C)(R:RecOk r c C)(n:Str)(es:List Expr)(pos:Pos)(hp:plA es=true){D s J a va k K}(q:c.S D s J)(ra:AR c.E D a va)(e:(Zw5 p c.f cal n (r.L c.f es)).run a s k=true)(h:PA c D k K) :
  GM C va n J λf first J_2=>CA C f first es pos C.env J_2 K:=by
 exists (c C p cal r n es pos D s J a va k K),X,P,Q,R,hp,q,ra,e,h
 have bi:∀ {a va id D s J} {g:A->List A->S->KA->Bool},OkM c C g id->c.S D s J->AR c.E D a va->PA c D k K->(r.L c.f es).run s (λl s=>g a l s k)=true->CA C (.bi id) [va] es pos C.env J K:=λok q ra h e=>Ztn (R.L es pos hp q e λD1 l s1 vs J1 le e rl q1=>ok q1 (ra.le le) rl e (h.le le)) (Zd6 hp)
 refine Zsi (R:=λa va=>(∀ D',Le D D'->AR c.E D' a va)->(Zw5 p c.f cal n (r.L c.f es)).run a s k=true->GM C va n J λf first J_2=>CA C f first es pos C.env J_2 K) ra e (λY e=>ff e) (λl Y Y e=>?_) (λx b hb Y ra e=>?_) (λY Y e=>ff e) (λY l=>ra.le l) e
 .refine Zar e λh1 e=>?_
  obtain rfl:=beq_iff_eq.mp h1
  exact Zsc Zb2 Zeq (bi Zte q (a:=.bytes l) rfl h e)
 .refine Za0 q hb e λo z pt e=>Zkb (pt D (Le.refl _)) e (λl vs pt t e=>Zar e λh1 e=>?_) (λY Y e=>ff e) (λoe l oe' kv pt t Y e=>Zar e λh1 e=>?_) (λl m pt t e=>Zar e λh1 e=>Zao e λY e=>Zar e λh2 e=>?_) (λcl dx ad qd Y e=>?_) λY Y Y Y Y Y Y Y e=>ff e
  .exact(Zyx (c:=c) (C:=C) h1).elim λid w=>Zda pt.lk w.1 w.2.1 (bi w.2.2 q (ra D (Le.refl _)) h e)
  .exact(Zxr (c:=c) (C:=C) h1).elim λid w=>Zym pt.lk w.1 w.2.1 (bi w.2.2 q (ra D (Le.refl _)) h e)
  .obtain rfl:=Zzq h1
   exact Zl5 pt.lk (bi Zzu q (ra D (Le.refl _)) h e) (by have:=Qo h2;rw[IR.length t];lia)
  .exact Zno P q hb e λg cl ad m pt p2 h1 h3 e=>Ztl g pt p2 (Zz8 h1.2.1 (R.L es pos hp q e λD1 l s1 vs J1 le e rl q1=>Q.ok g (l:=.ref x::l) q1 ⟨_,_,rfl,ra D1 le,rl⟩ e (h.le le)) (Zd6 hp)) h1.1 h3
theorem Zi6{o:Expr}{n:Str}{w:Sem Value}(h:Zy9 o=true):attributeBase o n env w=w:=by
 revert h
 refine Zcp (P:=λo b=>b=true->attributeBase o n env w=w) o (λY h=>ff h) (λY Y Y Y=>rfl) (λY Y Y=>rfl) (λY Y Y Y=>rfl) (λY Y Y Y=>rfl) (λY Y Y h=>ff h) λfn l k p h=>?_
 induction l with
 | nil=>exact ff h
 | cons a l=>induction fn using Expr.casesOn <;> rfl
theorem Zxz{o:Expr}{n:Str}{apos:Pos}{args:List Expr}(hb:Zy9 o=true)(hp:plA args=true)(hm:mOk args apos pos=true):eval (.Call (.Attribute o n apos) args [] pos) env=(do
   let ov <- eval o env
   standAt apos.atName
   let (f,first) <- holding [ov] (getMethod ov n (do return (<- importBound o env).getD true))
   callWith pos f first (backTo pos (starEach args env)) []):=by
 unfold mOk at hm
 rw[Qt,decide_eq_true_eq] at hm
 rw[arm_eval_Call,Zi6 hb]
 have hf:methodCallForm (args.length+([]:List Keyword).length) (backTo pos (starEach args env)) (backToKw pos (keywordEach [] env))=true:=by
  have h1:(backTo pos (starEach args env)).all (!·.1)=true:=by
   have:=Zd6 (env:=env) (pos:=pos) hp
   rw[List.any_eq_false] at this
   rw[List.all_eq_true]
   intro x hx
   have:=this x hx
   simpa using this
  show((backTo pos (starEach args env)).all (!·.1)&&true&&decide (args.length<30))=true
  rw[h1,decide_eq_true hm.1];rfl
 have e:∀ ov,methodCall o n apos pos env ov (args.length+([]:List Keyword).length) (backTo pos (starEach args env)) (backToKw pos (keywordEach [] env)) =
   (do let (f,first) <- holding [ov] (getMethod ov n (do return (<- importBound o env).getD true));callWith pos f first (backTo pos (starEach args env)) []):=λov=>by
  unfold methodCall methodCallPos calleeOf
  rw[hf,hm.2]
  rfl
 simp only[e]
end
end MI
namespace MI
open Mine
section
variable {c:Ct} {C:Cx} {p:Pg} {cal:Bool->Addr->CC} {r:Rec}
theorem PA.step{k:KA}{K:V->Wl}(h:PA c D k K)(le:Le D D')(e:k a s=true)(ra:AR c.E D' a v)(q:c.S D' s J):K v J:=h _ _ _ _ _ le e ra q
theorem PA.stepR{k:KA}{K:V->Wl}{x:AO}(h:PA c D k K)(le:Le D D')(q:c.S D' s J)(ho:OO c.E D' o x)(e:s.new o (λh s=>k (.ref h) s)=true)(a:Addr):K (.ref a) ⟨J.loc,(a,x)::J.obs⟩:=Zcv q (h.le le) ho e a
theorem Zos(R:RecOk r c C)(o:Option Expr){D s J k}{K:Option Int->Wl}(q:c.S D s J)(e:(optI c.f r o).run s k=true)(h:∀ D' i s' J',Le D D'->k i s'=true->c.S D' s' J'->K i J'):PV C C.env o J K:=by
 induction o with
 | none=>exact pv_none (h D .none s J (Le.refl _) e q)
 | some x=>exact pv_some (R.E x q e λD1 a s1 va J1 le1 e1 ra q1=>Zbx (Q:=λva=>∃ i,va = .int i/\K (some i) J1) ra e1 λi e2=>⟨i,rfl,h _ _ _ _ le1 e2 q1⟩)
theorem Zp6(X:Cc c C)(R:RecOk r c C)(l:Expr)(op:CmpOp)(x:Expr){D s J}{k:Bool->S->Bool}{Q:V->Wl}(q:c.S D s J)(e:cmpE c.f r l op x s k=true)(h:∀ D' t s' J',Le D D'->k t s'=true->c.S D' s' J'->Q (.bool t) J'):EV C (eval l C.env) J λa J_1=>EV C (eval x C.env) J_1 λb J_2=>OP2 C VR (compareOp op) a b J_2 Q:=
 R.E l q e λD1 a s1 va J1 l1 e1 ra q1=>R.E x q1 e1 λD2 b s2 vb J2 l2 e2 rb q2=>Zwd X.un op q2 (ra.le l2) rb e2 λt z=>h _ _ _ _ (l1.trans l2) z q2
theorem Zkl(X:Cc c C)(Q:Zci p cal c C)(R:RecOk r c C)(fn:Expr)(args:List Expr)(pos:Pos){t:Sem Value}(ht:∀ {J K},EV C (eval fn C.env) J (λf J_1=>CA C f [] args pos C.env J_1 K)->EV C t J K):OkE c C (Zw3 p c.f cal r fn args) t:=
 ifG λhb Y Y Y Y Y q h hk=>by
  rw[Qt,Bool.not_eq_true'] at hb
  exact ht (R.E fn q h λD1 a s1 va J1 l1 e1 ra q1=>Zyy X hb.2 Q R args pos hb.1 q1 ra e1 (hk.le l1))
theorem Z14{t x y:Bool}{Q:Bool->Prop}(h:iff t x y=true)(q1:x=true->Q true)(q2:y=true->Q false):Q t:=by
 induction t with
 | true=>exact q1 h
 | false=>exact q2 h
theorem Zrl(R:RecOk r c C)(op:BoolOp)(vs:List Expr)(pos:Pos):OkE c C (Z1o c.f r op vs) (eval (.BoolOp op vs pos) C.env):=by
 match vs with
 | []=>intro _ _ _ _ _ _ e _;exact ff e
 | [_]=>intro _ _ _ _ _ _ e _;exact ff e
 | _::_::_::_=>intro _ _ _ _ _ _ e _;exact ff e
 | [x,y]=>
  intro D s J k K q h hk
  induction op with
  | And=>
   exact ev_and2 (R.E x q h λD1 a s1 va J1 l1 e1 ra q1=>Zjl q1 ra e1 λt z=>Z14 (Q:=λt=>(t=true->_)/\(t=false->_)) z (λz=>⟨λY=>R.E y q1 z (hk.le l1),λz=>nomatch z⟩) λz=>⟨λz=>(nomatch z),λY=>hk.step l1 z ra q1⟩)
  | Or=>
   exact ev_or2 (R.E x q h λD1 a s1 va J1 l1 e1 ra q1=>Zjl q1 ra e1 λt z=>Z14 (Q:=λt=>(t=false->_)/\(t=true->_)) z (λz=>⟨λz=>(nomatch z),λY=>hk.step l1 z ra q1⟩) λz=>⟨λY=>R.E y q1 z (hk.le l1),λz=>nomatch z⟩)
def Zkw(p:Pg)(cal:Bool->Addr->CC)(r:Rec)(c:Ct)(C:Cx):Prop:=∀ o n ap args pos,Zy9 o=true->OkE c C (Zmm p c.f cal r o n (stA args)) (eval (.Call (.Attribute o n ap) args [] pos) C.env)
theorem Zre(X:Cc c C)(P:Zd8 c.E p C.G)(Q:Zci p cal c C)(R:RecOk r c C)(hstar:Zkw p cal r c C)(fn:Expr)(args:List Expr)(pos:Pos):OkE c C (Z05 p c.f cal r fn args pos) (eval (.Call fn args [] pos) C.env):=by
 refine Zcp (P:=λfn w=>OkE c C w (eval (.Call fn args [] pos) C.env)) fn (λY=>Ze2) (λY Y Y=>Ze2) (λx np=>Zkl X Q R (.Name x np) args pos Zgw) (λo n apos=>ifE (λho=>?_) λY=>Ze2) (λo i sp=>Zkl X Q R (.Subscript o i sp) args pos Zgw) (λY Y Y=>Ze2) λY Y Y Y=>Ze2
 cases hp:plA args with
 | false=>exact hstar o n apos args pos ho
 | true=>exact ifG λhm Y Y Y Y Y q h hk=>Zj7 (R.E o q h λD1 a s1 va J1 l1 e1 ra q1=>Zso X P Q R n args pos hp q1 ra e1 (hk.le l1)) (Zxz ho hp hm)
theorem fE_ok(X:Cc c C)(P:Zd8 c.E p C.G)(Q:Zci p cal c C)(R:RecOk r c C)(hstar:Zkw p cal r c C)(hcomp:∀ elt target iter ifs sc pos,OkE c C (Zeu c.f r elt target iter ifs sc) (eval (.ListComp elt [⟨target,iter,ifs,0⟩] sc pos) C.env))(e:Expr):OkE c C (fE p c.f cal r e) (eval e C.env):=by
 exists (c C p cal r e),X,P,Q,R,hstar,hcomp
 unfold fE
 induction e using Expr.casesOn with
 | Constant co n pos=>exact Zoj co n pos
 | Name x pos=>exact ifE (λY=>Ze2) λhd=>Z0q X P hd
 | BinOp l op r' pos=>exact λq h hk=>Zkx (R.E l q h λD1 a s1 va J1 l1 e1 ra q1=>R.E r' q1 e1 λD2 b s2 vb J2 l2 e2 rb q2=>Zwh op q2 (ra.le l2) rb e2 (hk.le (l1.trans l2)))
 | UnaryOp op x pos=>induction op with
  | USub=>exact λq h hk=>Zk9 (R.E x q h λD1 a s1 va J1 l1 e1 ra q1=>Zbx (Q:=λva=>OP1 C VR (unaryOp .USub) va J1 _) ra e1 λi e2=>Zt4 (Zil q1 (hk.le l1) e2))
  | _=>exact Ze2
 | IfExp t b o pos=>exact λq h hk=>Zla (R.B t q h (λD1 s1 J1 l1 e1 q1=>⟨λY=>R.E b q1 e1 (hk.le l1),λz=>nomatch z⟩) λD1 s1 J1 l1 e1 q1=>⟨λz=>(nomatch z),λY=>R.E o q1 e1 (hk.le l1)⟩)
 | Compare l ops cs pos=>exact Zgu (P:=λops w=>OkE c C w (eval (.Compare l ops cs pos) C.env)) ops (λY=>Ze2) λop=>Zgu (P:=λcs w=>OkE c C w (eval (.Compare l [op] cs pos) C.env)) cs (λY=>Ze2) λx=>ifF λhm Y Y Y Y Y q h hk=>Ztt (Zp6 X R l op x q h λD' t s' J' le z q'=>hk.step le (a:=.bool t) z rfl q') hm
 | BoolOp op vs pos=>exact Zrl R op vs pos
 | Call fn args kw pos=>exact Zia (P:=λkw w=>OkE c C w (eval (.Call fn args kw pos) C.env)) kw (λY=>Ze2) (Zre X P Q R hstar fn args pos)
 | Attribute o n pos=>exact ifG λhb Y Y Y Y Y q h hk=>ev_attr (R.E o q h λD1 a s1 va J1 l1 e1 ra q1=>Zqf P n q1 ra e1 (hk.le l1)) (Zi6 hb)
 | Subscript o i pos=>
  refine slS_k (P:=λi w=>OkE c C w (eval (.Subscript o i pos) C.env)) i (λi=>?_) λlo up st sp=>?_
  .exact λq h hk=>Zon (R.E o q h λD1 a s1 va J1 l1 e1 ra q1=>R.E i q1 e1 λD2 b s2 vb J2 l2 e2 rb q2=>Zye o i q2 (ra.le l2) rb e2 (hk.le (l1.trans l2)))
  induction st with
  | none=>exact λq h hk=>Zon (R.E o q h λD1 a s1 va J1 l1 e1 ra q1=>ev_slice (Zos R lo q1 e1 λD2 lv s2 J2 l2 e2 q2=>Zos R up q2 e2 λD3 uv s3 J3 l3 e3 q3 x=>Zxf o _ q3 (ra.le (l2.trans l3)) e3 (hk.le (l1.trans (l2.trans l3))) x))
  | some _=>exact Ze2
 | List es pos=>exact ifG λhp Y Y Y Y Y q h hk=>ev_list (R.L es pos hp q h λD1 l s1 vs J1 l1 e1 rl q1=>Zao e1 λh2 e2=>⟨by rw[rl.length];exact Zbs h2,hk.stepR l1 q1 (.lst rl) e2⟩)
 | Tuple es n pos=>exact ifG λhp Y Y Y Y Y q h hk=>ev_tuple (R.L es pos hp q h λD1 l s1 vs J1 l1 e1 rl q1=>Zao e1 λh2 e2=>Zpb rl e2 λt rt e3=>⟨by rw[rl.length];exact Zbs h2,hk.step l1 e3 rt q1⟩)
 | ListComp elt gs sc pos=>exact Zut (P:=λgs w=>OkE c C w (eval (.ListComp elt gs sc pos) C.env)) gs (λY=>Ze2) λtarget iter ifs=>hcomp elt target iter ifs sc pos
 | Dict ks vs pos=>exact Zia (P:=λks w=>OkE c C w (eval (.Dict ks vs pos) C.env)) ks (λY=>Ze2) <| Zia (P:=λvs w=>OkE c C w (eval (.Dict [] vs pos) C.env)) vs (λY=>Ze2) (λq h hk=>ev_dict0 (Zcv q hk (o:=.dict .none []) (x:=.dict []) ⟨.none,[],rfl,rfl,rfl⟩ h))
 | NamedExpr t v pos=>
  refine Zcp (P:=λt w=>OkE c C w (eval (.NamedExpr t v pos) C.env)) t (λY=>Ze2) (λY Y Y=>Ze2) (λx xp=>?_) (λY Y Y=>Ze2) (λY Y Y=>Ze2) (λY Y Y=>Ze2) λY Y Y Y=>Ze2
  exact λq h hk=>ev_named (R.E v q h λD1 a s1 va J1 l1 e1 ra q1=>Zfq X q1 ra e1 λD2 s2 J2 l2 e2 q2=>hk.step (l1.trans l2) e2 (ra.le l2) q2)
 | _=>exact Ze2
theorem fT_ok(R:RecOk r c C)(op:BoolOp)(vs:List Expr):OkB c C (fT c.f r op vs) (allTrue op vs C.env):=by
 intro D s J kt kf K q e ht hf
 induction vs with
 | nil=>
  induction op with
  | And=>exact Zfx (ht.at e q)
  | Or=>exact Zh1 (hf.at e q)
 | cons x l=>
  induction op with
  | And=>exact Zt7 (R.B x q e (λD1 s1 J1 l1 e1 q1=>⟨λY=>R.T .And l q1 e1 (ht.le l1) (hf.le l1),λz=>nomatch z⟩) λD1 s1 J1 l1 e1 q1=>⟨λz=>(nomatch z),λY=>hf _ _ _ l1 e1 q1⟩)
  | Or=>exact Z2z (R.B x q e (λD1 s1 J1 l1 e1 q1=>⟨λz=>(nomatch z),λY=>ht _ _ _ l1 e1 q1⟩) λD1 s1 J1 l1 e1 q1=>⟨λY=>R.T .Or l q1 e1 (ht.le l1) (hf.le l1),λz=>nomatch z⟩)
theorem Z3c{D1:Rh}{kt kf:KS}{K:Bool->Wl}{t:Bool}{s1:S}{J1:Mine.St}(ht:PS c D kt (K true))(hf:PS c D kf (K false))(l1:Le D D1)(z:iff t (kt s1) (kf s1)=true)(q1:c.S D1 s1 J1):K t J1:=by
 induction t with
 | true=>exact ht _ _ _ l1 z q1
 | false=>exact hf _ _ _ l1 z q1
theorem Zgc(R:RecOk r c C)(e:Expr)(he:isTrue e C.env (eval e C.env)=(do let v <- eval e C.env;standAt e.pos;holding [v] (truthy v))):OkB c C (Z2r c.f r e) (isTrue e C.env (eval e C.env)):=λq h ht hf=>Zd3 (R.E e q h λD1 a s1 va J1 l1 e1 ra q1=>Zjl q1 ra e1 λt z=>Z3c ht hf l1 z q1) he
theorem fB_ok(X:Cc c C)(R:RecOk r c C)(e:Expr):OkB c C (fB c.f r e) (isTrue e C.env (eval e C.env)):=by
 unfold fB
 induction e using Expr.casesOn with
 | UnaryOp op x pos=>
  refine UnaryOp.rec (motive:=λop=>OkB c C (UnaryOp.rec (motive:=λY=>CB) noB ⟨λs kt kf=>(r.B c.f x).run s kf kt⟩ noB noB op) (isTrue (.UnaryOp op x pos) C.env (eval (.UnaryOp op x pos) C.env))) Zzd ?_ Zzd Zzd op
  exact λq h ht hf=>Zuk (R.B x q h (λD1 s1 J1 l1 e1 q1=>hf _ _ _ l1 e1 q1) λD1 s1 J1 l1 e1 q1=>ht _ _ _ l1 e1 q1)
 | BoolOp op vs pos=>exact λq h ht hf=>Zof (R.T op vs q h ht hf)
 | Compare l ops cs pos=>exact Zgu (P:=λops w=>OkB c C w (isTrue (.Compare l ops cs pos) C.env (eval (.Compare l ops cs pos) C.env))) ops (λY=>Zzd) λop=>Zgu (P:=λcs w=>OkB c C w (isTrue (.Compare l [op] cs pos) C.env (eval (.Compare l [op] cs pos) C.env))) cs (λY=>Zzd) λx=>ifVF λhm Y Y Y Y Y Y q h ht hf=>Zuv (Zp6 X R l op x q h λD' t s' J' le z q'=>Zjx (Z3c ht hf le z q')) hm
 | Constant co n pos=>exact Zgc R _ rfl
 | Name x pos=>exact Zgc R _ rfl
 | Attribute o n pos=>exact Zgc R _ rfl
 | Call fn args kw pos=>exact Zgc R _ rfl
 | _=>exact Zzd
theorem as1{e:Expr}{l:List Expr}(h:plE e=true):assignEach (e::l) env=(false,assign e env)::assignEach l env:=by
 induction e using Expr.casesOn with
 | Starred e p=>exact ff h
 | _=>rfl
theorem Z37{l:List Expr}(h:plA l=true):(assignEach l env).length=l.length/\(assignEach l env).findIdx? (·.1)=none:=by
 induction l with
 | nil=>exact⟨rfl,rfl⟩
 | cons e l ih=>
  have h1:=Zce h
  have ih:=ih h1.2
  rw[as1 h1.1]
  exact⟨congrArg (·+1) ih.1,by rw[List.findIdx?_cons,ih.2];rfl⟩
theorem Zob{k:Nat->Bool}{Q:V->Prop}(r:AR c.E D a v)(h:Zy6 a k=true)(q:∀ vs,AR c.E D a (.tup vs)->k vs.length=true->Q (.tup vs)):Q v:=by
 have:∃ vs,v = .tup vs:=by
  induction a with
  | nil=>exact⟨[],r⟩
  | cons x l=>obtain⟨y,ys,e,_⟩:=r;exact⟨_,e⟩
  | _=>exact ff h
 obtain⟨vs,rfl⟩:=this
 exact q vs r (Zt0 r h)
theorem Zp1(P:Zd8 c.E p C.G)(R:RecOk r c C)(o:Expr)(n:Str)(pos:Pos):OkS c C (attS p c.f r o n) (assign (.Attribute o n pos) C.env):=λq ra e h=>as_attr (R.E o q e λD1 b s1 vb J1 l1 e1 rb q1=>Zqk P n q1 rb (ra.le l1) e1 (h.le l1))
theorem Zv3(R:RecOk r c C)(o i:Expr)(pos:Pos):OkS c C (subS c.f r o i) (assign (.Subscript o i pos) C.env):=λq ra e h=>as_sub (R.E o q e λD1 b s1 vb J1 l1 e1 rb q1=>R.E i q1 e1 λD2 x s2 vx J2 l2 e2 rx q2=>Zpo q2 (rb.le l2) rx (ra.le (l1.trans l2)) e2 (h.le (l1.trans l2)))
theorem fS_ok(X:Cc c C)(P:Zd8 c.E p C.G)(R:RecOk r c C)(t:Expr):OkS c C (fS p c.f r t) (assign t C.env):=by
 refine Zcp (P:=λt w=>OkS c C w (assign t C.env)) t (λY=>badS) (λY Y Y=>badS) (λx pos=>λq ra e h=>Ze3 (Zfq X q ra e h)) (Zp1 P R) (Zv3 R) (λts n pos=>ifSG λhb Y Y Y Y Y Y Y q ra e h=>?_) λY Y Y Y=>badS
 rw[Qt,Bool.not_eq_true'] at hb
 have hl:=Z37 (env:=C.env) hb.1
 exact Zob (Q:=λv=>U1 C _ v _ _) ra e λvs ra e=>Zar e λh1 e=>Zgs (X.hh hb.2) (R.V ts hb.1 q ra e h) (hl.1.trans (Qp h1).symm) hl.2
theorem fV_ok(R:RecOk r c C)(ts:List Expr)(hp:plA ts=true):OkV c C (fV c.f r ts) ((assignEach ts C.env).map (·.2)):=by
 intro D s J a vs k K q ra e h
 induction ts with
 | nil=>exact Zl2 (R:=λY vs=>AIO C _ vs J K) ra e (λe=>aio_nil (h.at e q)) λY Y Y Y Y Y e=>ff e
 | cons t ts=>
  have h1:=Zce hp
  rw[as1 h1.1]
  exact Zl2 (R:=λY vs=>AIO C _ vs J K) ra e (λe=>ff e) λx l v ws rx rl e=>aio_cons (R.S t q rx e λD1 s1 J1 l1 e3 q1=>R.V ts h1.2 q1 (AR.le l1 rl) e3 (h.le l1))
end
end MI
namespace MI
open Mine
section
variable {c:Ct} {C:Cx} {p:Pg} {cal:Bool->Addr->CC} {r:Rec}
theorem Pick.keep{x y:Addr×AO}{l r:Wg}(p:Pick x l r)(h:y∈l)(hne:y≠x):y∈r:=by
 rcases Qb (p.perm.mem_iff.mp h) with e|e
 .exact absurd e hne
 .exact e
theorem Ztw{l:Wg}(nd:(l.map (·.1)).Nodup){a:Addr}{x y:AO}(h1:(a,x)∈l)(h2:(a,y)∈l):x=y:=by
 induction l with
 | nil=>cases h1
 | cons p l ih=>
  rw[Qr,List.nodup_cons] at nd
  rcases Qb h1 with e1|e1 <;> rcases Qb h2 with e2|e2
  .rw[<- e1] at e2;cases e2;rfl
  .exact absurd (Qe ⟨_,e2,by rw[<- e1]⟩) nd.1
  .exact absurd (Qe ⟨_,e1,by rw[<- e2]⟩) nd.1
  .exact ih nd.2 e1 e2
theorem Zjb{l r:Wg}(p:l.Perm r)(nd:(l.map (·.1)).Nodup):(r.map (·.1)).Nodup:=(p.map (λx:Addr×AO=>x.1)).nodup_iff.mp nd
theorem Zo4{s0:Shared}{l1 l2 r1 r2 obs:Wg}{a aj al:Addr}{x1 x2 x2' x3:AO}(nd0:(obs.map (·.1)).Nodup)(k1:Pick (a,x1) obs r1)(k2:Pick (aj,x2) r1 r2)(pk1:Pick (a,x1) obs l1)(h2:(aj,x2')∈l1)(pk2:Pick (aj,x2') l1 l2):x2'=x2/\l2.Perm r2:=by
 have pr1:l1.Perm r1:=List.Perm.cons_inv (pk1.perm.symm.trans k1.perm)
 have hz:=Ztw (Qc (Zjb pk1.perm nd0)).2 h2 (pr1.mem_iff.mpr (k2.perm.mem_iff.mpr (.head _)))
 subst hz
 exact⟨rfl,List.Perm.cons_inv (pk2.perm.symm.trans (pr1.trans k2.perm))⟩
theorem Znl{l1 l2 r1 r2 obs:Wg}{a aj:Addr}{x1 x1' x2 x2' x3:AO}(nd0:(obs.map (·.1)).Nodup)(k1:Pick (a,x1) obs r1)(k2:Pick (aj,x2) r1 r2)(u1:UpO a x1 x1' obs l1)(h2:(aj,x2')∈l1)(u2:UpO aj x2' x3 l1 l2):x2'=x2/\l2.Perm ((a,x1')::(aj,x3)::r2):=by
 obtain⟨r1',k1',k1''⟩:=UpO.pk u1
 have pr1:r1'.Perm r1:=List.Perm.cons_inv (k1'.perm.symm.trans k1.perm)
 have nd1:(l1.map (·.1)).Nodup:=by
  have h1:=Zjb k1'.perm nd0
  exact Zjb k1''.perm.symm h1
 have hz:=Ztw nd1 h2 (k1''.perm.mem_iff.mpr (.tail _ (pr1.mem_iff.mpr (k2.perm.mem_iff.mpr (.head _)))))
 subst hz
 obtain⟨r2',k2',k2''⟩:=UpO.pk u2
 have h1:((aj,x2')::r2').Perm ((aj,x2')::(a,x1')::r2):=k2'.perm.symm.trans (k1''.perm.trans ((pr1.trans k2.perm).cons _ |>.trans (.swap ..)))
 exact⟨rfl,k2''.perm.trans (((List.Perm.cons_inv h1).cons _).trans (.swap ..))⟩
theorem Zsl(hh:C.A.handled=none){elts:List Expr}{kt:Nat}{tpos:Pos}{D s J it a kn k j i z}{Ks:V->Wl}{Kn:Wl}(q:c.S D s J)(pt:Spot c.E D c.T it s.obs J.obs (.enum j i) a z)
  (e:Zp2 true it s kn k (.enum j i)=true) (hs:PA c D k Ks) (hn:PS c D kn Kn):NL C (.Tuple elts kt tpos) (.ref a) J Ks Kn:=by
 revert Kn
 exists (c C elts kt tpos D s J it a kn k j i z Ks),hh,q,pt,e,hs
 intro Kn hn
 exists (Kn),hn
 intro s0 E H
 have nd0:(J.obs.map (·.1)).Nodup:=(Qc H.nd).2
 obtain⟨aj,qj,rfl⟩:=pt.ob
 refine Za0 q qj e λo2 z2 p2 e=>Zjd (p2 D (Le.refl _)) e λhl n al ql p2 e=>Zar e λh1 e5=>?_
 obtain rfl:n=i:=Qp h1
 refine Za3 q ql e5 λl vs p3 t e=>(LkO.pk pt.lk).elim λr1 k1=>?_
 have m2:(aj,AO.liter al n)∈r1:=Pick.keep k1 p2.lk.mem (by intro e;cases e)
 refine(LkO.pk (LkO.of_mem m2)).elim λr2 k2=>?_
 have m3:(al,AO.list vs)∈r2:=Pick.keep k2 (Pick.keep k1 p3.lk.mem (by intro e;cases e)) (by intro e;cases e)
 have P:J.obs.Perm ((a,.enum aj n)::(aj,.liter al n)::r2):=k1.perm.trans (k2.perm.cons _)
 have T:=Zs4 (C:=C) (elts:=elts) (kt:=kt) (tp:=tpos) (e:=a) (it:=aj) (a:=al) (l:=vs) hh
 refine Zrf e (λh1 e=>Zao e λY e=>Zar e λh2 e7=>?_) λy h1 e=>t.get_k h1 λw hw rw_=>?_
 .obtain rfl:n=vs.length:=(Qp h2).trans t.length.symm
  refine Zp8 q pt e7 λs1 l1 pk1 q1 e=>Za0 q1 qj e λo3 z3 p4 e=>Zp8 q1 (p4 D (Le.refl _)) e λs2 l2 pk2 q2 e=>?_
  have hz:=Zo4 (s0:=s0) (al:=al) (x3:=z3) nd0 k1 k2 pk1 (p4 D (Le.refl _)).lk.mem pk2
  exact Zad (T.stop J.loc r2 (LkO.of_mem m3) s0 E (H.perm P)) (λx s' w=>by
   induction x with
   | some v=>
    refine Zad w (λY s'' w=>?_) λY Y e=>e
    obtain⟨_,_,f,_⟩:=w
    exact f.elim
   | none=>
    obtain⟨J',rfl,H',t'⟩:=w
    exact⟨⟨J.loc,l2⟩,hn.at e q2,H'.perm hz.2.symm,t'⟩) λY Y e=>e
 .have hlt:n<vs.length:=(List.getElem?_eq_some_iff.mp hw).1
  refine Zg4 q pt (o':=.enum j (n+1)) (x':=.enum aj (n+1)) ⟨aj,qj,rfl⟩ (Za1 (n:=n+1) (k:=λi'=>s.up it (.enum j i') λs=>s.lk j λY=>s.up j (.liter hl i') λs=>k (.cons (.int (.ofNat n)) (.cons y .nil)) s) e) λs1 l1 u1 q1 e=>Za0 q1 qj e λo3 z3 p4 e=>
   Zg4 q1 (p4 D (Le.refl _)) (o':=.liter hl (n+1)) (x':=.liter al (n+1)) ⟨al,ql,rfl⟩ e λs2 l2 u2 q2 e=>?_
  have hz:=Znl nd0 k1 k2 u1 (p4 D (Le.refl _)).lk.mem u2
  have hd:vs.getD n .none=w:=by rw[List.getD,hw];rfl
  exact Zad (T.turn n J.loc r2 hlt (LkO.of_mem m3) s0 E (H.perm P)) (λx s' g=>by
   induction x with
   | some v=>
    refine Zad g (λY s'' g=>?_) λY Y e=>e
    obtain⟨v',J',⟨rfl,rfl⟩,rv,H',t'⟩:=g
    refine⟨_,⟨J.loc,l2⟩,hs.at e (v:=.tup [.int n,vs.getD n .none]) ⟨_,_,rfl,rfl,_,_,rfl,by rw[hd];exact rw_,rfl⟩ q2,rv,H'.perm hz.2.symm,t'⟩
   | none=>obtain⟨_,f,_⟩:=g;exact f.elim) λY Y e=>e
end
end MI
namespace MI
open Mine
section
variable {c:Ct} {C:Cx} {p:Pg} {cal:Bool->Addr->CC} {r:Rec}
theorem Z1g{t:Expr}(h:tgB t=true):Tgt t:=by
 revert h
 exact Zcp (P:=λt b=>b=true->Tgt t) t (λY h=>ff h) (λY Y Y h=>ff h) (λY Y Y=>.name) (λY Y Y h=>ff h) (λY Y Y h=>ff h) (λY Y Y Y=>.tuple) λY Y Y Y h=>ff h
theorem Zsx{t:Expr}{Q:Expr->Prop}(h:Zbi t=true)(q:∀ es n p,Q (.Tuple es n p)):Q t:=by
 revert h
 exact Zcp (P:=λt b=>b=true->Q t) t (λY h=>ff h) (λY Y Y h=>ff h) (λY Y h=>ff h) (λY Y Y h=>ff h) (λY Y Y h=>ff h) (λes n p Y=>q es n p) λY Y Y Y h=>ff h
theorem Zqd(hh:C.A.handled=none){t:Expr}(ht:tgB t=true){D s J it a kn k}{Ks:V->Wl}(q:c.S D s J)(ra:D it=some a)(e:Zsv (Zbi t) it s kn k=true)(hs:PA c D k Ks)(hn:PS c D kn Kn):NL C t (.ref a) J Ks Kn:=by
 refine Za0 q ra e λo z pt e=>?_
 have pt:=pt D (Le.refl _)
 by_cases ho:∃ j i,o = .enum j i
 .obtain⟨j,i,rfl⟩:=ho
  have h1:Zbi t=true:=Zar (b:=Zbi t) e λh Y=>h
  rw[h1] at e
  exact Zsx (Q:=λt=>NL C t _ J Ks Kn) h1 λes n p=>Zsl hh q pt e hs hn
 .exact(NL.tgt (Z1g ht) (Zq6 hh q pt e hs hn λj i q=>ho ⟨j,i,q⟩) λa J' h=>h.2).mono (λv J h=>h.1) λY h=>h
theorem Zxs{E:En}{T:Wg}{lim:Nat}{acc:List Nat}{m:Hp}{l:Wg}{k:Hp->Bool}(r:HR E D T m l)(e:Z0e lim acc m k=true)(w:∀ m' l',HR E D T m' l'->Drp l l'->k m'=true->Q):Q:=by
 induction m generalizing l k with
 | nil=>exact w .nil l r .refl e
 | cons h o m ih=>
  obtain⟨a,x,l,rfl,p,q,t⟩:=r
  exact Zb0 (b:=Nat.ble lim h) e (λY e=>Zb0 (b:=Z40 h acc) e (λY e=>ih t e λm' l' r' d e=>w (.cons h o m') ((a,x)::l') ⟨a,x,l',rfl,p,q,r'⟩ (.keep d) e) λY e=>ih t e λm' l' r' d e=>w m' l' r' (.cons d) e) λY e=>w (.cons h o m) ((a,x)::l) ⟨a,x,l,rfl,p,q,t⟩ .refl e
theorem Zyl{lim:Nat}{m:Hp}{w acc:List Nat}{k:List Nat->Bool}(e:Z36 lim m n w acc k=true)(q:∀ acc',k acc'=true->Q):Q:=by
 induction n generalizing w acc with
 | zero=>exact q acc e
 | succ n ih=>
  induction w with
  | nil=>exact q acc e
  | cons h w=>exact Zb0 (b:=Nat.ble lim h) e (λY e=>Zb0 (b:=Z40 h acc) e (λY e=>ih e) λY e=>ih e) λY e=>ih e
theorem Zz2{E:En}{T:Wg}{lim:Nat}{w:List Nat}{m:Hp}{l:Wg}{k:Hp->Bool}(r:HR E D T m l)(e:gcO lim w m k=true)(q:∀ m' l',HR E D T m' l'->Drp l l'->k m'=true->Q):Q:=by
 induction m with
 | nil=>exact q .nil l r .refl e
 | cons h o m=>exact Zb0 (b:=Nat.ble lim h) e (λY e=>Zyl e λacc e=>Zxs r e q) λY e=>q _ l r .refl e
theorem Z38{D s J lim}{k:KS}(q:c.S D s J)(e:gcS lim s k=true)(w:∀ s' l',Drp J.obs l'->c.S D s' ⟨J.loc,l'⟩->k s'=true->Q):Q:=
 Zz2 q.obs (show gcO lim (Zrt s.loc []) s.obs (λob=>k ⟨s.loc,s.cel,ob,s.nx⟩)=true from e) λm' l' r' d e=>w ⟨s.loc,s.cel,m',s.nx⟩ l' d ⟨q.loc,q.cel,r',q.fr⟩ e
theorem Holds.drp{s:Shared}{l':Wg}(H:Holds C J s)(d:Drp J.obs l'):Holds C ⟨J.loc,l'⟩ s:=by
 refine⟨H.frz,H.loc,λq hq=>H.obs q (d.mem hq),?_,λa ha=>H.ap a ?_,H.nn,H.gens,H.drawn,H.os⟩
 .have n:=Qc H.nd
  exact Qd ⟨λh=>n.1 (d.keys h),d.nd n.2⟩
 .exact(Qb ha).elim (λq=>q ▸ .head _) λq=>.tail _ (d.keys q)
structure Ks(c:Ct)(D:Rh)(kn kb kc:KS)(kr:KA)(K:Fl->Wl):Prop where
 nx:PS c D kn (K .next)
 bk:PS c D kb (K .brk)
 ct:PS c D kc (K .cont)
 rt:PA c D kr (λv J=>K (.ret v) J)
theorem Ks.le{D D' kn kb kc kr}{K:Fl->Wl}(h:Ks c D kn kb kc kr K)(l:Le D D'):Ks c D' kn kb kc kr K:=⟨h.nx.le l,h.bk.le l,h.ct.le l,h.rt.le l⟩
theorem RecOk.XK(R:RecOk r c C)(l:List Stmt){D s J kn kb kc kr}{K:Fl->Wl}(q:c.S D s J)(e:(r.X c.f l).run s kn kb kc kr=true)(h:Ks c D kn kb kc kr K):XV C (execs l C.env) J K:=R.X l q e h.nx h.bk h.ct h.rt
theorem Zu5(X:Cc c C)(hd:c.f.hd=false)(R:RecOk r c C){t:Expr}(b o:List Stmt)(ht:tgB t=true)(n:Nat):∀ {D s J it a kn kb kc kr} {K:Fl->Wl},c.S D s J->D it=some a->forL (Zbi t) (r.S c.f t) (r.X c.f b) (r.X c.f o) it n s kn kb kc kr=true ->
  Ks c D kn kb kc kr K->FL C t (.ref a) b o J K:=by
 induction n with
 | zero=>exact λq ra e Y=>ff e
 | succ n ih=>
  intro D s J it a kn kb kc kr K q ra e h
  have again:PS c D (λs=>gcS (Nat.add it 1) s λs=>forL (Zbi t) (r.S c.f t) (r.X c.f b) (r.X c.f o) it n s kn kb kc kr) λJ'=>FL C t (.ref a) b o J' K:=λY Y Y le e q=>Z38 q e λs2 l2 d q2 e2 s H=>ih q2 (le _ _ ra) e2 (h.le le) s (Holds.drp H d)
  exact Zji X.hE (Zqd (X.hh hd) ht q ra e (λD1 v s1 vv J1 l1 e1 rv q1=>R.S t q1 rv e1 λD2 s2 J2 l2 e2 q2=>R.X b q2 e2 (again.le (l1.trans l2)) (h.nx.le (l1.trans l2)) (again.le (l1.trans l2)) (h.rt.le (l1.trans l2))) λD1 s1 J1 l1 e1 q1=>R.XK o q1 e1 (h.le l1))
theorem Z4h(X:Cc c C)(R:RecOk r c C)(t:Expr)(b o:List Stmt)(lim n:Nat):∀ {D s J kn kb kc kr} {K:Fl->Wl},c.S D s J->whL (r.B c.f t) (r.X c.f b) (r.X c.f o) lim n s kn kb kc kr=true->Ks c D kn kb kc kr K->WL C t b o J K:=by
 induction n with
 | zero=>exact λq e Y=>ff e
 | succ n ih=>
  intro D s J kn kb kc kr K q e h
  have again:PS c D (λs=>gcS lim s λs=>whL (r.B c.f t) (r.X c.f b) (r.X c.f o) lim n s kn kb kc kr) λJ'=>WL C t b o J' K:=λY Y Y le e q=>Z38 q e λs2 l2 d q2 e2 s H=>ih q2 e2 (h.le le) s (Holds.drp H d)
  exact Zn0 X.hE (R.B t q e (λD1 s1 J1 l1 e1 q1=>⟨λY=>R.X b q1 e1 (again.le l1) (h.nx.le l1) (again.le l1) (h.rt.le l1),λz=>nomatch z⟩) λD1 s1 J1 l1 e1 q1=>⟨λz=>(nomatch z),λY=>R.XK o q1 e1 (h.le l1)⟩)
end
end MI
namespace MI
open Mine
noncomputable def Zmy(cs:List (Str×Addr))(l:List (Str×NameKind))(acc:List (Str×Addr)):List (Str×Addr):=match l with
 | []=>acc
 | x::l=>Zmy cs l (if x.2 == .free then (x.1,(cs.lookup x.1).getD 0)::acc else acc)
theorem Zm3{scope:Scope}(h:∀ x∈scope.names,x.2 = .free->∃ a,env.cells.lookup x.1=some a):closureFor scope env=pure (Zmy env.cells scope.names []):=by
 exists (env scope),h
 unfold closureFor
 generalize scope.names=l at h
 generalize hacc:([]:List (Str×Addr))=acc
 clear hacc
 induction l generalizing acc with
 | nil=>rfl
 | cons x l ih=>
  obtain⟨n,k⟩:=x
  unfold Zmy
  have ih:=λacc=>ih (λy hy=>h y (.tail _ hy)) acc
  simp -iota only[List.forIn_cons]
  dsimp only
  cases hk:k==NameKind.free with
  | true=>
   obtain⟨a,ha⟩:=h (n,k) (.head _) (eq_of_beq hk)
   have hc:cellOf env n=pure a:=by unfold cellOf;rw[ha]
   have ih:=ih ((n,a)::acc)
   simp -iota only[hc,pure_bind,if_true] at ih ⊢
   rw[show(env.cells.lookup n).getD 0=a by rw[ha];rfl]
   exact ih
  | false=>
   have ih:=ih acc
   simp -iota only[pure_bind,Bool.false_eq_true,if_false] at ih ⊢
   exact ih
theorem Z0t{cs l:List (Str×Addr)}(h:∀ p∈l,p.2=(cs.lookup p.1).getD 0)(hx:x∈l.map (·.1)):l.lookup x=some ((cs.lookup x).getD 0):=by
 induction l with
 | nil=>cases hx
 | cons p l ih=>
  obtain⟨y,b⟩:=p
  rw[List.lookup_cons]
  cases hb:x==y with
  | true=>
   obtain rfl:=eq_of_beq hb
   exact congrArg some (h _ (.head _))
  | false=>
   rcases Qb hx with e|e
   .rw[e] at hb;simp at hb
   .exact ih (λp hp=>h p (.tail _ hp)) e
theorem Zv0{cs:List (Str×Addr)}(l:List (Str×NameKind)):∀ {acc:List (Str×Addr)},(∀ p∈acc,p.2=(cs.lookup p.1).getD 0)->(x∈acc.map (·.1)\/∃ q∈l,q.1=x/\(q.2 == .free)=true)->(Zmy cs l acc).lookup x=some ((cs.lookup x).getD 0):=by
 induction l with
 | nil=>
  intro acc h hx
  rcases hx with hx|⟨q,hq,_⟩
  .exact Z0t h hx
  .cases hq
 | cons y l ih=>
  intro acc h hx
  unfold Zmy
  cases hk:y.2 == .free with
  | true=>
   rw[if_pos rfl]
   refine ih (λp hp=>?_) ?_
   .rcases Qb hp with e|e
    .rw[e]
    .exact h p e
   .rcases hx with hx|⟨q,hq,e1,e2⟩
    .exact .inl (.tail _ hx)
    .rcases Qb hq with e|e
     .rw[e] at e1;exact .inl (by rw[<- e1];exact .head _)
     .exact .inr ⟨q,e,e1,e2⟩
  | false=>
   rw[if_neg (by decide)]
   refine ih h ?_
   rcases hx with hx|⟨q,hq,e1,e2⟩
   .exact .inl hx
   .rcases Qb hq with e|e
    .rw[e,hk] at e2;cases e2
    .exact .inr ⟨q,e,e1,e2⟩
theorem Zvu{l ix:List Nat}{k:List Nat->Bool}(h:Z1z l ix k=true)(q:∀ m,ix.map (l[·]?)=m.map some->k m=true->Q):Q:=by
 induction ix generalizing k with
 | nil=>exact q [] rfl h
 | cons i ix ih=>exact Zeh (l:=l) h λx hx e=>ih e λm hm e=>q (x::m) (by rw[Qr,Qr,hx,hm]) e
theorem Zsp{cs clo:List (Str×Addr)}{cn:List Str}(r:CeR D cs ce cn)(l:List Str):∀ {m:List Nat},(l.map (cn.idxOf ·)).map (ce[·]?)=m.map some->(∀ x∈l,clo.lookup x=some ((cs.lookup x).getD 0))->CeR D clo m l:=by
 induction l with
 | nil=>
  intro m e _
  induction m with
  | nil=>exact rfl
  | cons _ _=>cases e
 | cons x l ih=>
  intro m e h
  induction m with
  | nil=>cases e
  | cons i m=>
   rw[Qr,Qr,Qr] at e
   have e1:=(List.cons.inj e).1
   refine Ze6 r e1 λy a h1 h2 h3=>?_
   obtain rfl:=Ze1 h1
   refine⟨y,l,a,rfl,h2,?_,ih (List.cons.inj e).2 λz hz=>h z (.tail _ hz)⟩
   rw[h y (.head _),h3];rfl
section
variable {c:Ct} {C:Cx} {p:Pg} {cal:Bool->Addr->CC} {r:Rec}
theorem Zqh(l:List Str):LcR c.E D (Zy2 l) l (l.map (·,none)):=by
 induction l with
 | nil=>exact⟨rfl,rfl⟩
 | cons x l ih=>exact⟨x,l,_,rfl,rfl,ih⟩
theorem Zl6{C:Cx}{it d:Addr}{ep:Nat}(h:LkO it (.kiter d i n ep) J.obs):Zj9 C (.ref it) J:=λs E Q H q=>by
 refine Zaj (H.obj h) λO eo ro=>?_
 have p:=OR.ownE ro
 exact .of (wpAny_pyIter_keyiter ⟨O,eo,p.1,p.2⟩ q)
theorem Znm{D s J it a tp kn k}(q:c.S D s J)(ra:D it=some a)(e:Zsv tp it s kn k=true):Zj9 C (.ref a) J:=by
 refine Za0 q ra e λo z pt e=>?_
 have pt:=pt D (Le.refl _)
 induction o with
 | liter h i=>obtain⟨_,_,rfl⟩:=pt.ob;exact Zbq pt.lk
 | riter x n st=>obtain rfl:=pt.ob;exact Zff pt.lk
 | titer l i=>obtain⟨_,_,rfl⟩:=pt.ob;exact Zro pt.lk
 | enum j i=>obtain⟨_,_,rfl⟩:=pt.ob;exact Zhm pt.lk
 | kiter d i n e=>obtain⟨_,_,_,_,rfl⟩:=pt.ob;exact Zl6 pt.lk
 | viter d i n e=>obtain⟨_,_,_,_,rfl⟩:=pt.ob;exact Zl4 pt.lk
 | _=>exact ff e
theorem Znn(R:RecOk r c C)(elt:Expr){acc:Nat}{ac:Addr}{D s J}{k:KS}(q:c.S D s J)(ra:D acc=some ac)(e:Zyp (r.E c.f elt) acc s k=true)(h:PS c D k K):EMIT C elt (.ref ac) J K:=
 R.E elt q e λD2 x s2 vx J2 l2 e2 rx q2=>Za3 q2 (l2 _ _ ra) e2 λl vs pt t e=>Zao e λh1 e=>Zg4 q2 pt (.lst (t.append (show LR c.E D2 [x] [vx] from⟨vx,[],rfl,rx,rfl⟩))) (Zcn (k:=λt=>s2.up acc (.list t) k) e) λs3 l3 u q3 e s0 w H r0=>
  cf_append (K:=λY J=>K J) u (h _ _ _ l2 e q3) (by rw[t.length];exact Zbs h1) s0 (.builtin "list.append") [.ref ac,w] H (.bi _) (.cons (.ref _) (.cons r0 .nil))
theorem Zpd(X:Cc c C)(hd:c.f.hd=false)(R:RecOk r c C){target:Expr}(ht:tgB target=true)(elt iter:Expr)(scope:Scope)(pos:Pos)(n:Nat):∀ {D s J it acc a ac k} {K:Wl},c.S D s J->D it=some a->D acc=some ac ->
  Zmw (Zbi target) (r.E c.f elt) (r.S c.f target) none it acc n s k=true->PS c D k K->CLP C (.ListComp elt [⟨target,iter,[],0⟩] scope pos) (.ref a) (.ref ac) J K:=by
 induction n with
 | zero=>exact λq r1 r2 e h=>ff e
 | succ n ih=>
  intro D s J it acc a ac k K q r1 r2 e h
  exact Zgp X.hE (Zqd (X.hh hd) ht q r1 e (λD1 v s1 vv J1 l1 e1 rv q1=>R.S target q1 rv e1 λD2 s2 J2 l2 e2 q2=>Znn R elt q2 ((l1.trans l2) _ _ r2) e2 λD3 s3 J3 l3 e3 q3=>
   ih q3 ((l1.trans (l2.trans l3)) _ _ r1) ((l1.trans (l2.trans l3)) _ _ r2) e3 (h.le (l1.trans (l2.trans l3)))) h)
theorem Zo3(X:Cc c C)(hd:c.f.hd=false)(R:RecOk r c C){target:Expr}(ht:tgB target=true)(elt iter cond:Expr)(scope:Scope)(pos:Pos)(n:Nat):∀ {D s J it acc a ac k} {K:Wl},c.S D s J->D it=some a->D acc=some ac ->
  Zmw (Zbi target) (r.E c.f elt) (r.S c.f target) (some (r.B c.f cond)) it acc n s k=true->PS c D k K->CLP C (.ListComp elt [⟨target,iter,[cond],0⟩] scope pos) (.ref a) (.ref ac) J K:=by
 induction n with
 | zero=>exact λq r1 r2 e h=>ff e
 | succ n ih=>
  intro D s J it acc a ac k K q r1 r2 e h
  have again:PS c D (λs=>Zmw (Zbi target) (r.E c.f elt) (r.S c.f target) (some (r.B c.f cond)) it acc n s k) λJ'=>CLP C (.ListComp elt [⟨target,iter,[cond],0⟩] scope pos) (.ref a) (.ref ac) J' K:=λY Y Y le e q=>ih q (le _ _ r1) (le _ _ r2) e (h.le le)
  exact Zrr X.hE (Zqd (X.hh hd) ht q r1 e (λD1 v s1 vv J1 l1 e1 rv q1=>R.S target q1 rv e1 λD2 s2 J2 l2 e2 q2=>R.B cond q2 e2 (λD3 s3 J3 l3 e3 q3=>⟨λY=>Znn R elt q3 ((l1.trans (l2.trans l3)) _ _ r2) e3 (again.le (l1.trans (l2.trans l3))),λz=>nomatch z⟩) λD3 s3 J3 l3 e3 q3=>⟨λz=>(nomatch z),λY=>again _ _ _ (l1.trans (l2.trans l3)) e3 q3⟩) h)
theorem Zhr{f:Fm}{sc:Scope}{iter target:Expr}(h:cOk f sc iter target=true):f.hd=false/\sc.kind = .function/\knE iter=true/\tgB target=true/\(∀ x∈sc.names,Z4o f sc.names x=true)/\((sc.names.filter loK).map (·.1)).Nodup:=by
 unfold cOk at h
 simp only[Qt,List.all_eq_true,decide_eq_true_eq,Bool.not_eq_true'] at h
 obtain⟨h0,h1,h2,h3,h4,h5⟩:=h
 refine⟨h0,?_,h2,h3,h4,h5⟩
 cases hk:sc.kind <;> rw[hk] at h1 <;> first|rfl|cases h1
noncomputable def Ct.inn(c:Ct)(sc:Scope):Ct:=⟨c.E,cF c.f sc.names,c.T,Zmy c.cs sc.names []⟩
theorem Zht(X:Cc c C)(sc:Scope)(clo:List (Str×Addr))(L:Addr):(Zai C sc clo L).scope.names=Zpm c.f sc.names:=by
 show sc.names.map _=sc.names.map _
 refine List.map_congr_left λx hx=>?_
 obtain⟨n,k⟩:=x
 have h1:C.env.scope.names.lookup n=c.f.names.lookup n:=by rw[X.nm]
 show(if (k == .free&&C.env.scope.kind == .function&&C.env.scope.names.lookup n==some .cell)=true then (n,NameKind.cell) else (n,k))=if (k == .free&&c.f.names.lookup n==some .cell)=true then (n,NameKind.cell) else (n,k)
 rw[h1,X.kd,show((ScopeKind.function==ScopeKind.function)=true) from rfl,Bool.and_true]
theorem Zzk(X:Cc c C){sc:Scope}(hd:c.f.hd=false)(hk:sc.kind = .function)(L:Addr)(I:In2 C):Cc (c.inn sc) (I.cx (Zai C sc (Zmy c.cs sc.names []) L) C.eg C.eb) where
 hE:=X.hE
 hh:=λY=>X.hh hd
 gu:=X.gu
 un:=X.un
 kd:=hk
 nm:=Zht X sc _ L
 cl:=rfl
def CG(c:Ct)(C:Cx)(elt target iter:Expr)(ifs:List Expr)(sc:Scope)(pos:Pos)(J:Mine.St)(KK:Addr->Addr->Mine.St->Wl):Prop:=
  EV C (eval iter C.env) J λa J_1=>IT C a J_1 λit J_2=>∀ (L acc:Addr) (I:In2 C),Zj9 (I.cx (Zai C sc (Zmy c.cs sc.names []) L) C.eg C.eb) it ⟨((sc.names.filter loK).map (·.1)).map (·,none),(acc,.list [])::J_2.obs⟩ /\
   CLP (I.cx (Zai C sc (Zmy c.cs sc.names []) L) C.eg C.eb) (.ListComp elt [⟨target,iter,ifs,0⟩] sc pos) it (.ref acc) ⟨((sc.names.filter loK).map (·.1)).map (·,none),(acc,.list [])::J_2.obs⟩ λJ'=>KK L acc J_2 J'
theorem Zcs(X:Cc c C)(R:RecOk r c C){elt target iter:Expr}{ifs:List Expr}{sc:Scope}(pos:Pos){D s J k}{KK:Addr->Addr->Mine.St->Wl}(ib:Option CB)(q:c.S D s J)(e:(Zw9 c.f r elt target iter ib sc).run s k=true)
  (hk:∀ D' n s' L acc J_2 J',Le D D'->k (.ref n) s'=true->D' n=some acc->c.S D' s' ⟨J_2.loc,J'.obs⟩->KK L acc J_2 J')
  (hL:∀ L (I:In2 C) {D s J it acc a ac k} {K:Wl},(c.inn sc).S D s J->D it=some a->D acc=some ac->Zmw (Zbi target) (r.E (cF c.f sc.names) elt) (r.S (cF c.f sc.names) target) ib it acc Zgt s k=true->PS (c.inn sc) D k K ->
   Zj9 (I.cx (Zai C sc (Zmy c.cs sc.names []) L) C.eg C.eb) (.ref a) J/\CLP (I.cx (Zai C sc (Zmy c.cs sc.names []) L) C.eg C.eb) (.ListComp elt [⟨target,iter,ifs,0⟩] sc pos) (.ref a) (.ref ac) J K):CG c C elt target iter ifs sc pos J KK:=by
 refine R.E iter q e λD1 a s1 va J1 l1 e1 ra q1=>Zko q1 ra e1 λD2 i s2 it J2 l2 e2 ri q2=>?_
 intro L acc I
 obtain⟨n',hn'⟩:∃ n',n'=Zgt:=⟨_,rfl⟩
 rw[<- hn'] at e2 hL
 refine Zvu (l:=s2.cel) e2 λce' hce e3=>?_
 have n0:D2 s2.nx=none:=q2.fr _ (Qw _)
 have le:=Zlu (a:=acc) n0
 refine hL L I (D:=upd D2 s2.nx acc) (s:=⟨Zy2 (cF c.f sc.names).ns,ce',.cons s2.nx (.list []) s2.obs,s2.nx+1⟩) (it:=i) (acc:=s2.nx) ⟨Zqh _,?_,⟨acc,.list [],J2.obs,rfl,Zds,⟨[],rfl,rfl⟩,q2.obs.le le⟩,λh g=>?_⟩ (le _ _ ri) Zds (Za1 (n:=s2.nx+1) (k:=λm=>Zmw (Zbi target) (r.E (cF c.f sc.names) elt) (r.S (cF c.f sc.names) target) ib i s2.nx n' ⟨Zy2 (cF c.f sc.names).ns,ce',.cons s2.nx (.list []) s2.obs,m⟩ λs=>k (.ref s2.nx) ⟨s2.loc,s2.cel,s.obs,s.nx⟩) e3) λD3 s3 J3 l3 e4 q3=>?_
 .refine CeR.le le (Zsp q2.cel _ hce λx hx=>Zv0 _ (λp hp=>(nomatch hp)) (.inr ?_))
  have hx:x∈((sc.names.filter frK).map (·.1)).reverse:=hx
  rw[List.mem_reverse] at hx
  obtain⟨y,hy,rfl⟩:=Qf hx
  have:=List.mem_filter.mp hy
  exact⟨y,this.1,rfl,this.2⟩
 .have g:s2.nx+1<=h:=g
  show(if h=s2.nx then _ else _)=_
  rw[if_neg (by lia)]
  exact q2.fr h (by lia)
 .have l13:Le D2 D3:=le.trans l3
  exact hk D3 s2.nx ⟨s2.loc,s2.cel,s3.obs,s3.nx⟩ L acc J2 J3 (l1.trans (l2.trans l13)) e4 (l3 _ _ Zds) ⟨q2.loc.le l13,q2.cel.le l13,q3.obs,q3.fr⟩
theorem Zhn(X:Cc c C)(R:RecOk r c C)(hin:∀ c' C',c'.E=c.E->C'.G=C.G->C'.A=C.A->c'.f.md=false->c'.f.hd=false->Cc c' C'->RecOk r c' C'){elt target iter:Expr}{ifs:List Expr}{sc:Scope}(pos:Pos)(hc:cOk c.f sc iter target=true)
  {D s J k} {KK:Addr->Addr->Mine.St->Wl} (q:c.S D s J) (e:(Zeu c.f r elt target iter ifs sc).run s k=true)
  (hk:∀ D' n s' L acc J_2 J',Le D D'->k (.ref n) s'=true->D' n=some acc->c.S D' s' ⟨J_2.loc,J'.obs⟩->KK L acc J_2 J'):CG c C elt target iter ifs sc pos J KK:=by
 have hC:=Zhr hc
 unfold Zeu at e
 rw[hc] at e
 have Xi:=λL I=>Zzk X hC.1 hC.2.1 L I
 have Ri:=λL I=>hin (c.inn sc) (I.cx (Zai C sc (Zmy c.cs sc.names []) L) C.eg C.eb) rfl rfl rfl rfl rfl (Xi L I)
 match ifs with
 | []=>exact Zcs X R pos none q e hk λL I D s J it acc a ac k K q r1 r2 e h=>⟨Znm (kn:=k) q r1 e,Zpd (Xi L I) rfl (Ri L I) hC.2.2.2.1 elt iter sc pos Zgt q r1 r2 e h⟩
 | [cond]=>exact Zcs X R pos (some (r.B (cF c.f sc.names) cond)) q e hk λL I D s J it acc a ac k K q r1 r2 e h=>⟨Znm (kn:=k) q r1 e,Zo3 (Xi L I) rfl (Ri L I) hC.2.2.2.1 elt iter cond sc pos Zgt q r1 r2 e h⟩
 | _::_::_=>exact ff e
theorem Zlq(X:Cc c C){sc:Scope}{iter target:Expr}(hc:cOk c.f sc iter target=true){D s J}(q:c.S D s J)(hl:∀ x,c.f.cn.elem x=true->∃ a,c.cs.lookup x=some a):closureFor sc C.env=pure (Zmy c.cs sc.names []):=by
 have hC:=Zhr hc
 rw[Zm3,X.cl]
 intro x hx hk
 have h1:=hC.2.2.2.2.1 x hx
 unfold Z4o at h1
 rw[hk] at h1
 rw[X.cl]
 exact hl _ h1
theorem Znh(X:Cc c C){sc:Scope}{iter target:Expr}(hc:cOk c.f sc iter target=true)(clo:List (Str×Addr)):Zze C sc clo=true:=by
 have hC:=Zhr hc
 unfold Zze
 rw[List.all_eq_true]
 intro x hx
 have h1:=hC.2.2.2.2.1 x hx
 unfold Z4o at h1
 obtain⟨n,k⟩:=x
 induction k with
 | «local»=>
  have h2:=eq_of_beq h1
  have h3:(Zai C sc clo 0).kindOf n=some .local:=by
   show(Zai C sc clo 0).scope.names.lookup n=_
   rw[Zht X];exact h2
  show(match (Zai C sc clo 0).kindOf n with|some .local=>true|_=>false)=true
  rw[h3]
 | cell=>cases h1
 | _=>rfl
end
end MI
namespace MI
open Mine
section
variable {c:Ct} {C:Cx} {p:Pg} {cal:Bool->Addr->CC} {r:Rec}
def Inn(r:Rec)(c:Ct)(C:Cx):Prop:=c.f.hd=false->∀ c' C',c'.E=c.E->C'.G=C.G->C'.A=C.A->c'.f.md=false->c'.f.hd=false->Cc c' C'->RecOk r c' C'
theorem Zp4{cs:List (Str×Addr)}{cn:List Str}(r:CeR D cs ce cn)(h:cn.elem x=true):∃ a,cs.lookup x=some a:=by
 induction ce generalizing cn with
 | nil=>obtain rfl:cn=[]:=r;cases h
 | cons i ce ih=>
  obtain⟨y,l,a,rfl,_,q,t⟩:=r
  rw[List.elem_cons] at h
  rcases Bool.or_eq_true_iff.mp h with e|e
  .obtain rfl:=eq_of_beq e;exact⟨a,q⟩
  .exact ih (cn:=l) t e
def KnP(v:Expr):Prop:=(∀ env x,foldedSetIterable v env x=pure x)/\(∀ o n ap line env,swapsWith v (some (.Attribute o n ap)) line env=pure false)/\(∀ o i sp line env,swapsWith v (some (.Subscript o i sp)) line env=pure false) /\
  ((∀ x xp line env,swapsWith v (some (.Name x xp)) line env=pure false)\/∃ elt target iter ifs sc p,v = .ListComp elt [⟨target,iter,ifs,0⟩] sc p)
theorem Zkt{v:Expr}(h:knE v=true):KnP v:=by
 induction v using Expr.casesOn with
 | ListComp elt gs sc p=>
  revert h
  exact Zut (k:=λY Y Y=>true) (P:=λgs b=>b=true->KnP (.ListComp elt gs sc p)) gs (λY h=>ff h) λt i s Y=>⟨λY Y=>rfl,λY Y Y Y Y=>rfl,λY Y Y Y Y=>rfl,.inr ⟨_,_,_,_,_,_,rfl⟩⟩
 | Set a b c=>exact ff h
 | SetComp a b c d=>exact ff h
 | DictComp a b c d e=>exact ff h
 | _=>exact⟨λY Y=>rfl,λY Y Y Y Y=>rfl,λY Y Y Y Y=>rfl,.inl λY Y Y Y=>rfl⟩
theorem Zgj{e:Expr}(h:knE e=true):∀ x,foldedSetIterable e env x=pure x:=(Zkt h).1 env
theorem Zrc(X:Cc c C)(R:RecOk r c C)(hin:Inn r c C)(elt target iter:Expr)(ifs:List Expr)(sc:Scope)(pos:Pos):OkE c C (Zeu c.f r elt target iter ifs sc) (eval (.ListComp elt [⟨target,iter,ifs,0⟩] sc pos) C.env):=by
 intro D s J k K q e h
 cases hc:cOk c.f sc iter target with
 | false=>
  unfold Zeu at e
  rw[hc] at e;exact ff e
 | true=>
  have hC:=Zhr hc
  exact Zry _ _ X.hE (Zhn X R (hin hC.1) pos hc (KK:=λL acc J_2 J'=>K (.ref acc) ⟨J_2.loc,J'.obs⟩) q e λD' n s' L acc J_2 J' le e ra q=>h _ _ _ _ _ le e ⟨acc,ra,rfl⟩ q)
   (Zlq X hc q λx hx=>Zp4 q.cel hx) (Zgj hC.2.2.1) hC.2.1 (Znh X hc _) hC.2.2.2.2.2
theorem Zhi(X:Cc c C):C.env.blockKind = .function:=by
 unfold Env.blockKind
 rw[X.kd];rfl
theorem Zl8(X:Cc c C)(R:RecOk r c C)(hin:Inn r c C)(x:Str)(xp:Pos)(elt target iter:Expr)(ifs:List Expr)(sc:Scope)(lpos pos:Pos){D s J kn}{K:Fl->Wl}(q:c.S D s J)(e:(Zeu c.f r elt target iter ifs sc).run s (λa s=>(stC c.f x).run a s kn)=true)(hn:PS c D kn (K .next))
  (hb:(C.env.blockKind == .function&&C.env.kindOf x==some .local&&xp.line==lpos.line&&!(sc.names.any λ(n,k)=>n==x&&(k == .local||k == .cell)))=true):XV C (exec (.Assign [.Name x xp] (.ListComp elt [⟨target,iter,ifs,0⟩] sc lpos) pos) C.env) J K:=by
 have hsw:swapsWith (.ListComp elt [⟨target,iter,ifs,0⟩] sc lpos) (some (.Name x xp)) pos.line C.env=pure true:=by rw[<- hb];rfl
 have hx:C.env.scope.names.lookup x=some .local:=by
  simp only[Qt] at hb
  exact eq_of_beq hb.1.1.2
 cases hc:cOk c.f sc iter target with
 | false=>
  unfold Zeu at e
  rw[hc] at e;exact ff e
 | true=>
  have hC:=Zhr hc
  refine Zbu _ _ X.hE (Zhn X R (hin hC.1) lpos hc (KK:=λL acc J_2 J'=>U1 C (storeName C.env x) (.ref acc) ⟨J_2.loc,(L,.own oNs)::J'.obs⟩ λJ_3=>∃ obs3,Pick (L,.own oNs) J_3.obs obs3/\K .next ⟨J_3.loc,obs3⟩) q e λD' n s' L acc J_2 J' le e1 ra q1=>?_)
   hsw (Zlq X hc q λx hx=>Zp4 q.cel hx) (Zgj hC.2.2.1) hC.2.1 (Znh X hc _) hC.2.2.2.2.2
  unfold stC at e1
  rw[show c.f.names.lookup x=some .local from X.nm▸hx] at e1
  refine Zz4 (a:=.ref n) (v:=.ref acc) q1.loc ⟨acc,ra,rfl⟩ e1 λy l' m' g1 g2 g3 g4=>?_
  obtain rfl:=Ze1 g1
  exact Zbv hx (by rw[X.kd];rfl) g2 ⟨J'.obs,.head,hn _ _ _ le g4 ⟨g3,q1.cel,q1.obs,q1.fr⟩⟩
theorem Zm8(X:Cc c C)(R:RecOk r c C)(hin:Inn r c C)(hcmp:∀ elt target iter ifs sc p,r.E c.f (.ListComp elt [⟨target,iter,ifs,0⟩] sc p)=noE\/∃ r',RecOk r' c C/\Inn r' c C/\r.E c.f (.ListComp elt [⟨target,iter,ifs,0⟩] sc p)=Zeu c.f r' elt target iter ifs sc)(x:Str)(xp:Pos)(v:Expr)(pos:Pos) :
  OkX c C (ifB (knE v) (Zzm (r.E c.f v) (stC c.f x)) noX) (exec (.Assign [.Name x xp] v pos) C.env):=by
 refine ifX λhv {D s J kn kb kc kr K} q e hn hb hc hr=>?_
 have plain:swapsWith v (some (.Name x xp)) pos.line C.env=pure false->XV C (exec (.Assign [.Name x xp] v pos) C.env) J K:=λhs=>
  Zd7 (R.E v q e λD1 a s1 va J1 l1 e1 ra q1=>Zfq X q1 ra e1 λD2 s2 J2 l2 e2 q2=>hn _ _ _ (l1.trans l2) e2 q2) hs
 rcases (Zkt hv).2.2.2 with h0|⟨elt,target,iter,ifs,sc,lpos,rfl⟩
 .exact plain (h0 _ _ _ _)
 cases hb:(C.env.blockKind == .function&&C.env.kindOf x==some .local&&xp.line==lpos.line&&!(sc.names.any λ(n,k)=>n==x&&(k == .local||k == .cell))) with
 | false=>exact plain (show(pure _:Sem Bool)=_ by rw[<- hb];rfl)
 | true=>
  rcases hcmp elt target iter ifs sc lpos with h|⟨r',R',hin',h⟩
  .rw[h] at e;exact ff e
  .rw[h] at e;exact Zl8 X R' hin' x xp elt target iter ifs sc lpos pos q e hn hb
theorem Znc{vs:List Expr}(g:Expr->Bool)(h:∀ e,g e=Zfo e):vs.any g=vs.any Zfo:=by
 rw[show g=Zfo from funext h]
theorem Zyb(X:Cc c C)(ts:List Expr)(g:Expr->Option Str)(h:∀ e,g e=match e with | .Name id pos=>if C.env.kindOf id==some .local&&pos.line==(ts.head?.map (·.pos.line)).getD 0 then some id else none|_=>none):ts.filterMap g=Zs1 c.f ts:=by
 unfold Zs1
 have hk:∀ id,C.env.kindOf id=c.f.names.lookup id:=λid=>by show C.env.scope.names.lookup id=_;rw[X.nm]
 congr 1
 funext e
 rw[h e]
 cases e with
 | Name id pos=>show(if (C.env.kindOf id==some .local&&_)=true then _ else _)=_;rw[hk]
 | _=>rfl
theorem Zw7(X:Cc c C){ts vs:List Expr}{kt kv:Nat}{tp vp:Pos}{w:Option (List Str)}(h:swN2 c.f ts vs=some w):swappedStores [.Tuple ts kt tp] (.Tuple vs kv vp) C.env=pure w:=by
 exists (c C ts vs kt kv tp vp w),X,h
 unfold swN2 at h
 have hb:(C.env.blockKind != .function)=false:=by rw[Zhi X];rfl
 unfold swappedStores
 show(if (!(ts.length==2||ts.length==3)||vs.length != ts.length||C.env.blockKind != .function)=true then pure none else _)=_
 rw[hb,Bool.or_false]
 cases h1:(!(ts.length==2||ts.length==3)||vs.length != ts.length) with
 | true=>rw[h1] at h;cases h;rfl
 | false=>
  rw[h1] at h
  rw[if_neg (by decide)] at h ⊢
  rw[Znc]
  rotate_left
  .intro e;cases e <;> rfl
  cases h2:vs.any Zfo with
  | true=>rw[h2] at h;cases h;rfl
  | false=>
   rw[h2] at h
   rw[if_neg (by decide)] at h ⊢
   dsimp only
   rw[Zyb X]
   rotate_left
   .intro e;cases e <;> rfl
   cases h3:((Zs1 c.f ts).length != ts.length||(Zs1 c.f ts).eraseDups.length != (Zs1 c.f ts).length) with
   | true=>rw[h3] at h;cases h;rfl
   | false=>
    rw[h3] at h
    rw[if_neg (by decide)] at h ⊢
    cases h4:vs.all (foldedForSure 8) with
    | true=>rw[h4] at h;cases h;rfl
    | false=>
     rw[h4] at h
     rw[if_neg (by decide)] at h ⊢
     cases h5:vs.all (constantsAlone 8) with
     | true=>rw[h5] at h;cases h
     | false=>rw[h5] at h;cases h;rfl
theorem Z0m(X:Cc c C){ts:List Expr}{v:Expr}{kt:Nat}{tp:Pos}{w:Option (List Str)}(h:swN c.f ts v=some w):swappedStores [.Tuple ts kt tp] v C.env=pure w/\∀ line,swapsWithSole [.Tuple ts kt tp] v line C.env=pure false:=by
 induction v using Expr.casesOn with
 | Tuple vs kv vp=>exact⟨Zw7 X h,λY=>rfl⟩
 | _=>exact⟨congrArg pure (Qv h),λY=>rfl⟩
theorem Zvm{b:A}{ws:List V}{k:Nat->Bool}(hl:Zy6 a k=true)(ra:AR c.E D a (.tup vs))(rb:AR c.E D b (.tup ws)):AR c.E D (revT a b) (.tup (vs.reverse++ws)):=by
 induction a generalizing b vs ws k with
 | nil=>obtain rfl:vs=[]:=V.tup.inj ra;exact rb
 | cons x l _ ih=>
  obtain⟨v,us,e,rx,rl⟩:=ra
  obtain rfl:=V.tup.inj e
  rw[List.reverse_cons,Qs]
  exact ih (b:=.cons x b) (k:=λn=>k (Nat.add n 1)) hl rl ⟨v,ws,rfl,rx,rb⟩
 | _=>exact ff hl
theorem Z3m(X:Cc c C)(ns:List Str):∀ {D s J a vs k} {K:Wl},c.S D s J->AR c.E D a (.tup vs)->(stL c.f ns).run a s k=true->PS c D k K->AIO C (ns.map λn=>bindName C.env n) vs J K:=by
 induction ns with
 | nil=>exact λq ra e h=>Zl2 (R:=λY vs=>AIO C _ vs _ _) ra e (λe=>aio_nil (h.at e q)) λY Y Y Y Y Y e=>ff e
 | cons x ns ih=>exact λq ra e h=>Zl2 (R:=λY vs=>AIO C _ vs _ _) ra e (λe=>ff e) λy l v us rx rl e=>aio_cons (bn_store (Zfq X q rx e λD1 s1 J1 l1 e3 q1=>ih q1 (AR.le l1 rl) e3 (h.le l1)))
theorem Zxb(X:Cc c C)(R:RecOk r c C)(ts:List Expr)(kt:Nat)(tp:Pos)(v:Expr)(pos:Pos):OkX c C (asgT c.f r (.Tuple ts kt tp) (r.E c.f v) (swN c.f ts v)) (exec (.Assign [.Tuple ts kt tp] v pos) C.env):=by
 cases hw:swN c.f ts v with
 | none=>exact Zdo
 | some w=>
  have hs:=Z0m X (kt:=kt) (tp:=tp) hw
  induction w with
  | none=>
   intro D s J kn kb kc kr K q e hn _ _ _
   exact Zdj (R.E v q e λD1 a s1 va J1 l1 e1 ra q1=>R.S (.Tuple ts kt tp) q1 ra e1 (hn.le l1)) (hs.2 _) hs.1
  | some ns=>
   show OkX c C (ifB c.f.hd noX (swC c.f (r.E c.f v) ns)) _
   cases hd:c.f.hd with
   | true=>exact Zdo
   | false=>
    intro D s J kn kb kc kr K q e hn _ _ _
    refine Zej (X.hh hd) (R.E v q e λD1 a s1 va J1 l1 e1 ra q1=>Zob (Q:=λva=>∃ l,va = .tup l/\l.length=ns.length/\AIO C _ l.reverse J1 _) ra e1 λvs ra e2=>Zar e2 λh1 e3=>⟨vs,rfl,Qp h1,?_⟩) (hs.2 _) hs.1
    have rr:=Zvm (b:=.nil) (ws:=[]) e1 ra rfl
    rw[List.append_nil] at rr
    exact Z3m X ns.reverse q1 rr e3 (hn.le l1)
theorem Zyg(X:Cc c C)(P:Zd8 c.E p C.G)(R:RecOk r c C)(hin:Inn r c C)(hcmp:∀ elt target iter ifs sc p,r.E c.f (.ListComp elt [⟨target,iter,ifs,0⟩] sc p)=noE\/∃ r',RecOk r' c C/\Inn r' c C/\r.E c.f (.ListComp elt [⟨target,iter,ifs,0⟩] sc p)=Zeu c.f r' elt target iter ifs sc)(t v:Expr)(pos:Pos):OkX c C (fAsg p c.f r t v) (exec (.Assign [t] v pos) C.env):=by
 refine Zcp (P:=λt w=>OkX c C w (exec (.Assign [t] v pos) C.env)) t (λY=>Zdo) (λY Y Y=>Zdo) (λx xp=>Zm8 X R hin hcmp x xp v pos) (λo n ap=>ifX λhv=>?_) (λo i sp=>ifX λhv=>?_) (λts kt tp=>Zxb X R ts kt tp v pos) λY Y Y Y=>Zdo
 .exact λq e hn Y Y Y=>x_assign_attr (R.E v q e λD1 a s1 va J1 l1 e1 ra q1=>Zp1 P R o n ap q1 ra e1 (hn.le l1)) ((Zkt hv).2.1 _ _ _ _ _)
 .exact λq e hn Y Y Y=>Zdq (R.E v q e λD1 a s1 va J1 l1 e1 ra q1=>R.E o q1 e1 λD2 b s2 vb J2 l2 e2 rb q2=>R.E i q2 e2 λD3 x s3 vx J3 l3 e3 rx q3=>Zpo q3 (rb.le l3) rx (ra.le (l2.trans l3)) e3 (hn.le (l1.trans (l2.trans l3)))) ((Zkt hv).2.2.1 _ _ _ _ _)
theorem Zy3(X:Cc c C)(P:Zd8 c.E p C.G)(R:RecOk r c C)(t:Expr)(op:Operator)(v:Expr)(pos:Pos):OkX c C (fAug p c.f r t op v) (exec (.AugAssign t op v pos) C.env):=by
 exists (c C p r t op v pos),X,P,R
 refine Zcp (P:=λt w=>OkX c C w (exec (.AugAssign t op v pos) C.env)) t (λY=>Zdo) (λY Y Y=>Zdo) (λx xp=>?_) (λo n ap=>?_) (λY Y Y=>Zdo) (λY Y Y=>Zdo) λY Y Y Y=>Zdo
 .refine ifX λhx {D s J kn kb kc kr K} q e hn _ _ _=>get_k q.loc e λy a va h1 h2 h3 h4=>?_
  have hx:=eq_of_beq hx
  obtain rfl:=Ze1 h1
  exact Z2b (Zgx X.kd (nmE X hx) h2 (R.E v q h4 λD1 b s1 vb J1 l1 e1 rb q1=>Zqo op q1 (h3.le l1) rb e1 λD2 d s2 vd J2 l2 e2 rd q2=>Zfq X q2 rd e2 (hn.le (l1.trans l2))))
 .exact λq e hn Y Y Y=>x_aug_attr (R.E o q e λD1 b s1 vb J1 l1 e1 rb q1=>Zqf P n q1 rb e1 λD2 a s2 va J2 l2 e2 ra q2=>R.E v q2 e2 λD3 d s3 vd J3 l3 e3 rd q3=>Zqo op q3 (ra.le l3) rd e3 λD4 f s4 vf J4 l4 e4 rf q4=>
   Zqk P n q4 (rb.le (l2.trans (l3.trans l4))) rf e4 (hn.le (l1.trans (l2.trans (l3.trans l4)))))
end
end MI
namespace MI
open Mine
section
variable {c:Ct} {C:Cx} {p:Pg} {cal:Bool->Addr->CC} {r:Rec}
noncomputable def Ct.hdn(c:Ct):Ct:={ c with f:={ c.f with hd:=true } }
theorem Z33{D s J}(q:c.S D s J):c.hdn.S D s J:=⟨q.loc,q.cel,q.obs,q.fr⟩
theorem Zom{D s J}(q:c.hdn.S D s J):c.S D s J:=⟨q.loc,q.cel,q.obs,q.fr⟩
theorem Zsk{D k K}(h:PS c D k K):PS c.hdn D k K:=λD' s J l e q=>h D' s J l e (Zom q)
theorem pa_hd{D k K}(h:PA c D k K):PA c.hdn D k K:=λD' a s v J l e ra q=>h D' a s v J l e ra (Zom q)
theorem HR.tail{E:En}{T:Wg}{m:Hp}{l:Wg}(r:HR E D T m l):∃ l0,l=l0++T/\∀ T',HR E D T' m (l0++T'):=by
 induction m generalizing l with
 | nil=>exact⟨[],r,λT'=>rfl⟩
 | cons h o m ih=>
  obtain⟨a,x,l,rfl,e,q,t⟩:=r
  obtain⟨l0,rfl,k⟩:=ih (l:=l) t
  exact⟨(a,x)::l0,rfl,λT'=>⟨a,x,_,rfl,e,q,k T'⟩⟩
abbrev Z12:Wh:=λY Y=>False
theorem Holds.swE{fz:Addr->Option Obj}{E E':Wh}{ok:C.G.Ok fz}{s:Shared}(H:Holds (C.sw fz E ok) J s):Holds (C.sw fz E' ok) J s:=⟨H.frz,H.loc,H.obs,H.nd,H.ap,H.nn,H.gens,H.drawn,H.os⟩
theorem Z11{fz:Addr->Option Obj}{E:Wh}{ok:C.G.Ok fz}{t:Sem Value}{K:V->Wl}(h:EV (C.sw fz Z12 ok) t J K):EV (C.sw fz E ok) t J K:=λs H=>
 Zad (h s (Holds.swE H)) (λv s' q=>by obtain⟨a,J',k,r,H',t⟩:=q;exact⟨a,J',k,r,Holds.swE H',t⟩) λY Y f=>f.elim
theorem Z04{fz:Addr->Option Obj}{E:Wh}{ok:C.G.Ok fz}{t:Value->Sem Unit}{a:V}(h:U1 (C.sw fz Z12 ok) t a J K):U1 (C.sw fz E ok) t a J K:=λs v H r=>
 Zad (h s v (Holds.swE H) r) (λv s' q=>by obtain⟨a,J',k,r,H',t⟩:=q;exact⟨a,J',k,r,Holds.swE H',t⟩) λY Y f=>f.elim
theorem Z2w{fz:Addr->Option Obj}{ok:C.G.Ok fz}(X:Cc c C):Cc c (C.sw fz Z12 ok):=⟨λY Y h=>h,X.hh,X.gu,X.un,X.kd,X.nm,X.cl⟩
theorem Z02(X:Cc c C)(e:Addr):Cc c.hdn (C.hd e):=⟨λY Y h=>h,λh=>(nomatch h),X.gu,X.un,X.kd,X.nm,X.cl⟩
structure Trg(r:Rec)(c:Ct)(C:Cx):Prop where
 sw:∀ fz ok,RecOk r c (C.sw fz Z12 ok)
 hd:∀ e,RecOk r c.hdn (C.hd e)
 fr:∃ T0 fr,FrIn C fr/\c.T=T0++Zau fr
theorem Zr3(X:Cc c C)(P:Zd8 c.E p C.G)(R:RecOk r c C)(hd:c.f.hd=false)(G:Trg r c C)
  {suite:List Stmt} {b0:Stmt} {px pos' pos:Pos} (hx:x = "StopIteration") (hx2:c.f.names.lookup x=some .globalImplicit) (y:Str) (yp:Pos) (o i:Expr) (sp cp ap bp:Pos):OkX c C (tryC c.f y (r.E c.f (.Subscript o i sp)) (r.X { c.f with hd:=true } (b0::suite))) (exec (.Try [.Assign [.Name y yp] (.Call (.Subscript o i sp) [] [] cp) ap,.Break bp] [.ExceptHandler (some (.Name x px)) none (b0::suite) pos'] [] [] pos) C.env):=by
 exists (x c C p r suite b0 px pos' pos y yp o i sp cp ap bp),X,P,R,hd,G,hx,hx2
 intro D s J kn kb kc kr K q e hn hb hc hr
 obtain⟨T0,fr,hf,hT⟩:=G.fr
 refine x_try (K2:=λJe=>∃ D' s',Le D D'/\c.S D' s' Je/\(r.X { c.f with hd:=true } (b0::suite)).run s' kn kb kc kr=true) hf (λfz ok E hE=>?_) (λJe k2=>?_) X.kd (nmE X hx2) (by rw[hx];exact P.st.1) (by rw[hx];exact P.st.2) (by rw[hx];decide)
 .have X0:=Z2w (fz:=fz) (ok:=ok) X
  refine Zag (Zd7 (C:=C.sw fz E ok) (Zgw (Z11 ((G.sw fz ok).E (.Subscript o i sp) q e λD1 m s1 vm J1 l1 e1 rm q1=>?_)) rfl) rfl)
  refine Zdv (Q:=λvm=>CA (C.sw fz E ok) vm [] [] _ C.env J1 _) rm e1 λh am qm e=>Za0 q1 qm e λom z pt e=>Zn2 (pt D1 (Le.refl _)) e λit a qa pt e=>Zay (.inr rfl) (Zk6 ⟨pt,?_⟩) rfl
  refine Za0 q1 qa e λoi z2 p2 e=>Zjd (p2 D1 (Le.refl _)) e λhl n al ql p2 e=>Za3 q1 ql e λl vs p3 t e=>Zrf e (λh1 e=>Zp8 q1 p2 e λs' l' pk q' e=>?_) λw h1 e=>t.get_k h1 λv hv rv=>?_
  .exact Zr9 (X.hh hd) pt p3.lk pk (t.none h1) λe' s2 H' hx h1 h2 h3=>hE e' _ s2 ⟨D1,s',l1,q',e⟩ H' hx h1 h2 h3
  .exact Zg4 q1 p2 (o':=.liter hl (n+1)) (x':=.liter al (n+1)) ⟨al,ql,rfl⟩ (Za1 (n:=n+1) (k:=λi=>s1.up it (.liter hl i) λs=>(stC c.f y).run w s kb) e) λs' l' u q' e=>
    Zlp pt p3.lk u hv (Z04 (Zfq X0 q' rv e λD2 s2 J2 l2 e10 q2=>Zag (Zvw (hb _ _ _ (l1.trans l2) e10 q2))))
 .obtain⟨D',s',le,q',e'⟩:=k2
  refine⟨λp hp=>?_,λe=>(G.hd e).X (b0::suite) (Z33 q') e' (Zsk (hn.le le)) (Zsk (hb.le le)) (Zsk (hc.le le)) (pa_hd (hr.le le))⟩
  obtain⟨l0,h,_⟩:=HR.tail q'.obs
  rw[h,hT]
  exact Qk _ (Qk _ hp)
theorem Zz9{P:Stmt->CX->Prop}{k:List Expr->Expr->CX}{br:CX}(s:Stmt)(bad:∀ s,P s noX)(h1:∀ ts v p,P (.Assign ts v p) (k ts v))(h2:∀ p,P (.Break p) br):P s (asS k br s):=by
 induction s using Stmt.casesOn with
 | Assign ts v p=>exact h1 ts v p
 | Break p=>exact h2 p
 | _=>exact bad _
theorem Zv8(X:Cc c C)(P:Zd8 c.E p C.G)(R:RecOk r c C)(hd:c.f.hd=false)(G:Trg r c C)
  {body suite:List Stmt} {b0:Stmt} {px pos' pos:Pos} (hx:x = "StopIteration") (hx2:c.f.names.lookup x=some .globalImplicit):OkX c C (fTry c.f r body (r.X { c.f with hd:=true } (b0::suite))) (exec (.Try body [.ExceptHandler (some (.Name x px)) none (b0::suite) pos'] [] [] pos) C.env):=by
 let Q:List Stmt->CX->Prop:=λl w=>OkX c C w (exec (.Try l [.ExceptHandler (some (.Name x px)) none (b0::suite) pos'] [] [] pos) C.env)
 have bad:∀ l,Q l noX:=λY=>Zdo
 show Q body _
 induction body with
 | nil=>exact bad _
 | cons s1 l=>
  exact Zgu (P:=λl w=>Q (s1::l) w) l (λY=>bad _) λs2=>Zz9 (P:=λs2 w=>Q [s1,s2] w) s2 (λY=>bad _) (λY Y Y=>bad _) λbp=>Zz9 (P:=λs1 w=>Q [s1,.Break bp] w) s1 (λY=>bad _)
   (λts v ap=>Zgu (P:=λts w=>Q [.Assign ts v ap,.Break bp] w) ts (λY=>bad _) λt=>Zcp (P:=λt w=>Q [.Assign [t] v ap,.Break bp] w) t (λY=>bad _) (λY Y Y=>bad _) (λy yp=>Zcp (P:=λv w=>Q [.Assign [.Name y yp] v ap,.Break bp] w) v (λY=>bad _) (λY Y Y=>bad _) (λY Y=>bad _) (λY Y Y=>bad _) (λY Y Y=>bad _) (λY Y Y=>bad _)
    λfn l kw cp=>Zia (P:=λl w=>Q [.Assign [.Name y yp] (.Call fn l kw cp) ap,.Break bp] w) l (λY=>bad _) <| Zia (P:=λkw w=>Q [.Assign [.Name y yp] (.Call fn [] kw cp) ap,.Break bp] w) kw (λY=>bad _) <| Zcp (P:=λfn w=>Q [.Assign [.Name y yp] (.Call fn [] [] cp) ap,.Break bp] w) fn (λY=>bad _) (λY Y Y=>bad _) (λY Y=>bad _) (λY Y Y=>bad _)
     (λo i sp=>Zr3 X P R hd G hx hx2 y yp o i sp cp ap bp) (λY Y Y=>bad _) λY Y Y Y=>bad _) (λY Y Y=>bad _) (λY Y Y=>bad _) (λY Y Y=>bad _) λY Y Y Y=>bad _) λY=>bad _
end
end MI
namespace MI
open Mine
section
variable {c:Ct} {C:Cx} {p:Pg} {cal:Bool->Addr->CC} {r:Rec}
theorem Zky(X:Cc c C):interactive C.env=false:=by
 unfold interactive
 rw[X.kd];rfl
theorem Zx9{e:Expr}(h:calE e=true){t:Option Expr}{line:Nat}:swapsWith e t line env=pure false:=by
 revert h
 exact Zcp (P:=λe b=>b=true->swapsWith e t line env=pure false) e (λY h=>ff h) (λY Y Y h=>ff h) (λY Y h=>ff h) (λY Y Y h=>ff h) (λY Y Y h=>ff h) (λY Y Y h=>ff h) λY Y Y Y Y=>rfl
theorem Z25{t1 t2 v:Expr}(h:plE t1=true):swappedStores [t1,t2] v env=pure none:=by
 induction t1 using Expr.casesOn <;> rfl
def Z4s(r:Rec)(c:Ct)(C:Cx):Prop:=∀ elt target iter ifs sc p,r.E c.f (.ListComp elt [⟨target,iter,ifs,0⟩] sc p)=noE\/∃ r',RecOk r' c C/\Inn r' c C/\r.E c.f (.ListComp elt [⟨target,iter,ifs,0⟩] sc p)=Zeu c.f r' elt target iter ifs sc
theorem Zyu(R:RecOk r c C)(t1 t2 v:Expr)(pos:Pos):OkX c C (ifB (plA [t1,t2]&&knE v) ⟨λs kn Y Y Y=>(r.E c.f v).run s λa s=>(r.S c.f t1).run a s λs=>(r.S c.f t2).run a s kn⟩ noX) (exec (.Assign [t1,t2] v pos) C.env):=by
 refine ifX λhb {D s J kn kb kc kr K} q e hn _ _ _=>?_
 rw[Qt] at hb
 have h1:=Zce hb.1
 have h2:=Zce h1.2
 have e:(r.E c.f v).run s (λa s=>(r.S c.f t1).run a s λs=>(r.S c.f t2).run a s kn)=true:=e
 exact x_assign2 (R.E v q e λD1 a s1 va J1 l1 e1 ra q1=>R.S t1 q1 ra e1 λD2 s2 J2 l2 e2 q2=>R.S t2 q2 (ra.le l2) e2 (hn.le (l1.trans l2)))
  (λw=>by rw[as1 h1.1,as1 h2.1];rfl) rfl (Z25 h1.1)
theorem Z3t(X:Cc c C)(R:RecOk r c C)(t it:Expr)(b o:List Stmt)(pos:Pos)(h1:c.f.hd=false)(h2:knE it=true)(h3:tgB t=true):OkX c C (forC (Zbi t) (r.E c.f it) (r.S c.f t) (r.X c.f b) (r.X c.f o)) (exec (.For t it b o pos) C.env):=by
 intro D s J kn kb kc kr K q e hn hb hc hr
 unfold forC at e
 obtain⟨n',hn'⟩:∃ n',n'=Zgt:=⟨_,rfl⟩
 rw[<- hn'] at e
 exact Zuo (R.E it q e λD1 a s1 va J1 l1 e1 ra q1=>Zko q1 ra e1 λD2 i s2 it2 J2 l2 e2 ri q2=>Zu5 X h1 R b o h3 n' q2 ri e2 (Ks.le ⟨hn,hb,hc,hr⟩ (l1.trans l2))) (Zgj h2)
theorem Z2d(X:Cc c C)(R:RecOk r c C)(t:Expr)(b o:List Stmt)(pos:Pos):OkX c C (whC (r.B c.f t) (r.X c.f b) (r.X c.f o)) (exec (.While t b o pos) C.env):=by
 intro D s J kn kb kc kr K q e hn hb hc hr
 unfold whC at e
 obtain⟨n',hn'⟩:∃ n',n'=Zgt:=⟨_,rfl⟩
 rw[<- hn'] at e
 exact Zex (Z4h X R t b o s.nx n' q e ⟨hn,hb,hc,hr⟩)
theorem hdX_k{P:ExceptHandler->CX->Prop}{k:Str->Stmt->List Stmt->CX}(h:ExceptHandler)(bad:∀ h,P h noX)(w:∀ x px b0 su p,P (.ExceptHandler (some (.Name x px)) none (b0::su) p) (k x b0 su)):P h (hdX k h):=by
 induction h using ExceptHandler.casesOn with
 | ExceptHandler t nm su p=>
  unfold hdX
  induction nm with
  | some _=>exact bad _
  | none=>
  exact Zzl (P:=λt w=>P (.ExceptHandler t none su p) w) t (bad _) λt=>Zcp (P:=λt w=>P (.ExceptHandler (some t) none su p) w) t (λY=>bad _) (λY Y Y=>bad _) (λx px=>by
   induction su with
   | nil=>exact bad _
   | cons b0 su=>exact w x px b0 su p) (λY Y Y=>bad _) (λY Y Y=>bad _) (λY Y Y=>bad _) λY Y Y Y=>bad _
theorem Z3y(X:Cc c C)(P:Zd8 c.E p C.G)(R:RecOk r c C)(hin:Inn r c C)(hcmp:Z4s r c C)(ht:c.f.md=true->c.f.hd=false->Trg r c C)(st:Stmt):OkX c C (fSt p c.f r st) (exec st C.env):=by
 exists (c C p r st),X,P,R,hin,hcmp,ht
 unfold fSt
 induction st using Stmt.casesOn with
 | Return v pos=>
  refine Zzl (P:=λv w=>OkX c C w (exec (.Return v pos) C.env)) v Zdo λv=>?_
  exact λq e Y Y Y hr=>Z10 (R.E v q e hr)
 | Assign ts v pos=>induction ts with
  | nil=>exact Zdo
  | cons t ts=>induction ts with
   | nil=>exact Zyg X P R hin hcmp t v pos
   | cons t2 l=>exact Zia (P:=λl w=>OkX c C w (exec (.Assign (t::t2::l) v pos) C.env)) l (λY=>Zdo) (Zyu R t t2 v pos)
 | AugAssign t op v pos=>exact Zy3 X P R t op v pos
 | If t b o pos=>exact λq e hn hb hc hr=>Z4t (R.B t q e (λD1 s1 J1 l1 e1 q1=>⟨λY=>R.XK b q1 e1 (Ks.le ⟨hn,hb,hc,hr⟩ l1),λz=>nomatch z⟩) λD1 s1 J1 l1 e1 q1=>⟨λz=>(nomatch z),λY=>R.XK o q1 e1 (Ks.le ⟨hn,hb,hc,hr⟩ l1)⟩)
 | While t b o pos=>exact Z2d X R t b o pos
 | For t it b o pos=>
  refine ifX λhs=>?_
  rw[Qt,Bool.not_eq_true',Qt] at hs
  exact Z3t X R t it b o pos hs.1 hs.2.1 hs.2.2
 | Expr v pos=>exact ifX λhs=>λq e hn Y Y Y=>x_expr (R.E v q e λD1 a s1 va J1 l1 e1 ra q1=>hn _ _ _ l1 e1 q1) (Zky X) (Zx9 hs)
 | Assert t m pos=>exact λq e hn Y Y Y=>x_assert (R.B t q e (λD1 s1 J1 l1 e1 q1=>⟨rfl,hn _ _ _ l1 e1 q1⟩) λD1 s1 J1 l1 e1 q1=>ff e1)
 | Delete ts pos=>
  refine Zgu (P:=λts w=>OkX c C w (exec (.Delete ts pos) C.env)) ts (λY=>Zdo) λt=>Zcp (P:=λt w=>OkX c C w (exec (.Delete [t] pos) C.env)) t (λY=>Zdo) (λY Y Y=>Zdo) (λY Y=>Zdo) (λY Y Y=>Zdo) (λo i sp=>?_) (λY Y Y=>Zdo) λY Y Y Y=>Zdo
  exact λq e hn Y Y Y=>x_del_sub (R.E o q e λD1 a s1 va J1 l1 e1 ra q1=>R.E i q1 e1 λD2 b s2 vb J2 l2 e2 rb q2=>Zvo q2 (ra.le l2) rb e2 (hn.le (l1.trans l2)))
 | Try body hs oe fb pos=>
  refine Zia (P:=λoe w=>OkX c C w (exec (.Try body hs oe fb pos) C.env)) oe (λY=>Zdo) <| Zia (P:=λfb w=>OkX c C w (exec (.Try body hs [] fb pos) C.env)) fb (λY=>Zdo) <| Zgu (P:=λhs w=>OkX c C w (exec (.Try body hs [] [] pos) C.env)) hs (λY=>Zdo) λh=>hdX_k (P:=λh w=>OkX c C w (exec (.Try body [h] [] [] pos) C.env)) h (λY=>Zdo) λx px b0 suite pos'=>?_
  refine ifX λh1=>?_
  simp only[Qt,Bool.not_eq_true'] at h1
  obtain⟨⟨hm,hd⟩,hx2⟩:=h1
  cases hx:x==("StopIteration" : Str) with
  | true=>exact Zv8 X P R hd (ht hm hd) (eq_of_beq hx) (eq_of_beq hx2)
  | false=>
   refine ifX λ_ {D s J kn kb kc kr K} q e hn _ _ _=>?_
   have e:(r.X c.f body).run s kn We We Wd=true:=e
   exact Zzw X.hE rfl (R.X body q e hn (λY Y Y Y e Y=>ff e) (λY Y Y Y e Y=>ff e) λY Y Y Y Y Y e Y Y=>ff e)
 | Break pos=>exact λq e Y hb Y Y=>Zvw (hb.at e q)
 | Continue pos=>exact λq e Y Y hc Y=>Zth (hc.at e q)
 | Pass pos=>exact λq e hn Y Y Y=>Zti (hn.at e q)
 | _=>exact Zdo
theorem fX_ok(X:Cc c C)(P:Zd8 c.E p C.G)(R:RecOk r c C)(hin:Inn r c C)(hcmp:Z4s r c C)(ht:c.f.md=true->c.f.hd=false->Trg r c C)(ss:List Stmt):OkX c C (fX p c.f r ss) (execs ss C.env):=by
 intro D s J kn kb kc kr K q e hn hb hc hr
 induction ss with
 | nil=>exact Zo7 (hn.at e q)
 | cons st l=>exact Zag (Z3y X P R hin hcmp ht st q e (λD1 s1 J1 l1 e1 q1=>R.XK l q1 e1 (Ks.le ⟨hn,hb,hc,hr⟩ l1)) hb hc hr)
theorem Z3r(X:Cc c C)(P:Zd8 c.E p C.G)(Q:Zci p cal c C)(R:RecOk r c C)(hstar:Zkw p cal r c C)(hin:Inn r c C)(hcmp:Z4s r c C)(ht:c.f.md=true->c.f.hd=false->Trg r c C):RecOk (stp p cal r) c C:=
 ⟨fE_ok X P Q R hstar (Zrc X R hin),fB_ok X R,fT_ok R,fL_ok R,fX_ok X P R hin hcmp ht,fS_ok X P R,fV_ok R⟩
theorem Z0s:RecOk no0 c C:=⟨λY Y Y Y Y Y Y e=>ff e,λY Y Y Y Y Y Y Y e=>ff e,λY Y Y Y Y Y Y Y Y e=>ff e,λY Y Y Y Y Y Y Y Y e=>ff e,λY Y Y Y Y Y Y Y Y Y e=>ff e,λY Y Y Y Y Y Y Y Y Y e=>ff e,λY Y Y Y Y Y Y Y Y Y Y e=>ff e⟩
end
end MI
namespace MI
open Mine
section
variable {c:Ct} {C:Cx} {p:Pg} {cal:Bool->Addr->CC} {r:Rec}
theorem Zng{x:Expr}{Q:Expr->Option Expr->Prop}(q1:∀ x,Q x none)(q2:∀ e sp,Q (.Starred e sp) (some e)):Q x (Zo5 x):=by
 induction x using Expr.casesOn with
 | Starred e sp=>exact q2 e sp
 | _=>exact q1 _
theorem Zf5{o:Expr}{name:Str}{apos:Pos}{args:List Expr}{K:V->Wl}(hb:Zy9 o=true)(hst:(backTo pos (starEach args C.env)).any (·.1)=true)
  (h:EV C (eval o C.env) J λa J_1=>GA C name a J_1 λm J_2=>CA C m [] args pos C.env J_2 K):EV C (eval (.Call (.Attribute o name apos) args [] pos) C.env) J K:=by
 exists (J pos C o name apos args K),hb,hst,h
 intro s H
 have hf:methodCallForm (args.length+([]:List Keyword).length) (backTo pos (starEach args C.env)) (backToKw pos (keywordEach [] C.env))=false:=by
  have h1:(backTo pos (starEach args C.env)).all (!·.1)=false:=by
   rw[<- Bool.not_eq_true,List.all_eq_true]
   intro q
   obtain⟨x,hx,hx2⟩:=List.any_eq_true.mp hst
   have:=q x hx
   rw[hx2] at this;cases this
  show((backTo pos (starEach args C.env)).all (!·.1)&&true&&_)=false
  rw[h1];rfl
 rw[arm_eval_Call,Zi6 hb]
 refine Zaa (h.step H λa J_1 v s_1 k r H_1 t=>Zaa (Zac ?_))
 show wpP _ _ (methodCall o name apos pos C.env v (args.length+([]:List Keyword).length) (backTo pos (starEach args C.env)) (backToKw pos (keywordEach [] C.env))) _ _ _
 unfold methodCall methodCallPos calleeOf
 rw[hf]
 refine Zaa (Zae (Zaa (Zad (k s_1 v H_1 r) (λm s_2 y=>Zab ?_) λY Y e=>e)))
 obtain⟨a_2,J_2,k_2,r_2,H_2,t_2⟩:=y
 exact Zaa (Zab (Zad (k_2 s_2 m [] H_2 r_2 .nil) (λY Y p=>p.tk (t.trans t_2)) λY Y e=>e))
theorem Zkm(X:Cc c C)(Q:Zci p cal c C)(R:RecOk r c C)(e:Expr){m:Nat}{am:Addr}{g:Addr}{k:KA}{K:V->Wl}(hf:fnIn C.G.K g=true){D s J l vs}(q:c.S D s J)(hm:D m=some am)(rl:LR c.E D l vs)(h:Zps c.f cal k m g (r.E c.f e) l s=true)(hk:PA c D k K) :
  EV C (eval e C.env) J λb J_1=>∃ l2,Zpp b l2 J_1/\Mine.KeepAt C (.ref am) J_1/\CF C (.ref am) (vs++l2) J_1 K:=by
 refine R.E e q h λD1 b s1 vb J1 l1 e1 rb q1=>?_
 have fin:∀ {l2 vs2},LR c.E D1 l2 vs2->(len l2 λY=>s1.lk m λo=>o.onBm λg' h'=>gd (Nat.beq g g') (s1.rm m λs=>app l l2 λl=>(Zx3 c.f cal g').run (.ref h'::l) s k))=true->vs2.length<=sizeLine/\Mine.KeepAt C (.ref am) J1/\CF C (.ref am) (vs++vs2) J1 K:=λ{l2 vs2} t e=>by
  refine Zao e λh1 e=>Za0 q1 (l1 _ _ hm) e λo z p e=>bm_k (p D1 (Le.refl _)) e λg' h' b hb p e=>Zar e λh2 e9=>?_
  obtain rfl:g=g':=Qp h2
  refine⟨by rw[t.length];exact Zbs h1,Zyt hf p.lk,Zp8 q1 p e9 λs' l' pk q' e=>Zwj pk ?_⟩
  exact Q.ok g (l:=.ref h'::(l++l2)) q' ⟨_,_,rfl,⟨b,hb,rfl⟩,(rl.le l1).append t⟩ (Zcn (k:=λl=>(Zx3 c.f cal g).run (.ref h'::l) s' k) e) (hk.le l1)
 exact Zzo (Q:=λvb=>∃ l2,Zpp vb l2 J1/\Mine.KeepAt C (.ref am) J1/\CF C (.ref am) (vs++l2) J1 K) q1 rb e1 (λl2 b vs2 p t e=>⟨vs2,⟨(fin t e).1,.inr ⟨b,rfl,p⟩⟩,(fin t e).2⟩) λl2 vs2 t e=>⟨vs2,⟨(fin t e).1,.inl rfl⟩,(fin t e).2⟩
theorem Zkz(X:Cc c C)(P:Zd8 c.E p C.G)(Q:Zci p cal c C)(R:RecOk r c C)(n:Str)(ini:Option CE)(e:Expr){D s J a va k}{K:V->Wl}{K2:V->Wl}(q:c.S D s J)(ra:AR c.E D a va)(h:(Z4d p c.f cal n ini (r.E c.f e)).run a s k=true)
  (w:∀ D' m am g s' J',Le D D'->c.S D' s' J'->D' m=some am->fnIn C.G.K g=true->Option.rec (motive:=Wf) (Zps c.f cal k m g (r.E c.f e) [] s') (λx=>x.run s' λb s=>Zps c.f cal k m g (r.E c.f e) [b] s) ini=true->K2 (.ref am) J'):GA C n va J K2:=
 Zdv (Q:=λva=>GA C n va J K2) ra h λhd b hb h=>Zno P q hb h λg cl ad m pt p2 h1 h3 h=>Zvy g pt p2 h1.2.2 h3 λam=>Zc7 q (o:=.bm g hd) (x:=.raw (methodObj (.ref g) (.ref b))) ⟨b,hb,rfl⟩ am h λs' n D' le ea q' h=>w D' n am g s' _ le q' ea (by
  have:=h1.2.2
  unfold Zfe at this
  rw[Qt] at this
  exact this.2) h
theorem Zxa(X:Cc c C)(P:Zd8 c.E p C.G)(Q:Zci p cal c C)(R:RecOk r c C):Zkw p cal r c C:=by
 exists (c C p cal r),X,P,Q,R
 intro o n ap args pos hb
 match args with
 | []=>intro _ _ _ _ _ _ e _;exact ff e
 | _::_::_::_=>intro _ _ _ _ _ _ e _;exact ff e
 | [x]=>
  show OkE c C (Zmm p c.f cal r o n ((Zo5 x).map λe=>(none,e))) _
  refine Zng (x:=x) (Q:=λx q=>OkE c C (Zmm p c.f cal r o n (q.map λe=>(none,e))) (eval (.Call (.Attribute o n ap) [x] [] pos) C.env)) (λY=>Ze2) λe sp=>?_
  intro D s J k K q h hk
  exact Zf5 hb rfl (R.E o q h λD1 a s1 va J1 l1 e1 ra q1=>Zkz (K:=λY Y=>True) X P Q R n none e q1 ra e1 λD' m am g s' J' le q' hm hf h=>Zrd (Zkm X Q R e hf q' hm (show LR c.E D' [] [] from rfl) h (hk.le (l1.trans le))))
 | [x,y]=>
  show OkE c C (Zmm p c.f cal r o n (ifB (plE x) ((Zo5 y).map λe=>(some x,e)) none)) _
  cases hx:plE x with
  | false=>intro _ _ _ _ _ _ e _;exact ff e
  | true=>
   refine Zng (x:=y) (Q:=λy q=>OkE c C (Zmm p c.f cal r o n (q.map λe=>(some x,e))) (eval (.Call (.Attribute o n ap) [x,y] [] pos) C.env)) (λY=>Ze2) λe sp=>?_
   have hs:=Zyk (l:=[.Starred e sp]) (env:=C.env) hx
   intro D s J k K q h hk
   exact Zf5 hb (by rw[hs];rfl) (R.E o q h λD1 a s1 va J1 l1 e1 ra q1=>Zkz (K:=λY Y=>True) X P Q R n (some (r.E c.f x)) e q1 ra e1 λD' m am g s' J' le q' hm hf h=>Zrg (by rw[hs];rfl) (λx=>by rw[hs];exact λe=>nomatch (List.cons.inj e).2)
    (Zkf (R.E x q' h λD2 b s2 vb J2 l2 e2 rb q2=>Zwz ((Zkm X Q R e hf q2 (l2 _ _ hm) (show LR c.E D2 [b] [vb] from⟨vb,[],rfl,rb,rfl⟩) e2 (hk.le ((l1.trans le).trans l2))).mono λb J k=>k.imp λl2 k=>k)) hs))
end
end MI
namespace MI
open Mine
structure Phi(E:En)(G:Gl)(d:Nat)(c:Ct)(C:Cx):Prop where
 e:c.E=E
 g:C.G=G
 good:c.f.hd=false->Good C.A (d+1)
 X:Cc c C
 fr:c.f.md=true->c.f.hd=false->∃ T0 fr,FrIn C fr/\c.T=T0++Zau fr
def Zml(E:En)(G:Gl)(d:Nat)(cal:Bool->Addr->CC):Prop:=∀ c C,c.E=E->C.G=G->Good C.A (d+1)->(c.f.md=true->∃ T0 fr,FrIn C fr/\c.T=T0++Zau fr)->∀ a,Zqz c C (cal c.f.md a).run (.ref a)
section
variable {E:En} {G:Gl} {p:Pg} {cal:Bool->Addr->CC} {d:Nat}
theorem Zc4(P:Zd8 E p G)(kp:∀ a,kpB p a=true->keepIn G.K (.ref a)=true)(Q:Zml E G d cal)(n:Nat):∀ {c C},Phi E G d c C->RecOk (Zoh p cal n) c C/\Z4s (Zoh p cal n) c C:=by
 induction n with
 | zero=>exact λY=>⟨Z0s,λY Y Y Y Y Y=>.inl rfl⟩
 | succ n ih=>
  intro c C H
  have hin:Inn (Zoh p cal n) c C:=λhd c' C' e1 e2 e3 e4 e5 X'=>(ih ⟨e1.trans H.e,e2.trans H.g,λY=>by rw[e3];exact H.good hd,X',λh=>by rw[e4] at h;cases h⟩).1
  have P':Zd8 c.E p C.G:=by rw[H.e,H.g];exact P
  have Q':Zci p cal c C:=⟨λa=>?_,λa h=>by rw[H.g];exact kp a h⟩
  .exact⟨Z3r H.X P' Q' (ih H).1 (Zxa H.X P' Q' (ih H).1) hin (ih H).2 λhm hd=>⟨λfz ok=>(ih (c:=c) (C:=C.sw fz Z12 ok) ⟨H.e,H.g,H.good,Z2w H.X,H.fr⟩).1,λe=>(ih (c:=c.hdn) (C:=C.hd e) ⟨H.e,H.g,λh=>(nomatch h),Z02 H.X e,λY h=>(nomatch h)⟩).1,H.fr hm hd⟩,
    λY Y Y Y Y Y=>.inr ⟨_,(ih H).1,hin,rfl⟩⟩
  unfold Zx3
  cases hd:c.f.hd with
  | true=>exact λY Y e Y=>ff e
  | false=>exact λq rl e h=>Q c C H.e H.g (H.good hd) (λhm=>H.fr hm hd) a q rl e h
end
theorem Zgl{k:List A->List A->Bool}(h:Zj8 l n k=true):n<=l.length/\k (l.take n) (l.drop n)=true:=by
 induction l generalizing n k with
 | nil=>
  induction n with
  | zero=>exact⟨Qw _,h⟩
  | succ n=>cases h
 | cons a l ih=>
  induction n with
  | zero=>exact⟨Nat.zero_le _,h⟩
  | succ n=>
   obtain⟨h1,h2⟩:=ih (k:=λx y=>k (a::x) y) h
   exact⟨Nat.succ_le_succ h1,h2⟩
def Zis(G:Gl)(fd:FuncData)(names:List Str):Nat->Prop
 | 0=>∀ vs:List Value,vs.length=names.length->bindArgs fd ⟨vs,[]⟩=pure (names.zip vs)
 | 1=>∀ args more:List V,args.length+1=names.length->more.length<=sizeLine->Binds G fd names (args++more) (args++[.tup more])
 | _=>∀ args:List V,args.length+1=names.length->Binds G fd names args (args++[.none])
theorem drop_nil(h:n<=l.length)(h2:emL (l.drop n)=true):l.length=n:=by
 have hd:l.drop n=[]:=by
  cases hl:l.drop n with
  | nil=>rfl
  | cons _ _=>rw[hl] at h2;exact ff h2
 exact Nat.le_antisymm (List.drop_eq_nil_iff.mp hd) h
theorem Zw0{E:En}{G:Gl}{fd:FuncData}{names:List Str}{kind:Nat}(B:Zis G fd names kind){k:List A->Bool}(r:LR E D l vs)(e:Z0o kind names.length l k=true)
  (q:∀ l' vs',LR E D l' vs'->vs'.length=names.length->Binds G fd names vs vs'->(kind=0->vs'=vs)->k l'=true->Q):Q:=by
 match kind,B with
 | 0,B=>
  have h1:=Zgl (show Zj8 l names.length (λx y=>gd (emL y) (k x))=true from e)
  refine Zar h1.2 λh2 h3=>?_
  have hn:=drop_nil h1.1 h2
  rw[<- hn,List.take_length] at h3
  exact q l vs r (by rw[r.length];exact hn) (Binds.plain (by rw[r.length];exact hn.symm) B) (λY=>rfl) h3
 | 1,B=>
  cases hn:names.length with
  | zero=>rw[hn] at e;exact ff e
  | succ m=>
   rw[hn] at e q
   have h1:=Zgl (show Zj8 l m (λx y=>len y λY=>Z16 y λt=>app x [t] k)=true from e)
   have r1:LR E D (l.take m) (vs.take m):=r.take
   have r2:LR E D (l.drop m) (vs.drop m):=r.drop
   refine Zao h1.2 λh2 h3=>Zpb (c:=⟨E,⟨[],[],[],false,false⟩,[],[]⟩) r2 h3 λt rt e3=>?_
   have hl:(vs.take m).length=m:=by rw[List.length_take,r.length];exact Nat.min_eq_left h1.1
   refine q (l.take m++[t]) (vs.take m++[.tup (vs.drop m)]) (r1.append ⟨_,_,rfl,rt,rfl⟩) (by rw[List.length_append,hl];rfl) ?_ (λh=>(nomatch h)) (Zcn e3)
   have:=B (vs.take m) (vs.drop m) (by rw[hl,hn]) (by rw[r2.length];exact Zbs h2)
   rw[List.take_append_drop] at this
   exact this
 | n+2,B=>
  cases hn:names.length with
  | zero=>rw[hn] at e;exact ff e
  | succ m=>
   rw[hn] at e q
   have h1:=Zgl (show Zj8 l m (λx y=>gd (emL y) (app x [.none] k))=true from e)
   refine Zar h1.2 λh2 h3=>?_
   have hm:=drop_nil h1.1 h2
   have h3:=Zcn h3
   rw[<- hm,List.take_length] at h3
   refine q (l++[.none]) (vs++[.none]) (r.append (show LR E D [.none] [V.none] from⟨.none,[],rfl,rfl,rfl⟩)) (by rw[List.length_append,r.length,hm];rfl) ?_ (λh=>(nomatch h)) h3
   exact B vs (by rw[r.length,hm,hn])
theorem Zx5{E:En}{D:Rh}{sn:List (Str×NameKind)}{rest:List Str}(names:List Str):∀ {l:List A} {vs:List V} {k:Lc->Bool},LR E D l vs->vs.length=names.length->Z4x sn names rest l k=true ->
  ∃ lc,LcR E D lc (names.filter (λx=>sn.lookup x==some .local)++rest) ((names.zip (vs.map some)).filter (λp=>sn.lookup p.1==some .local)++rest.map (·,none))/\k lc=true:=by
 exists (E D sn rest names)
 induction names with
 | nil=>
  intro l vs k r hn e
  have e1:=Zj4 (show gd (emL l) (k (Zy2 rest))=true from e)
  have hv:vs=[]:=List.eq_nil_of_length_eq_zero hn
  subst hv
  exact⟨Zy2 rest,Zqh (c:=⟨E,⟨[],[],[],false,false⟩,[],[]⟩) rest,e1.2⟩
 | cons x names ih=>
  intro l vs k r hn e
  induction l with
  | nil=>cases e
  | cons a l=>
   obtain⟨v,w,rfl,ra,q⟩:=r
   have hn:w.length=names.length:=Nat.succ.inj hn
   rw[Qr,List.zip_cons_cons,List.filter_cons,List.filter_cons]
   rcases Znf (show iff (sn.lookup x==some .local) (Z4x sn names rest l λt=>k (.so a t)) (Z4x sn names rest l k)=true from e) with⟨h1,h2⟩|⟨h1,h2⟩
   .obtain⟨lc,rl,e2⟩:=ih (k:=λt=>k (.so a t)) q hn h2
    rw[if_pos h1,if_pos h1]
    exact⟨.so a lc,⟨x,_,v,_,rfl,rfl,ra,rl⟩,e2⟩
   .obtain⟨lc,rl,e2⟩:=ih q hn h2
    rw[if_neg (by rw[h1];decide),if_neg (by simp only[h1];decide)]
    exact⟨lc,rl,e2⟩
theorem Zv6{E:En}(names:List Str):∀ {l:List A} {vs:List V},LR E D l vs->CR E D (Zzv x names l) ((names.zip vs).lookup x):=by
 induction names with
 | nil=>intro l vs r;exact rfl
 | cons y names ih=>
  intro l vs r
  induction l with
  | nil=>obtain rfl:vs=[]:=r;exact rfl
  | cons a l=>
   obtain⟨v,w,rfl,ra,q⟩:=r
   rw[List.zip_cons_cons,List.lookup_cons]
   show CR E D (Bool.rec (motive:=λY=>Lc) (Zzv x names l) (.so a .nil) (y==x)) _
   cases h:y==x with
   | true=>
    have h2:(x==y)=true:=by rw[beq_iff_eq] at h ⊢;exact h.symm
    rw[h2]
    exact⟨v,rfl,ra⟩
   | false=>
    have h2:(x==y)=false:=by rw[beq_eq_false_iff_ne] at h ⊢;exact λe=>h e.symm
    rw[h2]
    exact ih q
def HsR(D:Rh):List Nat->List (Str×Addr)->Prop
 | [],l=>l=[]
 | h::hs,l=>∃ p r,l=p::r/\D h=some p.2/\HsR D hs r
theorem HsR.le(le:Le D D'){hs:List Nat}:∀ {l:List (Str×Addr)},HsR D hs l->HsR D' hs l:=by
 induction hs with
 | nil=>intro l h;exact h
 | cons i hs ih=>intro l h;obtain⟨p,r,rfl,e,q⟩:=h;exact⟨p,r,rfl,le _ _ e,ih q⟩
theorem Zww{E:En}{T obs:Wg}{names:List Str}{args:List A}{vs:List V}(sn:List (Str×NameKind)):∀ {D:Rh} {n j:Nat} {m:Hp} {hs:List Nat} {acc:List (Str×Addr)} {k:Nat->Hp->List Nat->Bool},LR E D args vs->(∀ h,n<=h->D h=none) ->
  HsR D hs acc->HR E D T m (acc.map (λp=>(p.2,AO.cell ((names.zip vs).lookup p.1)))++obs)->Z44 names args (Zi4 sn) n m hs k=true ->
  ∃ D' n' m' hs',Le D D'/\(∀ h,n'<=h->D' h=none)/\HsR D' hs' (cellsFrom j sn acc)/\HR E D' T m' ((cellsFrom j sn acc).map (λp=>(p.2,AO.cell ((names.zip vs).lookup p.1)))++obs)/\k n' m' hs'=true:=by
 exists (E T obs names args vs sn)
 induction sn with
 | nil=>intro D n j m hs acc k ra fr h1 h2 e;exact⟨D,n,m,hs,Le.refl _,fr,h1,h2,e⟩
 | cons x sn ih=>
  intro D n j m hs acc k ra fr h1 h2 e
  obtain⟨x,kd⟩:=x
  have ec:Zi4 ((x,kd)::sn)=if kd == .cell then x::Zi4 sn else Zi4 sn:=by
   unfold Zi4
   rw[List.filter_cons]
   by_cases hk:(kd==NameKind.cell)=true
   .rw[if_pos hk,if_pos hk];rfl
   .rw[if_neg hk,if_neg hk]
  rw[ec] at e
  unfold cellsFrom
  by_cases hk:(kd==NameKind.cell)=true
  .rw[if_pos hk] at e ⊢
   have e1:=Za1 (n:=n+1) (k:=λn'=>Z44 names args (Zi4 sn) n' (.cons n (.cell (Zzv x names args)) m) (n::hs) k) e
   have n0:=fr n (Qw _)
   have le:=Zlu (a:=j) n0
   obtain⟨D',n',m',hs',l',fr',g1,g2,g3⟩:=ih (D:=upd D n j) (n:=n+1) (j:=j+1) (hs:=n::hs) (acc:=(x,j)::acc) (m:=.cons n (.cell (Zzv x names args)) m) (ra.le le) (λh q=>by
    show(if h=n then _ else _)=_
    rw[if_neg (by lia)];exact fr h (by lia)) ⟨(x,j),acc,rfl,Zds,h1.le le⟩ ⟨j,.cell ((names.zip vs).lookup x),_,rfl,Zds,⟨_,rfl,(Zv6 names ra).le le⟩,h2.le le⟩ e1
   exact⟨D',n',m',hs',le.trans l',fr',g1,g2,g3⟩
  .rw[if_neg hk] at e ⊢
   exact ih ra fr h1 h2 e
theorem Z1f(CS:List (Str×Addr))(nd:(CS.map (·.1)).Nodup):∀ {hs:List Nat} {l:List (Str×Addr)},HsR D hs l->(∀ p∈l,p∈CS)->CeR D CS hs (l.map (·.1)):=by
 intro hs
 induction hs with
 | nil=>intro l h _;obtain rfl:l=[]:=h;exact rfl
 | cons i hs ih=>
  intro l h hm
  obtain⟨p,r,rfl,e,q⟩:=h
  refine⟨p.1,r.map (·.1),p.2,rfl,e,?_,ih q λz hz=>hm z (.tail _ hz)⟩
  have hp:=hm p (.head _)
  clear hm q ih e
  induction CS with
  | nil=>cases hp
  | cons y CS ih2=>
   rw[Qr,List.nodup_cons] at nd
   obtain⟨a,b⟩:=y
   rw[List.lookup_cons]
   rcases Qb hp with e|e
   .rw[e];simp
   .have hne:(p.1==a)=false:=by
     rw[beq_eq_false_iff_ne]
     intro q
     exact nd.1 (Qe ⟨p,e,q⟩)
    rw[hne]
    exact ih2 nd.2 e
theorem Zjs(sn:List (Str×NameKind)):∀ (j:Nat) (acc:List (Str×Addr)),(cellsFrom j sn acc).map (·.1)=(Zi4 sn).reverse++acc.map (·.1):=by
 induction sn with
 | nil=>intro j acc;rfl
 | cons x sn ih=>
  intro j acc
  obtain⟨x,kd⟩:=x
  unfold cellsFrom Zi4
  rw[List.filter_cons]
  by_cases hk:(kd==NameKind.cell)=true
  .rw[if_pos hk,if_pos hk,ih]
   show _=(x::Zi4 sn).reverse++_
   rw[List.reverse_cons,Qs];rfl
  .rw[if_neg hk,if_neg hk,ih];rfl
end MI
namespace MI
open Mine
structure Zek(G:Gl)(a:Addr)(fi:FI):Prop where
 ok:∃ fd:FuncData,Dfn G a fd fi.body/\fd.scope.names=fi.sn/\Zis G fd fi.names fi.kind
 nn:(fi.names++fi.rest).Nodup
 sn:(fi.sn.map (·.1)).Nodup
 loc:∀ x∈fi.names,fi.sn.lookup x=some .local\/(x,NameKind.cell)∈fi.sn
 kd:fi.kind≠0->(∀ x∈fi.names,fi.sn.lookup x=some .local)/\∀ x∈fi.sn,x.2 ≠ .cell
section
variable {E:En} {G:Gl} {p:Pg} {cal:Bool->Addr->CC} {d:Nat}
theorem Zv9{T:Wg}{lc:Lc}{k:KA}{obs:Wg}(q:HR E D T s.obs obs)(e:Zzi lc ce n k a s=true):∃ m l,Drp obs l/\HR E D T m l/\k a ⟨lc,ce,m,s.nx⟩=true:=
 Zz2 q (show gcO n (Zvg a []) s.obs (λob=>k a ⟨lc,ce,ob,s.nx⟩)=true from e) λm' l' r' dd e1=>⟨m',l',dd,r',e1⟩
theorem Ztr{a:Addr}{fi:FI}{md:Bool}(F:Zek G a fi)(H:∀ {c C},Phi E G d c C->RecOk (Zoh p cal Zde) c C){D:Rh}{s:S}{T obs:Wg}{l:List A}{vs:List V}{k:KA}{PA:Around->Prop}{K:V->Wg->Prop}
  (q:HR E D T s.obs obs) (fr:∀ h,s.nx<=h->D h=none) (rl:LR E D l vs) (e:(fnC fi ((Zoh p cal Zde).X (Zuw fi md) fi.body)).run l s k=true)
  (hP:md=true->∃ T0 f',T=T0++Zau f'/\∀ A,PA A->FrOf f' A)
  (hk:∀ D' b m nx v l',Le D D'->k b ⟨s.loc,s.cel,m,nx⟩=true->AR E D' b v->HR E D' T m l'->(∀ h,nx<=h->D' h=none)->K v l'):FnA G PA (.ref a) (d+2) vs obs K:=by
 revert K
 exists (E G p cal d a fi md D s T obs l vs k PA),F,H,q,fr,rl,e,hP
 intro K hk
 exists (K),hk
 obtain⟨fd,DD,hsn,hbind⟩:=F.ok
 refine Zw0 hbind rl e λl' vs' r' hlen hB h0 e1=>?_
 obtain⟨lc,rlc,e2⟩:=Zx5 fi.names r' hlen e1
 have body:∀ (R:Ar G (d+1)) (L:Addr) (A0:Around) (env:Env) (hg':env.globals=mainGlobals) (hbt':env.builtins=builtinsNs) (CS:List (Str×Addr)) (ob:Wg),PA A0->R.A=A0.deeper env->env.scope=fd.scope->env.frame=some env.locals->env.cells=CS ->
   (∀ {k:Nat->Hp->List Nat->Bool},Z44 fi.names l' (Zi4 fi.sn) s.nx s.obs [] k=true->∃ D' n' m' hs',Le D D'/\(∀ h,n'<=h->D' h=none)/\CeR D' CS hs' (Zi4 fi.sn).reverse/\HR E D' T m' ob/\k n' m' hs'=true) ->
   XV (R.cx env hg' hbt') (execs fi.body env) ⟨(fi.names.zip (vs'.map some)).filter (λp=>fi.sn.lookup p.1==some .local)++fi.rest.map (·,none),ob⟩ (fnK K):=by
  intro R L A0 env hg' hbt' CS ob hA hRA hsc hfr hcs hcel
  obtain⟨D',n',m',hs',le,fr',rce,rhr,e3⟩:=hcel e2
  have P:Phi E G d ⟨E,Zuw fi md,T,CS⟩ (R.cx env hg' hbt'):=by
   refine⟨rfl,rfl,λY=>R.good,⟨λY Y h=>h,λY=>R.good.h,R.good.g,?_,?_,?_,hcs⟩,λhm Y=>?_⟩
   .exact gu1 R.good (Nat.succ_pos _)
   .show env.scope.kind = .function
    rw[hsc];exact DD.k
   .show env.scope.names=fi.sn
    rw[hsc];exact hsn
   .obtain⟨T0,f',hT,hF⟩:=hP hm
    obtain⟨l,g1,g2⟩:=(hF A0 hA).deeper env
    exact⟨T0,f',⟨l,by show R.A.frames=_;rw[hRA];exact g1,by show env.scope.kind≠_;rw[hsc,DD.k];decide,hfr,g2⟩,hT⟩
  have fin:∀ {D2:Rh} {b:A} {s2:S} {v:V} {J2:Mine.St},Le D' D2->Zzi s.loc s.cel s.nx k b s2=true->AR E D2 b v->SR E D2 (Zuw fi md) T CS s2 J2->∃ l,K v l/\Drp J2.obs l:=λle2 e4 rb q2=>by
   obtain⟨m2,l2,dd,hr2,e5⟩:=Zv9 q2.obs e4
   exact⟨l2,hk _ _ _ _ _ _ (le.trans le2) e5 rb hr2 q2.fr,dd⟩
  refine(H P).X fi.body (D:=D') (s:=⟨lc,hs',m',n'⟩) (kn:=Zzi s.loc s.cel s.nx k .none) (kb:=We) (kc:=We) (kr:=Zzi s.loc s.cel s.nx k) ⟨rlc.le le,rce,rhr,fr'⟩ e3 (λD2 s2 J2 l2 e4 q2=>?_) (λD2 s2 J2 l2 e4 q2=>ff e4) (λD2 s2 J2 l2 e4 q2=>ff e4) λD2 b s2 v J2 l2 e4 rb q2=>?_
  .exact fin l2 e4 (v:=.none) rfl q2
  .exact fin l2 e4 rb q2
 by_cases hcell:∃ x∈fi.sn,x.2 = .cell
 .have hk0:fi.kind=0:=Classical.byContradiction λhne=>by
   obtain⟨x,hx,hx2⟩:=hcell
   exact(F.kd hne).2 x hx hx2
  obtain rfl:=h0 hk0
  rw[hk0] at hbind
  refine Zfg (names:=fi.names) (rest:=fi.rest) (cobs:=λL=>(cellsFrom (L+1) fi.sn []).map (λp=>(p.2,AO.cell ((fi.names.zip vs').lookup p.1)))) DD hlen.symm hbind (by rw[hsn];exact F.loc) (by rw[hsn];exact F.sn) F.nn
   (λR L A0 hA hRA=>body R L A0 (callEnvC fd L a) DD.g DD.bt (cellsFrom (L+1) fi.sn []) _ hA hRA rfl rfl (by show cellsFrom (L+1) fd.scope.names []=_;rw[hsn]) λe3=>?_) (λL=>by rw[hsn]) (by rw[hsn])
  obtain⟨D',n',m',hs',le,fr',g1,g2,g3⟩:=Zww (E:=E) (T:=T) (obs:=obs) (vs:=vs') fi.sn (j:=L+1) (hs:=[]) (acc:=[]) r' fr rfl q e3
  have hcn:=Zb4 (n:=L+1) (acc:=[]) F.sn (by simp) (λY Y y hy=>by cases hy)
  have:=Z1f _ hcn g1 λp hp=>hp
  rw[Zjs] at this
  exact⟨D',n',m',hs',le,fr',by simpa using this,g2,g3⟩
 .have hnc:∀ x∈fi.sn,x.2 ≠ .cell:=λx hx hq=>hcell ⟨x,hx,hq⟩
  have hloc:∀ x∈fi.names,fi.sn.lookup x=some .local:=λx hx=>(F.loc x hx).elim id λh=>absurd rfl (hnc _ h)
  have hcn:Zi4 fi.sn=[]:=by
   unfold Zi4
   rw[List.filter_eq_nil_iff.mpr λx hx h=>hnc x hx (eq_of_beq h)];rfl
  refine Zfw (names:=fi.names) (args':=vs') (rest:=fi.rest) DD hlen.symm hB (by rw[hsn];exact hloc) (by rw[hsn];exact hnc) F.nn
   (λR L A0 hA hRA=>body R L A0 (callEnv fd L a) DD.g DD.bt fd.closure _ hA hRA rfl rfl rfl λe3=>?_) ?_
  .rw[hcn] at e3 ⊢
   exact⟨D,s.nx,s.obs,[],Le.refl _,fr,rfl,q,e3⟩
  .rw[List.filter_eq_self.mpr]
   intro x hx
   rw[hloc x.1 (List.of_mem_zip hx).1];rfl
end
end MI
namespace MI
open Mine
structure Zrs(E:En)(p:Pg)(G:Gl):Prop where
 P:Zd8 E p G
 kp:∀ a,kpB p a=true->keepIn G.K (.ref a)=true
 fn:∀ a fi,p.fn.lookup a=some fi->Zek G a fi
 cl:∀ a x,p.cl.lookup a=some x->Ze4 G.K a x.2=true/\∃ fi,p.fn.lookup x.2=some fi
 hk:∀ a h,p.hk.lookup a=some h->∀ d c C,c.E=E->C.G=G->Good C.A (d+2)->Zqz c C h.run (.ref a)
section
variable {E:En} {G:Gl} {p:Pg}
theorem Zpw{md:Bool}{a:Addr}:call p (d+1) md a=(match p.fn.lookup a with
 | some fi=>fnC fi ((Zoh p (call p d) Zde).X (Zuw fi md) fi.body)
 | .none=>match p.cl.lookup a with
  | some x=>clC x.1 a (call p d false x.2)
  | .none=>(p.hk.lookup a).getD noC):=rfl
theorem Zpl{md:Bool}{a:Addr}{fi:FI}(hl:p.fn.lookup a=some fi):call p (d+1) md a=fnC fi ((Zoh p (call p d) Zde).X (Zuw fi md) fi.body):=by
 rw[Zpw,hl]
theorem fnF(O:Zrs E p G)(Q:Zml E G d (call p d)){a:Addr}{fi:FI}(hl:p.fn.lookup a=some fi){c:Ct}{D s J l vs k K}(he:c.E=E)(q:c.S D s J)(rl:LR E D l vs)(e:(call p (d+1) false a).run l s k=true)(h:PA c D k K) :
  Fn G (.ref a) (d+2) vs J.obs λr o=>K r ⟨J.loc,o⟩:=by
 rw[Zpl hl] at e
 subst he
 have F:=Ztr (md:=false) (PA:=λY=>True) (K:=λr o=>K r ⟨J.loc,o⟩) (O.fn a fi hl) (λ{c C} H=>(Zc4 O.P O.kp Q Zde H).1) q.obs q.fr rl e (λh=>(nomatch h)) λD' b m nx v l' le e2 rb hr fr=>h _ _ _ _ _ le e2 rb ⟨q.loc.le le,q.cel.le le,hr,fr⟩
 exact λA fz s vs E g ok L R=>F A fz s vs E trivial g ok L R
theorem Sel.all(l:Wg):Sel l l []:=by
 induction l with
 | nil=>exact .nil
 | cons x l ih=>exact .cons .head ih
theorem Zra{E:En}(r:AR E D a v)(h:isNone a=true):v = .none:=by
 induction a with
 | none=>exact r
 | _=>exact ff h
theorem Z4a(O:Zrs E p G)(Q:Zml E G d (call p d)){a:Addr}{sl:Bool}{ini:Addr}(hi:Ze4 G.K a ini=true){fi:FI}(hfi:p.fn.lookup ini=some fi){c:Ct}{C:Cx}(he:c.E=E)(hg:C.G=G)(good:Good C.A (d+3)):Zqz c C (clC sl a (call p (d+1) false ini)).run (.ref a):=by
 intro D s J l vs k K q rl e h
 subst he
 subst hg
 have fin:∀ {D2:Rh} {s2:S} {x:Nat} {ax:Addr} {o2:Wg},Le D D2->D2 x=some ax->c.S D2 s2 ⟨J.loc,o2⟩->(call p (d+1) false ini).run (.ref x::l) s2 (λv s=>gd (isNone v) (k (.ref x) s))=true->Fn C.G (.ref ini) (d+2) (.ref ax::vs) o2 λr o=>r = .none/\K (.ref ax) ⟨J.loc,o⟩:=λ{D2 s2 x ax o2} le hx q2 e2=>
  fnF O Q hfi rfl q2 (K:=λr J'=>r = .none/\K (.ref ax) J') (l:=.ref x::l) ⟨_,_,rfl,⟨ax,hx,rfl⟩,rl.le le⟩ e2 λD3 v s3 vv J3 l3 e3 rv q3=>Zar e3 λh1 e4=>⟨Zra rv h1,h _ _ _ _ _ (le.trans l3) e4 ⟨ax,l3 _ _ hx,rfl⟩ q3⟩
 unfold clC at e
 induction sl with
 | false=>
  exact Zrm ini (n:=d+2) good hi (sel:=J.obs) (rest:=[]) (K':=λx dx r o=>r = .none/\K (.ref x) ⟨J.loc,o⟩) (λax adx=>Zc7 q (o:=.attrs []) (x:=.attrs []) ⟨[],rfl,rfl⟩ adx e λs1 n1 D1 le1 h1 q1 e=>Zc7 q1 (o:=.inst a n1) (x:=.inst a adx) ⟨adx,h1,rfl⟩ ax e λs2 n2 D2 le2 h2 q2 e=>fin (le1.trans le2) h2 q2 e) (Sel.all _) λx dx r o hK=>by rw[List.append_nil];exact hK
 | true=>
  exact Zrv ini (n:=d+2) good hi (sel:=J.obs) (rest:=[]) (K':=λx dx r o=>r = .none/\K (.ref x) ⟨J.loc,o⟩) (λax adx=>Zc7 q (o:=.emp) (x:=.raw emptyDict) rfl adx e λs1 n1 D1 le1 h1 q1 e=>Zc7 q1 (o:=.slots a n1 .nil) (x:=.slots a adx []) ⟨adx,[],h1,rfl,rfl⟩ ax e λs2 n2 D2 le2 h2 q2 e=>fin (le1.trans le2) h2 q2 e) (Sel.all _) λx dx r o hK=>by rw[List.append_nil];exact hK
theorem Zlb(O:Zrs E p G)(d:Nat):Zml E G d (call p d)/\(∀ d',d=d'+1->Zml E G d' (call p d')):=by
 exists (E G p d),O
 induction d with
 | zero=>exact⟨λc C he hg good hfr a D s J l vs k K q rl e h=>ff e,λd' h=>(nomatch h)⟩
 | succ d ih=>
  refine⟨λc C he hg good hfr a=>?_,λd' h=>by obtain rfl:=Nat.succ.inj h;exact ih.1⟩
  have Q:=ih.1
  cases hl:p.fn.lookup a with
  | some fi=>
   intro D s J l vs k K q rl e h
   subst he
   subst hg
   cases hm:c.f.md with
   | false=>
    rw[hm] at e
    exact Zx4 good (fnF O Q hl rfl q rl e h) (Sel.all _) λr o hK=>by rw[List.append_nil];exact hK
   | true=>
    rw[hm,Zpl hl] at e
    obtain⟨T0,fr,hF,hT⟩:=hfr hm
    obtain⟨l0,ho,hall⟩:=HR.tail q.obs
    have F:FnR C.G (.ref a) (d+2) vs (l0++T0) λr o=>K r ⟨J.loc,o++Zau fr⟩:=λfr'=>by
     rw[Qs]
     exact Ztr (md:=true) (O.fn a fi hl) (λ{c C} H=>(Zc4 O.P O.kp Q Zde H).1) (hall (T0++Zau fr')) q.fr rl e (λY=>⟨T0,fr',rfl,λA h=>h⟩) λD' b m nx v l' le e2 rb hr fr2=>by
      obtain⟨o2,h2,hall2⟩:=HR.tail hr
      refine⟨o2++T0,by rw[h2,Qs],h _ _ _ _ _ le e2 rb ⟨q.loc.le le,q.cel.le le,?_,fr2⟩⟩
      rw[Qs,<- hT];exact hall2 _
    intro s0 fv ws H rf rw_
    o_facts rf
    exact Zr5 (rest:=[]) F good hF (by rw[ho,hT,List.append_nil,Qs]) (λr o hK=>by rw[List.append_nil];exact hK) s0 ws H rw_
  | none=>
   rw[Zpw,hl]
   cases hc:p.cl.lookup a with
   | none=>
    cases hh:p.hk.lookup a with
    | none=>intro _ _ _ _ _ _ _ _ _ e _;exact ff e
    | some h=>show Zqz c C h.run (.ref a);exact O.hk a h hh d c C he hg good
   | some x=>
    obtain⟨hi,fi,hfi⟩:=O.cl a x hc
    induction d with
    | zero=>
     intro D s J l vs k K q rl e h
     obtain⟨sl,ini⟩:=x
     have e:(clC sl a (call p 0 false ini)).run l s k=true:=e
     unfold clC at e
     induction sl with
     | false=>exact Zc7 q (o:=.attrs []) (x:=.attrs []) (k:=λdx s=>s.new (.inst a dx) Wd) ⟨[],rfl,rfl⟩ 0 e λs1 n1 D1 le1 h1 q1 e=>Zc7 q1 (o:=.inst a n1) (x:=.inst a 0) ⟨0,h1,rfl⟩ 0 e λY Y Y Y Y Y e=>ff e
     | true=>exact Zc7 q (o:=.emp) (x:=.raw emptyDict) (k:=λdx s=>s.new (.slots a dx .nil) Wd) rfl 0 e λs1 n1 D1 le1 h1 q1 e=>Zc7 q1 (o:=.slots a n1 .nil) (x:=.slots a 0 []) ⟨0,[],h1,rfl,rfl⟩ 0 e λY Y Y Y Y Y e=>ff e
    | succ d=>show Zqz c C (clC x.1 a (call p (d+1) false x.2)).run (.ref a);exact Z4a O (ih.2 d rfl) hi hfi he hg good
end
end MI
end
namespace L1
open Mine
structure G3(P:Params)(G:Gl):Prop where
 K:G.K=K3 P
 N:Nm G gl3 bl3
section
variable {P:Params} {G:Gl} {f c:Addr} {n:Nat} {args:List V} {obs:Wg} {K:V->Wg->Prop} {oc:Obj} {d:Fd} {m:String} {t:Tok} {cvs:Array Value} {ct:Tok}
theorem dfn3(g:G3 P G)(ho:(K3 P).lookup f=some (Zfs d m t c))(hoc:(K3 P).lookup c=some oc)(hdc:oc.data = .fields cvs)(hcv:cvs[1]?=some (.str d.name ct))(hco:d.scope.isCoroutine=false)(hgen:d.scope.isGenerator=false)(hk:d.scope.kind = .function):Dfn G f (Zg3 d m t c) d.body:=
 ⟨⟨_,by rw[g.K];exact ho,rfl⟩,⟨c,oc,cvs,ct,rfl,by rw[g.K];exact hoc,hdc,hcv⟩,rfl,rfl,rfl,rfl,hco,hgen,hk⟩
theorem Zcu(g:G3 P G)(names rest:List Str)(loc:Wm)(ho:(K3 P).lookup f=some (Zfs d m t c))(hoc:(K3 P).lookup c=some oc)(hdc:oc.data = .fields cvs)(hcv:cvs[1]?=some (.str d.name ct))
  (hnl:names.length=args.length) (hbind:∀ vs:List Value,vs.length=names.length->bindArgs (Zg3 d m t c) ⟨vs,[]⟩=pure (names.zip vs))
  (hloc:∀ x∈names,d.scope.names.lookup x=some .local) (hcell:∀ x∈d.scope.names,x.2 ≠ .cell) (hnn:(names++rest).Nodup)
  (hco:d.scope.isCoroutine=false) (hgen:d.scope.isGenerator=false) (hk:d.scope.kind = .function)
  (h:Nm G gl3 bl3->∀ (R:Ar G n) (L:Addr),XV (R.cx (callEnv (Zg3 d m t c) L f) rfl rfl) (execs d.body (callEnv (Zg3 d m t c) L f)) ⟨loc,obs⟩ (fnK K)) (hl:names.zip (args.map some)++rest.map (·,none)=loc) :
  Fn G (.ref f) (n+1) args obs K:=
 λA fz s vs E ga ok L R=>Zfw (PA:=λY=>True) (fd:=Zg3 d m t c) (dfn3 g ho hoc hdc hcv hco hgen hk) hnl (Binds.plain hnl hbind) hloc hcell hnn (λR L Y Y Y=>h g.N R L) hl A fz s vs E trivial ga ok L R
end
end L1
namespace L1
open Mine
theorem keep3{P:Params}{G:Gl}(g:G3 P G){a:Addr}(h:keepIn (K3 P) (.ref a)=true):keepIn G.K (.ref a)=true:=by rw[g.K];exact h
end L1

namespace L1
open Mine
noncomputable def Zy7(P:Params):Array DictEntry:=match (K3 P).lookup 172 with
 | some o=>(match o.data with | .dict es _=>es|_=>#[])
 | none=>#[]
theorem Z2h(P:Params):(K3 P).lookup 172=some { cls:=.type "dict",data:=.dict (Zy7 P) 24 }:=by with_unfolding_all rfl
theorem Zu7(P:Params):esOk (Zy7 P).toList=true:=by kernel_rfl
theorem tr59(P:Params):∀ c∈stock8,Z46 (Zw1 (Zy7 P).toList) c=true/\trC (Zw1 (Zy7 P).toList) c=Zzh c:=by
 have h:(stock8.all λc=>Z46 (Zw1 (Zy7 P).toList) c&&trC (Zw1 (Zy7 P).toList) c==Zzh c)=true:=by kernel_rfl
 intro c hc
 have:=List.all_eq_true.mp h c hc
 simpa using this
theorem Z1d{P:Params}{G:Gl}(g:G3 P G)(n:Nat)(c:Nat)(hc:c∈stock8)(obs:Wg) :
  Fn G (.ref 182) (n+1) [ch c] obs λv o=>v = .str (Zzh c)/\o=obs:=by
 refine Zcu g ["pattern"] [] [("pattern",some (ch c))] rfl rfl rfl rfl rfl (by k_one) (by decide +kernel) (by decide +kernel) (by decide +kernel) (by kernel_rfl) (by kernel_rfl) (by kernel_rfl) ?_ rfl
 intro N R L
 refine XV.opq λK hKK=>?_
 exists (fun c obs L K=>0),g,hc,N,hKK
 refine Zag ?_
 w_why
 refine⟨λY=>?_,λh=>(by cases h)⟩
 w_why
 refine Zlw F.slot_str_translate F.type_str_translate ?_
 w_why
 obtain⟨h1,h2⟩:=tr59 P c hc
 refine Zgf (d:=172) (by show G.K.lookup 172=_;rw[g.K];exact Z2h P) (λp w=>Z2a (Zu7 P) p w) h1 (by decide) R.good.h ?_
 rw[h2]
 w_why
 .exact⟨rfl,rfl⟩
 .exact .refl
end L1
namespace L1
open Mine
set_option tactic.hygienic true in
theorem Zvl{P:Params}{G:Gl}(g:G3 P G)(n:Nat)(a S:Addr)(parts:List (Option Str))(out:Str)(obs:Wg)(hz:parts.length<=100)(ho:pj parts=some out) :
  Fn G (.ref 196) (n+1) [.ref a,.ref S] ((a,.list (parts.map (pv S)))::obs) λv o=>v = .str out/\o=(a,.list (parts.map (pv S)))::obs:=by
 refine Zcu g ["inp", "STAR"] ["res", "add", "i", "n", "fixed"] [("inp",some (.ref a)),("STAR",some (.ref S)),("res",none),("add",none),("i",none),("n",none),("fixed",none)] rfl rfl rfl rfl rfl (by k_obj1) (by decide +kernel) (by decide +kernel) (by decide +kernel) (by kernel_rfl) (by kernel_rfl) (by kernel_rfl) ?_ rfl
 intro N R L
 refine XV.opq λK hKK=>?_
 exists (fun a S parts out obs L K=>0),g,hz,ho,N,hKK
 have h100:parts.length<=1000000:=Qx hz (by decide)
 have lt63:∀ k:Nat,k<=parts.length->(k:Int)<2 ^ 63:=λk h=>Zyz (Qx h h100)
 have leS:∀ k,k<=parts.length->k<=sizeLine:=λk h=>Qx (Qx h hz) (by decide)
 refine Zag ?_
 w_why
 intro r
 exists (r)
 w_why
 refine Zui (by k_qdec) ?_
 intro m
 exists (m)
 w_why
 with_reducible refine Zdm "i" "n" R.good.h ?_ (by kernel_rfl) (by kernel_rfl)
 cases hp2:pj2 100 (Zb9 parts) with
 | none=>unfold pj at ho;rw[hp2] at ho;cases ho
 | some rs0=>
  unfold pj at ho
  rw[hp2] at ho
  dsimp only at ho
  by_cases hsz:100000<sz (Zat parts++rs0)\/1000<(Zat parts++rs0).length
  .rw[if_pos hsz] at ho;cases ho
  rw[if_neg hsz] at ho
  have hsz1:=Nat.le_of_not_lt λq=>hsz (.inl q)
  have hsz2:=Nat.le_of_not_lt λq=>hsz (.inr q)
  have ho':=(Qv ho).symm
  w_why
  .refine WL.mono (K':=λfl J'=>fl = .next/\J'.loc=Zza a S r m (Zat parts).length parts.length none/\Drp J'.obs (job m r a (Zat parts) (parts.map (pv S)) obs)) ?_ ?_
   .refine Zez (λ_ _ h=>h) (λq J=>∃ pre suf,parts=pre.map some++suf/\suf.length<q/\J.loc=Zza a S r m pre.length parts.length none/\Drp J.obs (job m r a pre (parts.map (pv S)) obs)) ?_ ?_ 200 _ ?_
    .rintro J ⟨pre,suf,_,h,_⟩;exact absurd h (Nat.not_lt_zero _)
    .rintro q ⟨loc0,o0⟩ ⟨pre,suf,hp,hq,hl0,hd⟩
     exists (rs0 q loc0 o0 pre suf),ho,hp2,hsz,hsz1,hsz2,ho',hp,hq,hl0,hd
     have hl1:loc0=_:=hl0
     subst hl1
     refine W.drp hd ?_
     have hlen:parts.length=pre.length+suf.length:=Nat.zero_add pre.length▸Zkv (i:=0) hp (Nat.zero_le _)
     unfold job
     w_how
     rename_i xq1 xq2 xq3 xq4
     exists (xq1 xq2),xq3,xq4
     induction suf with
     | nil=>
      have hsp:=Zd5 hp (by simp)
      w_why
      refine⟨λh=>?_,λh=>?_⟩
      .exact absurd hlen.symm (Nat.ne_of_lt (Int.ofNat_lt.mp (of_decide_eq_true h)))
      .refine⟨λh=>Bool.noConfusion h,λ_=>?_⟩
       w_why
       refine⟨rfl,?_,?_⟩
       .rw[hsp.1]
       .rw[hsp.1];exact .refl
     | cons x t=>
      have hlt:pre.length<parts.length:=hlen.symm▸Nat.lt_add_of_pos_right (Nat.succ_pos _)
      have hat:=Zss (S:=S) (i:=0) (pre:=pre) (x:=x) (t:=t) hp
      rw[Nat.zero_add] at hat
      w_why
      refine⟨λ_=>?_,λh=>?_⟩
      .w_why
       refine Zaq (x:=pv S x) (by k_qdec) ?_ (by intro o i;exact⟨[o,i],by kernel_rfl⟩) (by k_units) (lt63 _ (Nat.le_of_lt hlt)) hat
       induction x with
       | none=>
        have hsp:=Zd5 hp (by simp)
        simp -iota only[Zit,Zh8]
        w_why
        refine⟨λh=>Bool.noConfusion h,λ_=>?_⟩
        refine⟨λh=>Bool.noConfusion h,λ_=>?_⟩
        w_why
        refine⟨rfl,?_,?_⟩
        .rw[hsp.1]
        .rw[hsp.1];exact .refl
       | some s=>
        simp -iota only[Zit,Zh8] at hat ⊢
        w_why
        refine⟨λ_=>?_,λh=>Bool.noConfusion h⟩
        w_why
        refine⟨λ_=>?_,λh=>Bool.noConfusion h⟩
        w_why
        refine Zay (id := "list.append") (a:=r) (.inl rfl) ?_ (by kernel_rfl)
        w_why
        refine Zaq (x:=.str s) (by k_qdec) ?_ (by intro o i;exact⟨[o,i],by kernel_rfl⟩) (by k_units) (lt63 _ (Nat.le_of_lt hlt)) hat
        w_why
        refine⟨by k_qdec,?_⟩
        refine Zbm (by k_qdec) (by k_closed) ?_ (by rw[Qj];exact leS _ (Nat.le_of_lt hlt))
        w_why
        refine⟨pre++[s],t,?_,?_,?_,?_⟩
        .rw[hp];simp
        .exact Nat.lt_of_succ_lt_succ hq
        .simp
        .simp -iota only[Qq,Qr,List.map_nil]
         exact .refl
      .exact absurd (Int.ofNat_lt.mpr hlt) (of_decide_eq_false h)
    .exact⟨[],parts,rfl,Nat.lt_of_le_of_lt hz (by decide),by simp,.refl⟩
   .rintro fl ⟨loc0,o0⟩ ⟨rfl,hl0,hd⟩
    exists (rs0 loc0 o0),ho,hp2,hsz,hsz1,hsz2,ho',hl0,hd
    have hl1:loc0=_:=hl0
    subst hl1
    refine Zan ?_
    refine W.drp hd ?_
    refine Zag ?_
    refine Zex ?_
    refine WL.mono (K':=λfl J'=>fl = .next/\∃ f,J'.loc=Zza a S r m parts.length parts.length f/\Drp J'.obs (job m r a (Zat parts++rs0) (parts.map (pv S)) obs)) ?_ ?_
    .refine Zez (λ_ _ h=>h) (λq J=>∃ (i:Nat) (acc rs:List Str) (f:Option V),i<=parts.length/\pj2 q (parts.drop i)=some rs/\acc++rs=Zat parts++rs0/\J.loc=Zza a S r m i parts.length f/\Drp J.obs (job m r a acc (parts.map (pv S)) obs)) ?_ ?_ 100 _ ?_
     .rintro J ⟨i,acc,rs,f,_,h,_⟩
      cases h
     .rintro q ⟨loc0,o0⟩ ⟨i,acc,rs,f,hi,hp,hacc,hl0,hd⟩
      exists (q loc0 o0 i acc rs f),hi,hp,hacc,hl0,hd
      have hl1:loc0=_:=hl0
      subst hl1
      refine W.drp hd ?_
      have hal:acc.length<=1000:=by
       rw[<- hacc,List.length_append] at hsz2
       exact Qx (Nat.le_add_right _ _) hsz2
      unfold job
      rw[Zs5] at hp
      w_how
      rename_i xq5 xq6 xq7 xq8
      exists (xq5 xq6),xq7,xq8
      cases hdr:parts.drop i with
      | nil=>
       rw[hdr] at hp
       have hrs:rs=[]:=by cases hp;rfl
       have hi2:i=parts.length:=Nat.le_antisymm hi (List.drop_eq_nil_iff.mp hdr)
       subst hrs
       w_why
       refine⟨λh=>?_,λh=>?_⟩
       .exact absurd hi2 (Nat.ne_of_lt (Int.ofNat_lt.mp (of_decide_eq_true h)))
       .w_why
        rw[List.append_nil] at hacc
        refine⟨rfl,f,?_,?_⟩
        .rw[hi2]
        .rw[hacc];exact .refl
      | cons x t=>
       have hlen:=Zkv (i:=i) (pre:=[]) (suf:=x::t) hdr hi
       have hat:=Zss (S:=S) (i:=i) (pre:=[]) (x:=x) (t:=t) hdr
       simp -iota only[List.length_nil,Nat.add_zero] at hat
       rw[hdr] at hp
       induction x with
       | some s=>cases hp
       | none=>
        simp -iota only[Zit,Zh8] at hat
        have h9:i<parts.length:=hlen.symm▸(Nat.lt_add_of_pos_right (Nat.succ_pos _):i<i+(t.length+1))
        w_why
        refine⟨λ_=>?_,λh=>?_⟩
        .w_why
         refine Zaq (x:=.ref S) (by k_qdec) ?_ (by intro o i;exact⟨[o,i],by kernel_rfl⟩) (by k_units) (lt63 _ (Nat.le_of_lt h9)) hat
         w_why
         refine⟨rfl,?_⟩
         have e1:parts.drop (i+1)=t:=by
          rw[<- List.drop_drop,hdr];rfl
         cases t with
         | nil=>
          have hrs:rs=[(".*" : Str)]:=by cases hp;rfl
          have hi2:i+1=parts.length:=hlen.symm
          subst hrs
          w_why
          refine⟨λ_=>?_,λh=>?_⟩
          .w_why
           refine Zay (id := "list.append") (a:=r) (.inl rfl) ?_ (by kernel_rfl)
           w_why
           refine⟨by k_qdec,?_⟩
           refine Zbm (by k_qdec) (by k_closed) ?_ (by rw[Qj];exact Qx hal (by decide))
           w_why
           refine⟨rfl,f,?_,?_⟩
           .have:(i:Int)+1=parts.length:=hi2▸rfl
            rw[this]
           .rw[<- hacc]
            simp -iota only[Qq,Qr,List.map_nil]
            exact .refl
          .exact absurd (congrArg Int.ofNat hi2) (ne_of_beq_false h)
         | cons y t=>
          cases y with
          | none=>cases hp
          | some s=>
           have h91:i+1<parts.length:=hlen.symm▸(Nat.add_lt_add_left (Nat.succ_lt_succ (Nat.succ_pos t.length)) i:i+1<i+(t.length+1+1))
           w_why
           refine⟨λh=>?_,λ_=>?_⟩
           .exact absurd (Int.ofNat.inj (eq_of_beq h)) (Nat.ne_of_lt h91)
           w_why
           have hat2:=Zss (S:=S) (i:=i+1) (pre:=[]) (x:=some s) (t:=t) e1
           simp -iota only[List.length_nil,Nat.add_zero,Zit,Zh8] at hat2
           refine Zaq (x:=.str s) (by k_qdec) ?_ (by intro o i;exact⟨[o,i],by kernel_rfl⟩) (Int.natCast_nonneg (i+1)) (lt63 (i+1) (Nat.le_of_lt h91)) hat2
           w_why
           refine⟨rfl,?_⟩
           w_why
           intro fx
           exists (t s fx),hp,hdr,hlen,e1,hat2
           w_why
           refine WL.mono (K':=λfl J'=>fl = .next/\J'.loc=Zza a S r m ((i:Int)+1+(Zat (some s::t)).length) parts.length (some (.ref fx))/\Drp J'.obs ((fx,.list ((Zat (some s::t)).map V.str))::job m r a acc (parts.map (pv S)) obs)) ?_ ?_
           .refine Zez (λ_ _ h=>h) (λq J=>∃ (pre:List Str) (suf:List (Option Str)),parts.drop (i+1)=pre.map some++suf/\suf.length<q/\J.loc=Zza a S r m ((i:Int)+1+pre.length) parts.length (some (.ref fx))/\Drp J.obs ((fx,.list (pre.map V.str))::job m r a acc (parts.map (pv S)) obs)) ?_ ?_ 200 _ ?_
            .rintro J ⟨pre,suf,_,h,_⟩;exact absurd h (Nat.not_lt_zero _)
            .rintro q ⟨loc0,o0⟩ ⟨pre,suf,hp3,hq,hl0,hd⟩
             exists (q loc0 o0 pre suf),hp3,hq,hl0,hd
             have hl1:loc0=_:=hl0
             subst hl1
             refine W.drp hd ?_
             have hlen3:=Zkv (i:=i+1) hp3 (Nat.le_of_lt h91)
             unfold job
             w_how
             rename_i xq9 xq10 xq11 xq12
             exists (xq9 xq10),xq11,xq12
             induction suf with
             | nil=>
              have hsp:=Zd5 hp3 (by simp)
              rw[e1] at hsp
              w_why
              refine⟨λh=>?_,λh=>?_⟩
              .exact absurd hlen3.symm (Nat.ne_of_lt (Int.ofNat_lt.mp (show((i+1+pre.length:Nat):Int)<(parts.length:Nat) from of_decide_eq_true h)))
              .refine⟨λh=>Bool.noConfusion h,λ_=>?_⟩
               w_why
               rw[hsp.1]
               exact⟨rfl,rfl,.refl⟩
             | cons x t3=>
              have hat3:=Zss (S:=S) (i:=i+1) (pre:=pre) (x:=x) (t:=t3) hp3
              have h93:i+1+pre.length<parts.length:=hlen3.symm▸Nat.lt_add_of_pos_right (Nat.succ_pos _)
              w_why
              refine⟨λ_=>?_,λh=>?_⟩
              .w_why
               refine Zaq (x:=pv S x) (by k_qdec) ?_ (by intro o i;exact⟨[o,i],by kernel_rfl⟩) (Int.natCast_nonneg (i+1+pre.length)) (lt63 (i+1+pre.length) (Nat.le_of_lt h93)) hat3
               induction x with
               | none=>
                have hsp:=Zd5 hp3 (by simp)
                rw[e1] at hsp
                simp -iota only[Zit,Zh8]
                w_why
                refine⟨λh=>Bool.noConfusion h,λ_=>?_⟩
                refine⟨λh=>Bool.noConfusion h,λ_=>?_⟩
                w_why
                rw[hsp.1]
                exact⟨rfl,rfl,.refl⟩
               | some s3=>
                simp -iota only[Zit,Zh8] at hat3 ⊢
                w_why
                refine⟨λ_=>?_,λh=>Bool.noConfusion h⟩
                w_why
                refine⟨λ_=>?_,λh=>Bool.noConfusion h⟩
                w_why
                .refine Zaq (x:=.str s3) (by k_qdec) ?_ (by intro o i;exact⟨[o,i],by kernel_rfl⟩) (Int.natCast_nonneg (i+1+pre.length)) (lt63 (i+1+pre.length) (Nat.le_of_lt h93)) hat3
                 w_why
                 .refine⟨pre++[s3],t3,?_,?_,?_,?_⟩
                  .rw[hp3];simp
                  .exact Nat.lt_of_succ_lt_succ hq
                  .have:(i:Int)+1+pre.length+1=(i:Int)+1+((pre++[s3]).length:Nat):=by rw[List.length_append];rfl
                   rw[<- this]
                  .simp -iota only[Qq,Qr,List.map_nil]
                   exact .refl
                 .rw[Qj];exact leS _ (Qx (Nat.le_add_left _ _) (Nat.le_of_lt h93))
              .exact absurd (show((i+1+pre.length:Nat):Int)<(parts.length:Nat) from Int.ofNat_lt.mpr h93) (of_decide_eq_false h)
            .refine⟨[],parts.drop (i+1),rfl,?_,?_,.refl⟩
             .rw[List.length_drop];exact Nat.lt_of_le_of_lt (Qx (Nat.sub_le _ _) hz) (by decide)
             .simp
           .rintro fl ⟨loc0,o0⟩ ⟨rfl,hl0,hd⟩
            exists (loc0 o0),hl0,hd
            have hl1:loc0=_:=hl0
            subst hl1
            refine Zan ?_
            refine W.drp hd ?_
            unfold job
            have hl2:∀ x y:Str,(x++y).length=x.length+y.length:=λx y=>by simp[Str.length,Str.cps_append]
            have k1:(Str.empty++Str.ofString "(?>.*?").length=6:=by decide +kernel
            have k2:(Str.ofString ")").length=1:=by decide +kernel
            have hsp3:parts.drop (i+1)=(Zat (some s::t)).map some++Zb9 t:=by rw[e1];exact Zcb (some s::t)
            have hlen3:=Zkv (i:=i+1) hsp3 (Nat.le_of_lt h91)
            have hle3:=hlen3.symm▸Nat.le_add_right (i+1+(Zat (some s::t)).length) _
            have hp':(if 100000<sz (Zat (some s::t)) then none else match pj2 q (Zb9 t) with
             | none=>none
             | some rs=>if (Zb9 t).isEmpty then some ((".*" : Str)::cat (Zat (some s::t))::rs) else some ((Str.empty++(Str.ofString "(?>.*?")++cat (Zat (some s::t))++Str.ofString ")")::rs))=some rs:=hp
            generalize hws:Zat (some s::t)=ws' at *
            by_cases hs1:100000<sz ws'
            .rw[if_pos hs1] at hp';cases hp'
            rw[if_neg hs1] at hp'
            have hcl:=Qx (Zny ws') (Nat.le_of_not_lt hs1)
            have k3:Txt.join (Str.ofString "") ws'=cat ws':=by unfold cat;rw[Zcw]
            have hdr3:parts.drop (i+1+ws'.length)=Zb9 t:=by
             rw[<- List.drop_drop,hsp3];simp
            cases hpj:pj2 q (Zb9 t) with
            | none=>rw[hpj] at hp';cases hp'
            | some rs'=>
             rw[hpj] at hp'
             dsimp only at hp'
             w_why
             refine Zr0 (l:=ws') (by k_listUnr) ?_ ?_
             .rw[k3]
              w_why
              refine⟨λh=>?_,λh=>?_⟩
              .have h0:((i+1+ws'.length:Nat):Int)=parts.length:=eq_of_beq h
               have hem:(Zb9 t).isEmpty=true:=List.isEmpty_iff.mpr (List.length_eq_zero_iff.mp (Nat.left_eq_add.mp ((Int.ofNat.inj h0).trans hlen3)))
               rw[if_pos hem] at hp'
               have hrs:rs=(".*" : Str)::cat ws'::rs':=(Qv hp').symm
               subst hrs
               w_why
               refine Zay (id := "list.append") (a:=r) (.inl rfl) ?_ (by kernel_rfl)
               w_why
               refine⟨by k_qdec,?_⟩
               refine Zbm (by k_qdec) (by k_closed) ?_ (by rw[Qj];exact Qx hal (by decide))
               w_why
               refine Zay (id := "list.append") (a:=r) (.inl rfl) ?_ (by kernel_rfl)
               w_why
               refine⟨by k_qdec,?_⟩
               refine Zbm (by k_qdec) (by k_closed) ?_ (by rw[List.length_append,Qj];exact Qx (Nat.succ_le_succ hal) (by decide))
               w_why
               refine⟨i+1+ws'.length,acc++[(".*" : Str),cat ws'],rs',some (.str (cat ws')),hle3,by rw[hdr3];exact hpj,by rw[<- hacc];simp,?_,?_⟩
               .have:((i+1+ws'.length:Nat):Int)=(i:Int)+1+ws'.length:=rfl
                rw[this]
               .simp -iota only[Qq,Qr,List.map_nil,Qs,List.cons_append,List.nil_append]
                exact .refl
              .have h0:¬ ((i+1+ws'.length:Nat):Int)=parts.length:=ne_of_beq_false h
               have hem:¬ ((Zb9 t).isEmpty=true):=by
                intro q
                rw[List.isEmpty_iff.mp q] at hlen3
                exact h0 (congrArg Int.ofNat hlen3.symm)
               rw[if_neg hem] at hp'
               have hrs:=(Qv hp').symm
               subst hrs
               w_why
               refine Zay (id := "list.append") (a:=r) (.inl rfl) ?_ (by kernel_rfl)
               w_why
               refine⟨by rw[k1];decide,?_⟩
               w_why
               refine⟨Qx hcl (by decide),_,rfl,by rw[hl2,k1];exact Qx (Nat.add_le_add_left hcl 6) (by decide),?_⟩
               w_why
               .refine⟨by rw[hl2,hl2,k1,k2];exact Qx (Nat.succ_le_succ (Nat.add_le_add_left hcl 6)) (by decide),?_⟩
                w_why
                .refine⟨by k_qdec,?_⟩
                 refine Zbm (by k_qdec) (by k_closed) ?_ (by rw[Qj];exact Qx hal (by decide))
                 w_why
                 refine⟨i+1+ws'.length,acc++[Str.empty++Str.ofString "(?>.*?" ++ cat ws'++Str.ofString ")"],rs',some (.str (cat ws')),hle3,by rw[hdr3];exact hpj,by rw[<- hacc];simp,?_,?_⟩
                 .have:((i+1+ws'.length:Nat):Int)=(i:Int)+1+ws'.length:=rfl
                  rw[this]
                 .simp -iota only[Qq,Qr,List.map_nil]
                  exact .refl
                .rw[hl2,hl2,k1,k2];exact Qx (Nat.succ_le_succ (Nat.add_le_add_left hcl 6)) (by decide)
             .rw[Zcw]
              exact Qx (Nat.le_of_not_lt hs1) (by decide)
        .exact absurd (Int.ofNat_lt.mpr h9) (of_decide_eq_false h)
     .exact⟨_,Zat parts,rs0,none,by
       have:=congrArg List.length (Zcb parts)
       rw[List.length_append,Qj] at this
       exact this.symm▸Nat.le_add_right (Zat parts).length _,by
       have e:parts.drop (Zat parts).length=Zb9 parts:=by
        have z:∀ (l:List (Option Str)) (p:List Str) (q:List (Option Str)),l=p.map some++q->l.drop p.length=q:=by
         rintro l p q rfl;simp
        exact z _ _ _ (Zcb parts)
       rw[e];exact hp2,rfl,rfl,.refl⟩
    .rintro fl ⟨loc0,o0⟩ ⟨rfl,f,hl0,hd⟩
     exists (loc0 o0 f),hl0,hd
     have hl1:loc0=_:=hl0
     subst hl1
     refine Zan ?_
     refine W.drp hd ?_
     unfold job
     w_why
     refine⟨by simp,?_⟩
     w_why
     refine Zjg (l:=Zat parts++rs0) (by k_qdec) ?_ ?_
     .have hc:=Qx (Zny (Zat parts++rs0)) hsz1
      have hl2:∀ x y:Str,(x++y).length=x.length+y.length:=λx y=>by simp[Str.length,Str.cps_append]
      have k1:(Str.empty++Str.ofString "(?s:").length=4:=by decide +kernel
      have k2:(Str.ofString ")\\Z").length=3:=by decide +kernel
      have k3:(cat (Zat parts++rs0))=Txt.join (Str.ofString "") (Zat parts++rs0):=by unfold cat;rw[Zcw]
      w_why
      refine⟨by rw[k1];decide,?_⟩
      w_why
      rw[<- k3]
      refine⟨Qx hc (by decide),_,rfl,by rw[hl2,k1];exact Qx (Nat.add_le_add_left hc 4) (by decide),?_⟩
      w_why
      .refine⟨by rw[hl2,hl2,k1,k2];exact Qx (Nat.add_le_add_right (Nat.add_le_add_left hc 4) 3) (by decide),?_⟩
       w_why
       .exact⟨congrArg V.str ho'.symm,rfl⟩
       .exact .cons (.cons .refl)
       .rw[hl2,hl2,k1,k2];exact Qx (Nat.add_le_add_right (Nat.add_le_add_left hc 4) 3) (by decide)
     .rw[Zcw]
      exact Qx hsz1 (by decide)
  .rw[Qj];exact leS _ (Qw _)
end L1
namespace L1
open Mine
noncomputable def q71(p:PK):Str:=if p=(183,37) then Str.ofString "_translate.<locals>.<genexpr>" else Str.ofString "_translate.<locals>.<lambda>"
noncomputable def pt3(l:List (PK×Addr)):Wg:=Zfr 184 q71 l
theorem pat50(P:Params):Zr4 (K3 P) 163 Z4q:=⟨_,_,_,_,_,_,_,_,_,_,by with_unfolding_all rfl,by with_unfolding_all rfl,rfl,by kernel_rfl⟩
theorem Zt8(P:Params):codeHdIn (K3 P) 188 184=true:=by with_unfolding_all rfl
theorem bt3{P:Params}{G:Gl}(g:G3 P G):Bt G 4:=by
 obtain⟨val,e,r⟩:=g.N.mg ("__builtins__",.ref 4) (Mb.mem (by k_slotget))
 exact⟨VR.refE (r { objs:=#[] })▸e,by rw[g.K];with_unfolding_all rfl,by decide,by decide⟩
noncomputable def tob(m r:Addr)(S:Addr)(acc:List (Option Str))(l:List (PK×Addr))(b:Wg):Wg:=(m,AO.bound "builtin_function_or_method" "list.append" r)::(r,.list (acc.map (pv S)))::(pt3 l++b)
theorem dlt{a b:Nat}{P:Prop}(h:a<b)(e:decide ((a:Int)<(b:Int))=false):P:=absurd (Int.ofNat_lt.mpr h) (of_decide_eq_false e)
noncomputable def Z3z:List Stmt:=Z3u (Zq1 (Ztu (Zq1 (Ztu (Zq1 (Z1t (Zq1 (fd3 15).body 3)) 2)) 0)) 0)
set_option tactic.hygienic true in
theorem Zxn{P:Params}{G:Gl}(g:G3 P G)(N:Nm G gl3 bl3){n:Nat}(R:Ar G (n+3))(L:Addr)(pat:Str)(S r m:Addr)(i:Nat)(acc:List (Option Str))(pre:List Nat)(cc:Nat)(t2:List Nat)(o:Str)(l:List (PK×Addr))(obs:Wg)
  (hz:pat.length<=100) (hal:acc.length<=100) (hr:pat.cps.toList.drop i=pre++cc::93::t2) (hcs:cc∈stock8) (hpre:pre=[]\/pre=[33]) (hbs:brS ⟨(pre++[cc]).toArray⟩=some o) (c j st ch k ck:Option V) (K:Wj)
  (hK:Hid (∀ j st ch k ck l o',Drp o' (tob m r S (acc++[some o]) l obs)->K .next ⟨Zi3 pat S r m ((i+(pre++[cc]).length+1:Nat)) pat.length c j st ch k ck,o'⟩)) :
  XV (R.cx (callEnv (Zg3 (fd3 15) "cpy313.fnmatch" 675 188) L 189) rfl rfl) (execs Z3z (callEnv (Zg3 (fd3 15) "cpy313.fnmatch" 675 188) L 189)) ⟨Zi3 pat S r m i pat.length c j st ch k ck,tob m r S acc l obs⟩ K:=by
 exists (fun L pat S r m i acc pre cc t2 o l obs c j st ch k ck K=>3),g,N,hz,hal,hr,hcs,hpre,hbs,hK
 have hzz:sizeLine=16777216:=by decide
 have hpl:pat.cps.toList.length=pat.length:=by simp[Str.length]
 obtain⟨hn33,hn91,_,_⟩:=Zk7 cc hcs
 unfold tob
 -- the places
 have hra:pat.cps.toList.drop (i+pre.length)=cc::93::t2:=by rw[<- List.drop_drop,hr,List.drop_left]
 obtain⟨ha1,hra2,ha3⟩:=Zdb hra
 obtain⟨hb1,hrb2,hb3⟩:=Zdb hra2
 have hin:i<pat.length:=by lia
 refine Zag ?_
 refine Zd7 ?_ (by with_unfolding_all exact rfl)
 refine ev_l (by k_slotset) (by kernel_rfl) (by kernel_rfl) (by kernel_rfl) ?_
 refine Zbv (by kernel_rfl) (by kernel_rfl) (by l_hasStore) ?_
 refine Zan ?_
 -- a bar
 refine Zag ?_
 refine XV.cut (λfl J'=>fl = .next/\J'=⟨Zi3 pat S r m i pat.length c (some (.int ((i+pre.length:Nat):Int))) st ch k ck,tob m r S acc l obs⟩) ?_ ?_
 .w_how
  rename_i zq127_1 zq127_2
  exists (zq127_1),zq127_2
  try unfold tob
  rcases hpre with hpre|hpre
  .subst hpre
   w_why
   refine⟨λ_=>?_,λh=>?_⟩
   rotate_left
   .first|exact dlt hin h|exact dlt hb3 h|exact dlt ha3 h|(simp at h;omega)
   w_why
   refine Zam (c:=cc) ?_ (by intro o i;exact⟨[o,i],by kernel_rfl⟩) (by simp) (by lia) ha1
   w_why
   refine⟨λh=>?_,λh=>?_⟩
   .rw[Zaw (d:=33) (by decide +kernel)] at h;simp at h;exact absurd h hn33
   .refine⟨λh=>(by cases h),λ_=>?_⟩
    w_why
    exact⟨rfl,rfl⟩
  .subst hpre
   obtain⟨h331,_,_⟩:=Zdb (i:=i) (c:=33) (t:=cc::93::t2) (by rw[hr];rfl)
   w_why
   refine⟨λ_=>?_,λh=>?_⟩
   rotate_left
   .first|exact dlt hin h|exact dlt hb3 h|exact dlt ha3 h|(simp at h;omega)
   w_why
   refine Zam (c:=33) ?_ (by intro o i;exact⟨[o,i],by kernel_rfl⟩) (by simp) (by lia) h331
   w_why
   refine⟨λ_=>?_,λh=>(by cases h)⟩
   w_why
   refine⟨λ_=>?_,λh=>(by cases h)⟩
   w_why
   exact⟨rfl,rfl⟩
 rintro fl J' ⟨rfl,rfl⟩
 refine Zan ?_
 -- a closing bracket at the head
 have h93:(93:Nat)∈stock8:=by decide
 refine Zag ?_
 refine XV.cut (λfl J'=>fl = .next/\∃ jj:Nat,(jj=i+pre.length/\cc≠93\/jj=i+pre.length+1)/\J'=⟨Zi3 pat S r m i pat.length c (some (.int (jj:Nat))) st ch k ck,tob m r S acc l obs⟩) ?_ ?_
 .w_how
  rename_i zq163_1 zq163_2
  exists (zq163_1),zq163_2
  unfold tob
  w_why
  refine⟨λ_=>?_,λh=>?_⟩
  rotate_left
  .first|exact dlt hin h|exact dlt hb3 h|exact dlt ha3 h|(simp at h;omega)
  w_why
  refine Zam (c:=cc) ?_ (by intro o i;exact⟨[o,i],by kernel_rfl⟩) (by lia) (by lia) ha1
  w_why
  refine⟨λ_=>?_,λh=>?_⟩
  .w_why
   refine⟨λ_=>?_,λh=>(by cases h)⟩
   w_why
   exact⟨rfl,i+pre.length+1,.inr rfl,rfl⟩
  .refine⟨λh=>(by cases h),λ_=>?_⟩
   w_why
   exact⟨rfl,i+pre.length,.inl ⟨rfl,by rw[Zaw (d:=93) (by decide +kernel)] at h;simpa using h⟩,rfl⟩
 rintro fl J' ⟨rfl,jj,hjj,rfl⟩
 exists (jj),hjj
 refine Zan ?_
 -- up to the bracket
 refine Zag ?_
 refine Zex ?_
 refine WL.mono (K':=λfl J'=>fl = .next/\J'=⟨Zi3 pat S r m i pat.length c (some (.int ((i+pre.length+1:Nat):Int))) st ch k ck,tob m r S acc l obs⟩) ?_ ?_
 .refine Zez (λ_ _ h=>h) (λq J=>∃ jj:Nat,(jj=i+pre.length/\cc≠93/\q=2\/jj=i+pre.length+1/\q≠0)/\J=⟨Zi3 pat S r m i pat.length c (some (.int (jj:Nat))) st ch k ck,tob m r S acc l obs⟩) ?_ ?_ 2 _ ?_
  .rintro J ⟨jj,h,_⟩;lia
  .rintro q J ⟨jj,h,rfl⟩
   exists (q jj),h
   unfold tob
   rcases h with⟨rfl,hn,hq⟩|⟨rfl,hq⟩
   .w_why
    refine⟨λ_=>?_,λh=>?_⟩
    rotate_left
    .first|exact dlt hin h|exact dlt hb3 h|exact dlt ha3 h|(simp at h;omega)
    w_why
    refine Zam (c:=cc) ?_ (by intro o i;exact⟨[o,i],by kernel_rfl⟩) (by lia) (by lia) ha1
    w_why
    refine⟨λ_=>?_,λh=>?_⟩
    .w_why
     refine⟨λ_=>?_,λh=>(by cases h)⟩
     w_why
     exact⟨i+pre.length+1,.inr ⟨rfl,by lia⟩,rfl⟩
    .exfalso
     have h':((⟨#[cc]⟩:Str)==Str.ofString "]")=true:=by simpa [bne] using h
     rw[Zaw (d:=93) (by decide +kernel)] at h'
     exact hn (by simpa using h')
   .w_why
    refine⟨λ_=>?_,λh=>?_⟩
    rotate_left
    .first|exact dlt hin h|exact dlt hb3 h|exact dlt ha3 h|(simp at h;omega)
    w_why
    refine Zam (c:=93) ?_ (by intro o i;exact⟨[o,i],by kernel_rfl⟩) (by lia) (by lia) hb1
    w_why
    refine⟨λh=>(by cases h),λ_=>?_⟩
    refine⟨λh=>(by cases h),λ_=>?_⟩
    w_why
    exact⟨rfl,rfl⟩
  .rcases hjj with⟨h1,h2⟩|h1
   .exact⟨jj,.inl ⟨h1,h2,rfl⟩,rfl⟩
   .exact⟨jj,.inr ⟨h1,by decide⟩,rfl⟩
 rintro fl J' ⟨rfl,rfl⟩
 refine Zan ?_
 have hsl:Zdx pat (some (i:Int)) (some ((i+pre.length+1:Nat):Int))=⟨(pre++[cc]).toArray⟩:=by
  have:=Zwo (x:=pat) (i:=i) (l:=pre++[cc]) (t:=93::t2) (by rw[hr];simp) (by lia)
  rwa [List.length_append,List.length_singleton,<- Nat.add_assoc] at this
 have hstl:(⟨(pre++[cc]).toArray⟩:Str).length<=2:=by
  show(pre++[cc]).toArray.size<=2
  rcases hpre with h|h <;> subst h <;> simp
 generalize hstf:(⟨(pre++[cc]).toArray⟩:Str)=stf at *
 unfold tob
 refine Zag ?_
 refine Z4t ?_
 w_why
 refine⟨λh=>?_,λ_=>?_⟩
 .first|exact dlt hin h|exact dlt hb3 h|exact dlt ha3 h|(simp at h;omega)
 refine Zag ?_
 refine XV.cut (λfl J'=>fl = .next/\J'=⟨Zi3 pat S r m i pat.length c (some (.int ((i+pre.length+1:Nat):Int))) (some (.str stf)) ch k ck,tob m r S acc l obs⟩) ?_ ?_
 .w_how
  w_why
  intro sl
  w_why
  .rw[hsl];exact⟨rfl,rfl⟩
  .lia
 rintro fl J' ⟨rfl,rfl⟩
 exists (stf),hstf,hbs,hsl,hstl
 refine Zan ?_
 refine Zag ?_
 refine XV.cut (λfl J'=>fl = .next/\∃ ch k ck l,J'.loc=Zi3 pat S r m i pat.length c (some (.int ((i+pre.length+1:Nat):Int))) (some (.str (Zbl stf))) ch k ck/\Drp J'.obs (tob m r S acc l obs)) ?_ ?_
 .w_how
  rename_i zq248_1 zq248_2
  exists (jj stf zq248_1),hjj,hstf,hbs,hsl,hstl,zq248_2
  unfold tob
  w_why
  refine⟨λh=>?_,λh=>?_⟩
  .w_why
   refine Zlw F.slot_str_replace F.type_str_replace ?_
   refine Zly (by decide +kernel) (by decide +kernel) (by lia) ?_
   w_why
   refine⟨rfl,ch,k,ck,l,?_,.refl⟩
   have:Zbl stf=Txt.replace stf (Str.ofString "\\") (Str.ofString "\\\\"):=by unfold Zbl;rw[if_neg (by simpa using h)]
   rw[this]
  .have hin2:Zu4 (Str.ofString "-") stf=true:=by simpa using h
   have hc45:cc=45:=by
    have key:∀ c∈stock8,(Zu4 (Str.ofString "-") ⟨([]++[c]).toArray⟩=true->c=45)/\(Zu4 (Str.ofString "-") ⟨([33]++[c]).toArray⟩=true->c=45):=by decide +kernel
    rw[<- hstf] at hin2
    rcases hpre with hp|hp
    .subst hp;exact(key cc hcs).1 hin2
    .subst hp;exact(key cc hcs).2 hin2
   have hpreS:Zbl stf=Txt.replace (Txt.replace stf (Str.ofString "\\") (Str.ofString "\\\\")) (Str.ofString "-") (Str.ofString "\\-"):=by unfold Zbl;rw[if_pos hin2]
   w_why
   intro ca
   exists (ca)
   refine Zbv (by kernel_rfl) (by kernel_rfl) (by l_hasStore) ?_
   refine Zan ?_
   refine Zag ?_
   refine XV.cut (λfl J'=>fl = .next/\J'=⟨Zi3 pat S r m i pat.length c (some (.int ((i+pre.length+1:Nat):Int))) (some (.str stf)) (some (.ref ca)) (some (.int ((i+pre.length+1:Nat):Int))) ck,(ca,.list [])::tob m r S acc l obs⟩) ?_ ?_
   .w_how
    rename_i zq273_1 zq273_2
    exists (ca zq273_1),zq273_2
    try unfold tob
    rcases hpre with hp|hp
    .subst hp
     w_why
     refine Zam (c:=cc) ?_ (by intro o i;exact⟨[o,i],by kernel_rfl⟩) (by simp) (by lia) ha1
     w_why
     refine⟨λh=>?_,λ_=>?_⟩
     .rw[Zaw (d:=33) (by decide +kernel)] at h;simp at h;exact absurd h hn33
     .w_why
      exact⟨rfl,rfl⟩
    .subst hp
     obtain⟨h331,_,_⟩:=Zdb (i:=i) (c:=33) (t:=cc::93::t2) (by rw[hr];rfl)
     w_why
     refine Zam (c:=33) ?_ (by intro o i;exact⟨[o,i],by kernel_rfl⟩) (by simp) (by lia) h331
     w_why
     refine⟨λ_=>?_,λh=>(by cases h)⟩
     w_why
     exact⟨rfl,rfl⟩
   rintro fl J' ⟨rfl,rfl⟩
   refine Zan ?_
   unfold tob
   refine Zag ?_
   refine Zex ?_
   refine WL.mono (K':=λfl J'=>fl = .next/\J'=⟨Zi3 pat S r m i pat.length c (some (.int ((i+pre.length+1:Nat):Int))) (some (.str stf)) (some (.ref ca)) (some (.int (-1))) ck,(ca,.list [])::tob m r S acc l obs⟩) ?_ ?_
   .refine Zez (λ_ _ h=>h) (λq J=>q≠0/\J=⟨Zi3 pat S r m i pat.length c (some (.int ((i+pre.length+1:Nat):Int))) (some (.str stf)) (some (.ref ca)) (some (.int ((i+pre.length+1:Nat):Int))) ck,(ca,.list [])::tob m r S acc l obs⟩) ?_ ?_ 1 _ ?_
    .rintro J ⟨h,_⟩;exact h rfl
    .rintro q J ⟨_,rfl⟩
     unfold tob
     w_why
     refine⟨λ_=>?_,λh=>(by cases h)⟩
     w_why
     refine Zs9 ?_
     rw[Zmx pat (Str.ofString "-") (by decide +kernel) _ (by lia)]
     w_why
     refine⟨λ_=>?_,λh=>(by simp at h)⟩
     w_why
     exact⟨rfl,rfl⟩
    .exact⟨by decide,rfl⟩
   rintro fl J' ⟨rfl,rfl⟩
   refine Zan ?_
   unfold tob
   w_why
   intro sl
   exists (sl)
   w_why
   rotate_left
   .rw[hsl];lia
   .lia
   rw[hsl]
   have hst1:stf.length≠0:=by
    rw[<- hstf]
    show(pre++[cc]).toArray.size≠0
    simp
   refine⟨λ_=>?_,λh=>?_⟩
   rotate_left
   .simp at h;exact absurd h hst1
   w_why
   rotate_left
   .simp;decide
   .simp
   rw[show(((([]:List V)++[V.str stf]).length:Nat):Int)-1=0 from rfl]
   refine Zh9 ?_ (by decide) (PyProof.noPylong_small (by decide))
   intro rg
   exists (rg)
   w_why
   refine Zgk (by k_listUnr) ?_ (by decide)
   intro it
   exists (ca sl rg it)
   refine Zsq .name (λ_ _ h=>h) R.good.h 0 (λ_ loc o=>loc=Zi3 pat S r m i pat.length c (some (.int ((i+pre.length+1:Nat):Int))) (some (.str stf)) (some (.ref ca)) (some (.int (-1))) (some (.str stf))/\o=(ca,.list [.str stf])::tob m r S acc l obs) (by k_listUnr) (by decide) ?_ ?_ ?_
   .exact⟨rfl,rfl⟩
   .intro k _ _ _ hk _;omega
   rintro loc o ⟨rfl,rfl⟩
   unfold tob
   w_why
   have hfx:(Builtin.Str.occurrences stf (Str.ofString "\\") 0 stf.length (stf.length+1)).isEmpty=true/\(Txt.replace stf (Str.ofString "\\") (Str.ofString "\\\\")).length<=1000/\(Zbl stf).length<=1000:=by
    rw[<- hstf,hc45]
    rcases hpre with h|h <;> subst h <;> decide +kernel
   have h1:(Str.ofString "-").length=1:=by decide +kernel
   unfold CAJ
   refine Zme (c:=188) (P:=184) (bm:=4) (ca:=ca) (q:=q71) (l:=l) (rest:=(ca,.list [.str stf])::(m,AO.bound "builtin_function_or_method" "list.append" r)::(r,.list (acc.map (pv S)))::obs) (x:=stf) (out:=Zbl stf) R.good.h (by have:=R.good.d;show R.A.depth<_;lia) rfl (by kernel_rfl)
    (by decide) (by decide +kernel) (by decide +kernel) rfl (λ_=>by kernel_rfl) (by kernel_rfl) (by kernel_rfl) (by kernel_rfl) (by k_slotset) (.head _) rfl (by show codeHdIn G.K 188 184=true;rw[g.K];exact Zt8 P) (bt3 g) (by kernel_rfl) (List.perm_append_comm_assoc [_,_,_] (pt3 l) obs) ?_ (by rw[h1];lia) ?_
   .intro A' E' t s_2 env' m_2 hsc hN hm
    refine Zlk rfl rfl (by decide +kernel) (by decide +kernel) ?_
    refine Zlk rfl rfl (by decide +kernel) (by decide +kernel) ?_
    rw[eval_Name env' _ _ (by decide +kernel)]
    refine Qh (wpAny_standAt (wpAny_loadName_local (by rw[hsc]) (by unfold Env.kindOf;rw[hsc];decide +kernel) hN hm ?_))
    refine⟨stf,t,rfl,.inr hfx.1,by lia,λt' k' hk=>⟨_,t',rfl,.inl ?_,by lia,λt'' k'' _=>?_⟩⟩
    .show 1<=k'
     lia
    .exact⟨⟨t'',by rw[hpreS]⟩,_,_,rfl,λ_ _ e=>e⟩
   .intro l'
    w_why
    refine⟨rfl,some (.ref ca),some (.int (-1)),some (.str stf),l',rfl,?_⟩
    exact .perm (List.perm_append_comm_assoc (Zfr 184 q71 l') [_,_,_] obs) (.cons .refl)
 rintro fl ⟨loc0,o0⟩ ⟨rfl,ch,k,ck,l,hl0,hd⟩
 exists (loc0 o0 ch k ck l),hl0,hd
 have hl1:loc0=_:=hl0
 subst hl1
 refine Zan ?_
 refine W.drp hd ?_
 unfold tob
 w_why
 refine Z0g (by show G.K.lookup 163=_;rw[g.K];with_unfolding_all rfl) rfl rfl ?_
 w_why
 have pm:∀ (x y:Addr×AO) (l:List (PK×Addr)),(x::y::(pt3 l++obs)).Perm (Zfr 184 q71 l++(x::y::obs)):=λx y l=>List.perm_append_comm_assoc [x,y] (pt3 l) obs
 refine Zow (c:=188) (P:=184) (bm:=4) (q:=q71) (l:=l) (rest:=(m,AO.bound "builtin_function_or_method" "list.append" r)::(r,.list (acc.map (pv S)))::obs) rfl (by kernel_rfl) rfl (by show codeHdIn G.K 188 184=true;rw[g.K];exact Zt8 P) (bt3 g) (by kernel_rfl) (pm _ _ _) ?_
 intro f c' l2 hmem
 exists (f c' l2),hmem
 w_why
 unfold brS at hbs
 cases hsub:Zjv Z4q (Zbl stf) esc1 100 0 false with
 | none=>rw[hsub] at hbs;cases hbs
 | some ps=>
 rw[hsub] at hbs
 dsimp only at hbs
 by_cases hbd:ps.length<=100/\sz ps<=1000/\(Zbl stf).length<=1000/\(cat ps).length≠0/\(cat ps==Str.ofString "!")=false
 rotate_left
 .rw[if_neg hbd] at hbs;cases hbs
 rw[if_pos hbd] at hbs
 obtain⟨b1,b2,b3,b4,b5⟩:=hbd
 have ho:=(Qv hbs).symm
 subst ho
 refine Zz1 (n:=n+1) R.good (code:=Z4q) (h:=esc1) (ps:=ps) (sel:=(f,_)::Zfr 184 q71 l2) (rest:=(m,AO.bound "builtin_function_or_method" "list.append" r)::(r,.list (acc.map (pv S)))::obs) (by rw[show(R.cx (callEnv (Zg3 (fd3 15) "cpy313.fnmatch" 675 188) L 189) rfl rfl).G.K=K3 P from g.K];exact pat50 P)
  (List.Perm.refl _) (List.mem_cons_self ..) ?_ hsub (by lia) (by lia) (by lia) ?_
 .intro m2 b e
  exists (ps m2 b e),hsub,b1,b2,b4,b5,hK,hbs
  refine Zqv (c:=c') (q:=q71 (184,39)) (names:=["_m"]) (loc:=[("_m",some (.ref m2))]) (.tail _ (.head _)) (.tail _ (.tail _ (Zsa hmem))) (λ_=>by kernel_rfl) (λ_=>rfl) (λ_=>rfl) (λ_=>rfl) (λ_=>rfl) (λ_=>rfl) rfl (λv=>by k_one) (λv=>by show ∀ x∈[("_m" : Str)],List.lookup x [(Str.ofString "_m",NameKind.local)]=some .local;decide +kernel) (λv=>by show ∀ x∈[(Str.ofString "_m",NameKind.local)],x.2≠NameKind.cell;decide +kernel) (by decide +kernel) (λv=>rfl) (λv=>rfl) (λv=>rfl) ?_ rfl
  intro v R2 L2
  exists (v L2)
  w_why
  refine Zs0 (by k_qdec) ?_
  w_why
  refine Zrj (by k_qdec) (by lia) ?_
  rw[show(⟨(Zbl stf).cps.extract b e⟩:Str)=cut (Zbl stf) b e from rfl]
  have hcut:(cut (Zbl stf) b e).length<=(Zbl stf).length:=by
   show((Zbl stf).cps.extract _ _).size<=(Zbl stf).cps.size
   simp;lia
  have hbl:(Str.ofString "\\").length=1:=by decide +kernel
  w_why
  rotate_left
  .lia
  refine⟨λh=>?_,λh=>?_⟩
  .have h0:cut (Zbl stf) b e=Str.ofString "" := by
    have:(cut (Zbl stf) b e).length=0:=by simpa using h
    have h2:(cut (Zbl stf) b e).cps=#[]:=Array.eq_empty_of_size_eq_zero this
    show(⟨(cut (Zbl stf) b e).cps⟩:Str)=_
    rw[h2];rfl
   w_why
   .exact⟨_,⟨by rw[h0];rfl,rfl⟩,.refl⟩
   .rw[hbl];decide
  .w_why
   .exact⟨_,⟨rfl,rfl⟩,.refl⟩
   .rw[hbl];lia
 .have hcl:=Zny ps
  generalize cat ps=T at *
  refine OP1.drp (o':=tob m r S acc l2 obs) (.cons (.perm (List.perm_append_comm_assoc (Zfr 184 q71 l2) [_,_] obs) .refl)) ?_
  obtain⟨c1,tl,hT⟩:∃ c1 tl,T.cps.toList=c1::tl:=by
   cases h:T.cps.toList with
   | nil=>exact absurd (by have:=congrArg List.length h;simpa [Str.length] using this) b4
   | cons a b=>exact⟨a,b,rfl⟩
  have hc1:=(Zdb (x:=T) (i:=0) (c:=c1) (t:=tl) (by simpa using hT)).1
  unfold tob
  w_why
  rotate_left
  .lia
  refine⟨λh=>?_,λ_=>?_⟩
  .simp at h;exact absurd h b4
  w_why
  refine⟨λh=>?_,λ_=>?_⟩
  .rw[b5] at h;cases h
  have h1:(Str.ofString "^").length=1:=by decide +kernel
  have h2:(Str.ofString "\\").length=1:=by decide +kernel
  have h3:=Zbt T (some 1) none
  refine Zag ?_
  refine XV.cut (λfl J'=>fl = .next/\J'=⟨Zi3 pat S r m ((i+pre.length+1:Nat)+1:Int) pat.length c (some (.int ((i+pre.length+1:Nat):Int))) (some (.str (Zq2 T))) ch k ck,tob m r S acc l2 obs⟩) ?_ ?_
  .w_how
   rename_i zq442_1 zq442_2 zq442_3 zq442_4
   exists (jj stf o0 ch k ck l f c' l2 ps T c1 tl zq442_3),hjj,hstf,hsl,hstl,hl0,hd,hmem,hsub,b1,b2,b3,b4,b5,hK,hbs,hcl,hT,hc1,zq442_1,zq442_2,h3,zq442_4
   try unfold tob
   w_why
   refine Zam (c:=c1) ?_ (by intro o i;exact⟨[o,i],by kernel_rfl⟩) (by simp) (by decide) hc1
   w_why
   refine⟨λh=>?_,λh=>?_⟩
   .have hc33:c1=33:=by rw[Zaw (d:=33) (by decide +kernel)] at h;simpa using h
    have hw:Zq2 T=Str.ofString "^" ++ Zdx T (some 1) none:=by unfold Zq2;rw[hT];simp only[if_pos hc33]
    w_why
    intro sl
    w_why
    .exact⟨rfl,by rw[hw];rfl⟩
    .rw[h1];lia
    .lia
   .have hc33:c1≠33:=by rw[Zaw (d:=33) (by decide +kernel)] at h;simpa using h
    w_why
    refine Zam (c:=c1) ?_ (by intro o i;exact⟨[o,i],by kernel_rfl⟩) (by simp) (by decide) hc1
    w_why
    refine Zgg (ys:=[Str.ofString "^",Str.ofString "["]) ?_
    have hany:([Str.ofString "^",Str.ofString "["].any λy=>y==(⟨#[c1]⟩:Str))=decide (c1=94\/c1=91):=by
     have e1:((Str.ofString "^")==(⟨#[c1]⟩:Str))=decide (c1=94):=by rw[<- Zaw (c:=c1) (d:=94) (y:=Str.ofString "^") (by decide +kernel)];exact Bool.beq_comm ..
     have e2:((Str.ofString "[")==(⟨#[c1]⟩:Str))=decide (c1=91):=by rw[<- Zaw (c:=c1) (d:=91) (y:=Str.ofString "[") (by decide +kernel)];exact Bool.beq_comm ..
     simp only[List.any_cons,List.any_nil,e1,e2,Bool.or_false,Bool.decide_or]
    rw[hany]
    w_why
    refine⟨λh=>?_,λh=>?_⟩
    .have hw:Zq2 T=Str.ofString "\\" ++ T:=by unfold Zq2;rw[hT];simp only[if_neg hc33];rw[if_pos (by simpa using h)]
     w_why
     .exact⟨rfl,by rw[hw];rfl⟩
     .rw[h2];lia
    .have hw:Zq2 T=T:=by unfold Zq2;rw[hT];simp only[if_neg hc33];rw[if_neg (by simpa using h)]
     w_why
     exact⟨rfl,by rw[hw];rfl⟩
  rintro fl J' ⟨rfl,rfl⟩
  have hbi:(Zq2 T).length<=2000:=by
   unfold Zq2
   rw[hT]
   dsimp only
   split
   .rw[Zak,h1];lia
   .split
    .rw[Zak,h2];lia
    .lia
  refine Zan ?_
  unfold tob
  w_why
  refine Zay (id := "list.append") (a:=r) (.inl rfl) ?_ (by kernel_rfl)
  w_why
  have k0:Str.empty.length=0:=by decide +kernel
  have k1:(Str.ofString "[").length=1:=by decide +kernel
  have k2:(Str.ofString "]").length=1:=by decide +kernel
  refine⟨by simp only[Zak,k0,k1];decide,?_⟩
  w_why
  refine⟨by lia,?_⟩
  w_why
  refine⟨by simp only[Zak,k0,k1];lia,?_⟩
  w_why
  refine⟨by simp only[Zak,k0,k1,k2];lia,?_⟩
  w_why
  refine⟨by k_qdec,?_⟩
  refine Zbm (by k_qdec) (by k_closed) ?_ (by rw[Qj];lia)
  w_why
  rotate_left
  .simp only[Zak,k0,k1,k2];lia
  have e1:((i+pre.length+1:Nat):Int)+1=((i+(pre++[cc]).length+1:Nat):Int):=by simp;lia
  rw[e1]
  refine hK.out _ _ _ _ _ l2 _ ?_
  unfold tob
  rw[Qq]
  exact .refl
end L1
namespace L1
open Mine
set_option tactic.hygienic true in
theorem tr_fn{P:Params}{G:Gl}(g:G3 P G)(n:Nat)(pat:Str)(S:Addr)(parts:List (Option Str))(l0:List (PK×Addr))(obs:Wg)(hz:pat.length<=100)(ho:Zkg 200 pat.cps.toList []=some parts) :
  Fn G (.ref 189) (n+4) [.str pat,.ref S,.str (Str.ofString ".")] (pt3 l0++obs) λv o=>∃ r l,v = .ref r/\o=(r,.list (parts.map (pv S)))::(pt3 l++obs):=by
 refine Zcu g ["pat", "STAR", "QUESTION_MARK"] ["res", "add", "i", "n", "c", "j", "stuff", "chunks", "k", "chunk"] [("pat",some (.str pat)),("STAR",some (.ref S)),("QUESTION_MARK",some (.str (Str.ofString "."))),("res",none),("add",none),("i",none),("n",none),("c",none),("j",none),("stuff",none),("chunks",none),("k",none),("chunk",none)] rfl rfl rfl rfl rfl (by k_acc1L) (by decide +kernel) (by decide +kernel) (by decide +kernel) (by kernel_rfl) (by kernel_rfl) (by kernel_rfl) ?_ rfl
 intro N R L
 refine XV.opq λK hKK=>?_
 exists (fun pat S parts l0 obs L K=>3),g,hz,ho,N,hKK
 have hzz:sizeLine=16777216:=by decide
 refine Zag ?_
 w_why
 intro r
 exists (r)
 w_why
 refine Zui (by k_qdec) ?_
 intro m
 exists (m)
 w_why
 with_reducible refine Zdm "i" "n" R.good.h ?_ (by kernel_rfl) (by kernel_rfl)
 w_why
 rotate_left
 .lia
 refine WL.mono (K':=λfl J'=>fl = .next/\∃ c j st ch k ck l,J'.loc=Zi3 pat S r m pat.length pat.length c j st ch k ck/\Drp J'.obs (tob m r S parts l obs)) ?_ ?_
 .refine Zez (λ_ _ h=>h) (λq J=>∃ (i:Nat) (rest:List Nat) (acc:List (Option Str)) (c j st ch k ck:Option V) (l:List (PK×Addr)),pat.cps.toList.drop i=rest/\i<=pat.length/\Zkg q rest acc=some parts/\J.loc=Zi3 pat S r m i pat.length c j st ch k ck/\Drp J.obs (tob m r S acc l obs)) ?_ ?_ 200 _ ?_
  .rintro J ⟨i,rest,acc,c,j,st,ch,k,ck,l,_,_,h,_⟩;cases h
  .rintro q ⟨loc0,o0⟩ ⟨i,rest,acc,c,j,st,ch,k,ck,l,hr,hi,hp,hl0,hd⟩
   exists (q loc0 o0 i rest acc c j st ch k ck l),hr,hi,hp,hl0,hd
   have hl1:loc0=_:=hl0
   subst hl1
   refine W.drp hd ?_
   unfold tob
   rw[Zoo] at hp
   w_how
   rename_i zq40_1 zq40_2 zq40_3 zq40_4
   exists (r m q o0 i rest acc c j st ch k ck l zq40_1 zq40_2),hr,hi,hp,hl0,hd,zq40_3,zq40_4
   by_cases hal:100<acc.length
   .rw[if_pos hal] at hp;cases hp
   rw[if_neg hal] at hp
   cases hrc:rest with
   | nil=>
    rw[hrc] at hp hr
    have hi2:i=pat.length:=by
     have h1:=congrArg List.length hr
     have h2:pat.cps.toList.length=pat.length:=by simp[Str.length]
     simp -iota at h1
     simp -iota [Str.length] at *
     clear hp;lia
    have hacc:acc=parts:=Qv hp
    w_why
    refine⟨λh=>?_,λh=>?_⟩
    .first|exact dlt hlt h|(simp at h;omega)
    .w_why
     refine⟨rfl,c,j,st,ch,k,ck,l,?_,?_⟩
     .rw[hi2]
     .rw[<- hacc];exact .refl
   | cons c0 t=>
    rw[hrc] at hp hr
    obtain⟨hat,hr1,hlt⟩:=Zdb hr
    dsimp only at hp
    w_why
    refine⟨λ_=>?_,λh=>?_⟩
    rotate_left
    .first|exact dlt hlt h|(simp at h;omega)
    w_why
    refine Zam (c:=c0) ?_ (by intro o i;exact⟨[o,i],by kernel_rfl⟩) (by simp) (by clear hp;lia) hat
    w_why
    refine⟨λhc=>?_,λhc=>?_⟩
    .have hc':c0=42:=by rw[Zaw (d:=42) (by decide +kernel)] at hc;simpa using hc
     subst hc'
     rw[if_pos rfl] at hp
     w_why
     rotate_left
     .rw[Qj];clear hp;lia
     cases acc with
     | nil=>
      refine⟨λh=>(by cases h),λ_=>?_⟩
      refine⟨λ_=>?_,λh=>(by cases h)⟩
      w_why
      refine Zay (id := "list.append") (a:=r) (.inl rfl) ?_ (by kernel_rfl)
      w_why
      refine⟨by k_qdec,?_⟩
      refine Zbm (by k_qdec) (by k_closed) ?_ (by simp)
      w_why
      exact Zwp (i+1) t [none] _ _ _ _ _ _ l hr1 hlt hp rfl .refl
     | cons a0 acc0=>
      obtain⟨x,hx1,hx2⟩:=Zns (S:=S) (acc:=a0::acc0) (by simp)
      exists (t a0 acc0 x),hr1,hr,hrc,hd,hal,hp,hx1,hx2
      generalize hac:a0::acc0=acc at *
      have hne:acc.length≠0:=by rw[<- hac];simp
      refine⟨λ_=>?_,λh=>?_⟩
      rotate_left
      .rw[<- hac] at h;cases h
      w_why
      refine Zdn (x:=pv S x) (by k_qdec) ?_ (by intro o i;exact⟨[o,i],by kernel_rfl⟩) (by decide) (by rw[Qj];clear hp;lia) (by decide) ?_
      rotate_left
      .have e:((-1:Int)+((acc.map (pv S)).length:Nat)).toNat=acc.length-1:=by rw[Qj];clear hp;lia
       rw[e];exact hx2
      induction x with
      | none=>
       simp -iota only[Zit,Zh8]
       rw[if_pos hx1] at hp
       w_why
       refine⟨λ_=>?_,λh=>(by cases h)⟩
       w_why
       refine⟨λh=>(by cases h),λ_=>?_⟩
       w_why
       exact Zwp (i+1) t acc _ _ _ _ _ _ l hr1 hlt hp rfl .refl
      | some sx=>
       simp -iota only[Zit,Zh8]
       rw[if_neg (by rw[hx1];simp)] at hp
       w_why
       refine⟨λh=>(by cases h),λ_=>?_⟩
       refine⟨λ_=>?_,λh=>(by cases h)⟩
       w_why
       refine Zay (id := "list.append") (a:=r) (.inl rfl) ?_ (by kernel_rfl)
       w_why
       refine⟨by k_qdec,?_⟩
       refine Zbm (by k_qdec) (by k_closed) ?_ (by rw[Qj];clear hp;lia)
       w_why
       refine Zwp (i+1) t (acc++[none]) _ _ _ _ _ _ l hr1 hlt hp rfl ?_
       rw[Qq]
       exact .refl
    .have hc':c0≠42:=by rw[Zaw (d:=42) (by decide +kernel)] at hc;simpa using hc
     rw[if_neg hc'] at hp
     w_why
     refine⟨λhc2=>?_,λhc2=>?_⟩
     .have hc':c0=63:=by rw[Zaw (d:=63) (by decide +kernel)] at hc2;simpa using hc2
      subst hc'
      rw[if_pos rfl] at hp
      w_why
      refine Zay (id := "list.append") (a:=r) (.inl rfl) ?_ (by kernel_rfl)
      w_why
      refine⟨by k_qdec,?_⟩
      refine Zbm (by k_qdec) (by k_closed) ?_ (by rw[Qj];clear hp;lia)
      w_why
      refine Zwp (i+1) t (acc++[some (Str.ofString ".")]) _ _ _ _ _ _ l hr1 hlt hp rfl ?_
      rw[Qq]
      exact .refl
     .have hc2':c0≠63:=by rw[Zaw (d:=63) (by decide +kernel)] at hc2;simpa using hc2
      rw[if_neg hc2'] at hp
      w_why
      refine⟨λhc3=>?_,λhc3=>?_⟩
      .have hc':c0=91:=by rw[Zaw (d:=91) (by decide +kernel)] at hc3;simpa using hc3
       subst hc'
       rw[if_pos rfl] at hp
       cases hbt:Zh4 t with
       | none=>rw[hbt] at hp;cases hp
       | some pr=>
       obtain⟨st0,t2⟩:=pr
       rw[hbt] at hp
       dsimp only at hp
       cases hbs:brS ⟨st0.toArray⟩ with
       | none=>rw[hbs] at hp;cases hp
       | some o=>
       rw[hbs] at hp
       dsimp only at hp
       obtain⟨pre,cc,hcs,hst0,ht,hpre⟩:=Zi0 hbt
       obtain⟨hn33,hn91,_,_⟩:=Zk7 cc hcs
       have hsz:st0.length=pre.length+1:=by rw[hst0];simp
       have hlen2:i+1+st0.length+1<=pat.length:=by
        have h1:=congrArg List.length hr1
        have h2:pat.cps.toList.length=pat.length:=by simp[Str.length]
        rw[ht] at h1
        simp -iota only[List.length_drop,List.length_append,List.length_cons] at h1
        clear hp;lia
       have hd2:pat.cps.toList.drop (i+1+st0.length+1)=t2:=by
        rw[<- List.drop_drop,<- List.drop_drop,hr1,ht,hsz]
        rw[<- List.drop_drop,List.drop_left];rfl
       refine Zxn g N R L pat S r m (i+1) acc pre cc t2 o l obs hz (by clear hp;lia) (by rw[hr1];exact ht) hcs hpre (by rw[<- hst0];exact hbs) _ j st ch k ck _ ⟨λj st ch k ck l o' hd'=>?_⟩
       rw[<- hst0]
       w_why
       exact Zwp (i+1+st0.length+1) t2 (acc++[some o]) _ _ _ _ _ _ l hd2 hlen2 hp rfl hd'
      .have hc3':c0≠91:=by rw[Zaw (d:=91) (by decide +kernel)] at hc3;simpa using hc3
       rw[if_neg hc3'] at hp
       by_cases hs8:c0∈stock8
       .rw[if_pos hs8] at hp
        w_why
        refine Zay (id := "list.append") (a:=r) (.inl rfl) ?_ (by kernel_rfl)
        w_why
        refine Zyq (rest:=[]) (R.good.less (show 1<=n+3 by k_units)) (Z1d g 0 c0 hs8 _) (by rw[List.append_nil]) ?_
        rintro v rfl
        w_why
        refine⟨by k_qdec,?_⟩
        refine Zbm (by k_qdec) (by k_closed) ?_ (by rw[Qj];clear hp;lia)
        w_why
        refine Zwp (i+1) t (acc++[some (Zzh c0)]) _ _ _ _ _ _ l hr1 hlt hp rfl ?_
        rw[Qq]
        exact .refl
       .rw[if_neg hs8] at hp;cases hp
  .exact Zwp 0 _ [] none none none none none none l0 rfl (Nat.zero_le _) ho rfl .refl
 .rintro fl ⟨loc0,o0⟩ ⟨rfl,c,j,st,ch,k,ck,l,hl0,hd⟩
  have hl1:loc0=_:=hl0
  subst hl1
  refine Zan ?_
  refine W.drp hd ?_
  unfold tob
  w_why
  refine⟨by simp,?_⟩
  w_why
  .exact ei2 r l rfl rfl
  .k_rangeUnr
end L1
namespace L1
open Mine
theorem Zhw{P:Params}{G:Gl}(g:G3 P G)(n:Nat)(pat:Str)(parts:List (Option Str))(out:Str)(l0:List (PK×Addr))(obs:Wg)(hz:pat.length<=100)(ho:Zkg 200 pat.cps.toList []=some parts)(hpz:parts.length<=100)(hj:pj parts=some out) :
  Fn G (.ref 170) (n+5) [.str pat] (pt3 l0++obs) λv o=>∃ l,v = .str out/\o=pt3 l++obs:=by
 refine Zcu g ["pat"] ["STAR", "parts"] [("pat",some (.str pat)),("STAR",none),("parts",none)] rfl rfl rfl rfl rfl (by k_one) (by decide +kernel) (by decide +kernel) (by decide +kernel) (by kernel_rfl) (by kernel_rfl) (by kernel_rfl) ?_ rfl
 intro N R L
 refine XV.opq λK hKK=>?_
 exists (fun pat parts out l0 obs L K=>4),g,hz,ho,hpz,hj,N,hKK
 refine Zag ?_
 w_why
 refine Zpy ?_
 intro S
 w_why
 refine Zk2 (R.good.less (show n+4<=n+4 by simp)) (tr_fn g n pat S parts l0 obs hz ho) ?_
 rintro v o ⟨r,l,rfl,rfl⟩
 w_why
 refine Zk2 (R.good.less (show 1<=n+4 by k_units)) (Zvl g 0 r S parts out (pt3 l++obs) hpz hj) ?_
 rintro v o ⟨rfl,rfl⟩
 w_why
 .exact ei1 l rfl rfl
 .exact .cons .refl
end L1
namespace L1
open Mine MI
noncomputable section
noncomputable def mkF(d:Fd)(k:Nat):FI:=
 let ns:=d.params.args.map (·.arg)++(match d.params.vararg with|some a=>[a.arg]|none=>[])
 ⟨ns,k,(d.scope.names.filter λx=>x.2 == .local&&!ns.contains x.1).map (·.1),d.body,d.scope.names⟩
noncomputable def isOq(a:A)(i:Nat):Bool:=A.rec (motive:=Wf) F0 We We We We We We We We We F0 Wb (λk=>Nat.beq k i) a
noncomputable def Zqg(l:List Nat):Nat->List A->(List A->Bool)->Bool:=List.rec (motive:=λY=>Nat->List A->(List A->Bool)->Bool) (λY js k=>gd (emL js) (k []))
 (λc Y ih i js k=>List.rec (motive:=Wf) F0 (λj js' Y=>gd (isOq j (Nat.add i 16)) (iff (Nat.beq c nC) (ih (Nat.add i 1) js' λr=>k (.int 1::r)) (gd (Nat.beq c (Nat.add nC 1)) (ih (Nat.add i 1) js' λr=>k (.int 0::r))))) js) l
noncomputable def toldH:CC:=⟨λl s k=>Z42 l λrow j=>row.onBytes λb=>len b λn=>gd (Nat.ble n 6) (j.onRef λh=>s.lst h λjs=>Zqg b 0 js λr=>s.new (.list r) λh s=>k (.ref h) s)⟩
noncomputable def pgl:List (Str×A):=[("_NODE_OUT",.int (-1)),("_NODE_DONE",.int (-2)),("_NodeInfo",.fz 57),("TopologicalSorter",.fz 154),("_byteswap",.fz 203),("_law_told",.fz 238),("_law_sorter",.fz 245),("_law_driven",.fz 250),("_law_heights",.fz 257),("_law_due",.fz 262),("_law_turned",.fz 269)]
noncomputable def pbl:List (Str×A):=[("range",.ty 0),("bytes",.ty 1),("bytearray",.ty 2),("enumerate",.ty 3),("set",.ty 4),("tuple",.ty 5),("bool",.ty 6),("list",.ty 7),("len",.bi 0),("chr",.bi 1),("ord",.bi 2),("max",.bi 3),("sum",.bi 5),("iter",.bi 6),("isinstance",.bi 7),("sorted",.bi 8)]
noncomputable def pg1:Pg where
 gl:=pgl
 bl:=pbl
 fn:=[(203,mkF (fd3 18) 0),(245,mkF (fd3 25) 0),(250,mkF (fd3 26) 0),(257,mkF (fd3 27) 0),(262,mkF (fd3 28) 0),(269,mkF (fd3 29) 0),
  (90,mkF (md3 7 0) 2),(97,mkF (md3 7 1) 0),(104,mkF (md3 7 2) 1),(109,mkF (md3 7 3) 0),(116,mkF (md3 7 4) 0),(123,mkF (md3 7 5) 0),(137,mkF (md3 7 7) 1),(144,mkF (md3 7 8) 0),(53,mkF (md3 5 1) 0)]
 me:=[((154, "_get_nodeinfo"),97),((154, "add"),104),((154, "prepare"),109),((154, "get_ready"),116),((154, "is_active"),123),((154, "done"),137),((154, "_find_cycle"),144)]
 ats:=[(154, "_node2info"),(154, "_ready_nodes"),(154, "_npassedout"),(154, "_nfinished")]
 sl:=[((57, "node"),(0,58)),((57, "npredecessors"),(1,59)),((57, "successors"),(2,60))]
 cl:=[(154,(false,90)),(57,(true,53))]
 hk:=[(238,toldH)]
end
noncomputable def vA:A->V
 | .int i=>.int i
 | .fz a=>.ref a
 | .ty n=>.ty (tyNm n)
 | .bi n=>.bi (biNm n)
 | _=>.none
noncomputable def isG:A->Bool
 | .int _=>true
 | .fz _=>true
 | .ty _=>true
 | .bi _=>true
 | _=>false
theorem Z0p{E:En}{a:A}(h:isG a=true)(D:Rh):AR E D a (vA a):=by
 cases a <;> first|rfl|cases h
set_option tactic.hygienic true in
theorem Zck{α β:Type}[BEq α][LawfulBEq α]{a:α}{b:β}:∀ {l:List (α×β)},l.lookup a=some b->(a,b)∈l
 | (x,y)::l,h=>by
  rw[List.lookup_cons] at h
  cases e:a==x with
  | true=>rw[e] at h;cases h;rw[eq_of_beq e];exact .head _
  | false=>rw[e] at h;exact .tail _ (Zck h)
theorem Zud{l:Wn}{m:List (Str×A)}{q:Str×A}(h1:(m.map λq=>l.lookup q.1)=m.map λq=>some (vA q.2))(h2:(m.all λq=>isG q.2)=true)(h:q∈m):isG q.2=true/\(q.1,vA q.2)∈l:=⟨List.all_eq_true.mp h2 q h,Zck (List.map_inj_left.mp h1 q h)⟩
theorem Z17:(pgl.map λq=>gl3.lookup q.1)=pgl.map λq=>some (vA q.2):=by kernel_rfl
theorem Z1v:(pbl.map λq=>bl3.lookup q.1)=pbl.map λq=>some (vA q.2):=by kernel_rfl
theorem pgl_g:(pgl.all λq=>isG q.2)=true:=by kernel_rfl
theorem pbl_g:(pbl.all λq=>isG q.2)=true:=by kernel_rfl
section
variable {P:Params} {G:Gl}
theorem Z34(P:Params):(pg1.ats.all λq=>Zf7 (K3 P) q.1 q.2&&Zd1 (K3 P) q.1 q.2)=true:=by kernel_rfl
theorem pg_sl(P:Params):(pg1.sl.all λq=>Zlr (K3 P) q.1.1 q.2.2 q.1.2 q.2.1&&Zc0 (K3 P) q.1.1 q.2.2 q.1.2 q.2.1&&Nat.ble (q.2.1+1) 1000)=true:=by kernel_rfl
theorem pg_me(P:Params):(pg1.me.all λq=>Ziy (K3 P) q.1.1 q.1.2 q.2&&keepIn (K3 P) (.ref q.2)&&Zfe (K3 P) q.1.1 q.1.2 q.2)=true:=by kernel_rfl
theorem pg_kp(P:Params):((pg1.fn.map (·.1)++pg1.cl.map (·.1)++pg1.hk.map (·.1)).all λa=>keepIn (K3 P) (.ref a))=true:=by kernel_rfl
theorem pg_cl(P:Params):(pg1.cl.all λq=>Ze4 (K3 P) q.1 q.2.2&&(pg1.fn.lookup q.2.2).isSome)=true:=by kernel_rfl
theorem pgOk(E:En)(g:G3 P G):Zd8 E pg1 G where
 gl x a h:=by
  obtain⟨h1,h2⟩:=Zud Z17 pgl_g (Zck h)
  obtain⟨val,e,r⟩:=g.N.mg _ h2
  exact⟨_,val,Z0p h1,e,r⟩
 bl x a h:=by
  obtain⟨h1,h2⟩:=Zud Z1v pbl_g (Zck h)
  obtain⟨e0,val,e,r⟩:=g.N.mb _ h2
  exact⟨_,val,Z0p h1,e0,e,r⟩
 ats cl n h:=by
  rw[g.K]
  exact Bool.and_eq_true_iff.mp (List.all_eq_true.mp (Z34 P) (cl,n) (List.elem_iff.mp h))
 sl cl n i q h:=by
  rw[g.K]
  obtain⟨h1,h2⟩:=Bool.and_eq_true_iff.mp (List.all_eq_true.mp (pg_sl P) _ (Zck h))
  obtain⟨h3,h4⟩:=Bool.and_eq_true_iff.mp h1
  exact⟨h3,h4,Qo h2⟩
 st:=by
  obtain⟨e0,val,e,r⟩:=g.N.mb ("StopIteration",.ty "StopIteration") (Mb.mem (by k_slotget))
  exact⟨e0,by rw[e,VR.tyE (r { objs:=#[] })]⟩
 me cl n f h:=by
  rw[g.K]
  obtain⟨h1,h2⟩:=Bool.and_eq_true_iff.mp (List.all_eq_true.mp (pg_me P) _ (Zck h))
  obtain⟨h3,h4⟩:=Bool.and_eq_true_iff.mp h1
  exact⟨h3,h4,h2⟩
noncomputable def fiB(fi:FI):Bool:=decide ((fi.names++fi.rest).Nodup)&&decide ((fi.sn.map (·.1)).Nodup)&&fi.names.all (λx=>fi.sn.lookup x==some .local||fi.sn.elem (x,.cell))&&(fi.kind==0||(fi.names.all (λx=>fi.sn.lookup x==some .local)&&fi.sn.all λx=>x.2 != .cell))
theorem Z3i{a:Addr}{fi:FI}(h:fiB fi=true)(ok:∃ fd:FuncData,Dfn G a fd fi.body/\fd.scope.names=fi.sn/\Zis G fd fi.names fi.kind):Zek G a fi:=by
 obtain⟨h1,h2⟩:=Bool.and_eq_true_iff.mp h
 obtain⟨h3,h4⟩:=Bool.and_eq_true_iff.mp h1
 obtain⟨h5,h6⟩:=Bool.and_eq_true_iff.mp h3
 refine⟨ok,of_decide_eq_true h5,of_decide_eq_true h6,λx hx=>?_,λhk=>?_⟩
 .rcases Bool.or_eq_true_iff.mp (List.all_eq_true.mp h4 x hx) with q|q
  .exact .inl (eq_of_beq q)
  .exact .inr (List.elem_iff.mp q)
 .rcases Bool.or_eq_true_iff.mp h2 with q|q
  .exact absurd (eq_of_beq q) hk
  .obtain⟨q1,q2⟩:=Bool.and_eq_true_iff.mp q
   exact⟨λx hx=>eq_of_beq (List.all_eq_true.mp q1 x hx),λx hx=>by simpa using List.all_eq_true.mp q2 x hx⟩
theorem Zmc{s:Scope}(hf:(!s.isCoroutine&&!s.isGenerator&&Z4k s.kind)=true):s.isCoroutine=false/\s.isGenerator=false/\s.kind = .function:=by
 obtain⟨h1,h2⟩:=Bool.and_eq_true_iff.mp hf
 obtain⟨h3,h4⟩:=Bool.and_eq_true_iff.mp h1
 refine⟨(Bool.not_eq_true' _).mp h3,(Bool.not_eq_true' _).mp h4,?_⟩
 cases h:s.kind <;> rw[h] at h2 <;> first|rfl|cases h2
theorem fi0(g:G3 P G){f c:Addr}{d:Fd}{m:String}{t:Tok}{oc:Obj}{cvs:Array Value}{ct:Tok}{k:Nat}(ho:(K3 P).lookup f=some (Zfs d m t c))(hoc:(K3 P).lookup c=some oc)(hdc:oc.data = .fields cvs)(hcv:cvs[1]?=some (.str d.name ct))
  (hf:(!d.scope.isCoroutine&&!d.scope.isGenerator&&Z4k d.scope.kind)=true) (hB:fiB (mkF d k)=true) (hb:Zis G (Zg3 d m t c) (mkF d k).names k):Zek G f (mkF d k):=by
 refine Z3i hB ⟨Zg3 d m t c,dfn3 g ho hoc hdc hcv (Zmc hf).1 (Zmc hf).2.1 (Zmc hf).2.2,rfl,hb⟩
theorem fi1(g:G3 P G){f c:Addr}{d:Fd}{q m:String}{t:Tok}{dfl:Value}{oc:Obj}{cvs:Array Value}{ct:Tok}{k:Nat}(ho:(K3 P).lookup f=some (Zb1 d q m t c dfl))(hoc:(K3 P).lookup c=some oc)(hdc:oc.data = .fields cvs)(hcv:cvs[1]?=some (.str q ct))
  (hf:(!d.scope.isCoroutine&&!d.scope.isGenerator&&Z4k d.scope.kind)=true) (hB:fiB (mkF d k)=true) (hb:Zis G (Zy8 d q m t c dfl) (mkF d k).names k):Zek G f (mkF d k):=by
 refine Z3i hB ⟨Zy8 d q m t c dfl,⟨⟨_,by rw[g.K];exact ho,rfl⟩,⟨c,oc,cvs,ct,rfl,by rw[g.K];exact hoc,hdc,hcv⟩,rfl,rfl,rfl,rfl,(Zmc hf).1,(Zmc hf).2.1,(Zmc hf).2.2⟩,rfl,hb⟩
theorem Z27(g:G3 P G):Zek G 203 (mkF (fd3 18) 0):=fi0 g (by rfl) (by rfl) rfl rfl (by kernel_rfl) (by kernel_rfl) (show ∀ vs:List Value,vs.length=2->_ by k_obj1)
theorem Z2k(g:G3 P G):Zek G 245 (mkF (fd3 25) 0):=fi0 g (by rfl) (by rfl) rfl rfl (by kernel_rfl) (by kernel_rfl) (show ∀ vs:List Value,vs.length=1->_ by k_one)
theorem Z2j(g:G3 P G):Zek G 250 (mkF (fd3 26) 0):=fi0 g (by rfl) (by rfl) rfl rfl (by kernel_rfl) (by kernel_rfl) (show ∀ vs:List Value,vs.length=2->_ by k_obj1)
theorem Z2i(g:G3 P G):Zek G 257 (mkF (fd3 27) 0):=fi0 g (by rfl) (by rfl) rfl rfl (by kernel_rfl) (by kernel_rfl) (show ∀ vs:List Value,vs.length=1->_ by k_one)
theorem Z2e(g:G3 P G):Zek G 262 (mkF (fd3 28) 0):=fi0 g (by rfl) (by rfl) rfl rfl (by kernel_rfl) (by kernel_rfl) (show ∀ vs:List Value,vs.length=3->_ by k_acc1L)
theorem Z1e(g:G3 P G):Zek G 269 (mkF (fd3 29) 0):=fi0 g (by rfl) (by rfl) rfl rfl (by kernel_rfl) (by kernel_rfl) (show ∀ vs:List Value,vs.length=2->_ by k_obj1)
theorem fi_97(g:G3 P G):Zek G 97 (mkF (md3 7 1) 0):=fi1 g (by rfl) (by rfl) rfl rfl (by kernel_rfl) (by kernel_rfl) (show ∀ vs:List Value,vs.length=2->_ by k_obj1)
theorem Z3b(g:G3 P G):Zek G 109 (mkF (md3 7 3) 0):=fi1 g (by rfl) (by rfl) rfl rfl (by kernel_rfl) (by kernel_rfl) (show ∀ vs:List Value,vs.length=1->_ by k_one)
theorem Zzn(g:G3 P G):Zek G 116 (mkF (md3 7 4) 0):=fi1 g (by rfl) (by rfl) rfl rfl (by kernel_rfl) (by kernel_rfl) (show ∀ vs:List Value,vs.length=1->_ by k_one)
theorem Z28(g:G3 P G):Zek G 123 (mkF (md3 7 5) 0):=fi1 g (by rfl) (by rfl) rfl rfl (by kernel_rfl) (by kernel_rfl) (show ∀ vs:List Value,vs.length=1->_ by k_one)
theorem Z1s(g:G3 P G):Zek G 144 (mkF (md3 7 8) 0):=fi1 g (by rfl) (by rfl) rfl rfl (by kernel_rfl) (by kernel_rfl) (show ∀ vs:List Value,vs.length=1->_ by k_one)
theorem fi_53(g:G3 P G):Zek G 53 (mkF (md3 5 1) 0):=fi1 g (by rfl) (by rfl) rfl rfl (by kernel_rfl) (by kernel_rfl) (show ∀ vs:List Value,vs.length=2->_ by k_obj1)
theorem Z3e(g:G3 P G):Zek G 104 (mkF (md3 7 2) 1):=fi1 g (by rfl) (by rfl) rfl rfl (by kernel_rfl) (by kernel_rfl) λargs more h1 h2=>by
 have h1:args.length=2:=Nat.succ.inj h1
 refine Binds.star (names:=["self", "node"]) h1.symm h2 λvs ws h3 h4=>?_
 obtain⟨a,b,rfl⟩:=len2 h3
 induction ws <;> kernel_rfl
theorem Z0u(g:G3 P G):Zek G 137 (mkF (md3 7 7) 1):=fi1 g (by rfl) (by rfl) rfl rfl (by kernel_rfl) (by kernel_rfl) λargs more h1 h2=>by
 have h1:args.length=1:=Nat.succ.inj h1
 refine Binds.star (names:=["self"]) h1.symm h2 λvs ws h3 h4=>?_
 obtain⟨a,rfl⟩:=Z4w h3
 induction ws <;> kernel_rfl
theorem fi_90(g:G3 P G):Zek G 90 (mkF (md3 7 0) 2):=fi1 g (by rfl) (by rfl) rfl rfl (by kernel_rfl) (by kernel_rfl) λargs h1=>by
 have h1:args.length=1:=Nat.succ.inj h1
 obtain⟨v,rfl⟩:=Z4w h1
 intro A E Q s vs r X k
 refine VRs.consK r λa w r1 r2 e=>?_
 subst e
 o_facts r2
 refine .of (BindsTo.of_defaults (T:=83) (binds:=[("self",a),("graph",.none)]) rfl (X 83 { cls:=.type "tuple",data:=.seq #[.none] } (by rw[g.K];rfl)) rfl (by with_unfolding_all exact rfl) (by with_unfolding_all exact rfl) _ _ _ _ ?_)
 exact k s.heap [a,.none] (λY Y e=>e) (.cons r1 (.cons .none .nil))
theorem pg_fn(g:G3 P G)(a:Addr)(fi:FI)(h:pg1.fn.lookup a=some fi):Zek G a fi:=by
 have h:=Zck h
 have all:∀ q∈pg1.fn,Zek G q.1 q.2:=by
  show ∀ q∈([_,_,_,_,_,_,_,_,_,_,_,_,_,_,_]:List (Addr×FI)),Zek G q.1 q.2
  simp only[List.forall_mem_cons]
  exact⟨Z27 g,Z2k g,Z2j g,Z2i g,Z2e g,Z1e g,fi_90 g,fi_97 g,Z3e g,Z3b g,Zzn g,Z28 g,Z0u g,Z1s g,fi_53 g,λY h=>nomatch h⟩
 exact all _ h
theorem prOk{E:En}(g:G3 P G)(hk:∀ d c C,c.E=E->C.G=G->Good C.A (d+2)->Zqz c C toldH.run (.ref 238)):Zrs E pg1 G where
 P:=pgOk E g
 kp a h:=by
  rw[g.K]
  refine List.all_eq_true.mp (pg_kp P) a ?_
  have some_in:∀ {β:Type} {l:List (Addr×β)},(l.lookup a).isSome=true->a∈l.map (·.1):=λh=>by
   obtain⟨b,e⟩:=Option.isSome_iff_exists.mp h
   exact Qe ⟨_,Zck e,rfl⟩
  rcases Bool.or_eq_true_iff.mp h with q|q
  .exact Ql _ (Ql _ (some_in q))
  .rcases Bool.or_eq_true_iff.mp q with q|q
   .exact Ql _ (Qk _ (some_in q))
   .exact Qk _ (some_in q)
 fn:=pg_fn g
 cl a x h:=by
  rw[g.K]
  obtain⟨h1,h2⟩:=Bool.and_eq_true_iff.mp (List.all_eq_true.mp (pg_cl P) _ (Zck h))
  exact⟨h1,Option.isSome_iff_exists.mp h2⟩
 hk a h e d c C he hg good:=by
  have h:=Zck e
  obtain⟨rfl,rfl⟩:a=238/\_=toldH:=Prod.mk.inj (List.mem_singleton.mp h)
  exact λ{_ _ _ _ _ _ _}=>hk d c C he hg good
end
end L1
namespace L1
open Mine
noncomputable def jv(i:Nat)(e:Bool×Nat):V:=.tup [.int i,.bool e.1,.str ⟨#[e.2]⟩]
noncomputable def jvs(js:List (Bool×Nat)):List V:=js.mapIdx jv
noncomputable def tN(row:List Nat)(js:List (Bool×Nat))(k:Nat):Nat:=if (((⟨#[row.getD k 0]⟩:Str)==⟨#[(js.getD k (false,0)).2]⟩) != (js.getD k (false,0)).1)=true then 1 else 0
theorem Zyn{P:Params}{G:Gl}(g:G3 P G)(n:Nat)(row:List Nat)(ja:Addr)(js:List (Bool×Nat))(hl:js.length=row.length)(hz:row.length<=6)(hr:∀ c∈row,c<128)(obs:Wg) :
  Fn G (.ref 238) (n+1) [.bytes row,.ref ja] ((ja,.list (jvs js))::obs) λv o=>∃ r,v = .ref r/\o=(r,.list ((List.range row.length).map λk=>vi (tN row js k)))::(ja,.list (jvs js))::obs:=by
 refine Zcu g ["row", "judges"] ["told", "at", "barred", "sign"] [("row",some (.bytes row)),("judges",some (.ref ja)),("told",none),("at",none),("barred",none),("sign",none)] rfl rfl rfl rfl rfl (by k_obj1) (by decide +kernel) (by decide +kernel) (by decide +kernel) (by kernel_rfl) (by kernel_rfl) (by kernel_rfl) ?_ rfl
 intro N R L
 refine XV.opq λK hKK=>?_
 exists (fun row ja js obs L K=>0),g,hl,hz,hr,N,hKK
 refine Zag ?_
 w_why
 intro r
 exists (r)
 w_why
 intro it
 exists (it)
 refine Zoc (λY Y h=>h) (Zcf (l:=jvs js) .tuple R.good.h) (λk loc o=>∃ o1 o2 o3,loc=([("row",some (.bytes row)),("judges",some (.ref ja)),("told",some (.ref r)),("at",o1),("barred",o2),("sign",o3)]:Loc)/\o=(r,.list ((List.range k).map λk=>vi (tN row js k)))::(ja,.list (jvs js))::obs) (by k_listUnr) ?_ ?_ ?_ ?_
 .exact ei3 _ _ _ rfl rfl
 .intro k loc o hI
  refine ex3 loc o hI λo1 o2 o3=>?_
  k_qdec
 .intro k loc o O hk hI
  refine ex3 loc o hI λo1 o2 o3=>?_
  have hk':k<js.length:=by simpa [jvs] using hk
  have e1:(jvs js).getD k V.none = .tup [.int k,.bool (js.getD k (false,0)).1,.str ⟨#[(js.getD k (false,0)).2]⟩]:=by
   simp[jvs,jv,List.getD,List.getElem?_mapIdx,Qu hk']
  rw[e1]
  have hc:row[k]?=some (row.getD k 0):=by simp[List.getD,Qu (hl▸hk':k<row.length)]
  have hc2:row.getD k 0<128:=hr _ (List.mem_of_getElem? hc)
  w_how
  refine Zxi R.good.h ?_ (by kernel_rfl)
  w_why
  .simp only[Int.toNat_natCast]
   refine Z3x ?_ (by k_units) (by lia)
   rw[Int.toNat_natCast]
   w_why
   have fin:∀ v:Nat,tN row js k=v->((List.range k).map λk=>vi (tN row js k))++[V.int v]=(List.range (k+1)).map λk=>vi (tN row js k):=λv h=>by
    rw[List.range_succ,Qq,<- h];rfl
   have hl2:((List.range k).map λk=>vi (tN row js k)).length<=6:=by rw[Qj,List.length_range];lia
   generalize ((List.range k).map λk=>vi (tN row js k))=acc at *
   refine⟨λh=>?_,λh=>?_⟩
   .have h1:=fin 1 (if_pos h)
    w_why
    .rw[<- h1];rfl
    .have hzz:sizeLine=16777216:=by decide
     lia
   .have h1:=fin 0 (if_neg (by rw[show(((⟨#[row.getD k 0]⟩:Str)==⟨#[(js.getD k (false,0)).2]⟩) != (js.getD k (false,0)).1)=false from h];decide))
    w_why
    .rw[<- h1];rfl
    .have hzz:sizeLine=16777216:=by decide
     lia
  all_goals lia
 .intro loc o hI
  refine ex3 loc o hI λo1 o2 o3=>?_
  have hjl:(jvs js).length=row.length:=by unfold jvs;rw[List.length_mapIdx,hl]
  rw[hjl]
  w_why
  .exact rfl
  .k_rangeUnr
end L1
namespace L1
open Mine MI
noncomputable def tB(c:Nat)(e:Bool×Nat):Bool:=((⟨#[c]⟩:Str)==⟨#[e.2]⟩) != e.1
structure Ej(E:En)(js:Nat->Bool×Nat):Prop where
 nu:∀ i,E.ν (i+16)=jv i (js i)
 tr:∀ i,tB (E.χ nC) (js i)=true
 fa:∀ i,tB (E.χ (nC+1)) (js i)=false
theorem Z0r{E:En}{D:Rh}{a:A}{v:V}{i:Nat}(r:AR E D a v)(h:isOq a i=true):v=E.ν i:=by
 induction a with
 | opq k=>rw[<- Qp (show Nat.beq k i=true from h)];exact r
 | _=>exact ff h
noncomputable def tV(c:Nat)(e:Bool×Nat):V:=V.int ((if tB c e=true then 1 else 0:Nat):Int)
theorem Zwk{E:En}{js:Nat->Bool×Nat}(JJ:Ej E js)(l:List Nat):∀ {i:Nat} {D:Rh} {as:List A} {vs:List V} {k:List A->Bool},LR E D as vs->Zqg l i as k=true ->
  ∃ r,vs=(List.range l.length).map (λj=>jv (i+j) (js (i+j)))/\LR E D r ((List.range l.length).map λj=>tV ((l.map E.χ).getD j 0) (js (i+j)))/\(∀ c∈l.map E.χ,c<128)/\k r=true:=by
 induction l with
 | nil=>
  intro i D as vs k r e
  refine Zqy (R:=λas vs=>Zqg [] i as k=true->∃ r,vs=(List.range ([]:List Nat).length).map (λj=>jv (i+j) (js (i+j)))/\LR E D r ((List.range ([]:List Nat).length).map λj=>tV ((([]:List Nat).map E.χ).getD j 0) (js (i+j)))/\(∀ c∈([]:List Nat).map E.χ,c<128)/\k r=true) r (λe=>?_) (λY Y Y Y Y Y e=>ff e) e
  exact⟨[],rfl,rfl,λY h=>(nomatch h),Zar (show gd (emL ([]:List A)) (k [])=true from e) λY e=>e⟩
 | cons c l ih=>
  intro i D as vs k r e
  refine Zqy (R:=λas vs=>Zqg (c::l) i as k=true->∃ r,vs=(List.range (l.length+1)).map (λj=>jv (i+j) (js (i+j)))/\LR E D r ((List.range (l.length+1)).map λj=>tV (((c::l).map E.χ).getD j 0) (js (i+j)))/\(∀ x∈(c::l).map E.χ,x<128)/\k r=true) r (λe=>ff e) (λa as v w ra rs e=>?_) e
  refine Zar e λh1 e=>?_
  have hv:=(Z0r ra h1).trans (JJ.nu i)
  have fin:∀ {b:Bool},tB (E.χ c) (js i)=b->Zg6 c=true->Zqg l (i+1) as (λr=>k (.int (if b=true then 1 else 0:Nat)::r))=true->∃ r,v::w=(List.range (l.length+1)).map (λj=>jv (i+j) (js (i+j)))/\LR E D r ((List.range (l.length+1)).map λj=>tV (((c::l).map E.χ).getD j 0) (js (i+j)))/\(∀ x∈(c::l).map E.χ,x<128)/\k r=true:=λ{b} hb ha e=>by
   obtain⟨r,e1,e2,e0,e3⟩:=ih rs e
   have sh:∀ j,i+1+j=i+(j+1):=λj=>by rw[Nat.add_assoc,Nat.add_comm 1 j]
   simp only[sh] at e1 e2
   refine⟨_,?_,?_,λx hx=>(Qb hx).elim (λq=>q▸E.lt c ha) (e0 x),e3⟩
   .rw[List.range_succ_eq_map,Qr,List.map_map,hv,e1];rfl
   .rw[List.range_succ_eq_map,Qr,List.map_map]
    exact⟨_,_,rfl,(by show tV (E.χ c) (js (i+0))=_;unfold tV;rw[Nat.add_zero,hb]),e2⟩
  refine Zb0 e (λh2 e=>?_) λh2 e=>Zar e λh3 e=>?_
  .exact fin (b:=true) (by rw[Qp h2];exact JJ.tr i) (by rw[Qp h2];rfl) e
  .exact fin (b:=false) (by rw[Qp h3];exact JJ.fa i) (by rw[Qp h3];rfl) e
theorem Zw2{P:Params}{G:Gl}{E:En}{js:Nat->Bool×Nat}(g:G3 P G)(JJ:Ej E js)(d:Nat)(c:Ct)(C:Cx)(he:c.E=E)(hg:C.G=G)(good:Good C.A (d+2)):Zqz c C toldH.run (.ref 238):=by
 intro D s J l vs k K q rl e h
 subst he
 subst hg
 refine Zub (Q:=λvs=>CF C (.ref 238) vs J K) rl e λa1 a2 v1 v2 r1 r2 e=>?_
 refine Zc8 (Q:=λv1=>CF C (.ref 238) [v1,v2] J K) r1 e λb e=>Zao e λhz e=>Zar e λhz2 e=>?_
 refine Zfm (Q:=λv2=>CF C (.ref 238) [_,v2] J K) q r2 e λh1 as ja vs1 p t e=>?_
 obtain⟨r,e1,e2,e0,e3⟩:=Zwk JJ b t e
 obtain⟨o1,o2,ho⟩:=List.append_of_mem p.lk.mem
 have hb6:(b.map c.E.χ).length<=6:=by rw[Qj];exact Qo hz2
 simp only[Nat.zero_add] at e1 e2
 have hjs:jvs ((List.range b.length).map js)=vs1:=by
  rw[e1]
  apply List.ext_getElem (by simp[jvs])
  intro j h1 h2
  simp[jvs]
 refine Zt5 (sel:=[(ja,.list vs1)]) (rest:=o1++o2) (good.less (show 1<=d+2 from Nat.le_add_left 1 (d+1))) (hjs▸Zyn g 0 (b.map c.E.χ) ja ((List.range b.length).map js) (by simp) hb6 e0 []) (by rw[ho];exact List.perm_middle) ?_
 rintro v o ⟨rr,rfl,rfl⟩
 refine⟨(rr,.list ((List.range (b.map c.E.χ).length).map λk=>vi (tN (b.map c.E.χ) ((List.range b.length).map js) k)))::J.obs,.perm (.cons _ (by rw[ho];show((ja,AO.list vs1)::(o1++o2)).Perm _;exact List.perm_middle.symm)) .refl,?_⟩
 have er:((List.range (b.map c.E.χ).length).map λk=>vi (tN (b.map c.E.χ) ((List.range b.length).map js) k))=(List.range b.length).map λj=>tV ((b.map c.E.χ).getD j 0) (js j):=by
  rw[Qj]
  refine List.map_congr_left λk hk=>?_
  have hk:=List.mem_range.mp hk
  show V.int _=V.int _
  have:((List.range b.length).map js).getD k (false,0)=js k:=by simp[List.getD,hk]
  unfold tN
  rw[this]
  rfl
 rw[er]
 exact Zc7 q (o:=.list r) (x:=.list _) ⟨_,rfl,e2⟩ rr e3 λs1 n1 D1 le1 hn1 q1 e4=>h _ _ _ _ _ le1 e4 ⟨rr,hn1,rfl⟩ q1
end L1
namespace L1
open Mine MI
noncomputable section
noncomputable def rowA(cars:List Nat):List Nat:=cars.map λc=>Bool.rec (nC+1) nC (Nat.beq c 1)
noncomputable def opqs(n:Nat):List A:=(List.range n).map λi=>.opq (i+16)
noncomputable def st0(cars:List Nat):S:=
 ⟨.so (.opq 0) (.so (.opq 1) (.so (.opq 2) (.so (.ref 0) (.so (.bytes (rowA cars)) (.so (.ref 9) (.no (.no (.no (.no .nil))))))))),[8,7,6,5,4,3,2,1],
  .cons 9 (.list (opqs cars.length)) (.cons 8 (.cell .nil) (.cons 7 (.cell .nil) (.cons 6 (.cell .nil) (.cons 5 (.cell .nil) (.cons 4 (.cell (.so (.opq 5) .nil)) (.cons 3 (.cell (.so (.opq 4) .nil)) (.cons 2 (.cell (.so (.int cars.length) .nil)) (.cons 1 (.cell (.so (.opq 3) .nil)) (.cons 0 (.list (cars.map λn:Nat=>.int n)) .nil))))))))),10⟩
noncomputable def fmL:Fm:=Zuw (mkF (fd3 30) 0) true
noncomputable def recL:Rec:=Zoh pg1 (call pg1 9) Zde
noncomputable def run1(cars:List Nat):Bool:=(recL.X fmL ((fd3 30).body.drop 9)).run (st0 cars) (λY=>false) (λY=>false) (λY=>false) λa s=>a.onBool id
end
end L1
section
variable {C:Cx} {J:St}
theorem W.wE{α β:Type}{R:Heap->β->α->Prop}{t:Sem α}{K:β->Wl}(E:Wh)(hE:∀ e s,¬ C.E e s)(h:W C R t J K):W (C.wE E) R t J K:=λs H=>
 Zad (h s ⟨H.frz,H.loc,H.obs,H.nd,H.ap,H.nn,H.gens,H.drawn,H.os⟩) (λv s' q=>by obtain⟨a,J',k,r,H',t⟩:=q;exact⟨a,J',k,r,⟨H'.frz,H'.loc,H'.obs,H'.nd,H'.ap,H'.nn,H'.gens,H'.drawn,H'.os⟩,t⟩) λe s q=>(hE e s q).elim
theorem Znb{v:Expr}{pos:Pos}{env:Env}{K:Wk}(h:EV C (eval v env) J K):EV C (eval (.JoinedStr [v] pos) env) J K:=h
theorem Znp(pre post:List Stmt)(env:Env):execs (pre++post) env=(do match <- execs pre env with | .next=>execs post env|f=>pure f):=by
 induction pre with
 | nil=>rw[execs_nil,pure_bind];rfl
 | cons st pre ih=>
  rw[List.cons_append,execs_cons,execs_cons,ih,bind_assoc]
  congr 1
  funext f
  induction f <;> first|rfl|exact(pure_bind _ _).symm|exact pure_bind _ _
theorem Zuf{pre post:List Stmt}{env:Env}{K:Wj}(h:XV C (execs pre env) J (sqK (λJ_1=>XV C (execs post env) J_1 K) K)):XV C (execs (pre++post) env) J K:=by
 intro s H
 rw[Znp]
 exact Zaa (h.step H λf J_1 v s_1 k r H_1 k_1=>by
  induction r with
  | next=>exact Zad (k s_1 H_1) (λY Y p=>p.tk k_1) λY Y e=>e
  | brk=>exact Zab ⟨.brk,J_1,k,.brk,H_1,k_1⟩
  | cont=>exact Zab ⟨.cont,J_1,k,.cont,H_1,k_1⟩
  | ret r=>exact Zab ⟨.ret _,J_1,k,.ret r,H_1,k_1⟩)
end
namespace L1
open Mine MI
noncomputable section
noncomputable def recP:Rec:=Zoh pg1 (call pg1 8) Zde
noncomputable def fmP:Fm:=Zuw (mkF (md3 7 3) 0) true
noncomputable def pPre:List Stmt:=(md3 7 3).body.take 3
noncomputable def ifT:Stmt->Expr
 | .If t _ _ _=>t
 | _=>.Constant .none 0 ⟨0,0,0,0⟩
noncomputable def Z3j:Expr:=ifT (Zq1 (md3 7 3).body 3)
noncomputable def Ztp(h:Nat)(s:S)(k:KS):Bool:=s.w λlc ce ob n=>(recP.X fmP pPre).run ⟨.so (.ref h) (.no .nil),[],ob,n⟩
 (λs2=>(recP.B fmP Z3j).run s2 (λs3=>s3.w λl3 Y ob3 n3=>l3.get 1 λY=>k ⟨lc,ce,ob3,n3⟩) We) We We Wd
end
noncomputable def isSt:Value->Bool
 | .str _ _=>true
 | _=>false
noncomputable def nsEs(K:Frag)(a:Addr):Array DictEntry:=match K.lookup a with
 | some o=>(match o.data with | .dict es _=>es|_=>#[])
 | none=>#[]
theorem Zxd{v:Value}(h:isSt v=true):∃ s t,v = .str s t:=by
 induction v with
 | str s t=>exact⟨s,t,rfl⟩
 | _=>exact nomatch h
theorem Zxv{P:Params}{G:Gl}(g:G3 P G):Zk4 G 72:=by
 exists (P G),g
 refine⟨⟨_,_,_,_,_,_,_,_,_,_,_,_,_,_,_,λx=>nsFind (nsEs (K3 P) 71) x,by rw[g.K];rfl,λh hk=>?_,by kernel_rfl⟩⟩
 refine⟨_,_,_,hk 71 _ (by rw[g.K];rfl),rfl,?_,λY=>rfl⟩
 intro e he
 exact Zxd (List.all_eq_true.mp (by kernel_rfl:((nsEs (K3 P) 71).toList.all λe=>isSt e.key)=true) e (Array.mem_toList_iff.mpr he))
theorem Zjc{P:Params}{G:Gl}{E:En}(g:G3 P G)(O:Zrs E pg1 G)(Q8:Zml E G 8 (call pg1 8)){D:Rh}{s:S}{T0 l0:Wg}{h:Nat}{a:Addr}{k:KS}(hh:D h=some a)
  (hob:∀ T',HR E D T' s.obs (l0++T')) (hfr:∀ h,s.nx<=h->D h=none) (e:Ztp h s k=true) :
  Z4j G RErr (λvs=>(PySem.call (.ref 109) vs).attempt) 10 [.ref a] (l0++T0) λr o=>∃ e T o2,r = .ref e/\o=Zdl 72 e T++o2/\∃ D' m' n' l',Le D D'/\k ⟨s.loc,s.cel,m',n'⟩=true/\o2=l'++T0/\(∀ T',HR E D' T' m' (l'++T'))/\∀ h,n'<=h->D' h=none:=by
 exists (P G E D s T0 l0 h a k),g,O,Q8,hh,hob,hfr,e
 refine Zol (K':=λo2=>∃ D' m' n' l',Le D D'/\k ⟨s.loc,s.cel,m',n'⟩=true/\o2=l'++T0/\(∀ T',HR E D' T' m' (l'++T'))/\∀ h,n'<=h->D' h=none) (n:=9) (names:=["self"]) (rest:=["cycle"]) (loc:=[("self",some (.ref a)),("cycle",none)]) (args':=[.ref a]) (fd:=Zy8 (md3 7 3) "TopologicalSorter.prepare" "cpy313.graphlib" 289 108 .none) (body:=pPre++[Zq1 (md3 7 3).body 3])
  ⟨⟨_,by rw[g.K];rfl,rfl⟩,⟨_,_,_,_,rfl,by rw[g.K];rfl,rfl,rfl⟩,by rfl,rfl,rfl,rfl,rfl,rfl,rfl⟩ rfl (Binds.plain rfl (by k_one)) (by decide +kernel) (by decide +kernel) (by decide +kernel) rfl ?_
 intro fr R L A0 E1 hA hR hE
 have N:=g.N
 have P:Phi E G 8 ⟨E,fmP,T0++Zau fr,[]⟩ (R.cx (callEnv (Zy8 (md3 7 3) "TopologicalSorter.prepare" "cpy313.graphlib" 289 108 .none) L 109) rfl rfl):=by
  refine⟨rfl,rfl,λY=>R.good,⟨λY Y h=>h,λY=>R.good.h,R.good.g,gu1 R.good (Nat.succ_pos _),rfl,by rfl,rfl⟩,λY Y=>?_⟩
  obtain⟨l,g1,g2⟩:=hA.deeper (callEnv (Zy8 (md3 7 3) "TopologicalSorter.prepare" "cpy313.graphlib" 289 108 .none) L 109)
  exact⟨T0,fr,⟨l,by show R.A.frames=_;rw[hR];exact g1,(by show(md3 7 3).scope.kind≠_;decide +kernel),rfl,g2⟩,rfl⟩
 have RP:=(Zc4 O.P O.kp Q8 Zde P).1
 refine Zuf (W.wE E1 (λY Y h=>h) ?_)
 refine RP.X pPre (D:=D) (s:=⟨.so (.ref h) (.no .nil),[],s.obs,s.nx⟩) ⟨⟨"self",["cycle"],.ref a,[("cycle",none)],by rfl,rfl,⟨a,hh,rfl⟩,⟨"cycle",[],[],rfl,rfl,rfl,rfl⟩⟩,by rfl,by rw[Qs];exact hob _,hfr⟩ e ?_ (λY Y Y Y e Y=>ff e) (λY Y Y Y e Y=>ff e) (λY Y Y Y Y Y e Y Y=>ff e)
 intro D2 s2 J2 le2 e2 q2
 refine Zag (Z4t (W.wE E1 (λY Y h=>h) (RP.B Z3j q2 e2 ?_ λY Y Y Y e Y=>ff e)))
 intro D3 s3 J3 le3 e3 q3
 refine⟨λY=>?_,λh=>nomatch h⟩
 refine get_k q3.loc e3 λy a1 v h1 h2 h3 h4=>?_
 obtain rfl:y = "cycle" := (Qv ((show fmP.ns[1]?=some ("cycle" : Str) by kernel_rfl).symm.trans h1)).symm
 obtain⟨l3,hl3,hl4⟩:=HR.tail q3.obs
 refine Zag (Zyi (l:=J3.loc) (rest:=J3.obs) (Zxv g) R.good.h ?_)
 w_why
 refine Znb ?_
 w_why
 refine ev_l h2 (by kernel_rfl) (by kernel_rfl) (by kernel_rfl) ?_
 w_why
 refine Z1l (Zxv g) (show 2<=sizeLine by decide) λe=>⟨e,rfl,rfl,λs' H'=>?_⟩
 refine hE e J3.loc (l3++T0) s' ⟨D3,s3.obs,s3.nx,l3,le2.trans le3,h4,rfl,hl4,q3.fr⟩ ?_
 rw[hl3] at H'
 rw[Qs]
 exact H'
end L1
namespace L1
open Mine MI
noncomputable section
noncomputable def lPre:List Stmt:=((fd3 30).body.drop 9).take 2
noncomputable def Z3q:List Stmt:=(fd3 30).body.drop 12
noncomputable def hSu:Stmt->List Stmt
 | .Try _ hs _ _ _=>(match hs with|[.ExceptHandler _ _ su _]=>su|_=>[])
 | _=>[]
noncomputable def lSu:List Stmt:=hSu (Zq1 (fd3 30).body 11)
noncomputable def fin1(a:A)(s:S):Bool:=a.onBool id
noncomputable def fmH:Fm:={ fmL with hd:=true }
noncomputable def tryR(s:S)(k:KS):Bool:=s.loc.get 6 λa=>a.onRef λh=>Z43 pg1 h "prepare" s λg=>gd (Nat.beq g 109) (Ztp h s λs=>(recL.X fmH lSu).run s k We We Wd)
noncomputable def runR(cars:List Nat):Bool:=(recL.X fmL lPre).run (st0 cars) (λs=>tryR s λs=>(recL.X fmL Z3q).run s We We We fin1) We We Wd
end
def Fin(T:Wg)(f:Fl)(J:St):Prop:=f = .ret (.bool true)/\∃ l,J.obs=l++T
section
variable {P:Params} {G:Gl} {E:En} {c:Ct} {C:Cx}
theorem Zzy{D:Rh}:PA c D fin1 (λv J=>Fin c.T (.ret v) J):=λD' a s v J le e ra q=>by
 obtain⟨l,h,_⟩:=HR.tail q.obs
 have hv:v = .bool true:=by
  induction a with
  | bool b=>induction b with
   | true=>exact ra
   | false=>cases e
  | _=>cases e
 exact⟨by rw[hv],l,h⟩
theorem Zod(O:Zrs E pg1 G)(H:Phi E G 9 c C)(hf:c.f=fmL){D:Rh}{s:S}{J:St}{l:List Stmt}(q:c.S D s J)(e:(recL.X fmL l).run s We We We fin1=true):XV C (execs l C.env) J (Fin c.T):=
 (Zc4 O.P O.kp (Zlb O 9).1 Zde H).1.X l q (by rw[hf];exact e) (λY Y Y Y e Y=>ff e) (λY Y Y Y e Y=>ff e) (λY Y Y Y e Y=>ff e) Zzy
theorem ns6:fmL.ns[6]?=some ("sorter" : Str):=by kernel_rfl
theorem nm6:fmL.names.lookup ("sorter" : Str)=some NameKind.local:=by kernel_rfl
theorem nmC:fmL.names.lookup ("CycleError" : Str)=some NameKind.globalImplicit:=by kernel_rfl
theorem Zvh(g:G3 P G)(O:Zrs E pg1 G)(H:Phi E G 9 c C)(hg:c.E=E)(hf:c.f=fmL){T0:Wg}{fr:Frs}(hF:FrIn C fr)(hT:c.T=T0++Zau fr){D:Rh}{s:S}{J:St}{k:KS}{K:Wj}(q:c.S D s J)(e:tryR s k=true)(h:PS c D k (K .next)) :
  XV C (exec (Zq1 (fd3 30).body 11) C.env) J K:=by
 exists (P G E c C T0 fr D s J k K),g,O,H,hg,hf,hF,hT,q,e,h
 subst hg
 have N:=g.N
 have X:=H.X
 have hG:C.G=G:=H.g
 subst hG
 have hdf:c.f.hd=false:=by rw[hf];rfl
 have gd9:Good C.A 10:=H.good hdf
 refine get_k q.loc e λy a v h1 h2 h3 e=>?_
 obtain rfl:y = "sorter" := (Qv ((show c.f.ns[6]?=some ("sorter" : Str) by rw[hf];exact ns6).symm.trans h1)).symm
 refine Zdv (Q:=λv=>Lk "sorter" v J.loc->XV C (exec (Zq1 (fd3 30).body 11) C.env) J K) h3 e (λhd b hb e h2=>?_) h2
 refine Zno O.P q hb e λf cl ad m p1 p2 hm hl e=>Zar e λhfa e5=>?_
 obtain rfl:=Qp hfa
 obtain⟨l0,ho,hall⟩:=HR.tail q.obs
 have F:=Zjc (T0:=T0) g O ((Zlb O 9).2 8 rfl) hb hall q.fr e5
 refine Z31 (fr:=fr) (c:=72) (K2:=λJe=>∃ D' s',Le D D'/\c.S D' s' Je/\(recL.X fmH lSu).run s' k We We Wd=true) (Zxv g) hF (λfz ok E1 hE=>?_) (λJe k2=>?_) X.kd (nmE X (by rw[hf];exact nmC)) ?_
 .refine Zag (x_expr (Zj7 (Zgd X.kd (nmE X (by rw[hf];exact nm6)) h2 ?_ (by decide)) (by rfl)) (show interactive C.env=false from Zky X) (by rfl))
  refine Ztl 109 p1 p2 (Zz8 hm.2.1 (Zk6 ?_) (by rfl)) hm.1 hl
  refine Zni (fr:=fr) (c:=72) (sel:=l0++T0) F gd9 hF (by rw[ho,hT,Qs]) λe T o2 s' hk2 H'=>?_
  obtain⟨D',m',n',l',le',e',rfl,hr',fr'⟩:=hk2
  refine hE e T J.loc ((l'++T0)++Zau fr) s' ⟨D',⟨s.loc,s.cel,m',n'⟩,le',⟨q.loc.le le',q.cel.le le',?_,fr'⟩,e'⟩ H'
  rw[Qs,<- hT];exact hr' _
 .obtain⟨D',s',le',q',e'⟩:=k2
  refine⟨λp hp=>?_,λe=>?_⟩
  .obtain⟨l2,h2,_⟩:=HR.tail q'.obs
   rw[h2,hT]
   exact Qk _ (Qk _ hp)
  .have R:=(Zc4 O.P O.kp (Zlb O 9).1 Zde (c:=c.hdn) (C:=C.hd e) ⟨H.e,H.g,λh=>(nomatch h),Z02 H.X e,λY h=>(nomatch h)⟩).1
   exact R.X lSu (Z33 q') (by show(recL.X { c.f with hd:=true } lSu).run _ _ _ _ _=true;rw[hf];exact e') (Zsk (h.le le')) (λY Y Y Y e Y=>ff e) (λY Y Y Y e Y=>ff e) (λY Y Y Y Y Y e Y Y=>ff e)
 .obtain⟨val,e1,r1⟩:=N.mg ("CycleError",.ref 72) (Mb.mem (by k_slotget))
  rw[e1,VR.refE (r1 { objs:=#[] })]
theorem Zpe(g:G3 P G)(O:Zrs E pg1 G)(H:Phi E G 9 c C)(hf:c.f=fmL){T0:Wg}{fr:Frs}(hF:FrIn C fr)(hT:c.T=T0++Zau fr){D:Rh}{J:St}{cars:List Nat}(q:c.S D (st0 cars) J)(e:runR cars=true) :
  XV C (execs ((fd3 30).body.drop 9) C.env) J (Fin c.T):=by
 refine Zuf (pre:=lPre) (post:=Zq1 (fd3 30).body 11::Z3q) ?_
 refine(Zc4 O.P O.kp (Zlb O 9).1 Zde H).1.X lPre q (by rw[hf];exact e) ?_ (λY Y Y Y e Y=>ff e) (λY Y Y Y e Y=>ff e) (λY Y Y Y Y Y e Y Y=>ff e)
 intro D1 s1 J1 le1 e1 q1
 exact Zag (Zvh g O H H.e hf hF hT q1 e1 λD2 s2 J2 le2 e2 q2=>Zod O H hf q2 e2)
end
end L1
theorem Z3d{i n:Nat}(h:i<n):seqIndex? (i:Int) n=some i:=by
 unfold seqIndex?
 have:¬ ((i:Int)<0):=Int.not_lt.mpr (Int.natCast_nonneg i)
 simp[this,h]
theorem op_str_mul{C:Cx}{J:St}{x:Str}{n:Int}{K:Wk}(k:K (.str (Txt.mul x n)) J)(h:MulOk x n):OP2 C VR (binaryOp .Mult) (.str x) (.int n) J K:=λs v u H r1 r2=>by
 o_facts r1;o_facts r2
 exact .of (SB.mul h λt k'=>Pst.hereT H (.str _ _) k)
theorem Z0j{x:Str}{n:Nat}(hx:x.length=1)(hn:n<=100):MulOk x n:=by
 refine⟨?_,λh1 Y h=>?_,λY Y=>?_⟩
 .simp;lia
 .rw[hx] at h
  have h3:((2:Int) ^ 63-1) / n>=1:=by
   rw[ge_iff_le,Int.le_ediv_iff_mul_le (by omega)]
   lia
  lia
 .unfold Builtin.Str.tooLong
  rw[hx]
  have:sizeLine=16777216:=by decide
  simp;lia
theorem len4{α:Type}{l:List α}(h:l.length=4):∃ a b c d,l=[a,b,c,d]:=by
 induction l with
 | nil=>cases h
 | cons a l=>obtain⟨b,c,d,rfl⟩:=len3 (Nat.succ.inj h);exact⟨a,b,c,d,rfl⟩
namespace L1
open Mine
noncomputable def Z0z(pick:Int):Nat:=(pick.fmod 8).toNat
noncomputable def Zsz(pick:Int):Nat:=((pick.fdiv 8).fmod 7).toNat
noncomputable def Zuq(pick:Int):Nat:=stock3.getD (Z0z pick) 0
noncomputable def Zg7(pick:Int):Nat:=(stock3.eraseIdx (Z0z pick)).getD (Zsz pick) 0
theorem Zca(p:Int)(n:Nat)(h:0<n):0<=p.fmod n/\(p.fmod n).toNat<n:=by
 have h0:0<=p.fmod n:=Int.fmod_nonneg_of_pos _ (Int.ofNat_lt.mpr h)
 exact⟨h0,(Int.toNat_lt h0).mpr (Int.fmod_lt_of_pos _ (Int.ofNat_lt.mpr h))⟩
theorem Zsw(pick:Int):Zuq pick∈stock8/\Zg7 pick∈stock8/\Zuq pick≠Zg7 pick:=by
 have h1:Z0z pick<8:=(Zca pick 8 (by decide)).2
 have h2:Zsz pick<7:=(Zca (pick.fdiv 8) 7 (by decide)).2
 unfold Zuq Zg7
 generalize Z0z pick=i at *
 generalize Zsz pick=j at *
 revert i j
 exact(by decide:∀ i<8,∀ j<7,stock3.getD i 0∈stock8/\(stock3.eraseIdx i).getD j 0∈stock8/\stock3.getD i 0≠(stock3.eraseIdx i).getD j 0) |> λh i hi j hj=>h i hi j hj
theorem Zqt{P:Params}{G:Gl}(g:G3 P G)(n:Nat)(pick:Int)(obs:Wg):Fn G (.ref 210) (n+1) [.int pick] obs λr o=>r = .tup [ch (Zuq pick),ch (Zg7 pick)]/\o=obs:=by
 refine Zcu g ["pick"] ["stock", "car"] [("pick",some (.int pick)),("stock",none),("car",none)] rfl rfl rfl rfl rfl (by k_one) (by decide +kernel) (by decide +kernel) (by decide +kernel) (by kernel_rfl) (by kernel_rfl) (by kernel_rfl) ?_ rfl
 intro N R L
 refine XV.opq λK hKK=>?_
 exists (fun pick obs L K=>0),g,N,hKK
 have hz:sizeLine=16777216:=by decide
 obtain⟨a1,a2⟩:=Zca pick 8 (by decide)
 obtain⟨b1,b2⟩:=Zca (pick.fdiv 8) 7 (by decide)
 refine Zag ?_
 w_why
 refine Zkc ?_ R.good.h (by decide)
 intro a
 w_why
 .refine Zuh (x:=ch (Zuq pick)) (by k_closed) ?_ ?_ a1 (by decide)
  .w_why
   .refine Zuh (x:=ch (Zg7 pick)) (by k_closed) ?_ ?_ b1 (Qx (List.length_eraseIdx_le _ _) (by decide))
    .w_why
     .exact⟨rfl,rfl⟩
     .k_rangeUnr
    .show((stock3.map ch).eraseIdx (Z0z pick))[Zsz pick]?=_
     rw[<- Zim]
     exact Zqa (by rw[List.length_eraseIdx_of_lt a2];exact b2) ch
   all_goals decide
  .exact Zqa a2 ch
 all_goals decide
noncomputable def Zfd(c f:Nat):List Str:=[⟨#[c]⟩,Str.ofString "[" ++ ⟨#[c]⟩++Str.ofString "]",Str.ofString "[!" ++ ⟨#[f]⟩++Str.ofString "]"]
noncomputable def dr3(d:Int):Nat:=(d.fmod 3).toNat
noncomputable def Zgz(at_:Nat)(c f:Nat)(d:Nat):Str:=Txt.mul (Str.ofString "?") at_++(Zfd c f).getD d ⟨#[]⟩++Str.ofString "*"
theorem mulQ:∀ a:Nat,a<=6->(Txt.mul (Str.ofString "?") a).length<=6:=by decide +kernel
theorem Zna{P:Params}{G:Gl}(g:G3 P G)(n:Nat)(at_:Nat)(c f:Nat)(d:Int)(ha:at_<=6)(obs:Wg) :
  Fn G (.ref 217) (n+1) [.int at_,ch c,ch f,.int d] obs λr o=>r = .str (Zgz at_ c f (dr3 d))/\o=obs:=by
 refine Zcu g ["at", "car", "free", "dress"] [] [("at",some (.int at_)),("car",some (ch c)),("free",some (ch f)),("dress",some (.int d))] rfl rfl rfl rfl rfl (by intro vs h;obtain⟨a,b,c,d,q⟩:=len4 h;subst q;kernel_rfl) (by decide +kernel) (by decide +kernel) (by decide +kernel) (by kernel_rfl) (by kernel_rfl) (by kernel_rfl) ?_ rfl
 intro N R L
 refine XV.opq λK hKK=>?_
 exists (fun at_ c f d obs L K=>0),g,ha,N,hKK
 have hz:sizeLine=16777216:=by decide
 obtain⟨a1,a2⟩:=Zca d 3 (by decide)
 refine Zag ?_
 have q1:(Str.ofString "[").length=1:=by decide +kernel
 have q2:(Str.ofString "]").length=1:=by decide +kernel
 have q3:(Str.ofString "[!").length=2:=by decide +kernel
 have q4:(Str.ofString "*").length=1:=by decide +kernel
 have q5:(⟨#[c]⟩:Str).length=1:=rfl
 have q6:(⟨#[f]⟩:Str).length=1:=rfl
 have q7:(Txt.mul (Str.ofString "?") at_).length<=6:=mulQ at_ ha
 have q8:((Zfd c f).getD (dr3 d) ⟨#[]⟩).length<=4:=by
  show((Zfd c f).getD (dr3 d) ⟨#[]⟩).length<=4
  have:dr3 d<3:=a2
  generalize dr3 d=e at *
  match e with
  | 0=>show(⟨#[c]⟩:Str).length<=4;rw[q5];decide
  | 1=>show(Str.ofString "[" ++ ⟨#[c]⟩++Str.ofString "]").length<=4;rw[Zak,Zak,q1,q2,q5];decide
  | 2=>show(Str.ofString "[!" ++ ⟨#[f]⟩++Str.ofString "]").length<=4;rw[Zak,Zak,q3,q2,q6];decide
  | n+3=>lia
 w_why
 .intro a
  w_why
  .refine Zaq (x:=.str ((Zfd c f).getD (dr3 d) ⟨#[]⟩)) (by k_qdec) ?_ (by intro o i;exact⟨[o,i],by kernel_rfl⟩) a1 (Int.lt_trans (Int.fmod_lt_of_pos d (by decide)) (by decide)) ?_
   .w_why
    .exact⟨rfl,rfl⟩
    .k_rangeUnr
    .rw[Zak,q4,hz];lia
    .rw[hz];lia
   .show((Zfd c f).map V.str)[dr3 d]?=_
    rw[List.getElem?_map]
    have:dr3 d<(Zfd c f).length:=a2
    rw[Qu this]
    simp[List.getD,this]
  all_goals decide
 .rw[Zak,q3,q2,q6];decide
 .rw[q3,q6];decide
 .rw[Zak,q1,q2,q5];decide
 .rw[q1,q5];decide
 .exact Z0j (by decide +kernel) (by lia)
noncomputable def Zgy(p sp:Str):Str:=
 if p==(Str.ofString "\\" ++ Zdx p (some (-1)) none) then Zdx p (some (-1)) none else
 if p != Zdx p (some (-1)) none then Str.ofString "" else
 if Zu4 (Zdx p (some (-1)) none) sp then Str.ofString "" else Zdx p (some (-1)) none
theorem Zlx{P:Params}{G:Gl}(g:G3 P G)(n:Nat)(p sp:Str)(hz:p.length<=100)(hs:sp.length<=100)(obs:Wg) :
  Fn G (.ref 224) (n+1) [.str p,.str sp] obs λv o=>v = .str (Zgy p sp)/\o=obs:=by
 refine Zcu g ["inner", "special"] ["sign"] [("inner",some (.str p)),("special",some (.str sp)),("sign",none)] rfl rfl rfl rfl rfl (by k_obj1) (by decide +kernel) (by decide +kernel) (by decide +kernel) (by kernel_rfl) (by kernel_rfl) (by kernel_rfl) ?_ rfl
 intro N R L
 refine XV.opq λK hKK=>?_
 exists (fun p sp obs L K=>0),g,hz,hs,N,hKK
 have hzz:sizeLine=16777216:=by decide
 have l4:=Zbt p (some (-1)) none
 refine Zag ?_
 w_why
 intro sl
 w_why
 .refine⟨λh1=>?_,λh1=>?_⟩
  .w_why
   .exact⟨by unfold Zgy;rw[if_pos h1],rfl⟩
   .k_rangeUnr
  .w_why
   refine⟨λh2=>?_,λh2=>?_⟩
   .w_why
    refine⟨λh3=>?_,λh3=>?_⟩
    .w_why
     refine⟨λh=>Bool.noConfusion h,λY=>?_⟩
     w_why
     .exact⟨by unfold Zgy;simp only[h1,h2,h3,if_false,Bool.false_eq_true],rfl⟩
     .k_rangeUnr
    .refine⟨λY=>?_,λh=>Bool.noConfusion h⟩
     w_why
     .exact⟨by unfold Zgy;simp only[h1,h2,h3,if_true,if_false,Bool.false_eq_true],rfl⟩
     .k_rangeUnr
   .w_why
    refine⟨λY=>?_,λh=>Bool.noConfusion h⟩
    w_why
    .exact⟨by unfold Zgy;simp only[h1,h2,if_true,if_false,Bool.false_eq_true],rfl⟩
    .k_rangeUnr
 all_goals (first|lia|(rw[Zz6];lia)|skip)
noncomputable def Zef:List Nat->Nat
 | c::l=>if c=46 then Zef l+1 else 0
 | []=>0
noncomputable def Zf2(x:Str):Nat:=Zef (x.cps.toList.drop 4)
noncomputable def Zbc(x:Str):Str:=Zdx x (some (4+(Zf2 x:Int))) (some (-5))
noncomputable def Zxh(x:Str):Bool:=Zdx (Zbc x) none (some 2)==Str.ofString "[^"
noncomputable def Zhv(x:Str):Str:=
 if x != Str.ofString "(?s:" ++ Txt.mul (Str.ofString ".") (Zf2 x)++Zbc x++Str.ofString ".*)\\Z" then Str.ofString "" else
 if (Zdx (Zbc x) none (some 1)++Zdx (Zbc x) (some (-1)) none)==Str.ofString "[]" then Zgy (Zdx (Zbc x) (some (if Zxh x then 2 else 1)) (some (-1))) (Str.ofString "\\") else Zgy (Zbc x) (Str.ofString "\\.^$*+?{}[|()")
theorem Zln:∀ {l:List Nat} {k:Nat},k<Zef l->l[k]?=some 46
 | [],k,h=>absurd h (Nat.not_lt_zero _)
 | c::l,k,h=>by
  by_cases hc:c=46
  .have e:Zef (c::l)=Zef l+1:=if_pos hc
   rw[e] at h
   induction k with
   | zero=>rw[hc];rfl
   | succ k=>exact Zln (l:=l) (Nat.lt_of_succ_lt_succ h)
  .have e:Zef (c::l)=0:=if_neg hc
   rw[e] at h;exact absurd h (Nat.not_lt_zero _)
theorem Zhl:∀ {l:List Nat},Zef l<l.length->∃ c,l[Zef l]?=some c/\c≠46
 | [],h=>absurd h (Nat.not_lt_zero _)
 | c::l,h=>by
  by_cases hc:c=46
  .have e:Zef (c::l)=Zef l+1:=if_pos hc
   rw[e] at h ⊢
   exact Zhl (l:=l) (by simpa using h)
  .have e:Zef (c::l)=0:=if_neg hc
   rw[e];exact⟨c,rfl,hc⟩
theorem Zuj{x:Str}{k c:Nat}(h:(x.cps.toList.drop 4)[k]?=some c):(seqIndex? (4+(k:Int)) x.length).bind (x.cps[·]?)=some c:=by
 rw[List.getElem?_drop] at h
 have h1:4+k<x.cps.size:=by simpa using (List.getElem?_eq_some_iff.mp h).1
 have e:seqIndex? (4+(k:Int)) x.length=some (4+k):=by
  exact Z3d (i:=4+k) h1
 rw[e]
 show x.cps[4+k]?=_
 rw[<- h];simp
noncomputable abbrev jlo(x:Str)(at_:Nat)(p b:Option V):Loc:=[("text",some (.str x)),("at",some (.int at_)),("piece",p),("barred",b)]
theorem mulD:∀ a:Nat,a<=6->(Txt.mul (Str.ofString ".") a).length<=6:=by decide +kernel
theorem Zri{P:Params}{G:Gl}(g:G3 P G)(n:Nat)(x:Str)(hz:x.length<=100)(hd:4+Zf2 x<x.length)(h6:Zf2 x<=6)(obs:Wg) :
  Fn G (.ref 231) (n+2) [.str x] obs λv o=>v = .tup [.int (Zf2 x),.bool (Zxh x),.str (Zhv x)]/\o=obs:=by
 refine Zcu g ["text"] ["at", "piece", "barred"] [("text",some (.str x)),("at",none),("piece",none),("barred",none)] rfl rfl rfl rfl rfl (by k_one) (by decide +kernel) (by decide +kernel) (by decide +kernel) (by kernel_rfl) (by kernel_rfl) (by kernel_rfl) ?_ rfl
 intro N R L
 refine XV.opq λK hKK=>?_
 exists (fun x obs L K=>1),g,hz,hd,h6,N,hKK
 have hzz:sizeLine=16777216:=by decide
 refine Zag ?_
 have lt63:∀ k:Nat,k<=6->(4+(k:Int))<2 ^ 63:=λk h=>by lia
 w_why
 .refine WL.mono (K':=λfl J'=>fl = .next/\J'.loc=jlo x (Zf2 x) none none/\Drp J'.obs obs) ?_ ?_
  .refine Zez (λY Y h=>h) (λq J=>∃ k,k<=Zf2 x/\Zf2 x-k<q/\J.loc=jlo x k none none/\Drp J.obs obs) ?_ ?_ 10 _ ?_
   .rintro J ⟨k,_,h,_⟩;exact absurd h (Nat.not_lt_zero _)
   .rintro q ⟨loc0,o0⟩ ⟨k,hk,hq,hl0,hd0⟩
    have hl1:loc0=_:=hl0
    subst hl1
    refine W.drp hd0 ?_
    w_how
    by_cases hlt:k<Zf2 x
    .w_why
     .refine Zam (c:=46) ?_ (by intro o i;exact⟨[o,i],by kernel_rfl⟩) (by lia) (lt63 k (by lia)) (Zuj (Zln hlt))
      w_why
      refine⟨λY=>?_,λh=>absurd h (by decide)⟩
      w_why
      exact⟨k+1,hlt,Nat.lt_of_lt_of_le (Nat.sub_succ_lt_self _ _ hlt) (Nat.le_of_lt_succ hq),rfl,.refl⟩
     all_goals (first|k_units|skip)
    .have hke:k=Zf2 x:=Nat.le_antisymm hk (Nat.le_of_not_lt hlt)
     obtain⟨c,hc1,hc2⟩:=Zhl (l:=x.cps.toList.drop 4) (by
      show Zf2 x<_
      rw[List.length_drop]
      exact Nat.lt_sub_of_add_lt (by rw[Nat.add_comm];exact hd))
     subst hke
     w_why
     .refine Zam (c:=c) ?_ (by intro o i;exact⟨[o,i],by kernel_rfl⟩) (by lia) (lt63 _ h6) (Zuj hc1)
      w_why
      rw[Zaw (d:=46) (by decide)]
      refine⟨λh=>absurd (of_decide_eq_true h) hc2,λY=>?_⟩
      w_why
      exact⟨rfl,rfl,.refl⟩
     all_goals (first|k_units|skip)
   .exact⟨0,Nat.zero_le _,by lia,rfl,.refl⟩
  .rintro fl ⟨loc0,o0⟩ ⟨rfl,hl0,hd0⟩
   have hl1:loc0=_:=hl0
   subst hl1
   refine Zan ?_
   refine W.drp hd0 ?_
   w_why
   intro sl
   refine op_str_subs (by k_listUnr) ?_ (by intro o i;exact⟨_,by with_unfolding_all exact rfl⟩) (by lia)
   have hpl:(Zbc x).length<=x.length:=Zbt _ _ _
   have hb:Zxh x=(Zdx (Zbc x) none (some 2)==Str.ofString "[^"):=rfl
   have hj:Zhv x=(if x != Str.ofString "(?s:" ++ Txt.mul (Str.ofString ".") (Zf2 x)++Zbc x++Str.ofString ".*)\\Z" then Str.ofString "" else
    if (Zdx (Zbc x) none (some 1)++Zdx (Zbc x) (some (-1)) none)==Str.ofString "[]" then Zgy (Zdx (Zbc x) (some (if Zxh x then 2 else 1)) (some (-1))) (Str.ofString "\\") else Zgy (Zbc x) (Str.ofString "\\.^$*+?{}[|()")):=rfl
   have hp:Zdx x (some (4+(Zf2 x:Int))) (some (-5))=Zbc x:=rfl
   rw[hp]
   generalize Zbc x=p at *
   clear hp
   have l1:=Zbt p none (some 2)
   have l2:=Zbt p none (some 1)
   have l3:=Zbt p (some (-1)) none
   have m1:=mulD (Zf2 x) h6
   have q1:(Str.ofString "(?s:").length=4:=by decide +kernel
   have q2:(Str.ofString ".*)\\Z").length=5:=by decide +kernel
   generalize Zf2 x=at_ at *
   w_why
   intro sl2
   w_why
   .refine⟨λh1=>?_,λh1=>?_⟩
    .w_why
     .exact⟨by rw[hb,hj,if_pos h1],rfl⟩
     all_goals (first|k_rangeUnr|decide|skip)
    .w_why
     intro sl3
     w_why
     .intro sl4
      w_why
      .refine⟨λh2=>?_,λh2=>?_⟩
       .w_why
        refine⟨λh3=>?_,λh3=>?_⟩
        all_goals
         w_why
         intro sl5
         w_why
         .refine Zk2 (R.good.less (show 1<=n+1 by k_units)) (Zlx g 0 _ _ (Qx (Zbt _ _ _) (by lia)) (by decide +kernel) _) ?_
          rintro v o ⟨rfl,rfl⟩
          w_why
          .exact⟨by rw[hj,hb];simp only[h1,h2,h3,if_true,if_false,Bool.false_eq_true],rfl⟩
          all_goals (first|k_rangeUnr|decide|skip)
         all_goals (first|lia|skip)
       .w_why
        refine Zk2 (R.good.less (show 1<=n+1 by k_units)) (Zlx g 0 p _ (by lia) (by decide +kernel) _) ?_
        rintro v o ⟨rfl,rfl⟩
        w_why
        .exact⟨by rw[hj,hb];simp only[h1,h2,if_true,if_false,Bool.false_eq_true],rfl⟩
        all_goals (first|k_rangeUnr|decide|skip)
      all_goals (first|lia|skip)
     all_goals (first|lia|skip)
   all_goals first|(rw[Zak,Zak,Zak,q1,q2,hzz];k_units)|(rw[Zak,Zak,q1,q2,hzz];lia)|(rw[Zak,Zak,q1,hzz];k_units)|(rw[Zak,q1,hzz];lia)|(rw[q1,hzz];lia)|lia|exact Z0j (by decide +kernel) (by lia)
 all_goals (first|k_units|skip)
end L1
namespace L1
open Mine
noncomputable def okT(at_ s d:Nat):Bool:=decide ((Zgz at_ s s d).length<=100)&&(match Zkg 200 (Zgz at_ s s d).cps.toList [] with
 | some parts=>decide (parts.length<=100)&&(match pj parts with
  | some out=>decide (out.length<=100)&&decide (4+Zf2 out<out.length)&&Zf2 out==at_&&Zxh out==(d==2)&&Zhv out==⟨#[s]⟩
  | none=>false)
 | none=>false)
noncomputable def okS(s:Nat):Bool:=(List.range 6).all λat_=>(List.range 3).all λd=>okT at_ s d
theorem ok_97:okS 97=true:=by decide +kernel
theorem ok_46:okS 46=true:=by decide +kernel
theorem ok_45:okS 45=true:=by decide +kernel
theorem ok_93:okS 93=true:=by decide +kernel
theorem ok_92:okS 92=true:=by decide +kernel
theorem ok_94:okS 94=true:=by decide +kernel
theorem Z3v:okS 126=true:=by decide +kernel
theorem ok_38:okS 38=true:=by decide +kernel
theorem Z2g:∀ s∈stock8,okS s=true:=by
 unfold stock8
 simp only[List.forall_mem_cons]
 exact⟨ok_97,ok_46,ok_45,ok_93,ok_92,ok_94,Z3v,ok_38,λY h=>nomatch h⟩
noncomputable def sgn(c f d:Nat):Nat:=if d=2 then f else c
theorem Zvi(at_ c f d:Nat)(h:d<3):Zgz at_ c f d=Zgz at_ (sgn c f d) (sgn c f d) d:=by
 match d,h with
 | 0,_=>rfl
 | 1,_=>rfl
 | 2,_=>rfl
theorem Z35{at_ c f d:Nat}(ha:at_<6)(hd:d<3)(hc:c∈stock8)(hf:f∈stock8):∃ parts out,(Zgz at_ c f d).length<=100/\Zkg 200 (Zgz at_ c f d).cps.toList []=some parts/\parts.length<=100/\pj parts=some out/\out.length<=100 /\
  4+Zf2 out<out.length/\Zf2 out=at_/\Zxh out=(d==2)/\Zhv out=⟨#[sgn c f d]⟩:=by
 exists (at_ c f d),ha,hd,hc,hf
 have hs:sgn c f d∈stock8:=by unfold sgn;split <;> assumption
 rw[Zvi at_ c f d hd]
 have h:=List.all_eq_true.mp (List.all_eq_true.mp (Z2g _ hs) at_ (List.mem_range.mpr ha)) d (List.mem_range.mpr hd)
 generalize sgn c f d=s at *
 unfold okT at h
 obtain⟨h1,h2⟩:=Bool.and_eq_true_iff.mp h
 cases ht:Zkg 200 (Zgz at_ s s d).cps.toList [] with
 | none=>rw[ht] at h2;cases h2
 | some parts=>
  rw[ht] at h2
  obtain⟨h3,h4⟩:=Bool.and_eq_true_iff.mp h2
  cases hp:pj parts with
  | none=>rw[hp] at h4;cases h4
  | some out=>
   rw[hp] at h4
   simp only[Qt,decide_eq_true_eq,beq_iff_eq] at h4
   obtain⟨⟨⟨⟨h5,h6⟩,h7⟩,h8⟩,h9⟩:=h4
   exact⟨parts,out,of_decide_eq_true h1,rfl,of_decide_eq_true h3,hp,h5,h6,h7,h8,h9⟩
end L1
namespace L1
open Mine
theorem Zvc{P:Params}{G:Gl}(g:G3 P G){f c:Addr}{n:Nat}{args:List V}{obs:Wg}{K:V->Wg->Prop}{oc:Obj}{d:Fd}{m:String}{t:Tok}{cvs:Array Value}{ct:Tok}(names rest:List Str)(loc:Wm)(cobs:Addr->Wg)(ho:(K3 P).lookup f=some (Zfs d m t c))(hoc:(K3 P).lookup c=some oc)(hdc:oc.data = .fields cvs)(hcv:cvs[1]?=some (.str d.name ct))
  (hnl:names.length=args.length) (hbind:∀ vs:List Value,vs.length=names.length->bindArgs (Zg3 d m t c) ⟨vs,[]⟩=pure (names.zip vs))
  (hloc:∀ x∈names,d.scope.names.lookup x=some .local\/(x,NameKind.cell)∈d.scope.names) (hsn:(d.scope.names.map (·.1)).Nodup) (hnn:(names++rest).Nodup)
  (hco:d.scope.isCoroutine=false) (hgen:d.scope.isGenerator=false) (hk:d.scope.kind = .function)
  (h:Nm G gl3 bl3->∀ (R:Ar G n) (L:Addr) (fr:Frs),FrIn (R.cx (callEnvC (Zg3 d m t c) L f) rfl rfl) fr->XV (R.cx (callEnvC (Zg3 d m t c) L f) rfl rfl) (execs d.body (callEnvC (Zg3 d m t c) L f)) ⟨loc,cobs L++(obs++Zau fr)⟩ (fnK λr o=>∃ o2,o=o2++Zau fr/\K r o2))
  (hcs:∀ L,(cellsFrom (L+1) d.scope.names []).map (λp=>(p.2,AO.cell ((names.zip args).lookup p.1)))=cobs L)
  (hl:(names.zip (args.map some)).filter (λp=>d.scope.names.lookup p.1==some .local)++rest.map (·,none)=loc) :
  FnR G (.ref f) (n+1) args obs K:=by
 exists (P G f c n args obs K oc d m t cvs ct names rest loc cobs),g,ho,hoc,hdc,hcv,hnl,hbind,hloc,hsn,hnn,hco,hgen,hk,h,hcs,hl
 exact λfr=>
  Zfg (fd:=Zg3 d m t c) (dfn3 g ho hoc hdc hcv hco hgen hk) hnl hbind hloc hsn hnn (λR L A0 hA e=>h g.N R L fr (by
   obtain⟨l,h1,h2⟩:=hA.deeper (callEnvC (Zg3 d m t c) L f)
   refine⟨l,?_,?_,rfl,h2⟩
   .show R.A.frames=_
    rw[e];exact h1
   .show d.scope.kind≠_
    rw[hk];decide)) hcs hl
noncomputable def Zbz(xs:List Int):List Int:=(xs.take 6).map λi=>i.fmod (10 ^ 6)
noncomputable def Zf0(xs:List Int):List Int:=Zbz xs++([2,5,1,2,0,1]:List Int).drop (Zbz xs).length
theorem Zhb(xs:List Int):(Zbz xs).length<=6:=by unfold Zbz;rw[Qj,List.length_take];exact Nat.min_le_left _ _
theorem Znx(xs:List Int):(Zf0 xs).length=6:=by
 have h:=Zhb xs
 unfold Zf0
 rw[List.length_append,List.length_drop]
 exact Nat.add_sub_of_le h
theorem Zsy(xs:List Int):∀ x∈Zf0 xs,0<=x/\x<10 ^ 6:=λx hx=>by
 rcases List.mem_append.mp hx with h|h
 .obtain⟨i,_,rfl⟩:=Qf h
  exact⟨Int.fmod_nonneg_of_pos _ (by decide),Int.fmod_lt_of_pos _ (by decide)⟩
 .exact(by decide:∀ x∈([2,5,1,2,0,1]:List Int),0<=x/\x<10 ^ 6) x (List.mem_of_mem_drop h)
noncomputable abbrev Zer(script drawn pick cars row judges sorter held later given:Option V):Loc:=[("script",script),("drawn",drawn),("pick",pick),("cars",cars),("row",row),("judges",judges),("sorter",sorter),("held",held),("later",later),("given",given)]
noncomputable abbrev cob(L:Addr)(size car free cells:Option V)(B:Wg):Wg:=(L+1+1+1+1+1+1+1+1,.cell none)::(L+1+1+1+1+1+1+1,.cell none)::(L+1+1+1+1+1+1,.cell none)::(L+1+1+1+1+1,.cell none)::(L+1+1+1+1,.cell free)::(L+1+1+1,.cell car)::(L+1+1,.cell size)::(L+1,.cell cells)::B
noncomputable def Zdw:FuncData:=Zg3 (fd3 30) "law_rx0085_01" 722 273
noncomputable def Zfb(k:Nat):List Stmt:=(fd3 30).body.drop k
noncomputable def Zdc(cs:List Int):Int:=(cs.map λi=>i.fdiv 2).sum
noncomputable def szI(cs:List Int):Int:=4+(Zdc cs).fmod 3
noncomputable def Zha(cs:List Int):List Int:=(cs.take (szI cs).toNat).map λi=>i.fmod 2
theorem Zpr(cs:List Int):4<=szI cs/\szI cs<=6:=by
 have h0:0<=(Zdc cs).fmod 3:=Int.fmod_nonneg_of_pos _ (by decide)
 have h1:(Zdc cs).fmod 3<3:=Int.fmod_lt_of_pos _ (by decide)
 exact⟨Int.le_add_of_nonneg_right h0,Int.add_le_add_left (Int.le_of_lt_add_one (b:=2) h1) 4⟩
theorem Zib{cs:List Int}(h:cs.length=6):(Zha cs).length=(szI cs).toNat:=by
 have:=Zpr cs
 unfold Zha
 rw[Qj,List.length_take,h]
 exact Nat.min_eq_left (Int.toNat_le.mpr this.2)
theorem law_b{P:Params}{G:Gl}(g:G3 P G)(N:Nm G gl3 bl3){n:Nat}(R:Ar G (n+10))(L:Addr)(cl:Addr)(cs:List Int)(hcl:cs.length=6)(hcb:∀ x∈cs,0<=x/\x<10 ^ 6)(script drawn:Option V)(B:Wg)(K:Wj)
  (hK:Hid (∀ ca,XV (R.cx (callEnvC Zdw L 274) rfl rfl) (execs (Zfb 6) (callEnvC Zdw L 274)) ⟨Zer script drawn (some (.int (Zdc cs))) (some (.ref ca)) none none none none none none,(ca,.list ((Zha cs).map V.int))::(cl,.list (cs.map V.int))::cob L (some (.int (szI cs))) (some (ch (Zuq ((Zdc cs).fdiv 3)))) (some (ch (Zg7 ((Zdc cs).fdiv 3)))) (some (.ref cl)) B⟩ K)) :
  XV (R.cx (callEnvC Zdw L 274) rfl rfl) (execs (Zfb 2) (callEnvC Zdw L 274)) ⟨Zer script drawn none none none none none none none none,(cl,.list (cs.map V.int))::cob L none none none (some (.ref cl)) B⟩ K:=by
 exists (fun L cl cs script drawn B K=>10),g,N,hcl,hcb,hK
 have hzz:sizeLine=16777216:=by decide
 refine Zag ?_
 w_why
 refine Zry ["cell"] [] (λY Y h=>h) ?_ (by kernel_rfl) (by intro _;kernel_rfl) (by kernel_rfl) (by kernel_rfl) (by decide +kernel)
 w_why
 intro it L2 acc I
 exists (it L2 acc I)
 refine⟨Zbq (by k_qdec),?_⟩
 simp only[Qr,List.map_nil]
 refine Zcg (λY Y h=>h) ?_ (Zcf (l:=cs.map V.int) .name R.good.h) (λk=>V.int ((cs.map λi=>i.fdiv 2).getD k 0)) (λk loc o=>∃ o1,loc=([("cell",o1)]:Loc)/\o=(cl,.list (cs.map V.int))::cob L none none none (some (.ref cl)) B) (by k_unrEnd) ?_ ?_ (λY Y h=>.tail h) ?_ ?_
 .rw[Qj];lia
 .exact ei1 _ rfl rfl
 .intro k loc o hI
  refine ex1 loc o hI λo1=>?_
  k_qdec
 .intro k loc o O l hk hI
  refine ex1 loc o hI λo1=>?_
  have hk5:k<cs.length:=by simpa using hk
  have e1:(cs.map V.int).getD k V.none=V.int (cs.getD k 0):=Za9 hk5
  have e2:(cs.map λi=>i.fdiv 2).getD k 0=(cs.getD k 0).fdiv 2:=Za9 hk5
  rw[e1,e2]
  w_how
  w_why
  .exact⟨rfl,_,by k_unrEnd,_,rfl,rfl⟩
  all_goals decide
 intro loc o hI
 refine ex1 loc o hI λo1=>?_
 exists (loc o o1),hI
 have hlen4:(cs.map V.int).length=(cs.map λi=>i.fdiv 2).length:=by rw[Qj,Qj]
 rw[hlen4,Zbe V.int 0]
 w_why
 refine Zuc (by k_qdec) ?_ ?_ (by rw[Qj];lia) R.good.h
 .have hpk:(cs.map λi=>i.fdiv 2).sum=Zdc cs:=rfl
  rw[hpk]
  w_why
  .have hsz:4+(Zdc cs).fmod 3=szI cs:=rfl
   rw[hsz]
   obtain⟨hs4,hs6⟩:=Zpr cs
   have hsn:szI cs=((szI cs).toNat:Int):=(Int.toNat_of_nonneg (Int.le_trans (by decide) hs4)).symm
   have hcr:Zha cs=(cs.take (szI cs).toNat).map λi=>i.fmod 2:=rfl
   have hcrl:=Zib hcl
   generalize Zha cs=cars at *
   generalize Zdc cs=pick at *
   generalize (szI cs).toNat=sz at *
   generalize szI cs=szi at *
   subst hsn
   refine W.drp (show Drp _ ((cl,.list (cs.map V.int))::cob L (some (.int sz)) none none (some (.ref cl)) B) by k_rangeUnr) ?_
   refine Zbu ["cell"] [] (λY Y h=>h) ?_ (by kernel_rfl) (by kernel_rfl) (by intro _;kernel_rfl) (by kernel_rfl) (by kernel_rfl) (by decide +kernel)
   w_why
   intro s3
   exists (s3)
   w_why
   refine Zb7 (by k_listUnr) (by k_qdec) (by k_qdec) ?_ (by intro o i;exact⟨_,by with_unfolding_all exact rfl⟩) (by rw[Qj];lia)
   intro c4
   exists (c4)
   have e4:slc cs none (some (sz:Int))=cs.take sz:=Zkq _ sz
   have h4:(cs.take sz).length=sz:=by rw[List.length_take,hcl];exact Nat.min_eq_left (Int.ofNat_le.mp hs6)
   rw[Zgq,e4]
   w_why
   intro it2 L3 acc2 I2
   exists (it2 L3 acc2 I2)
   refine⟨Zbq (by k_qdec),?_⟩
   simp only[Qr,List.map_nil]
   refine Zcg (λY Y h=>h) ?_ (Zcf (l:=(cs.take sz).map V.int) .name R.good.h) (λk=>V.int (cars.getD k 0)) (λk loc o=>∃ o1,loc=([("cell",o1)]:Loc)/\o=(c4,.list ((cs.take sz).map V.int))::(cl,.list (cs.map V.int))::cob L (some (.int sz)) none none (some (.ref cl)) B) (by k_unrEnd) ?_ ?_ (λY Y h=>.tail h) ?_ ?_
   .rw[Qj];lia
   .exact ei1 _ rfl rfl
   .intro k loc o hI
    refine ex1 loc o hI λo1=>?_
    k_qdec
   .intro k loc o O l hk hI
    refine ex1 loc o hI λo1=>?_
    have hk5:k<(cs.take sz).length:=by simpa using hk
    have e1:((cs.take sz).map V.int).getD k V.none=V.int ((cs.take sz).getD k 0):=Za9 hk5
    have e2:cars.getD k 0=((cs.take sz).getD k 0).fmod 2:=by rw[hcr];exact Za9 hk5
    rw[e1,e2]
    w_how
    w_why
    .exact⟨rfl,_,by k_unrEnd,_,rfl,rfl⟩
    all_goals decide
   intro loc o hI
   refine ex1 loc o hI λo1=>?_
   exists (loc o o1),hI
   have hlen5:((cs.take sz).map V.int).length=cars.length:=by rw[Qj,h4,hcrl]
   rw[hlen5,Zbe V.int 0]
   w_why
   .refine Zdj ?_ (by kernel_rfl) (by kernel_rfl)
    w_why
    .refine Znz (R.good.less (show 1<=n+10 by k_units)) (Zqt g 0 (pick.fdiv 3) []) ?_
     rintro r rfl
     refine Zx6 R.good.h ?_ (by kernel_rfl)
     refine Ze3 (uv_cell (by with_unfolding_all exact rfl) (by k_closed) (by kernel_rfl) (by kernel_rfl) ?_)
     refine Ze3 (uv_cell (by with_unfolding_all exact rfl) (by k_closed) (by kernel_rfl) (by kernel_rfl) ?_)
     refine Zan ?_
     refine W.drp (show Drp _ ((acc2,.list (cars.map V.int))::(cl,.list (cs.map V.int))::cob L (some (.int sz)) (some (ch (Zuq (pick.fdiv 3)))) (some (ch (Zg7 (pick.fdiv 3)))) (some (.ref cl)) B) by k_rangeUnr) ?_
     exact hK.out acc2
    all_goals decide
   all_goals decide
  all_goals decide
 .intro x hx
  obtain⟨i,hi,rfl⟩:=Qf hx
  have hb:=hcb i hi
  have h0:i.fdiv 2=i / 2:=Int.fdiv_eq_ediv_of_nonneg _ (by decide)
  rw[h0]
  have:=hb.1;have:=hb.2
  constructor
  .lia
  .have:(10:Int) ^ 6=1000000:=by decide
   lia
end L1
theorem VRs.get_arr2{h:Heap}{l:List V}{vs:List Value}{i:Nat}{a:V}(x:VRs h l vs)(q:l[i]?=some a):∃ v,vs.toArray[i]?=some v/\VR h a v:=by
 obtain⟨v,e,r⟩:=x.get i q
 exact⟨v,by simpa using e,r⟩
theorem Zlz{C:Cx}{J:St}{v sl:Expr}{l:List V}{i:Nat}{x:V}{K:Wk}(k:K x J)(hs:∀ o i,∃ xs,subscripted sl false o i=operate xs (getItem o i))(hi:i<2 ^ 62)(hx:l[i]?=some x):OP2 C VR (subscriptTail v sl) (.tup l) (.int i) J K:=by
 refine Zbn "tuple" (λs va r H=>VR.tupK (P:=s.TypeIs va "tuple") r λa vs n e Y q=>q▸⟨_,e,rfl⟩) PySem.F.slot_tuple_getitem.lookup (λs v u H r1 r2=>?_) hs
 refine VR.tupK r1 λa vs n e rl q=>?_
 subst q
 refine VR.intK r2 λt q=>?_
 subst q
 obtain⟨y,e2,r2⟩:=rl.get_arr2 hx
 have hn:i<vs.toArray.size:=(Array.getElem?_eq_some_iff.mp e2).1
 exact .of (PyProof.Rows.getItem_tuple ⟨_,e,rfl,n,rfl⟩ (by simp) (by lia) (Z3d hn) e2 (Pst.here H r2 k))
namespace L1
open Mine
noncomputable def Zs7(cars:List Int)(c f:Nat):List Nat:=cars.map λi=>if i=0 then f else c
theorem Z3w{P:Params}{G:Gl}(g:G3 P G)(N:Nm G gl3 bl3){n:Nat}(R:Ar G (n+10))(L:Addr)(ca cl:Addr)(cars:List Int)(hcr:cars.length<=6)(h01:∀ i∈cars,i=0\/i=1)(c f:Nat)(hc:c<128)(hf:f<128)(script drawn pick size:Option V)(x:AO)(B:Wg)(K:Wj)
  (hK:Hid (XV (R.cx (callEnvC Zdw L 274) rfl rfl) (execs (Zfb 7) (callEnvC Zdw L 274)) ⟨Zer script drawn pick (some (.ref ca)) (some (.bytes (Zs7 cars c f))) none none none none none,(ca,.list (cars.map V.int))::(cl,x)::cob L size (some (ch c)) (some (ch f)) (some (.ref cl)) B⟩ K)) :
  XV (R.cx (callEnvC Zdw L 274) rfl rfl) (execs (Zfb 6) (callEnvC Zdw L 274)) ⟨Zer script drawn pick (some (.ref ca)) none none none none none none,(ca,.list (cars.map V.int))::(cl,x)::cob L size (some (ch c)) (some (ch f)) (some (.ref cl)) B⟩ K:=by
 exists (fun L ca cl cars c f script drawn pick size x B K=>10),g,N,hcr,h01,hc,hf,hK
 have hzz:sizeLine=16777216:=by decide
 refine Zag ?_
 w_why
 refine Zry ["stands"] [("free",L+1+1+1+1),("car",L+1+1+1)] (λY Y h=>h) ?_ (by kernel_rfl) (by intro _;kernel_rfl) (by kernel_rfl) (by kernel_rfl) (by decide +kernel)
 w_why
 intro it L2 acc I
 exists (it L2 acc I)
 refine⟨Zbq (by k_qdec),?_⟩
 simp only[Qr,List.map_nil]
 refine Zcg (λY Y h=>h) ?_ (Zcf (l:=cars.map V.int) .name R.good.h) (λk=>vi ((Zs7 cars c f).getD k 0)) (λk loc o=>∃ o1,loc=([("stands",o1)]:Loc)/\o=(ca,.list (cars.map V.int))::(cl,x)::cob L size (some (ch c)) (some (ch f)) (some (.ref cl)) B) (by k_unrEnd) ?_ ?_ (λY Y h=>.tail h) ?_ ?_
 .rw[Qj];lia
 .exact ei1 _ rfl rfl
 .intro k loc o hI
  refine ex1 loc o hI λo1=>?_
  k_qdec
 .intro k loc o O l hk hI
  refine ex1 loc o hI λo1=>?_
  have hk5:k<cars.length:=by simpa using hk
  have e1:(cars.map V.int).getD k V.none=V.int (cars.getD k 0):=Za9 hk5
  have e2:(Zs7 cars c f).getD k 0=if cars.getD k 0=0 then f else c:=Za9 hk5
  rw[e1,e2]
  generalize cars.getD k 0=i at *
  w_how
  have o1':∀ x:Nat,x<128->x<0x110000:=λx h=>Nat.lt_trans h (by decide)
  w_why
  refine⟨λh=>?_,λh=>?_⟩
  .have hi:¬ i=0:=by simpa using h
   w_why
   refine Ztx ?_
   w_why
   exact⟨by rw[if_neg hi],_,by k_unrEnd,_,rfl,rfl⟩
  .have hi:i=0:=by simpa using h
   w_why
   refine Ztx ?_
   w_why
   exact⟨by rw[if_pos hi],_,by k_unrEnd,_,rfl,rfl⟩
 intro loc o hI
 refine ex1 loc o hI λo1=>?_
 exists (loc o o1),hI
 have hlen5:(cars.map V.int).length=(Zs7 cars c f).length:=by unfold Zs7;rw[Qj,Qj]
 rw[hlen5,Zbe vi 0]
 w_why
 .refine Zc2 (by k_qdec) ?_ ?_ ?_ R.good.h
  .refine Zbv (by kernel_rfl) (by kernel_rfl) (by l_hasStore) ?_
   refine Zan ?_
   refine W.drp (show Drp _ ((ca,.list (cars.map V.int))::(cl,x)::cob L size (some (ch c)) (some (ch f)) (some (.ref cl)) B) by k_rangeUnr) ?_
   exact hK.out
  .intro y hx
   unfold Zs7 at hx
   obtain⟨i,_,rfl⟩:=Qf hx
   show(if i=0 then f else c)<256
   split <;> lia
  .unfold Zs7;rw[Qj];lia
noncomputable def jsI(cs:List Int)(c f:Nat)(k:Nat):Bool×Nat:=(dr3 ((cs.getD k 0).fdiv 2)==2,sgn c f (dr3 ((cs.getD k 0).fdiv 2)))
theorem Z1y(d:Int):dr3 d<3:=(Zca d 3 (by decide)).2
theorem Z2x{P:Params}{G:Gl}(g:G3 P G)(N:Nm G gl3 bl3){n:Nat}(R:Ar G (n+10))(L:Addr)(ca cl:Addr)(cars:List Int)(cs:List Int)(hcs:cs.length=6)(hcb:∀ x∈cs,0<=x/\x<10 ^ 6)(sz:Nat)(hsz:sz<=6)(c f:Nat)(hc:c∈stock8)(hf:f∈stock8)(script drawn pick row:Option V)(l0:List (PK×Addr))(B:Wg)(K:Wj)
  (hK:Hid (∀ l ja,XV (R.cx (callEnvC Zdw L 274) rfl rfl) (execs (Zfb 8) (callEnvC Zdw L 274)) ⟨Zer script drawn pick (some (.ref ca)) row (some (.ref ja)) none none none none,(ja,.list ((List.range sz).map λk=>jv k (jsI cs c f k)))::(ca,.list (cars.map V.int))::(cl,.list (cs.map V.int))::cob L (some (.int sz)) (some (ch c)) (some (ch f)) (some (.ref cl)) (pt3 l++B)⟩ K)) :
  XV (R.cx (callEnvC Zdw L 274) rfl rfl) (execs (Zfb 7) (callEnvC Zdw L 274)) ⟨Zer script drawn pick (some (.ref ca)) row none none none none none,(ca,.list (cars.map V.int))::(cl,.list (cs.map V.int))::cob L (some (.int sz)) (some (ch c)) (some (ch f)) (some (.ref cl)) (pt3 l0++B)⟩ K:=by
 exists (fun L ca cl cars cs sz c f script drawn pick row l0 B K=>10),g,N,hcs,hcb,hsz,hc,hf,hK
 have hzz:sizeLine=16777216:=by decide
 have fx:∀ (X:Wg) (l:List (PK×Addr)),(X++(pt3 l++B)).Perm (pt3 l++(X++B)):=λX l=>List.perm_append_comm_assoc X (pt3 l) B
 refine Zag ?_
 refine Zbu ["at"] [("free",L+1+1+1+1),("cells",L+1),("car",L+1+1+1)] (λY Y h=>h) ?_ (by kernel_rfl) (by kernel_rfl) (by intro _;kernel_rfl) (by kernel_rfl) (by kernel_rfl) (by decide +kernel)
 w_why
 refine Zhj ?_
 intro rg
 exists (rg)
 w_why
 refine Zgk (by k_listUnr) ?_ (Zmn (by k_units) (by lia))
 intro it L2 acc I
 exists (it L2 acc I)
 refine⟨Zff (by k_qdec),?_⟩
 simp only[Qr,List.map_nil]
 refine Zn7 .name (λY Y h=>h) R.good.h sz (λk=>jv k (jsI cs c f k)) (λk loc o=>∃ o1 l,loc=([("at",o1)]:Loc)/\o=(ca,.list (cars.map V.int))::(cl,.list (cs.map V.int))::cob L (some (.int sz)) (some (ch c)) (some (ch f)) (some (.ref cl)) (pt3 l++B)) (by k_unrEnd) ?_ ?_ ?_ ?_ ?_
 .exact Z21 (by k_units)
 .lia
 .exact ei2 _ l0 rfl rfl
 .intro k loc o O l hk hI
  refine ex2 loc o hI λo1 l1=>?_
  exists (k loc o O l o1 l1),hk,hI
  rw[show(0:Int)+(k:Int) * 1=(k:Int) by simp]
  have hk6:k<6:=Nat.lt_of_lt_of_le hk hsz
  have hat:(cs.map V.int)[k]?=some (.int (cs.getD k 0)):=by rw[List.getElem?_map,getD_some (d:=0) (by lia)];rfl
  obtain⟨hb0,hb1⟩:=hcb _ (Zs6 (d:=0) (show k<cs.length by lia))
  obtain⟨parts,out,p1,p2,p3,p4,p5,p6,p7,p8,p9⟩:=Z35 (at_:=k) (d:=dr3 ((cs.getD k 0).fdiv 2)) hk6 (Z1y _) hc hf
  have hjv:jv k (jsI cs c f k) = .tup [.int (Zf2 out:Nat),.bool (Zxh out),.str (Zhv out)]:=by rw[p7,p8,p9];rfl
  rw[hjv]
  generalize cs.getD k 0=ck at *
  w_how
  w_why
  refine Zaq (x:=.int ck) (by k_qdec) ?_ (by intro o i;exact⟨[o,i],by kernel_rfl⟩) (by k_units) (by lia) (by simpa using hat)
  have hgd:∀ m,m<=n+10->Good R.A m:=λm h=>R.good.less h
  w_why
  .refine Znz (hgd 1 (by k_units)) (Zna g 0 k c f (ck.fdiv 2) (by lia) []) ?_
   rintro r rfl
   w_why
   refine Zt5 (sel:=pt3 l1++[]) (rest:=(it,O)::(acc,.list l)::(ca,.list (cars.map V.int))::(cl,.list (cs.map V.int))::cob L (some (.int sz)) (some (ch c)) (some (ch f)) (some (.ref cl)) B) (hgd 5 (by k_units))
    (Zhw g 0 (Zgz k c f (dr3 (ck.fdiv 2))) parts out l1 [] p1 p2 p3 p4) (by rw[List.append_nil];exact fx [_,_,_,_,_,_,_,_,_,_,_,_] l1) ?_
   rintro v o2 ⟨l2,rfl,rfl⟩
   refine⟨(it,O)::(acc,.list l)::(ca,.list (cars.map V.int))::(cl,.list (cs.map V.int))::cob L (some (.int sz)) (some (ch c)) (some (ch f)) (some (.ref cl)) (pt3 l2++B),.perm (by rw[List.append_nil];exact(fx [_,_,_,_,_,_,_,_,_,_,_,_] l2).symm) .refl,?_⟩
   w_why
   refine Znz (hgd 2 (by k_units)) (Zri g 0 out p5 p6 (by lia) []) ?_
   rintro r rfl
   w_why
   exact⟨rfl,_,by k_unrEnd,_,l2,rfl,rfl⟩
  all_goals decide
 .intro loc o hI
  refine ex2 loc o hI λo1 l1=>?_
  refine Zbv (by kernel_rfl) (by kernel_rfl) (by l_hasStore) ?_
  refine⟨_,.head,Zan ?_⟩
  exact hK.out l1 acc
theorem Z2q{P:Params}{G:Gl}(g:G3 P G)(N:Nm G gl3 bl3){n:Nat}(R:Ar G (n+10))(L:Addr)(ja:Addr)(js:List (Bool×Nat))(hz:js.length<=6)(B:Wg)(script drawn pick cars row:Option V)(K:Wj)
  (hK:Hid (XV (R.cx (callEnvC Zdw L 274) rfl rfl) (execs (Zfb 9) (callEnvC Zdw L 274)) ⟨Zer script drawn pick cars row (some (.ref ja)) none none none none,(ja,.list (jvs js))::B⟩ K)) :
  XV (R.cx (callEnvC Zdw L 274) rfl rfl) (execs (Zfb 8) (callEnvC Zdw L 274)) ⟨Zer script drawn pick cars row (some (.ref ja)) none none none none,(ja,.list (jvs js))::B⟩ K:=by
 exists (fun L ja js B script drawn pick cars row K=>10),g,N,hz,hK
 have hzz:sizeLine=16777216:=by decide
 have hjl:(jvs js).length=js.length:=List.length_mapIdx
 refine Zag ?_
 w_why
 refine Zry ["judge"] [] (λY Y h=>h) ?_ (by kernel_rfl) (by intro _;kernel_rfl) (by kernel_rfl) (by kernel_rfl) (by decide +kernel)
 w_why
 intro it L2 acc I
 exists (it L2 acc I)
 refine⟨Zbq (by k_qdec),?_⟩
 simp only[Qr,List.map_nil]
 refine Zcg (λY Y h=>h) ?_ (Zcf (l:=jvs js) .name R.good.h) (λk=>V.str ⟨#[(js.getD k (false,0)).2]⟩) (λk loc o=>∃ o1,loc=([("judge",o1)]:Loc)/\o=(ja,.list (jvs js))::B) (by k_unrEnd) ?_ ?_ (λY Y h=>.tail h) ?_ ?_
 .rw[hjl];lia
 .exact ei1 _ rfl rfl
 .intro k loc o hI
  refine ex1 loc o hI λo1=>?_
  k_qdec
 .intro k loc o O l hk hI
  refine ex1 loc o hI λo1=>?_
  have hk':k<js.length:=by rw[<- hjl];exact hk
  have e1:(jvs js).getD k V.none = .tup [.int k,.bool (js.getD k (false,0)).1,.str ⟨#[(js.getD k (false,0)).2]⟩]:=by
   simp[jvs,jv,List.getD,List.getElem?_mapIdx,Qu hk']
  rw[e1]
  w_how
  w_why
  refine Zlz (i:=2) ?_ (by intro o i;exact⟨[o,i],by kernel_rfl⟩) (by decide) rfl
  w_why
  exact⟨rfl,_,by k_unrEnd,_,rfl,rfl⟩
 intro loc o hI
 refine ex1 loc o hI λo1=>?_
 w_why
 refine Zfz (λy=>Zdr y (.str (Str.ofString ""))) (by k_qdec) ?_ (λy hy=>?_) (MI.gu1 R.good (Nat.succ_pos _))
 .rw[show(List.map (λk=>V.str ⟨#[(js.getD k (false,0)).2]⟩) (List.range (jvs js).length)).any (λy=>Zdr y (.str (Str.ofString "")))=false from List.any_eq_false.mpr λy hy=>by
   obtain⟨k,_,rfl⟩:=Qf hy
   show ¬ Zdr (.str ⟨#[_]⟩) (.str (Str.ofString ""))=true
   intro q
   have q2:((⟨#[(js.getD k (false,0)).2]⟩:Str)==Str.ofString "")=true:=q
   have:=congrArg Str.length (eq_of_beq q2)
   exact absurd this (by show ¬ (1=_);decide)]
  w_why
  refine⟨λh=>Bool.noConfusion h,λY=>?_⟩
  refine Zo7 (Zan ?_)
  refine W.drp (show Drp _ ((ja,.list (jvs js))::B) by k_rangeUnr) ?_
  exact hK.out
 .obtain⟨k,_,rfl⟩:=Qf hy
  exact .sc (.str _ _)
end L1
namespace L1
open Mine MI
noncomputable def Znr(c f:Nat):List Nat:=c::f::stock8.filter λx=>x != c&&x != f
theorem Zlm:∀ c∈stock8,∀ f∈stock8,c≠f->(∀ i<8,(Znr c f).getD i 0<128)/\∀ i<8,∀ j<8,(Znr c f).getD i 0=(Znr c f).getD j 0->i=j:=by decide +kernel
noncomputable def chi(c f:Nat)(a:Nat):Nat:=Bool.rec a ((Znr c f).getD (a-nC) 0) (Zg6 a)
theorem Zjm{a:Nat}(h:Zg6 a=true):a-nC<8/\nC+(a-nC)=a:=by
 obtain⟨h1,h2⟩:=Zj4 h
 have h1:=Qo h1
 have h2:=Qo h2
 exact⟨Nat.sub_lt_left_of_lt_add h1 (Nat.lt_of_le_of_lt h2 (by decide)),Nat.add_sub_of_le h1⟩
theorem Zpq{c f a:Nat}(h:Zg6 a=true):chi c f a=(Znr c f).getD (a-nC) 0:=by unfold chi;rw[h]
noncomputable def envE(c f:Nat)(hc:c∈stock8)(hf:f∈stock8)(hne:c≠f)(nu:Nat->V):En where
 χ:=chi c f
 ν:=nu
 kn a h:=by
  have h1:=Qo (show Nat.ble a 2097151=true from h)
  have:Zg6 a=false:=by
   unfold Zg6
   have:Nat.ble 2097152 a=false:=by
    cases hb:Nat.ble 2097152 a with
    | false=>rfl
    | true=>have:=Qo hb;lia
   rw[this];rfl
  unfold chi;rw[this]
 inj a b ha hb e:=by
  rw[Zpq ha,Zpq hb] at e
  obtain⟨a1,a2⟩:=Zjm ha
  obtain⟨b1,b2⟩:=Zjm hb
  have:=(Zlm c hc f hf hne).2 _ a1 _ b1 e
  lia
 lt a ha:=by
  rw[Zpq ha]
  exact(Zlm c hc f hf hne).1 _ (Zjm ha).1
noncomputable def nuF(sl bl cl:Addr)(pick:Int)(c f:Nat)(js:Nat->Bool×Nat)(k:Nat):V:=
 if 16<=k then jv (k-16) (js (k-16)) else ([V.ref sl,.ref bl,.int pick,.ref cl,ch c,ch f]:List V).getD k .none
theorem ej_ok{c f:Nat}(hc:c∈stock8)(hf:f∈stock8)(hne:c≠f)(sl bl cl:Addr)(pick:Int)(d:Nat->Nat):Ej (envE c f hc hf hne (nuF sl bl cl pick c f λk=>(d k==2,sgn c f (d k)))) λk=>(d k==2,sgn c f (d k)) where
 nu i:=by
  show nuF sl bl cl pick c f (λk=>(d k==2,sgn c f (d k))) (i+16)=_
  unfold nuF
  rw[if_pos (Nat.le_add_left 16 i),Nat.add_sub_cancel]
 tr i:=by
  show tB c (d i==2,sgn c f (d i))=true
  unfold tB sgn
  by_cases h:d i=2
  .rw[if_pos h,h,Zaw (d:=f) rfl,decide_eq_false hne];rfl
  .rw[if_neg h,Zaw (d:=c) rfl,decide_eq_true rfl,beq_eq_false_iff_ne.mpr h];rfl
 fa i:=by
  show tB f (d i==2,sgn c f (d i))=false
  unfold tB sgn
  by_cases h:d i=2
  .rw[if_pos h,h,Zaw (d:=f) rfl,decide_eq_true rfl];rfl
  .rw[if_neg h,Zaw (d:=c) rfl,decide_eq_false (Ne.symm hne),beq_eq_false_iff_ne.mpr h];rfl
theorem Drp.pre(l m:Wg):Drp (l++m) m:=by
 induction l with
 | nil=>exact .refl
 | cons a l ih=>exact .cons ih
theorem LR.maps{E:En}{D:Rh}{α:Type}{f:α->A}{g:α->V}(l:List α)(h:∀ i∈l,AR E D (f i) (g i)):LR E D (l.map f) (l.map g):=by
 induction l with
 | nil=>exact rfl
 | cons a l ih=>exact⟨_,_,rfl,h a (.head _),ih λi hi=>h i (.tail _ hi)⟩
noncomputable def rho(L ca ja:Addr):Rh
 | 0=>some ca
 | 1=>some (L+1)
 | 2=>some (L+1+1)
 | 3=>some (L+1+1+1)
 | 4=>some (L+1+1+1+1)
 | 5=>some (L+1+1+1+1+1)
 | 6=>some (L+1+1+1+1+1+1)
 | 7=>some (L+1+1+1+1+1+1+1)
 | 8=>some (L+1+1+1+1+1+1+1+1)
 | 9=>some ja
 | _=>none
noncomputable def Zlc(cars:List Nat):Bool:=iff (cars.all (·==1)||cars.all (·==0)) (runR cars) (run1 cars)
theorem law_d{P:Params}{G:Gl}(g:G3 P G){n:Nat}(R:Ar G (n+10))(L:Addr)(fr:Frs)(hfr:FrIn (R.cx (callEnvC Zdw L 274) rfl rfl) fr)(sl bl cl ca ja:Addr)(pick:Int)(c f:Nat)(hc:c∈stock8)(hf:f∈stock8)(hne:c≠f)(d:Nat->Nat)(cars:List Nat)(h01:∀ i∈cars,i=0\/i=1)(hrun:Zlc cars=true)
  (x:AO) (T0:Wg) (K:Wj) (hK:Hid (∀ loc o,Drp o (T0++Zau fr)->K (.ret (.bool true)) ⟨loc,o⟩)) :
  XV (R.cx (callEnvC Zdw L 274) rfl rfl) (execs (Zfb 9) (callEnvC Zdw L 274)) ⟨Zer (some (.ref sl)) (some (.ref bl)) (some (.int pick)) (some (.ref ca)) (some (.bytes (cars.map λi=>if i=1 then c else f))) (some (.ref ja)) none none none none,
   (ja,.list ((List.range cars.length).map λk=>jv k (d k==2,sgn c f (d k))))::(ca,.list (cars.map λn:Nat=>V.int n))::(cl,x)::cob L (some (.int cars.length)) (some (ch c)) (some (ch f)) (some (.ref cl)) (T0++Zau fr)⟩ K:=by
 have JJ:=ej_ok hc hf hne sl bl cl pick d
 generalize hE:envE c f hc hf hne (nuF sl bl cl pick c f λk=>(d k==2,sgn c f (d k)))=E at JJ
 have O:Zrs E pg1 G:=prOk g (Zw2 g JJ)
 have H:Phi E G 9 ⟨E,fmL,(cl,x)::T0++Zau fr,(callEnvC Zdw L 274).cells⟩ (R.cx (callEnvC Zdw L 274) rfl rfl):=by
  have gd:=R.good.less (show 10<=n+10 by k_units)
  refine⟨rfl,rfl,λY=>gd,⟨λY Y h=>h,λY=>gd.h,gd.g,gu1 gd (Nat.succ_pos _),rfl,by rfl,rfl⟩,λY Y=>⟨(cl,x)::T0,fr,hfr,rfl⟩⟩
 refine W.drp (o':=(ja,.list ((List.range cars.length).map λk=>jv k (d k==2,sgn c f (d k))))::cob L (some (.int cars.length)) (some (ch c)) (some (ch f)) (some (.ref cl)) ((ca,.list (cars.map λn:Nat=>V.int n))::(cl,x)::T0++Zau fr)) (.perm ?_ .refl) ?_
 .exact Zxm [[_],[_],[_],[_],[_],[_],[_],[_],[_],[_],[_],T0++Zau fr] [0,1,2,3,4,5,6,7,8,9,10,11] [0,3,4,5,6,7,8,9,10,1,2,11] rfl
 have q:Ct.S ⟨E,fmL,(cl,x)::T0++Zau fr,(callEnvC Zdw L 274).cells⟩ (rho L ca ja) (st0 cars) ⟨Zer (some (.ref sl)) (some (.ref bl)) (some (.int pick)) (some (.ref ca)) (some (.bytes (cars.map λi=>if i=1 then c else f))) (some (.ref ja)) none none none none,
   (ja,.list ((List.range cars.length).map λk=>jv k (d k==2,sgn c f (d k))))::cob L (some (.int cars.length)) (some (ch c)) (some (ch f)) (some (.ref cl)) ((ca,.list (cars.map λn:Nat=>V.int n))::(cl,x)::T0++Zau fr)⟩:=by
  subst hE
  refine⟨⟨_,_,_,_,rfl,rfl,rfl,_,_,_,_,rfl,rfl,rfl,_,_,_,_,rfl,rfl,rfl,_,_,_,_,rfl,rfl,⟨_,rfl,rfl⟩,_,_,_,_,rfl,rfl,?_,_,_,_,_,rfl,rfl,⟨_,rfl,rfl⟩,_,_,_,rfl,rfl,_,_,_,rfl,rfl,_,_,_,rfl,rfl,_,_,_,rfl,rfl,rfl,rfl⟩,
   ⟨_,_,_,rfl,rfl,by kernel_rfl,_,_,_,rfl,rfl,by kernel_rfl,_,_,_,rfl,rfl,by kernel_rfl,_,_,_,rfl,rfl,by kernel_rfl,_,_,_,rfl,rfl,by kernel_rfl,_,_,_,rfl,rfl,by kernel_rfl,_,_,_,rfl,rfl,by kernel_rfl,_,_,_,rfl,rfl,by kernel_rfl,rfl⟩,?_,?_⟩
  .show V.bytes _=V.bytes ((rowA cars).map (chi c f))
   unfold rowA
   rw[List.map_map]
   congr 1
   refine List.map_congr_left λi hi=>?_
   rcases h01 i hi with rfl|rfl <;> rfl
  .exact⟨ja,_,_,rfl,rfl,⟨_,rfl,LR.maps _ λi Y=>(JJ.nu i).symm⟩,_,_,_,rfl,rfl,⟨none,rfl,rfl⟩,_,_,_,rfl,rfl,⟨none,rfl,rfl⟩,_,_,_,rfl,rfl,⟨none,rfl,rfl⟩,_,_,_,rfl,rfl,⟨none,rfl,rfl⟩,
    _,_,_,rfl,rfl,⟨_,rfl,_,rfl,rfl⟩,_,_,_,rfl,rfl,⟨_,rfl,_,rfl,rfl⟩,_,_,_,rfl,rfl,⟨_,rfl,_,rfl,rfl⟩,_,_,_,rfl,rfl,⟨_,rfl,_,rfl,rfl⟩,_,_,_,rfl,rfl,⟨_,rfl,LR.maps _ λi Y=>rfl⟩,rfl⟩
  .intro h hh
   have hh:10<=h:=hh
   obtain⟨k,rfl⟩:=Nat.exists_eq_add_of_le hh
   rw[Nat.add_comm];rfl
 have fin:=λ{J0} (q:Ct.S ⟨E,fmL,(cl,x)::T0++Zau fr,(callEnvC Zdw L 274).cells⟩ (rho L ca ja) (st0 cars) J0)=>show XV (R.cx (callEnvC Zdw L 274) rfl rfl) (execs (Zfb 9) (callEnvC Zdw L 274)) J0 (Fin ((cl,x)::T0++Zau fr)) by
  rcases Znf hrun with⟨_,h⟩|⟨_,h⟩
  .exact Zpe (T0:=(cl,x)::T0) g O H rfl hfr rfl q h
  .exact Zod O H rfl q h
 exact(fin q).mono λfl J' ⟨h1,l,h2⟩=>by
  rw[h1]
  exact hK.out J'.loc J'.obs (by rw[h2,show l++((cl,x)::T0++Zau fr)=(l++[(cl,x)])++(T0++Zau fr) by rw[Qs];rfl];exact Drp.pre _ _)
end L1
namespace L1
open Mine MI
noncomputable def Zyf:Nat->List (List Nat)
 | 0=>[[]]
 | n+1=>(Zyf n).flatMap λl=>[0::l,1::l]
theorem Zhq:∀ cars:List Nat,(∀ i∈cars,i=0\/i=1)->cars∈Zyf cars.length
 | [],_=>.head _
 | a::l,h=>by
  refine List.mem_flatMap.mpr ⟨l,Zhq l λi hi=>h i (.tail _ hi),?_⟩
  rcases h a (.head _) with rfl|rfl
  .exact .head _
  .exact .tail _ (.head _)
noncomputable def Zjn(p:List Nat)(n:Nat):Bool:=(Zyf n).all λl=>Zlc (p++l)
theorem Zaz{p l:List Nat}{n:Nat}(h:Zjn p n=true)(hn:l.length=n)(h01:∀ i∈l,i=0\/i=1):Zlc (p++l)=true:=
 List.all_eq_true.mp h l (hn▸Zhq l h01)
end L1
namespace L1
open Mine MI
theorem r4_0:Zjn [0] 3=true:=by kernel_rfl
theorem r4_1:Zjn [1] 3=true:=by kernel_rfl
theorem r5_00:Zjn [0,0] 3=true:=by kernel_rfl
theorem r5_01:Zjn [0,1] 3=true:=by kernel_rfl
theorem r5_10:Zjn [1,0] 3=true:=by kernel_rfl
theorem r5_11:Zjn [1,1] 3=true:=by kernel_rfl
theorem Z3n:Zjn [0,0,0] 3=true:=by kernel_rfl
theorem Z3s:Zjn [0,0,1] 3=true:=by kernel_rfl
theorem Zz7:Zjn [0,1,0] 3=true:=by kernel_rfl
theorem Z26:Zjn [0,1,1] 3=true:=by kernel_rfl
theorem Z3p:Zjn [1,0,0] 3=true:=by kernel_rfl
theorem Z0v:Zjn [1,0,1] 3=true:=by kernel_rfl
theorem Z0w:Zjn [1,1,0] 3=true:=by kernel_rfl
theorem Z0b:Zjn [1,1,1] 3=true:=by kernel_rfl
end L1
namespace L1
open Mine MI
theorem runs{cars:List Nat}(h4:4<=cars.length)(h6:cars.length<=6)(h01:∀ i∈cars,i=0\/i=1):Zlc cars=true:=by
 match cars,h4,h6,h01 with
 | a::b::c::d::l,_,h6,h01=>
  have ha:=h01 a (.head _)
  have hb:=h01 b (.tail _ (.head _))
  have hc:=h01 c (.tail _ (.tail _ (.head _)))
  have hd:=λi hi=>h01 i (.tail _ hi)
  have hd2:=λi hi=>h01 i (.tail _ (.tail _ hi))
  have hd3:=λi hi=>h01 i (.tail _ (.tail _ (.tail _ hi)))
  match l,h6,hd,hd2,hd3 with
  | [],_,hd,hd2,hd3=>
   rcases ha with rfl|rfl
   .exact Zaz r4_0 rfl hd
   .exact Zaz r4_1 rfl hd
  | [e],_,hd,hd2,hd3=>
   rcases ha with rfl|rfl <;> rcases hb with rfl|rfl
   .exact Zaz r5_00 rfl hd2
   .exact Zaz r5_01 rfl hd2
   .exact Zaz r5_10 rfl hd2
   .exact Zaz r5_11 rfl hd2
  | [e,f],_,hd,hd2,hd3=>
   rcases ha with rfl|rfl <;> rcases hb with rfl|rfl <;> rcases hc with rfl|rfl
   .exact Zaz Z3n rfl hd3
   .exact Zaz Z3s rfl hd3
   .exact Zaz Zz7 rfl hd3
   .exact Zaz Z26 rfl hd3
   .exact Zaz Z3p rfl hd3
   .exact Zaz Z0v rfl hd3
   .exact Zaz Z0w rfl hd3
   .exact Zaz Z0b rfl hd3
  | _::_::_::_,h6,_,_,_=>exact absurd h6 (by simp)
end L1
namespace L1
open Mine MI
theorem Zzr{P:Params}{G:Gl}(g:G3 P G)(n:Nat)(sl:Addr)(xs:List Int)(vs:List Value)(kk:Nat)(hv:∀ h,VRs h (xs.map V.int) vs)(hx:xs.length<=63) :
  FnR G (.ref 274) (n+11) [.ref sl] (pt3 []++[(sl,.raw (rawL vs kk))]) λv o=>v = .bool true/\∃ l,o=pt3 l++[(sl,.raw (rawL vs kk))]:=by
 refine Zvc g ["script"] ["drawn", "pick", "cars", "row", "judges", "sorter", "held", "later", "given"] (Zer (some (.ref sl)) none none none none none none none none none) (λL=>cob L none none none none []) rfl rfl rfl rfl rfl (by k_one) (by decide +kernel) (by decide +kernel) (by decide +kernel) (by kernel_rfl) (by kernel_rfl) (by kernel_rfl) ?_ (λL=>by kernel_rfl) (by kernel_rfl)
 intro N R L fr hfr
 refine XV.opq λK hKK=>?_
 exists (fun sl xs vs kk L fr K=>10),g,hv,hx,N,hfr,hKK
 have hzz:sizeLine=16777216:=by decide
 have hdl:=Zhb xs
 have hcl:=Znx xs
 have hcb:=Zsy xs
 show XV _ _ ⟨_,cob L none none none none ((184,.own (Zbg []))::(sl,.raw (rawL vs kk))::Zau fr)⟩ _
 refine Zag ?_
 refine Zbu ["cell"] [] (λY Y h=>h) ?_ (by kernel_rfl) (by kernel_rfl) (by intro _;kernel_rfl) (by kernel_rfl) (by kernel_rfl) (by decide +kernel)
 w_why
 intro s1
 exists (s1)
 w_why
 refine Zjp hv (by k_listUnr) (by k_qdec) (by k_qdec) ?_ (by intro o i;exact⟨_,by with_unfolding_all exact rfl⟩) (by rw[Qj];lia)
 intro a0
 exists (a0)
 have e5:slc xs none (some 6)=xs.take 6:=Zkq xs 6
 rw[Zgq,e5]
 w_why
 intro it L2 acc I
 exists (it L2 acc I)
 refine⟨Zbq (by k_qdec),?_⟩
 simp only[Qr,List.map_nil]
 refine Zcg (λY Y h=>h) ?_ (Zcf (l:=(xs.take 6).map V.int) .name R.good.h) (λk=>V.int ((Zbz xs).getD k 0)) (λk loc o=>∃ o1,loc=([("cell",o1)]:Loc)/\o=(a0,.list ((xs.take 6).map V.int))::cob L none none none none ((184,.own (Zbg []))::(sl,.raw (rawL vs kk))::Zau fr)) (by k_unrEnd) ?_ ?_ (λY Y h=>.tail h) ?_ ?_
 .rw[Qj,List.length_take];exact Qx (Nat.min_le_left _ _) (by decide)
 .exact ei1 _ rfl rfl
 .intro k loc o hI
  refine ex1 loc o hI λo1=>?_
  k_qdec
 .intro k loc o O l hk hI
  refine ex1 loc o hI λo1=>?_
  have hk5:k<(xs.take 6).length:=by simpa using hk
  have e1:((xs.take 6).map V.int).getD k V.none=V.int ((xs.take 6).getD k 0):=Za9 hk5
  have e2:(Zbz xs).getD k 0=((xs.take 6).getD k 0).fmod (10 ^ 6):=Za9 hk5
  rw[e1,e2]
  w_how
  w_why
  refine Z13 ?_
  w_why
  .exact⟨rfl,_,by k_unrEnd,_,rfl,rfl⟩
  all_goals decide
 intro loc o hI
 refine ex1 loc o hI λo1=>?_
 exists (loc o o1),hI
 have hlen:((xs.take 6).map V.int).length=(Zbz xs).length:=by unfold Zbz;rw[Qj,Qj]
 rw[hlen,Zbe V.int 0]
 w_why
 intro bl
 exists (bl)
 w_why
 .intro s2
  exists (s2)
  w_why
  refine Zb7 (by k_listUnr) (by k_qdec) (by k_qdec) ?_ (by intro o i;exact⟨_,by with_unfolding_all exact rfl⟩) (by decide)
  intro b2
  exists (b2)
  w_why
  refine Zeo (by k_qdec) (by k_qdec) ?_ (by
   have:=Zt3 ([V.int 2,.int 5,.int 1,.int 2,.int 0,.int 1]:List V) (some (((Zbz xs).map V.int).length:Nat)) none
   simp only[List.length_cons,List.length_nil] at this
   rw[Qj] at *
   lia)
  intro cl
  exists (cl)
  have ecl:(Zbz xs).map V.int++slc [V.int 2,.int 5,.int 1,.int 2,.int 0,.int 1] (some ((((Zbz xs).map V.int).length:Nat):Int)) none=(Zf0 xs).map V.int:=by
   rw[Qj,Zr6 _ _ (by show _<=6;k_units)]
   unfold Zf0
   rw[Qq,List.map_drop]
   rfl
  rw[ecl]
  generalize Zf0 xs=cs at *
  refine OP1.drp (o':=(cl,.list (cs.map V.int))::cob L none none none none ((184,.own (Zbg []))::(sl,.raw (rawL vs kk))::Zau fr)) (by k_rangeUnr) ?_
  refine uv_cell (by with_unfolding_all exact rfl) (by k_closed) (by kernel_rfl) (by kernel_rfl) ?_
  refine Zan ?_
  refine law_b g N R L cl cs hcl hcb (some (.ref sl)) (some (.ref acc)) ((184,.own (Zbg []))::(sl,.raw (rawL vs kk))::Zau fr) K ⟨λca=>?_⟩
  obtain⟨hc,hf,hne⟩:=Zsw ((Zdc cs).fdiv 3)
  have hs:=Zpr cs
  have hcr:=Zib hcl
  have h01:∀ i∈Zha cs,i=0\/i=1:=λi hi=>by
   obtain⟨j,_,rfl⟩:=Qf hi
   have h0:0<=j.fmod 2:=Int.fmod_nonneg_of_pos _ (by decide)
   have h1:j.fmod 2<2:=Int.fmod_lt_of_pos _ (by decide)
   rcases Int.lt_or_eq_of_le (Int.le_of_lt_add_one (b:=1) h1) with h|h
   .exact .inl (Int.le_antisymm (Int.le_of_lt_add_one (b:=0) h) h0)
   .exact .inr h
  have lt8:∀ c∈stock8,c<128:=by decide
  generalize Zuq ((Zdc cs).fdiv 3)=c at *
  generalize Zg7 ((Zdc cs).fdiv 3)=f at *
  generalize Zdc cs=pick at *
  obtain⟨sz,hsz⟩:∃ sz:Nat,szI cs=sz:=⟨(szI cs).toNat,(Int.toNat_of_nonneg (Int.le_trans (by decide) hs.1)).symm⟩
  rw[hsz] at hs hcr ⊢
  obtain⟨cars,hcars⟩:∃ cars:List Nat,Zha cs=cars.map Int.ofNat:=⟨(Zha cs).map Int.toNat,by
   rw[List.map_map]
   refine(List.map_id _).symm.trans (List.map_congr_left λi hi=>?_)
   rcases h01 i hi with rfl|rfl <;> rfl⟩
  rw[hcars] at hcr h01 ⊢
  have hcl2:cars.length=sz:=by simpa using hcr
  have h01n:∀ i∈cars,i=0\/i=1:=λi hi=>(h01 (Int.ofNat i) (Qe ⟨i,hi,rfl⟩)).imp (λh=>Int.ofNat.inj h) λh=>Int.ofNat.inj h
  have hz6:sz<=6:=Int.ofNat_le.mp hs.2
  refine Z3w g N R L ca cl (cars.map Int.ofNat) (by rw[Qj];lia) h01 c f (lt8 c hc) (lt8 f hf) _ _ _ _ _ _ K ⟨?_⟩
  refine Z2x g N R L ca cl (cars.map Int.ofNat) cs hcl hcb sz hz6 c f hc hf _ _ _ _ [] ((sl,.raw (rawL vs kk))::Zau fr) K ⟨λl ja=>?_⟩
  have hjs:((List.range sz).map λk=>jv k (jsI cs c f k))=jvs ((List.range sz).map (jsI cs c f)):=by
   apply List.ext_getElem (by simp[jvs])
   intro j h1 h2
   simp[jvs]
  rw[hjs]
  refine Z2q g N R L ja _ (by simp;k_units) _ _ _ _ _ _ K ⟨?_⟩
  rw[<- hjs,<- hcl2]
  have hrow:Zs7 (cars.map Int.ofNat) c f=cars.map λi=>if i=1 then c else f:=by
   unfold Zs7
   rw[List.map_map]
   refine List.map_congr_left λi hi=>?_
   rcases h01n i hi with rfl|rfl <;> rfl
  rw[hrow,List.map_map,show pt3 l++(sl,AO.raw (rawL vs kk))::Zau fr=(pt3 l++[(sl,AO.raw (rawL vs kk))])++Zau fr by rw[Qs];rfl]
  refine law_d g R L fr hfr sl acc cl ca ja pick c f hc hf hne (λk=>dr3 ((cs.getD k 0).fdiv 2)) cars h01n (runs (by rw[hcl2];exact Int.ofNat_le.mp hs.1) (by rw[hcl2];exact hz6) h01n) (.list (cs.map V.int)) (pt3 l++[(sl,.raw (rawL vs kk))]) K ⟨λloc o hd=>?_⟩
  k_cls
  exact⟨_,⟨_,rfl,rfl,l,rfl⟩,hd⟩
 .rw[Qj];lia
end L1
section
open Sem (wp)
theorem Zsj{prog:Program}{w:World}{t:Sem Fin}{s:Shared}{R:Result->Shared->Prop}(hz:s.asleep)(ht:1<=s.toks)
  (h:wpP (model prog w) callerA t (λfin s'=>∃ f,fin = .done f/\R (.ok f) s'/\AllBare s'.gens) (λe s'=>R (.error e) s'/\AllBare s'.gens) s) :
  ∃ n r s' s'',PySem.runN (denote table) prog w n s ⟨t,.builtin "claim.caller" {},default,[]⟩ = .halted (outcomeOf r) s' /\
   schedN (denote table) prog w n (.single s ⟨t,.builtin "claim.caller" {},default,[]⟩) = .halted (outcomeOf r) s'/\s'.forget=s''.forget/\R r s'':=by
 exists (prog w t s R),hz,ht,h
 have h1:=h ht ⟨.builtin "claim.caller" {},none,none,[],none⟩ default caller_in (by decide) (λY hx=>by cases hx)
 obtain⟨n,r,s_1,s_2,a,b,c,d⟩:=wp_halts_full (M:=model prog w) (R:=R) (p:=default) hz (Sem.wp_mono _ _ _ (by
  rintro fin p s' ⟨f,e,x,y⟩
  subst e;exact⟨x,leftWithCleanup_false_of_bare y⟩) (by rintro e p s' ⟨x,y⟩;exact⟨x,leftWithCleanup_false_of_bare y⟩) _ _ h1)
 exact⟨n,r,s_2,s_1,b,a,c,d⟩
theorem Zle{R:WRecords}{cl:Str->Option Addr}{P:Params}{ord:List DictEntry->List DictEntry}:∀ (xs:List Int) (s:Shared),
  ∃ vs,layAllW R cl P ord (xs.map WData.int) s=some (vs,{ s with toks:=s.toks+xs.length })/\∀ h,VRs h (xs.map V.int) vs
 | [],s=>⟨[],by simp[layAllW],λY=>.nil⟩
 | x::xs,s=>by
  obtain⟨vs,e,r⟩:=Zle (R:=R) (cl:=cl) (P:=P) (ord:=ord) xs { s with toks:=s.toks+1 }
  refine⟨.int x s.toks::vs,?_,λh=>.cons (.int _ _) (r h)⟩
  simp only[Qr,layAllW,layW,e,List.length_cons]
  have q:s.toks+1+xs.length=s.toks+(xs.length+1):=by lia
  rw[q]
noncomputable def Zby(s:Shared)(vs:List Value)(k:Nat):Shared:={ s with toks:=s.toks+k,heap:=s.heap.push { cls:=.type "list",data:=.seq vs.toArray } }
abbrev A3:=List (Option Obj)×Option Obj×List (Option Value)×List (Option Value)×List (Option Value)×Bool×Bool
theorem neRo:Nonempty OpenRow:=⟨PySem.Challenge.rw_rx0085_01.row⟩
theorem neDe:Nonempty DefRec:=⟨⟨⟨#[]⟩,default,[],default,default⟩⟩
set_option tactic.hygienic true in
theorem rootP{r:OpenRow}{q:Program}{loose:List Str}{Yf:Shared->A3}{Ya:World->A3}{d:DefRec}{kwd:List (Str×Expr)}{N:Nat}
  (left:LeftO r.prog q loose (λ_=>true) Yf Ya N) (hdef:defOf q r.name=some (d,kwd)) (hp:r.prog.theDef r.name=some (d.params,d.body,d.scope)) (hk:kwWritten? d.params.kwonlyargs d.params.kw_defaults=some kwd)
  (hrec:r.records=[]) (hargs:r.args=[.list .int]) (hwr:r.writes=false) (k1:r.wellSaid=true) (ok:(chainsOk q&&opensWell r.prog&&(frees r.toRowW&&r.within.isEmpty))=true) (hb:r.prog.bare) (hw:r.toRowW.promised)
  (call:∀ (w:World) (s:Shared) (mb:Str->Option Value),s.heap.Ns mainGlobals (s.heap.nsMap mainGlobals)->s.heap.Ns builtinsNs mb->mb=s.heap.nsMap builtinsNs->s.heap.NoLimit->s.gens=#[]->sysModules<s.heap.objs.size->Yf s=Ya w ->
   1<=s.toks/\∀ (xs:List Int) (vs:List Value),r.claim.pre [.list (xs.map .int)]=true->(∀ h,VRs h (xs.map V.int) vs)->∃ f,s.heap.nsMap mainGlobals r.name=some f /\
    wpP (model r.prog w) callerA (PySem.call f [.ref s.heap.objs.size]) (λv s'=>GoodWG r.claim (classAt s.heap) (ExcName.means s.heap) [.list (xs.map .int)] (Zby s vs xs.length) (.ok (.ret v)) s')
     (λ_ _=>False) (Zby s vs xs.length)):r.Holds:=by
 exists (r q loose Yf Ya d kwd N),left,hdef,hp,hk,hrec,hargs,hwr,k1,ok,hb,hw,call
 obtain⟨ok1,ok2⟩:=Bool.and_eq_true_iff.mp ok
 obtain⟨hch,o1⟩:=Bool.and_eq_true_iff.mp ok1
 obtain⟨fr,wi⟩:=Bool.and_eq_true_iff.mp ok2
 obtain⟨hsame,hu,ha,hap,hm⟩:=frees_parts fr
 have hrec':r.claim.records=[]:=hrec
 have hback:=left.behind (XP:=λ_ _=>True) (λ_ _=>trivial) hch
 refine⟨k1,hw,⟨hb,o1,by show r.makers.map _=[];rw[hm];rfl⟩,hw.witness,λw=>⟨(hback w).1,λsa ha'=>?_⟩⟩
 exists (w sa),ha'
 obtain⟨s_0,hf,hg0,s,hT,hz,hgens,hg,G0,y⟩:=(hback w).2 sa ha'
 have hgens:s.gens=#[]:=Array.eq_empty_of_size_eq_zero (beq_iff_eq.mp hgens)
 refine⟨s_0,hf,hg0,s,hT,λn hn=>?_,λx hx=>by (rw[hrec'] at hx;cases hx),λx hx=>by (rw[hrec'] at hx;cases hx),λargs hpre hlay ord hord=>?_⟩
 .obtain rfl:n=r.name:=by split at hn <;> simp_all
  exact pinned_of_view hg G0 hdef hp hk
 have hsh:=(pre_splitW hpre).1
 rw[hargs] at hsh
 obtain⟨d0,rest,rfl,h0,h1⟩:=hasAllW_cons hsh
 obtain rfl:=hasAllW_nil h1
 obtain⟨ds,rfl,hit⟩:=hasW_list h0
 obtain⟨xs,rfl⟩:=items_int hit
 obtain⟨vs,el,hv⟩:=Zle (R:=r.claim.records) (cl:=classAt s.heap) (P:=w.params) (ord:=ord) xs s
 rename_i xq1
 exists (s_0 s ord xs vs),hf,hg0,hT,hz,xq1,hg,G0,y,hgens,hord,hit,h0,hpre,hlay,hsh,el,hv
 have hlaid:layAllW r.claim.records (classAt s.heap) w.params ord [.list (xs.map .int)] s=some ([.ref s.heap.objs.size],Zby s vs xs.length):=by
  simp only[layAllW,layW,el]
  rfl
 have hal:=layAllW_rest _ _ _ hlaid
 obtain⟨as,hrd,hin,hold⟩:=reads_layAllW hord _ _ _ hlaid hlay (Zby s vs xs.length).heap (λ_ _ e=>e)
 have L:Laid r.records w s (Zby s vs xs.length) [.list (xs.map .int)] [.ref s.heap.objs.size] as:=⟨⟨ord,hord,hlaid⟩,hrd,hin,hold,layAllW_keeps _ _ _ hlaid,hal.1.trans hgens,hal.2.2.1⟩
 obtain⟨ht,hc⟩:=call w s (s.heap.nsMap builtinsNs) G0.T.g G0.T.b rfl G0.T.nolimit hgens G0.low y
 obtain⟨f,hfn,hcall⟩:=hc xs vs hpre hv
 have hi:=ident_freeW hu ha hap
 have hwi:r.claim.within=[]:=List.isEmpty_iff.mp wi
 have hg1:(Zby s vs xs.length).heap.Ns mainGlobals (s.heap.nsMap mainGlobals):=G0.T.g.keeps (layAllW_keeps _ _ _ hlaid)
 obtain⟨k,rr,s',s'',hrun,hsched,hfo,hcase,hos⟩:=Zsj (prog:=r.prog) (w:=w) (t:=do match <- nsGet mainNs r.name with
   | some f=>do ret (<- PySem.call f [.ref s.heap.objs.size])
   | none=>unsupported "claim.caller:no-such-global") (s:=Zby s vs xs.length)
  (R:=λx s'=>r.claim.Ends s [.list (xs.map .int)] [.ref s.heap.objs.size] (Zby s vs xs.length) x s'/\s'.os=s.os) (Shared.asleep_of_life hal.2.2.2 hz) (by show 1<=s.toks+xs.length;lia) (by
   refine Zaa (.of (wpAny_nsGet hg1 ?_))
   rw[hfn]
   refine Zaa (Zad hcall (λv s' g=>Zab ?_) λ_ _ x=>x.elim)
   have z:=g.laid (c:=r.claim) hsame hwi hi L
   exact⟨_,rfl,⟨z.1,z.2.1⟩,z.2.2⟩)
 obtain⟨eh,_,_,eo,_⟩:=Shared.forget_eq hfo
 have hcase:=hcase.congr eh
 rw[<- eo] at hos
 have hlife:s'.heap.life=s.heap.life:=(runN_life _ _ _ hrun).trans hal.2.2.2
 refine⟨_,_,hlaid,k,_,s',hsched,?_,(λ_ i x hx=>by rw[hgens] at hx;simp at hx),(by intro q;rw[hwr] at q;cases q),by rw[hlife],Shared.rest_eq hos⟩
 rcases hcase with⟨v,rfl,d1,d2,d3,d4,d5⟩|⟨e,ob,cls,rfl,d1,d2,d3,d4,d5⟩
 .exact .inl ⟨v,rfl,d1,d2,d3,λb o y _=>d4 b o y,d5⟩
 .exact .inr ⟨e,ob,cls,rfl,d1,d2,d3,d4,λb o y _=>d5 b o y⟩
end
set_option tactic.hygienic true in
theorem Zbo{α β:Type}[BEq α][LawfulBEq α]{a:α}{b:β}:∀ {l:List (α×β)},l.lookup a=some b->(a,b)∈l
 | (x,y)::l,h=>by
  rw[List.lookup_cons] at h
  split at h
  .rename_i e
   cases h
   rw[eq_of_beq e]
   exact .head _
  .exact .tail _ (Zbo h)
noncomputable def isS:V->Bool
 | .ref _=>true
 | .ty _=>true
 | .bi _=>true
 | .int _=>true
 | _=>false
theorem Zs8(x:Value):Zm0 x=x\/∃ i t,x = .int i t/\Zm0 x = .int i 0:=by
 induction x with
 | int i t=>exact .inr ⟨i,t,rfl,rfl⟩
 | _=>exact .inl rfl
theorem Zgo{v:V}(h:isS v=true){m:Option Value}(e:m.map Zm0=some (vOf v)):∃ val,m=some val/\∀ h,VR h v val:=by
 induction m with
 | none=>cases e
 | some val=>
  refine⟨val,rfl,λhp=>?_⟩
  have e':Zm0 val=vOf v:=Qv e
  rcases Zs8 val with q|⟨i,t,q,q2⟩
  .rw[q] at e'
   subst e'
   cases v with
   | ref a=>exact .ref a
   | ty n=>exact .ty n
   | bi n=>exact .bi n
   | int i=>exact .int i 0
   | _=>exact nomatch h
  .rw[q2] at e'
   subst q
   cases v with
   | int j=>obtain rfl:i=j:=(Value.int.inj e').1;exact .int i t
   | ref a=>exact nomatch e'
   | ty n=>exact nomatch e'
   | bi n=>exact nomatch e'
   | _=>exact nomatch h
theorem Ns.moved{h h':Heap}{a:Addr}{m:Str->Option Value}(x:h.Ns a m)(k:∀ o,h.get? a=some o->h'.get? a=some o):h'.Ns a m:=(by obtain⟨o,es,ep,e,r⟩:=x;exact⟨o,es,ep,k o e,r⟩)
namespace L1
open Mine
theorem Zkn(P:Params):keys3=(K3 P).map (·.1):=by kernel_rfl
theorem Z1x{p:Str×V}(hp:p∈gl3):isS p.2=true:=List.all_eq_true.mp (by decide +kernel:(gl3.all λp=>isS p.2)=true) p hp
theorem Z0k{p:Str×V}(hp:p∈bl3):isS p.2=true:=List.all_eq_true.mp (by decide +kernel:(bl3.all λp=>isS p.2)=true) p hp
noncomputable abbrev row3:OpenRow:=PySem.Challenge.rw_rx0085_01.row
theorem pre3{xs:List Int}(h:row3.claim.pre [.list (xs.map .int)]=true):xs.length<=63:=by
 have h2:=(pre_splitW h).2
 have e:row3.pre = .and (.not (.lt (.lit (.int 63)) (.len (.arg 0)))) (.lit (.bool true)):=rfl
 rw[e] at h2
 have h3:∀ d,decide ((63:Int)<((List.map WData.int xs).length:Nat))=d->WTm.holds [] (.and (.not (.lit (.bool d))) (.lit (.bool true))) ⟨[],none,[],[]⟩=true:=by
  rintro d rfl
  refine Eq.trans ?_ h2
  kernel_rfl
 cases hd:decide ((63:Int)<((List.map WData.int xs).length:Nat)) with
 | true=>exact nomatch show false=true from h3 true hd
 | false=>
  have:=of_decide_eq_false hd
  rw[Qj] at this
  lia
theorem tab71 (P:Params):∃ oc vs,(K3 P).lookup 188=some oc/\oc.cls = .type "code" /\ oc.data = .fields vs/\vs[11]?=some (.ref 184):=⟨_,_,by with_unfolding_all rfl,rfl,rfl,by kernel_rfl⟩
theorem call3(w:World)(s:Shared)(mb:Str->Option Value)(hN:s.heap.Ns mainGlobals (s.heap.nsMap mainGlobals))(hB:s.heap.Ns builtinsNs mb)(hmb:mb=s.heap.nsMap builtinsNs)(hlim:s.heap.NoLimit)(hgens:s.gens=#[])(hlow:sysModules<s.heap.objs.size)(y:Z4r s=Z4v w) :
  1<=s.toks/\∀ (xs:List Int) (vs:List Value),row3.claim.pre [.list (xs.map .int)]=true->(∀ h,VRs h (xs.map V.int) vs)->∃ f,s.heap.nsMap mainGlobals row3.name=some f /\
   wpP (model row3.prog w) callerA (PySem.call f [.ref s.heap.objs.size]) (λv s'=>GoodWG row3.claim (classAt s.heap) (ExcName.means s.heap) [.list (xs.map .int)] (Zby s vs xs.length) (.ok (.ret v)) s')
    (λY Y=>False) (Zby s vs xs.length):=by
 exists (w s mb),hN,hB,hmb,hlim,hgens,hlow,y
 unfold Z4r Z4v at y
 simp only[Prod.mk.injEq] at y
 obtain⟨y1,y2,y3,y4,y5,y6,y7⟩:=y
 have hK:∀ p∈K3 w.params,s.heap.get? p.1=some p.2:=by
  rw[Zkn w.params,List.map_map] at y1
  exact λp hp=>List.map_inj_left.mp y1 p hp
 have hKl:∀ a o,(K3 w.params).lookup a=some o->s.heap.get? a=some o:=λa o e=>hK (a,o) (Zbo e)
 have hK71:∀ a o,(K3 w.params).lookup a=some o->a≠184:=λa o e q=>by
  subst q
  have:(184:Nat)∈keys3:=by rw[Zkn w.params];exact Qe ⟨_,Zbo e,rfl⟩
  exact absurd this (by decide)
 have hg:=List.map_inj_left.mp y3
 have hb1:=List.map_inj_left.mp y4
 have hb2:=List.map_inj_left.mp y5
 refine⟨by simpa using y6,λxs vs hpre hv=>⟨.ref 274,?_,?_⟩⟩
 .obtain⟨val,e,r⟩:=Zgo (v:=.ref 274) rfl (hg ("law",.ref 274) (Mb.mem (by k_slotget)))
  exact VR.refE (r s.heap)▸e
 exists (xs vs),hpre,hv
 have hx:=pre3 hpre
 have hgrow:∀ b o,s.heap.get? b=some o->(Zby s vs xs.length).heap.get? b=some o:=Qa
 have hsl:(Zby s vs xs.length).heap.get? s.heap.objs.size=some (rawL vs 0):=Qg _ rfl
 have hlt:∀ b o,s.heap.get? b=some o->b≠s.heap.objs.size:=λb o e=>Nat.ne_of_lt (Qz e)
 have h71:(Zby s vs xs.length).heap.get? 184=some (tabObj #[]):=hgrow _ _ y2
 let G:Gl:=⟨row3.prog,w,K3 w.params,s.heap.nsMap mainGlobals,mb⟩
 let fz:Addr->Option Obj:=λb=>if b=184\/b=s.heap.objs.size then none else (Zby s vs xs.length).heap.get? b
 have hfz:∀ b o,s.heap.get? b=some o->b≠184->fz b=some o:=λb o e h=>by
  show(if _ then _ else _)=_
  rw[if_neg (λq=>q.elim h (hlt b o e))]
  exact hgrow b o e
 have hNs:∀ (a:Addr) (m:Str->Option Value),a≠184->s.heap.Ns a m->∀ h:Heap,(∀ b o,fz b=some o->h.get? b=some o)->h.Ns a m:=λa m ha x h k=>Ns.moved x λo e=>k _ _ (hfz _ _ e ha)
 have ok:G.Ok fz:=by
  refine⟨λa o e=>hfz _ _ (hKl a o e) (hK71 a o e),λh k=>⟨hNs _ _ (by decide) hN h k,hNs _ _ (by decide) hB h k,?_⟩,?_⟩
  .obtain⟨mc,x,z⟩:=hlim
   exact⟨mc,hNs _ _ (by decide) x h k,z⟩
  .obtain⟨o,e⟩:=Option.isSome_iff_exists.mp y7
   exact⟨o,hfz _ _ e (by decide)⟩
 have g3:G3 w.params G:=by
  refine⟨rfl,λp hp=>Zgo (Z1x hp) (hg p hp),λp hp=>⟨hb1 p hp,?_⟩⟩
  show ∃ val,mb p.1=some val/\_
  rw[hmb]
  exact Zgo (Z0k hp) (hb2 p hp)
 have hne:s.heap.objs.size≠184:=λq=>hlt _ _ y2 q.symm
 have led:Led fz (pt3 []++[(s.heap.objs.size,.raw (rawL vs 0))]++Zau []) (Zby s vs xs.length):=by
  show Led fz [(184,.own (Zbg [])),(s.heap.objs.size,.raw (rawL vs 0))] _
  refine⟨λb o e=>?_,λp hp=>?_,?_,λa ha=>?_⟩
  .have e':(if b=184\/b=s.heap.objs.size then none else (Zby s vs xs.length).heap.get? b)=some o:=e
   split at e'
   .cases e'
   .exact e'
  .rcases Qb hp with e|hp
   .subst e;exact⟨_,h71,.own (by show tabObj #[]=tabObj (Zg5 []);rfl)⟩
   .rcases Qb hp with e|hp
    .subst e;exact⟨_,hsl,.raw _ (λvs n e=>by simp[Zbk] at e)⟩
    .cases hp
  .simpa using λq=>hne q.symm
  .have ha':a=184\/a=s.heap.objs.size:=by simpa using ha
   show(if _ then _ else _)=_
   rw[if_pos ha']
 have hgood:Good callerA (0+11):=⟨by decide +kernel,by decide +kernel,rfl,⟨_,rfl⟩,rfl⟩
 refine Zad (Zzr g3 0 s.heap.objs.size xs vs 0 hv hx [] callerA fz (Zby s vs xs.length) [.ref s.heap.objs.size] (λY Y=>False) ⟨[],rfl,λY h=>by cases h⟩ hgood ok led (.cons (.ref _) .nil)) ?_ λY Y x=>x
 rintro v s' ⟨r,o,⟨o2,rfl,rfl,l,rfl⟩,hr,hL,tk,gk,hdr,hos⟩
 cases hr
 obtain⟨O,e71,r71⟩:=hL.has (184,.own (Zbg l)) (by simp[pt3,Zfr])
 obtain⟨O2,esl,rsl⟩:=hL.has (s.heap.objs.size,.raw (rawL vs 0)) (by simp)
 have eO:O=tabObj (Zg5 l):=OR.ownE r71
 subst eO
 have eO2:O2=rawL vs 0:=OR.rawE rsl
 subst eO2
 have kept:∀ b o,(Zby s vs xs.length).heap.get? b=some o->b≠184->s'.heap.get? b=some o:=λb o e h=>by
  by_cases hb:b=s.heap.objs.size
  .subst hb
   rw[hsl] at e
   cases e
   exact esl
  .exact hL.frz b o (by show(if _ then _ else _)=_;rw[if_neg (λq=>q.elim h hb)];exact e)
 refine⟨.inl ⟨.bool true,.bool true,[],rfl,λY=>rfl,.bool true,?_,λY=>⟨.nil,λa ha=>by cases ha⟩⟩,⟨λb o e=>?_,λb o e=>?_⟩,hos,gk.2.2 (.of_eq hgens)⟩
 .show(WShape.has [] (.bool true) .bool&&WTm.holds [] (.eq .res (.lit (.bool true))) _)=true
  kernel_rfl
 .by_cases hb:b=184
  .subst hb
   rw[h71] at e
   cases e
   refine .inr (.inl ⟨?_,rfl,#[],Zg5 l,rfl,by simpa using e71⟩)
   obtain⟨oc,vc,c1,c2,c3,c4⟩:=tab71 w.params
   exact⟨188,oc,vc,hgrow _ _ (hKl _ _ c1),c2,c3,c4⟩
  .exact .inl (kept b o e hb)
 .by_cases hb:b=184
  .subst hb;exact⟨_,e71⟩
  .exact⟨_,kept b o e hb⟩
end L1
namespace L1
open Mine
theorem row3_ok(k1:row3.wellSaid=true):row3.Holds:=
 rootP (r:=row3) left3 (by rfl) (by rfl) (by rfl) rfl rfl rfl k1 (by decide +kernel) ⟨rfl,rfl,rfl,rfl,rfl,by decide +kernel⟩ ⟨[.list []],by decide +kernel,by decide +kernel⟩ λw s mb h1 h2 h3 h4 h5 h6 y=>call3 w s mb h1 h2 h3 h4 h5 h6 y
end L1
end Mine
end
set_option maxRecDepth 100000 in
set_option maxHeartbeats 8000000 in
theorem PySem.Challenge.cw_rx0085_01_holds : PySem.Challenge.rw_rx0085_01.Holds := by
 exact holds_law Mine.L1.well3 fun said=>Mine.L1.row3_ok said
